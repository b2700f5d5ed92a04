import JvmDerived
import JvmDerived.Pilot.@@N@@Statement
import JvmDerived.Pilot.@@N@@Code
set_option linter.unusedVariables false
set_option linter.unusedSimpArgs false
namespace Jvm.Pilot.@@N@@
open Jvm Jvm.ClassFile Sem Op Lib Jvm.Free Jvm.Stand Jvm.LawKit Jvm.RoadKit Bundle Jvm.Pilot.@@N@@.Jvm.D
abbrev oI (x : Int32) : Slot := .val (.int x)
abbrev oR (x : Addr) : Slot := .val (.ref x)
abbrev oD (x : UInt64) : Slot := .val (.double x)
abbrev oF (x : UInt32) : Slot := .val (.float x)
abbrev oJ (x : Int64) : Slot := .val (.long x)
section Own
variable {p : Program} {l : Launch} {e : Env} {R : Room} {s : State} {m : MethodId} {args : Array Value} {below : List Frame} {meth : Method} {c : Code} {T T' : State} {locs : List Loc} {cells slots : Nat} {Z : State} {a0 : Array Value} {h h0 : Heap} {K : State → Outcome → Prop} {Q : Option Value → Heap → List Loc → Prop}
/-- from the frame g over the state T the run comes to an end that K takes -/
def own_Go (p : Program) (e : Env) (below : List Frame) (K : State → Outcome → Prop) (T : State) (g : JFrame) : Prop :=
  ∃ s₂ o, Steps p.tables e below (T.setTop g) s₂ ∧ s₂.status = .running ∧ Ended s₂ below o ∧ K s₂ o
theorem own_by {g g' : JFrame} (h : ∀ t, Steps p.tables e below (T'.setTop g') t → Steps p.tables e below (T.setTop g) t) (k : own_Go p e below K T' g') : own_Go p e below K T g := by
  obtain ⟨s2, o, h1, h2⟩ := k
  exact ⟨s2, o, h _ h1, h2⟩
def own_K (s : State) (k n : Nat) (Q : Option Value → Heap → List Loc → Prop) (t : State) (o : Outcome) : Prop := ∃ v L, o = .returned v ∧ Q v t.heap L ∧ FrameEnd s o t L k n
def own_Met (l : Launch) (y : MethodName) (bytes : ByteArray) (mx : Nat) (ret : Option FieldType) (ws : List Jvm.Cond) (rm : Room) (Z : State) (as' : Array Value) (h0 : Heap) (Q : Option Value → Heap → List Loc → Prop) : Prop :=
  MetFree l y (head1 (Jvm.Cond.code y bytes mx ret :: ws) rm) (fun a U => a = as' ∧ Z.Warmed39 U.vm ∧ U.heap = h0) (fun _ _ _ _ _ => True) (fun _ U o U' => ∃ v L, o = .returned v ∧ Q v U'.heap L ∧ FrameEnd U o U' L rm.cells rm.slots)
theorem own_enter {y : MethodName} {bytes : ByteArray} {mx : Nat} {ret : Option FieldType} {ws : List Jvm.Cond} {rm : Room} {as' : Array Value} (hn : plainFor y = true)
    (body : ∀ (p : Program) (e : Env) (s : State) (m : MethodId) (below : List Frame) (meth : Method) (c : Code) (T0 : State), p.tables.exec = Jvm.exec → c.code = bytes → c.maxLocals = mx → meth.sig.returnType = ret → meth.locks = false → s.vm.findClass y.cls = some m.cls → meth.name = y.name → Z.Warmed39 s.vm →
      Stand p l e rm s m as' below meth c T0 [] 0 0 → T0.heap = h0 → own_Go p e below (own_K s rm.cells rm.slots Q) T0 (entryFrame m as' mx)) : own_Met l y bytes mx ret ws rm Z as' h0 Q := by
  refine MetFree.of_bodySF hn hisR ?_
  intro p e s m args below meth c s₁ Bd hml hP hK
  obtain ⟨rfl, hZ, hh⟩ := hP
  obtain ⟨s2, o, h1, h2, h3, h4⟩ := body p e s m below meth c s₁ Bd.exec Bd.bytes hml Bd.returns Bd.notSynchronized (findClass_of_methodNamed Bd.named) (name_of_methodNamed Bd.named Bd.method).1 hZ (Stand.of_body Bd) (by rw [← hh, Bd.state]; rfl)
  exact ⟨s2, o, h1, h2, h3, h4⟩
theorem own_at {g g' : JFrame} (q : g = g') (k : own_Go p e below K T g') : own_Go p e below K T g := q ▸ k
theorem own_leave (X : Stand p l e R s m args below meth c T locs cells slots) (hlk : meth.locks = false) {v : Option Value} {k n : Nat} (hv : meth.sig.returnType = none → v = none) {g : JFrame}
    (step : ∀ fs, (∀ (f : JFrame) (acts : List Action), f.method = m → f.locked = none → f.entered = [] → (doReturn e (T.setTop f) acts v).1 = T.setFrames fs) → Steps p.tables e below (T.setTop g) (T.setFrames fs)) (hk : cells ≤ k) (hn : slots ≤ n) (hQ : Q v T.heap locs) : own_Go p e below (own_K s k n Q) T g := by
  obtain ⟨fs, hr, hrun, hended, hW, hsame⟩ := X.leave (v := v) hv hlk
  exact ⟨_, _, step fs hr, hrun, hended, v, locs, rfl, hQ, ⟨_, rfl⟩, hW, hsame.mono hk hn⟩
theorem own_retI (X : Stand p l e R s m args below meth c T locs cells slots) (hx : p.tables.exec = Jvm.exec) (hlk : meth.locks = false) (hret : meth.sig.returnType = some .int) {pc : Nat} {Ls : Array Slot} {z : Int32} {rest : List Value} {k n : Nat} (hd : decode c.code pc = .ok (.ireturn, 1)) (hk : cells ≤ k) (hn : slots ≤ n) (hQ : Q (some (.int z)) T.heap locs) :
    own_Go p e below (own_K s k n Q) T (mkF m pc Ls (.int z :: rest)) := by
  refine own_leave X hlk (v := some (.int z)) (fun h => by rw [hret] at h; cases h) (fun fs hl => ?_) hk hn hQ
  have hm' : T.vm.method? m = some meth := X.method'
  have hn : narrow .int (.int z) = .int z := rfl
  show Steps p.tables e below (T.setTop { method := m, pc := pc, locals := Ls, stack := _ :: rest, locked := none }) _
  jvm_step X.here [X.here.top, hx, hd, hm', hret, hn]
  first | (intro acts; rw [hl _ acts rfl rfl rfl]) | rw [hl _ _ rfl rfl rfl]
  exact Steps.refl _
theorem own_retN (X : Stand p l e R s m args below meth c T locs cells slots) (hx : p.tables.exec = Jvm.exec) (hlk : meth.locks = false) {t : FieldType} (hret : meth.sig.returnType = some t) (ht : t = .boolean ∨ t = .byte ∨ t = .char ∨ t = .short) {pc : Nat} {Ls : Array Slot} {z w : Int32} {rest : List Value} {k n : Nat} (hd : decode c.code pc = .ok (.ireturn, 1)) (hw : nar t z = w) (hk : cells ≤ k) (hn : slots ≤ n) (hQ : Q (some (.int w)) T.heap locs) :
    own_Go p e below (own_K s k n Q) T (mkF m pc Ls (.int z :: rest)) := by
  subst hw
  exact own_leave X hlk (v := some (.int (nar t z))) (fun h => by rw [hret] at h; cases h) (fun fs hl => retN X hx hret ht hd hl) hk hn hQ
theorem own_retA (X : Stand p l e R s m args below meth c T locs cells slots) (hx : p.tables.exec = Jvm.exec) (hlk : meth.locks = false) {t : FieldType} (hret : meth.sig.returnType = some t) (ht : t.isReference = true) {pc : Nat} {Ls : Array Slot} {v : Value} (hv : v.isRef = true) {rest : List Value} {k n : Nat} (hd : decode c.code pc = .ok (.areturn, 1)) (hk : cells ≤ k) (hn : slots ≤ n) (hQ : Q (some v) T.heap locs) :
    own_Go p e below (own_K s k n Q) T (mkF m pc Ls (v :: rest)) :=
  own_leave X hlk (v := some v) (fun h => by rw [hret] at h; cases h) (fun fs hl => retOut X hx hret (by cases t <;> first | (cases ht; done) | (rcases ref_cases hv with rfl | ⟨a, rfl⟩ <;> rfl)) (Or.inr (Or.inr (Or.inr (Or.inr ⟨rfl, ht, hv⟩)))) hd hl) hk hn hQ
theorem own_retV (X : Stand p l e R s m args below meth c T locs cells slots) (hx : p.tables.exec = Jvm.exec) (hlk : meth.locks = false) (hret : meth.sig.returnType = none) {pc : Nat} {Ls : Array Slot} {k n : Nat} (hd : decode c.code pc = .ok (.return_, 1)) (hk : cells ≤ k) (hn : slots ≤ n) (hQ : Q none T.heap locs) :
    own_Go p e below (own_K s k n Q) T (mkF m pc Ls []) :=
  own_leave X hlk (v := none) (fun _ => rfl) (fun fs hl => X.returnOut hx hret hd hl) hk hn hQ
theorem own_callS (X : Stand p l e R s m args below meth c T locs cells slots) (hx : p.tables.exec = Jvm.exec) (hZ : Z.Warmed39 s.vm) {own : String} {index : Nat} {y : MethodName} {bytes : ByteArray} {mx : Nat} {ret : Option FieldType} {rm : Room} (hown : s.vm.findClass own = some m.cls) (w1 : (Jvm.Cond.methodLink own index y).before a0 Z = true) (w2 : (Jvm.Cond.static y).before a0 Z = true) (w3 : (Jvm.Cond.initialized y.cls).before a0 Z = true) (w4 : (Jvm.Cond.code y bytes mx ret).before a0 Z = true)
    (hy : y.cls ≠ "java/lang/invoke/MethodHandle" ∧ y.cls ≠ "java/lang/invoke/VarHandle") (eT : T.heap = h) {argsL rest : List Value} (M : own_Met l y bytes mx ret [] rm Z argsL.toArray h Q) (W : Nat) (hf : rm.frames + 1 ≤ R.frames) (hl : W + (mx + 11) + rm.locals ≤ R.locals) {pc : Nat} {Ls : Array Slot} (hsize : Ls.size = c.maxLocals)
    (hlen : ∀ sig, parseMethodDescriptor y.desc = some sig → argsL.length = sig.parameters.length) (hW : (rest.map fun v => v.category).sum ≤ W) (hd : decode c.code pc = .ok (.invokestatic index, 3)) (hc : cells + rm.cells ≤ R.cells) (hs : slots + rm.slots ≤ R.slots) {st : List Value} (hst : st = argsL.reverse ++ rest)
    (k : ∀ (T' : State) (L : List Loc) (v : Option Value), Stand p l e R s m args below meth c T' (locs ++ L) (cells + rm.cells) (slots + rm.slots) → Q v T'.heap L → own_Go p e below K T' (mkF m (pc + 3) Ls (v.toList ++ rest))) : own_Go p e below K T (mkF m pc Ls st) := by
  obtain ⟨v, _, ⟨T1, L1, k1, n1⟩, -, X1, ⟨Lc, hQ, l1, y1, z1⟩, stp⟩ := Jvm.LawKit.callS X hx hown (mvT hZ w1) (mvT hZ w2) (mvT hZ w3) (mvT hZ w4) hy (backOf (W := W) M hZ w4 w3 hf hl) (g := mkF m pc Ls st) rfl hsize (argsL := argsL) (rest := rest) hlen hst (by show 2 * 0 + _ ≤ _; omega) hd (fun _ _ => ⟨rfl, eT, hc, hs⟩)
  dsimp only [Pt.U, Pt.locs, Pt.cells, Pt.slots] at X1 l1 y1 z1 stp hQ
  subst l1 y1 z1
  exact own_by stp (k T1 Lc v X1 hQ)
theorem own_callV (X : Stand p l e R s m args below meth c T locs cells slots) (hx : p.tables.exec = Jvm.exec) (hZ : Z.Warmed39 s.vm) {own C : String} {index : Nat} {y : MethodName} {bytes : ByteArray} {mx : Nat} {ret : Option FieldType} {rm : Room} (hown : s.vm.findClass own = some m.cls) (w1 : (Jvm.Cond.methodLink own index y).before a0 Z = true) (w2 : (Jvm.Cond.declares y).before a0 Z = true) (w3 : (Jvm.Cond.selects C y y).before a0 Z = true) (w4 : (Jvm.Cond.instanceMethod y).before a0 Z = true) (w5 : (Jvm.Cond.code y bytes mx ret).before a0 Z = true) (w6 : (Jvm.Cond.initialized y.cls).before a0 Z = true)
    (hy : y.cls ≠ "java/lang/invoke/MethodHandle" ∧ y.cls ≠ "java/lang/invoke/VarHandle") (eT : T.heap = h) {b : Addr} (E : Exa Z h b C) {argsL rest : List Value} (M : own_Met l y bytes mx ret [] rm Z (.ref b :: argsL).toArray h Q) (W : Nat) (hf : rm.frames + 1 ≤ R.frames) (hl : W + (mx + 11) + rm.locals ≤ R.locals) {pc : Nat} {Ls : Array Slot} (hsize : Ls.size = c.maxLocals)
    (hlen : ∀ sig, parseMethodDescriptor y.desc = some sig → argsL.length = sig.parameters.length) (hW : (rest.map fun v => v.category).sum ≤ W) (hd : decode c.code pc = .ok (.invokevirtual index, 3)) (hc : cells + rm.cells ≤ R.cells) (hs : slots + rm.slots ≤ R.slots) {st : List Value} (hst : st = argsL.reverse ++ .ref b :: rest)
    (k : ∀ (T' : State) (L : List Loc) (v : Option Value), Stand p l e R s m args below meth c T' (locs ++ L) (cells + rm.cells) (slots + rm.slots) → Q v T'.heap L → own_Go p e below K T' (mkF m (pc + 3) Ls (v.toList ++ rest))) : own_Go p e below K T (mkF m pc Ls st) := by
  obtain ⟨cq, kq, qa, qb, qc⟩ := isOf (T := T) hZ eT E
  obtain ⟨v, _, ⟨T1, L1, k1, n1⟩, -, X1, ⟨Lc, hQ, l1, y1, z1⟩, stp⟩ := X.virtualBack hx hown (mvT hZ w1) (mvT hZ w2) (notFace_of_selects (args := #[]) (mvT hZ w3)) (mvT hZ w3) (mvT hZ w4) hy (backOf (W := W) M hZ w5 w6 hf hl) qa qc (g := mkF m pc Ls st) rfl hsize (Steps.refl _) (argsL := argsL) (rest := rest) hlen hst (by show 2 * 0 + _ ≤ _; omega) hd (fun _ _ => ⟨rfl, eT, hc, hs⟩)
  dsimp only [Pt.U, Pt.locs, Pt.cells, Pt.slots] at X1 l1 y1 z1 stp hQ
  subst l1 y1 z1
  exact own_by (fun t q => stp.trans q) (k T1 Lc v X1 hQ)
theorem own_callN (X : Stand p l e R s m args below meth c T locs cells slots) (hx : p.tables.exec = Jvm.exec) (hZ : Z.Warmed39 s.vm) {own : String} {index : Nat} {y : MethodName} {bytes : ByteArray} {mx : Nat} {rm : Room} (hy1 : y.name = "<init>") (hown : s.vm.findClass own = some m.cls) (w1 : (Jvm.Cond.methodLink own index y).before a0 Z = true) (w2 : (Jvm.Cond.instanceMethod y).before a0 Z = true) (w3 : (Jvm.Cond.code y bytes mx none).before a0 Z = true) (w4 : (Jvm.Cond.initialized y.cls).before a0 Z = true)
    (hy : y.cls ≠ "java/lang/invoke/MethodHandle" ∧ y.cls ≠ "java/lang/invoke/VarHandle") (eT : T.heap = h) {b : Addr} {argsL rest : List Value} (M : own_Met l y bytes mx none [] rm Z (.ref b :: argsL).toArray h Q) (W : Nat) (hf : rm.frames + 1 ≤ R.frames) (hl : W + (mx + 11) + rm.locals ≤ R.locals) {pc : Nat} {Ls : Array Slot} (hsize : Ls.size = c.maxLocals)
    (hlen : ∀ sig, parseMethodDescriptor y.desc = some sig → argsL.length = sig.parameters.length) (hW : (rest.map fun v => v.category).sum ≤ W) (hd : decode c.code pc = .ok (.invokespecial index, 3)) (hc : cells + rm.cells ≤ R.cells) (hs : slots + rm.slots ≤ R.slots) {st : List Value} (hst : st = argsL.reverse ++ .ref b :: rest)
    (k : ∀ (T' : State) (L : List Loc) (v : Option Value), Stand p l e R s m args below meth c T' (locs ++ L) (cells + rm.cells) (slots + rm.slots) → Q v T'.heap L → own_Go p e below K T' (mkF m (pc + 3) Ls (v.toList ++ rest))) : own_Go p e below K T (mkF m pc Ls st) := by
  obtain ⟨v, _, ⟨T1, L1, k1, n1⟩, -, X1, ⟨Lc, hQ, l1, y1, z1⟩, stp⟩ := X.specialBack hx hy1 hown (mvT hZ w1) (mvT hZ w2) (mvT hZ w3) hy (backOf (W := W) M hZ w3 w4 hf hl) (g := mkF m pc Ls st) rfl hsize (Steps.refl _) (a := b) (argsL := argsL) (rest := rest) hlen hst (by show 2 * 0 + _ ≤ _; omega) hd (fun _ _ => ⟨rfl, eT, hc, hs⟩)
  dsimp only [Pt.U, Pt.locs, Pt.cells, Pt.slots] at X1 l1 y1 z1 stp hQ
  subst l1 y1 z1
  exact own_by (fun t q => stp.trans q) (k T1 Lc v X1 hQ)
end Own
section OwnFloat
open Jvm.Free.Fl
theorem own_drem {tb : Tables} [Ours tb] {e : Env} {below : List Frame} {T target : State} {m : MethodId} {c : Code} {g : JFrame} (h : At T m c below) (hx : tb.exec = Jvm.exec) (hg : g.method = m) {x y : UInt64} {rest : List Value} (hd : decode c.code g.pc = .ok (.drem, 1)) (hs : g.stack = .double y :: .double x :: rest) (hn : NoNaN64 (FP.drem x y))
    (hr : Steps tb e below (T.setTop { g with pc := g.pc + 1, stack := .double (FP.drem x y) :: rest }) target) : Steps tb e below (T.setTop g) target := by
  obtain ⟨gm, gpc, gl, gs, gk, ge, gr⟩ := g
  dsimp only at hg hd hs hr
  subst hg; subst hs
  jvm_step h [h.top, hx, hd, Op.drem.at_number h.top hn]
  exact hr
end OwnFloat
section OwnHeap
variable {p : Program} {l : Launch} {e : Env} {R : Room} {s : State} {m : MethodId} {args : Array Value} {below : List Frame} {meth : Method} {c : Code} {T T' : State} {locs : List Loc} {cells slots : Nat} {Z : State} {a0 : Array Value} {h h' h0 : Heap} {K : State → Outcome → Prop} {Q : Option Value → Heap → List Loc → Prop} {a b : Addr} {ty : FieldType} {k : ClassId} {vs : List Value} {ws : List Addr} {sl : Nat} {v w : Value} {C n d : String}
/-- the array at a, of the class k, holds just vs -/
def own_A (Z : State) (h : Heap) (a : Addr) (ty : FieldType) (k : ClassId) (vs : List Value) : Prop := ∃ c : Cell, Arr Z h a c ty ∧ c.cls = k ∧ c.slots.toList = vs
theorem own_A.ext (V : own_A Z h a ty k vs) (E : Ext h h') : own_A Z h' a ty k vs := by obtain ⟨c, A, r⟩ := V; exact ⟨c, A.ext E, r⟩
theorem own_A.keep (V : own_A Z h a ty k vs) (K : Keep h h' ws) (q : a ∉ ws) : own_A Z h' a ty k vs := by obtain ⟨c, A, r⟩ := V; exact ⟨c, ⟨K.2.1 a c A.1 q, A.2⟩, r⟩
theorem own_A.other (V : own_A Z h b ty k vs) (W : Wr h h' a sl v) (q : b ≠ a) : own_A Z h' b ty k vs := by obtain ⟨c, A, r⟩ := V; exact ⟨c, A.other W q, r⟩
theorem own_A.set (V : own_A Z h a ty k vs) (W : Wr h h' a sl v) : own_A Z h' a ty k (vs.set sl v) := by
  obtain ⟨c, A, r1, r2⟩ := V
  exact ⟨_, A.same W, r1, by rw [← r2]; simp [Cell.setSlot]⟩
theorem own_A.lt (V : own_A Z h a ty k vs) : a < h.size := by obtain ⟨c, A, -⟩ := V; exact A.lt
theorem own_ek (E : Ext h h') : Keep h h' [] := (Keep.refl h []).ext E
theorem own_stak (F : Sta Z h C n d v) (K : Keep h h' []) : Sta Z h' C n d v := by
  obtain ⟨cf, i, k, f, st, cell, h1, h2, h3, h4, h5, r⟩ := F
  exact ⟨cf, i, k, f, st, cell, h1, h2, h3, h4, K.2.1 _ _ h5 nin0, r⟩
theorem own_in {c : Cell} (q : c.slots.toList = vs) {j : Int32} (hj : ¬ j < 0) (hi : j.toNatClampNeg < vs.length) : ¬ (j < 0 ∨ c.slots.size ≤ j.toNatClampNeg) := by
  rintro (h | h)
  · exact hj h
  · rw [← q, Array.length_toList] at hi; omega
theorem own_get {c : Cell} (q : c.slots.toList = vs) (i : Nat) : c.slots[i]? = vs[i]? := by rw [← q, Array.getElem?_toList]
theorem own_newP (X : Stand p l e R s m args below meth c T locs cells slots) (hx : p.tables.exec = Jvm.exec) (hZ : Z.Warmed39 s.vm) {aty : ArrayType} (w : (Jvm.Cond.arrayClass (newarray.typeOf aty)).before a0 Z = true) (eT : T.heap = h) {pc : Nat} {Ls : Array Slot} {n : Int32} {rest : List Value} (hd : decode c.code pc = .ok (.newarray aty, 2)) (N cap : Nat) (hN : n.toNatClampNeg = N) (hn : ¬ n < 0) (hcap : N ≤ cap) (hb : cap * 8 ≤ 536870912) (hc : cells + 1 ≤ R.cells) (hl : slots + cap ≤ R.slots)
    (kk : ∀ (T' : State) (h' : Heap) (cA : ClassId), Stand p l e R s m args below meth c T' locs (cells + 1) (slots + cap) → T'.heap = h' → Ext h h' → own_A Z h' h.size (newarray.typeOf aty) cA (List.replicate N (defaultValue (newarray.typeOf aty))) → own_Go p e below K T' (mkF m (pc + 2) Ls (.ref h.size :: rest))) :
    own_Go p e below K T (mkF m pc Ls (.int n :: rest)) := by
  obtain ⟨T', h', cA, X', e', E, A, st⟩ := newP X hx hZ w eT (g := mkF m pc Ls (.int n :: rest)) rfl hd (n := n) (rest := rest) rfl hn (cap := cap) (by rw [hN]; exact hcap) hb hc hl
  exact own_by st (kk T' h' cA X' e' E ⟨_, A, rfl, by simp [newA, hN]⟩)
theorem own_newR (X : Stand p l e R s m args below meth c T locs cells slots) (hx : p.tables.exec = Jvm.exec) (hZ : Z.Warmed39 s.vm) {own C : String} {index : Nat} (hown : s.vm.findClass own = some m.cls) (w1 : (Jvm.Cond.classLink own index C).before a0 Z = true) (w2 : (Jvm.Cond.arrayOver (.object C)).before a0 Z = true) (eT : T.heap = h) {pc : Nat} {Ls : Array Slot} {n : Int32} {rest : List Value} (hd : decode c.code pc = .ok (.anewarray index, 3)) (N cap : Nat) (hN : n.toNatClampNeg = N) (hn : ¬ n < 0) (hcap : N ≤ cap) (hb : cap * 8 ≤ 536870912) (hc : cells + 1 ≤ R.cells) (hl : slots + cap ≤ R.slots)
    (kk : ∀ (T' : State) (h' : Heap) (cA : ClassId), Stand p l e R s m args below meth c T' locs (cells + 1) (slots + cap) → T'.heap = h' → Ext h h' → own_A Z h' h.size (.object C) cA (List.replicate N .null) → Ovr Z cA C → own_Go p e below K T' (mkF m (pc + 3) Ls (.ref h.size :: rest))) :
    own_Go p e below K T (mkF m pc Ls (.int n :: rest)) := by
  obtain ⟨T', h', cA, X', e', E, A, O, st⟩ := newR X hx hZ hown w1 w2 eT (g := mkF m pc Ls (.int n :: rest)) rfl hd (n := n) (rest := rest) rfl hn (cap := cap) (by rw [hN]; exact hcap) hb hc hl
  exact own_by st (kk T' h' cA X' e' E ⟨_, A, rfl, by simp [newA, hN, defaultValue]⟩ O)
theorem own_stI (X : Stand p l e R s m args below meth c T locs cells slots) (hx : p.tables.exec = Jvm.exec) (hZ : Z.Warmed39 s.vm) (eT : T.heap = h) (V : own_A Z h a .int k vs) {j x : Int32} (i : Nat) (hi : j.toNatClampNeg = i) (hj : ¬ j < 0) (hl : i < vs.length) {pc : Nat} {Ls : Array Slot} {rest : List Value} (hd : decode c.code pc = .ok (.iastore, 1))
    (kk : ∀ (T' : State) (h' : Heap), Stand p l e R s m args below meth c T' (locs ++ [⟨a, i⟩]) cells slots → T'.heap = h' → Wr h h' a i (.int x) → own_A Z h' a .int k (vs.set i (.int x)) → own_Go p e below K T' (mkF m (pc + 1) Ls rest)) :
    own_Go p e below K T (mkF m pc Ls (.int x :: .int j :: .ref a :: rest)) := by
  subst hi
  obtain ⟨cl, A, q1, q2⟩ := V
  obtain ⟨T', h', X', e', W, st⟩ := stI X hx hZ eT A (j := j) (x := x) (own_in q2 hj hl) (g := mkF m pc Ls (.int x :: .int j :: .ref a :: rest)) rfl rfl hd
  exact own_by st (kk T' h' X' e' W (own_A.set ⟨cl, A, q1, q2⟩ W))
theorem own_stC (X : Stand p l e R s m args below meth c T locs cells slots) (hx : p.tables.exec = Jvm.exec) (hZ : Z.Warmed39 s.vm) (eT : T.heap = h) (V : own_A Z h a .char k vs) {j x y : Int32} (i : Nat) (hi : j.toNatClampNeg = i) (hj : ¬ j < 0) (hl : i < vs.length) (hy : nar .char x = y) {pc : Nat} {Ls : Array Slot} {rest : List Value} (hd : decode c.code pc = .ok (.castore, 1))
    (kk : ∀ (T' : State) (h' : Heap), Stand p l e R s m args below meth c T' (locs ++ [⟨a, i⟩]) cells slots → T'.heap = h' → Wr h h' a i (.int y) → own_A Z h' a .char k (vs.set i (.int y)) → own_Go p e below K T' (mkF m (pc + 1) Ls rest)) :
    own_Go p e below K T (mkF m pc Ls (.int x :: .int j :: .ref a :: rest)) := by
  subst hi; subst hy
  obtain ⟨cl, A, q1, q2⟩ := V
  obtain ⟨T', h', X', e', W, st⟩ := stC X hx hZ eT A (j := j) (x := x) (own_in q2 hj hl) (g := mkF m pc Ls (.int x :: .int j :: .ref a :: rest)) rfl rfl hd
  exact own_by st (kk T' h' X' e' W (own_A.set ⟨cl, A, q1, q2⟩ W))
theorem own_stZ (X : Stand p l e R s m args below meth c T locs cells slots) (hx : p.tables.exec = Jvm.exec) (hZ : Z.Warmed39 s.vm) (eT : T.heap = h) (V : own_A Z h a .boolean k vs) {j x y : Int32} (i : Nat) (hi : j.toNatClampNeg = i) (hj : ¬ j < 0) (hl : i < vs.length) (hy : nar .boolean x = y) {pc : Nat} {Ls : Array Slot} {rest : List Value} (hd : decode c.code pc = .ok (.bastore, 1))
    (kk : ∀ (T' : State) (h' : Heap), Stand p l e R s m args below meth c T' (locs ++ [⟨a, i⟩]) cells slots → T'.heap = h' → Wr h h' a i (.int y) → own_A Z h' a .boolean k (vs.set i (.int y)) → own_Go p e below K T' (mkF m (pc + 1) Ls rest)) :
    own_Go p e below K T (mkF m pc Ls (.int x :: .int j :: .ref a :: rest)) := by
  subst hi; subst hy
  obtain ⟨cl, A, q1, q2⟩ := V
  obtain ⟨T', h', X', e', W, st⟩ := stZ X hx hZ eT A (j := j) (x := x) (own_in q2 hj hl) (g := mkF m pc Ls (.int x :: .int j :: .ref a :: rest)) rfl rfl hd
  exact own_by st (kk T' h' X' e' W (own_A.set ⟨cl, A, q1, q2⟩ W))
theorem own_stR (X : Stand p l e R s m args below meth c T locs cells slots) (hx : p.tables.exec = Jvm.exec) (hZ : Z.Warmed39 s.vm) (eT : T.heap = h) (V : own_A Z h a ty k vs) (hty : ty.isReference = true) {j : Int32} {v : Value} (i : Nat) (hi : j.toNatClampNeg = i) (hj : ¬ j < 0) (hl : i < vs.length) (F : Sto Z h a v) {pc : Nat} {Ls : Array Slot} {rest : List Value} (hd : decode c.code pc = .ok (.aastore, 1))
    (kk : ∀ (T' : State) (h' : Heap), Stand p l e R s m args below meth c T' (locs ++ [⟨a, i⟩]) cells slots → T'.heap = h' → Wr h h' a i v → own_A Z h' a ty k (vs.set i v) → own_Go p e below K T' (mkF m (pc + 1) Ls rest)) :
    own_Go p e below K T (mkF m pc Ls (v :: .int j :: .ref a :: rest)) := by
  subst hi
  obtain ⟨cl, A, q1, q2⟩ := V
  obtain ⟨T', h', X', e', W, st⟩ := stR X hx hZ eT A (j := j) (v := v) (own_in q2 hj hl) hty F (g := mkF m pc Ls (v :: .int j :: .ref a :: rest)) rfl rfl hd
  exact own_by st (kk T' h' X' e' W (own_A.set ⟨cl, A, q1, q2⟩ W))
theorem own_sto {y : Addr} {C : String} (V : own_A Z h a ty k vs) (O : Ovr Z k C) (E : Exa Z h y C) : Sto Z h a (.ref y) := by
  obtain ⟨cl, A, q1, -⟩ := V
  exact Sto.ofV A q1 O (Ins.self E)
theorem own_ldI (X : Stand p l e R s m args below meth c T locs cells slots) (hx : p.tables.exec = Jvm.exec) (hZ : Z.Warmed39 s.vm) (eT : T.heap = h) (V : own_A Z h a .int k vs) {j : Int32} {v : Value} (i : Nat) (hi : j.toNatClampNeg = i) (hj : ¬ j < 0) (hv : vs[i]? = some v) {pc : Nat} {Ls : Array Slot} {rest : List Value} (hd : decode c.code pc = .ok (.iaload, 1))
    (kk : own_Go p e below K T (mkF m (pc + 1) Ls (v :: rest))) : own_Go p e below K T (mkF m pc Ls (.int j :: .ref a :: rest)) := by
  subst hi
  obtain ⟨cl, A, q1, q2⟩ := V
  exact own_by (fun t q => X.iaload hx (j := j) (v := v) (by rw [eT]; exact A.1) (State.isArrayOf_alike hZ.alike A.2.1) A.2.2 (own_in q2 hj (List.getElem?_eq_some_iff.mp hv).1) (by rw [own_get q2]; exact hv) (g := mkF m pc Ls (.int j :: .ref a :: rest)) rfl rfl hd t q) kk
theorem own_ldC (X : Stand p l e R s m args below meth c T locs cells slots) (hx : p.tables.exec = Jvm.exec) (hZ : Z.Warmed39 s.vm) (eT : T.heap = h) (V : own_A Z h a .char k vs) {j : Int32} {v : Value} (i : Nat) (hi : j.toNatClampNeg = i) (hj : ¬ j < 0) (hv : vs[i]? = some v) {pc : Nat} {Ls : Array Slot} {rest : List Value} (hd : decode c.code pc = .ok (.caload, 1))
    (kk : own_Go p e below K T (mkF m (pc + 1) Ls (v :: rest))) : own_Go p e below K T (mkF m pc Ls (.int j :: .ref a :: rest)) := by
  subst hi
  obtain ⟨cl, A, q1, q2⟩ := V
  exact own_by (fun t q => X.caload hx (j := j) (v := v) (by rw [eT]; exact A.1) (State.isArrayOf_alike hZ.alike A.2.1) A.2.2 (own_in q2 hj (List.getElem?_eq_some_iff.mp hv).1) (by rw [own_get q2]; exact hv) (g := mkF m pc Ls (.int j :: .ref a :: rest)) rfl rfl hd t q) kk
theorem own_ldR (X : Stand p l e R s m args below meth c T locs cells slots) (hx : p.tables.exec = Jvm.exec) (hZ : Z.Warmed39 s.vm) (eT : T.heap = h) (V : own_A Z h a ty k vs) (hty : ty.isReference = true) {j : Int32} {v : Value} (i : Nat) (hi : j.toNatClampNeg = i) (hj : ¬ j < 0) (hv : vs[i]? = some v) {pc : Nat} {Ls : Array Slot} {rest : List Value} (hd : decode c.code pc = .ok (.aaload, 1))
    (kk : own_Go p e below K T (mkF m (pc + 1) Ls (v :: rest))) : own_Go p e below K T (mkF m pc Ls (.int j :: .ref a :: rest)) := by
  subst hi
  obtain ⟨cl, A, q1, q2⟩ := V
  exact own_by (fun t q => X.aaload hx (j := j) (v := v) (by rw [eT]; exact A.1) (State.isArrayOf_alike hZ.alike A.2.1) hty A.2.2 (own_in q2 hj (List.getElem?_eq_some_iff.mp hv).1) (by rw [own_get q2]; exact hv) (g := mkF m pc Ls (.int j :: .ref a :: rest)) rfl rfl hd t q) kk
theorem own_len (X : Stand p l e R s m args below meth c T locs cells slots) (hx : p.tables.exec = Jvm.exec) (hZ : Z.Warmed39 s.vm) (eT : T.heap = h) (V : own_A Z h a ty k vs) (n : Int32) (hn : vs.length.toInt32 = n) {pc : Nat} {Ls : Array Slot} {rest : List Value} (hd : decode c.code pc = .ok (.arraylength, 1))
    (kk : own_Go p e below K T (mkF m (pc + 1) Ls (.int n :: rest))) : own_Go p e below K T (mkF m pc Ls (.ref a :: rest)) := by
  subst hn
  obtain ⟨cl, A, q1, rfl⟩ := V
  refine own_by (fun t q => X.arraylength hx (cell := cl) (by rw [eT]; exact A.1) (State.isArrayOf_alike hZ.alike A.2.1) (g := mkF m pc Ls (.ref a :: rest)) rfl (rest := rest) rfl hd t q) ?_
  rw [Array.length_toList] at kk
  exact kk
theorem own_new (X : Stand p l e R s m args below meth c T locs cells slots) (hx : p.tables.exec = Jvm.exec) (hZ : Z.Warmed39 s.vm) {own C : String} {index n : Nat} (hown : s.vm.findClass own = some m.cls) (w1 : (Jvm.Cond.classLink own index C).before a0 Z = true) (w2 : (Jvm.Cond.instantiable C n).before a0 Z = true) (w3 : (Jvm.Cond.initialized C).before a0 Z = true) (eT : T.heap = h) {pc : Nat} {Ls : Array Slot} {st : List Value} (hd : decode c.code pc = .ok (.new index, 3)) (hc : cells + 1 ≤ R.cells) (hl : slots + n ≤ R.slots)
    (kk : ∀ (T' : State) (h' : Heap), Stand p l e R s m args below meth c T' locs (cells + 1) (slots + n) → T'.heap = h' → Ext h h' → Exa Z h' h.size C → (∀ {O nm d : String} {ty : FieldType}, Laid Z a0 C O nm d → parseFieldDescriptor d = some ty → Fld Z h' h.size O nm d (defaultValue ty)) → own_Go p e below K T' (mkF m (pc + 3) Ls (.ref h.size :: st))) :
    own_Go p e below K T (mkF m pc Ls st) := by
  obtain ⟨T', h', X', e', E, A, D, -, stp⟩ := newO X hx hZ hown w1 w2 w3 eT (g := mkF m pc Ls st) rfl hd hc hl
  exact own_by stp (kk T' h' X' e' E A D)
theorem own_getF (X : Stand p l e R s m args below meth c T locs cells slots) (hx : p.tables.exec = Jvm.exec) (hZ : Z.Warmed39 s.vm) {own O n d : String} {index : Nat} (hown : s.vm.findClass own = some m.cls) (w : (Jvm.Cond.fieldLink own index O n d).before a0 Z = true) (eT : T.heap = h) (F : Fld Z h a O n d v) {pc : Nat} {Ls : Array Slot} {rest : List Value} (hd : decode c.code pc = .ok (.getfield index, 3))
    (kk : ∀ T' : State, Stand p l e R s m args below meth c T' locs cells slots → T'.heap = h → own_Go p e below K T' (mkF m (pc + 3) Ls (v :: rest))) : own_Go p e below K T (mkF m pc Ls (.ref a :: rest)) := by
  obtain ⟨T', X', e', st⟩ := getF X hx hZ hown (host := "") (Or.inl w) Via.refl eT F (g := mkF m pc Ls (.ref a :: rest)) rfl rfl hd
  exact own_by st (kk T' X' e')
theorem own_putF (X : Stand p l e R s m args below meth c T locs cells slots) (hx : p.tables.exec = Jvm.exec) (hZ : Z.Warmed39 s.vm) {own O n d C : String} {index kn : Nat} {ty : FieldType} (hown : s.vm.findClass own = some m.cls) (w : (Jvm.Cond.fieldLink own index O n d).before a0 Z = true) (eT : T.heap = h) {old : Value} (F : Fld Z h a O n d old) (E : Exa Z h a C) (L : (Jvm.Cond.lays C O n d).before a0 Z = true ∨ ((Jvm.Cond.laysFinal C O n d).before a0 Z = true ∧ own = O ∧ meth.name = "<init>")) (wi : (Jvm.Cond.instantiable C kn).before a0 Z = true) (hty : parseFieldDescriptor d = some ty) (hn : narrow ty v = v) (hf : fits ty v = true) {pc : Nat} {Ls : Array Slot} {rest : List Value} (hd : decode c.code pc = .ok (.putfield index, 3))
    (kk : ∀ (T' : State) (h' : Heap), Stand p l e R s m args below meth c T' (locs ++ [⟨a, Jvm.RoadKit.slotOf Z O n d⟩]) cells slots → T'.heap = h' → Wr h h' a (Jvm.RoadKit.slotOf Z O n d) v → own_Go p e below K T' (mkF m (pc + 3) Ls rest)) : own_Go p e below K T (mkF m pc Ls (v :: .ref a :: rest)) := by
  obtain ⟨T', h', X', e', W, st⟩ := putF X hx hZ hown (host := "") (Or.inl w) Via.refl eT F E L wi hty hn hf (g := mkF m pc Ls (v :: .ref a :: rest)) rfl rfl hd
  exact own_by st (kk T' h' X' e' W)
end OwnHeap
section OwnHeapF
variable {p : Program} {l : Launch} {e : Env} {R : Room} {s : State} {m : MethodId} {args : Array Value} {below : List Frame} {meth : Method} {c : Code} {T T' : State} {locs : List Loc} {cells slots : Nat} {Z : State} {a0 : Array Value} {h h' h0 : Heap} {K : State → Outcome → Prop} {a b : Addr} {k : ClassId} {vs : List Value}
theorem own_stD (X : Stand p l e R s m args below meth c T locs cells slots) (hx : p.tables.exec = Jvm.exec) (hZ : Z.Warmed39 s.vm) (eT : T.heap = h) (V : own_A Z h a .double k vs) {j : Int32} {x : UInt64} (i : Nat) (hi : j.toNatClampNeg = i) (hj : ¬ j < 0) (hl : i < vs.length) {pc : Nat} {Ls : Array Slot} {rest : List Value} (hd : decode c.code pc = .ok (.dastore, 1))
    (kk : ∀ (T' : State) (h' : Heap), Stand p l e R s m args below meth c T' (locs ++ [⟨a, i⟩]) cells slots → T'.heap = h' → Wr h h' a i (.double x) → own_A Z h' a .double k (vs.set i (.double x)) → own_Go p e below K T' (mkF m (pc + 1) Ls rest)) :
    own_Go p e below K T (mkF m pc Ls (.double x :: .int j :: .ref a :: rest)) := by
  subst hi
  obtain ⟨cl, A, q1, q2⟩ := V
  obtain ⟨T', h', X', e', W, st⟩ := stD X hx hZ eT A (j := j) (x := x) (own_in q2 hj hl) (g := mkF m pc Ls (.double x :: .int j :: .ref a :: rest)) rfl rfl hd
  exact own_by st (kk T' h' X' e' W (own_A.set ⟨cl, A, q1, q2⟩ W))
theorem own_stF (X : Stand p l e R s m args below meth c T locs cells slots) (hx : p.tables.exec = Jvm.exec) (hZ : Z.Warmed39 s.vm) (eT : T.heap = h) (V : own_A Z h a .float k vs) {j : Int32} {x : UInt32} (i : Nat) (hi : j.toNatClampNeg = i) (hj : ¬ j < 0) (hl : i < vs.length) {pc : Nat} {Ls : Array Slot} {rest : List Value} (hd : decode c.code pc = .ok (.fastore, 1))
    (kk : ∀ (T' : State) (h' : Heap), Stand p l e R s m args below meth c T' (locs ++ [⟨a, i⟩]) cells slots → T'.heap = h' → Wr h h' a i (.float x) → own_A Z h' a .float k (vs.set i (.float x)) → own_Go p e below K T' (mkF m (pc + 1) Ls rest)) :
    own_Go p e below K T (mkF m pc Ls (.float x :: .int j :: .ref a :: rest)) := by
  subst hi
  obtain ⟨cl, A, q1, q2⟩ := V
  obtain ⟨T', h', X', e', W, st⟩ := stF X hx hZ eT A (j := j) (x := x) (own_in q2 hj hl) (g := mkF m pc Ls (.float x :: .int j :: .ref a :: rest)) rfl rfl hd
  exact own_by st (kk T' h' X' e' W (own_A.set ⟨cl, A, q1, q2⟩ W))
theorem own_ldD (X : Stand p l e R s m args below meth c T locs cells slots) (hx : p.tables.exec = Jvm.exec) (hZ : Z.Warmed39 s.vm) (eT : T.heap = h) (V : own_A Z h a .double k vs) {j : Int32} {v : Value} (i : Nat) (hi : j.toNatClampNeg = i) (hj : ¬ j < 0) (hv : vs[i]? = some v) {pc : Nat} {Ls : Array Slot} {rest : List Value} (hd : decode c.code pc = .ok (.daload, 1))
    (kk : own_Go p e below K T (mkF m (pc + 1) Ls (v :: rest))) : own_Go p e below K T (mkF m pc Ls (.int j :: .ref a :: rest)) := by
  subst hi
  obtain ⟨cl, A, q1, q2⟩ := V
  exact own_by (fun t q => X.daload hx (j := j) (v := v) (by rw [eT]; exact A.1) (State.isArrayOf_alike hZ.alike A.2.1) A.2.2 (own_in q2 hj (List.getElem?_eq_some_iff.mp hv).1) (by rw [own_get q2]; exact hv) (g := mkF m pc Ls (.int j :: .ref a :: rest)) rfl rfl hd t q) kk
theorem own_ldF (X : Stand p l e R s m args below meth c T locs cells slots) (hx : p.tables.exec = Jvm.exec) (hZ : Z.Warmed39 s.vm) (eT : T.heap = h) (V : own_A Z h a .float k vs) {j : Int32} {v : Value} (i : Nat) (hi : j.toNatClampNeg = i) (hj : ¬ j < 0) (hv : vs[i]? = some v) {pc : Nat} {Ls : Array Slot} {rest : List Value} (hd : decode c.code pc = .ok (.faload, 1))
    (kk : own_Go p e below K T (mkF m (pc + 1) Ls (v :: rest))) : own_Go p e below K T (mkF m pc Ls (.int j :: .ref a :: rest)) := by
  subst hi
  obtain ⟨cl, A, q1, q2⟩ := V
  exact own_by (fun t q => X.faload hx (j := j) (v := v) (by rw [eT]; exact A.1) (State.isArrayOf_alike hZ.alike A.2.1) A.2.2 (own_in q2 hj (List.getElem?_eq_some_iff.mp hv).1) (by rw [own_get q2]; exact hv) (g := mkF m pc Ls (.int j :: .ref a :: rest)) rfl rfl hd t q) kk
theorem own_retD {Q : Option Value → Heap → List Loc → Prop} (X : Stand p l e R s m args below meth c T locs cells slots) (hx : p.tables.exec = Jvm.exec) (hlk : meth.locks = false) (hret : meth.sig.returnType = some .double) {pc : Nat} {Ls : Array Slot} {z : UInt64} {rest : List Value} {k n : Nat} (hd : decode c.code pc = .ok (.dreturn, 1)) (hk : cells ≤ k) (hn : slots ≤ n) (hQ : Q (some (.double z)) T.heap locs) :
    own_Go p e below (own_K s k n Q) T (mkF m pc Ls (.double z :: rest)) :=
  own_leave X hlk (v := some (.double z)) (fun h => by rw [hret] at h; cases h) (fun fs hl => retOut X hx hret rfl (Or.inr (Or.inr (Or.inl ⟨rfl, rfl, z, rfl⟩))) hd hl) hk hn hQ
theorem own_retF {Q : Option Value → Heap → List Loc → Prop} (X : Stand p l e R s m args below meth c T locs cells slots) (hx : p.tables.exec = Jvm.exec) (hlk : meth.locks = false) (hret : meth.sig.returnType = some .float) {pc : Nat} {Ls : Array Slot} {z : UInt32} {rest : List Value} {k n : Nat} (hd : decode c.code pc = .ok (.freturn, 1)) (hk : cells ≤ k) (hn : slots ≤ n) (hQ : Q (some (.float z)) T.heap locs) :
    own_Go p e below (own_K s k n Q) T (mkF m pc Ls (.float z :: rest)) :=
  own_leave X hlk (v := some (.float z)) (fun h => by rw [hret] at h; cases h) (fun fs hl => retOut X hx hret rfl (Or.inr (Or.inr (Or.inr (Or.inl ⟨rfl, rfl, z, rfl⟩)))) hd hl) hk hn hQ
end OwnHeapF
section OwnScaled
open Jvm.FP.Core
/-- the exponent moved by k -/
def own_sh (k : Int) : Datum → Datum
  | .fin s c q => .fin s c (q + k)
  | .nan => .nan
  | .inf s => .inf s
/-- d is i / 2^k -/
def own_Sc (k : Int) (i : Int) (d : Datum) : Prop := Whole i (own_sh k d)
theorem own_sc_fin {k i : Int} {d : Datum} (h : own_Sc k i d) : ∃ s c q, d = .fin s c q := by
  cases d with
  | nan => exact h.elim
  | inf => exact h.elim
  | fin s c q => exact ⟨s, c, q, rfl⟩
theorem own_sc0 {i : Int} {d : Datum} (h : Whole i d) : own_Sc 0 i d := by
  cases d with
  | nan => exact h.elim
  | inf => exact h.elim
  | fin s c q => show Whole i (.fin s c (q + 0)); rw [Int.add_zero]; exact h
theorem own_sc_sum {k i j : Int} {x y : Datum} (hx : own_Sc k i x) (hy : own_Sc k j y) : own_Sc k (i + j) (exactSum x y) := by
  obtain ⟨s, c, q, rfl⟩ := own_sc_fin hx
  obtain ⟨t, d, r, rfl⟩ := own_sc_fin hy
  have h := whole_sum (x := .fin s c (q + k)) (y := .fin t d (r + k)) hx hy
  have e : exactSum (.fin s c (q + k)) (.fin t d (r + k)) = own_sh k (exactSum (.fin s c q) (.fin t d r)) := by
    have e1 : min (q + k) (r + k) = min q r + k := by omega
    simp only [exactSum, own_sh, sumUnits, inUnits, e1, show ∀ a : Int, a + k - (min q r + k) = a - min q r from fun a => by omega]
  rw [e] at h
  exact h
theorem own_sc_product {k l i j : Int} {x y : Datum} (hx : own_Sc k i x) (hy : own_Sc l j y) : own_Sc (k + l) (i * j) (exactProduct x y) := by
  obtain ⟨s, c, q, rfl⟩ := own_sc_fin hx
  obtain ⟨t, d, r, rfl⟩ := own_sc_fin hy
  have h := whole_product (x := .fin s c (q + k)) (y := .fin t d (r + l)) hx hy
  have e : exactProduct (.fin s c (q + k)) (.fin t d (r + l)) = own_sh (k + l) (exactProduct (.fin s c q) (.fin t d r)) := by
    simp only [exactProduct, own_sh]
    rw [show q + k + (r + l) = q + r + (k + l) by omega]
  rw [e] at h
  exact h
theorem own_sc_negate {k i : Int} {x : Datum} (hx : own_Sc k i x) : own_Sc k (-i) (negate x) := by
  obtain ⟨s, c, q, rfl⟩ := own_sc_fin hx
  exact whole_negate (x := .fin s c (q + k)) hx
theorem own_sc_order {k i j : Int} {x y : Datum} (hx : own_Sc k i x) (hy : own_Sc k j y) : order x y = some (compare i j) := by
  obtain ⟨s, c, q, rfl⟩ := own_sc_fin hx
  obtain ⟨t, d, r, rfl⟩ := own_sc_fin hy
  have h := order_whole (x := .fin s c (q + k)) (y := .fin t d (r + k)) hx hy
  have e1 : min (q + k) (r + k) = min q r + k := by omega
  have e : order (.fin s c (q + k)) (.fin t d (r + k)) = order (.fin s c q) (.fin t d r) := by
    simp only [order, inUnits, e1, show ∀ a : Int, a + k - (min q r + k) = a - min q r from fun a => by omega]
  rw [← e]; exact h
/-- what is n / 2^k in one writing is so in another -/
theorem own_sc_of_units {f : Fmt} {s : Bool} {c' n : Nat} {q' k i : Int} (h1 : f.qmin ≤ q') (h2 : f.qmin ≤ -k) (hu : inUnits c' q' f.qmin = inUnits n (-k) f.qmin) (hs : signed s n = i) : own_Sc k i (.fin s c' q') := by
  show signed s (c' * 2 ^ (q' + k).toNat) = i * ((2 ^ (-(q' + k)).toNat : Nat) : Int)
  have e : c' * 2 ^ (q' + k).toNat = n * 2 ^ (-(q' + k)).toNat := by
    unfold inUnits at hu
    by_cases h : 0 ≤ q' + k
    · rw [show (q' - f.qmin).toNat = (q' + k).toNat + (-k - f.qmin).toNat by omega, Nat.pow_add, ← Nat.mul_assoc] at hu
      rw [show (-(q' + k)).toNat = 0 by omega, Nat.pow_zero, Nat.mul_one]
      exact Nat.eq_of_mul_eq_mul_right (Nat.two_pow_pos _) hu
    · rw [show (-k - f.qmin).toNat = (-(q' + k)).toNat + (q' - f.qmin).toNat by omega, Nat.pow_add, ← Nat.mul_assoc] at hu
      rw [show (q' + k).toNat = 0 by omega, Nat.pow_zero, Nat.mul_one]
      exact Nat.eq_of_mul_eq_mul_right (Nat.two_pow_pos _) hu
  rw [e, signed_mul, hs]
theorem own_signed_abs {s : Bool} {i : Int} (h : i ≠ 0 → s = decide (i < 0)) : signed s i.natAbs = i := by
  by_cases hi : i = 0
  · rw [hi]; exact signed_zero s
  · rw [h hi]; unfold signed
    by_cases h : i < 0 <;> simp [h] <;> omega
theorem own_sc_ratio {f : Fmt} (hf : Good f) {s : Bool} {i k : Int} (hi : i.natAbs ≤ 2 ^ f.p) (h1 : f.qmin ≤ -k) (h2 : -k + f.p ≤ f.qmax) (hs : i ≠ 0 → s = decide (i < 0)) : own_Sc k i (roundRatio f s i.natAbs 1 (-k)) := by
  have hp : 2 ≤ f.p := hf.2
  rcases Nat.lt_or_ge i.natAbs (2 ^ f.p) with hlt | hge
  · obtain ⟨c', q', e, hu⟩ := round_exact hf s hlt h1 (by omega)
    have hfit : FP.Core.fits f (.fin s c' q') := by rw [← e]; exact round_fits hf _
    have e' : roundRatio f s i.natAbs 1 (-k) = .fin s c' q' := e
    rw [e']
    exact own_sc_of_units hfit.2.1 h1 hu (own_signed_abs hs)
  · have he : i.natAbs = 2 ^ f.p := by omega
    have h3 : (1 : Nat) < 2 ^ f.p := Nat.one_lt_two_pow (by omega)
    obtain ⟨c', q', e, hu⟩ := round_exact hf s h3 (q := -k + f.p) (by omega) h2
    have hfit : FP.Core.fits f (.fin s c' q') := by rw [← e]; exact round_fits hf _
    have e' : roundRatio f s i.natAbs 1 (-k) = .fin s c' q' := by
      rw [← e]
      refine roundRatio_congr (by decide) (by decide) ?_
      rw [he, show (-k - (-k + (f.p : Int))).toNat = 0 by omega, show (-k + (f.p : Int) - -k).toNat = f.p by omega]
      simp
    rw [e']
    refine own_sc_of_units hfit.2.1 h1 (hu.trans ?_) (own_signed_abs hs)
    unfold inUnits
    rw [he, show (-k + (f.p : Int) - f.qmin).toNat = f.p + (-k - f.qmin).toNat by omega, Nat.pow_add]
    simp
/-- small enough numbers over 2^k are kept by rounding -/
theorem own_sc_round {f : Fmt} (hf : Good f) {k i : Int} {d : Datum} (h : own_Sc k i d) (hi : i.natAbs ≤ 2 ^ f.p) (h1 : f.qmin ≤ -k) (h2 : -k + f.p ≤ f.qmax) : own_Sc k i (round f d) := by
  obtain ⟨s, c, q, rfl⟩ := own_sc_fin h
  have hn : c * 2 ^ (q + k).toNat = i.natAbs * 2 ^ (-(q + k)).toNat := whole_natAbs h
  have e : round f (.fin s c q) = roundRatio f s i.natAbs 1 (-k) := by
    refine roundRatio_congr (by decide) (by decide) ?_
    rw [show (q - -k).toNat = (q + k).toNat by omega, show (-k - q).toNat = (-(q + k)).toNat by omega]
    simpa using hn
  rw [e]
  exact own_sc_ratio hf hi h1 h2 (fun hz => whole_sign h hz)
/-- a quotient that is j / 2^(k - l) -/
theorem own_sc_quot {f : Fmt} (hf : Good f) {k l i j : Int} {x y : Datum} (hx : own_Sc k (j * i) x) (hy : own_Sc l i y) (hi0 : i ≠ 0) (hj : j.natAbs ≤ 2 ^ f.p) (h1 : f.qmin ≤ -(k - l)) (h2 : -(k - l) + f.p ≤ f.qmax) : own_Sc (k - l) j (quotient f x y) := by
  obtain ⟨s, c, q, rfl⟩ := own_sc_fin hx
  obtain ⟨t, d, r, rfl⟩ := own_sc_fin hy
  have hn : c * 2 ^ (q + k).toNat = (j * i).natAbs * 2 ^ (-(q + k)).toNat := whole_natAbs hx
  have hm : d * 2 ^ (r + l).toNat = i.natAbs * 2 ^ (-(r + l)).toNat := whole_natAbs hy
  have hd : d ≠ 0 := fun q => hi0 ((whole_zero hy).mp q)
  have hs : j ≠ 0 → (s != t) = decide (j < 0) := fun hj0 => by
    rw [whole_sign hx (Int.mul_ne_zero hj0 hi0), whole_sign hy hi0]
    by_cases a : j < 0 <;> by_cases b : i < 0
    · have : 0 < j * i := Int.mul_pos_of_neg_of_neg a b
      simp [a, b, show ¬ j * i < 0 by omega]
    · have : j * i < 0 := Int.mul_neg_of_neg_of_pos a (by omega)
      simp [a, b, this]
    · have : j * i < 0 := Int.mul_neg_of_pos_of_neg (by omega) b
      simp [a, b, this]
    · have : 0 < j * i := Int.mul_pos (by omega) (by omega)
      simp [a, b, show ¬ j * i < 0 by omega]
  have e : quotient f (.fin s c q) (.fin t d r) = roundRatio f (s != t) j.natAbs 1 (-(k - l)) := by
    show (if d = 0 then _ else _) = _
    rw [if_neg hd]
    refine roundRatio_congr (by omega) (by decide) ?_
    rw [Int.natAbs_mul] at hn
    have hip : 0 < i.natAbs := by omega
    -- c 2^(q+k) = |j||i|, d 2^(r+l) = |i|
    have p0 : 0 < i.natAbs * 2 ^ ((-(q + k)).toNat + (-(r + l)).toNat + (q + k).toNat + (r + l).toNat) := Nat.mul_pos hip (Nat.two_pow_pos _)
    refine Nat.eq_of_mul_eq_mul_right p0 ?_
    have a1 : (q - r - -(k - l)).toNat + ((-(q + k)).toNat + (r + l).toNat) = (-(k - l) - (q - r)).toNat + ((q + k).toNat + (-(r + l)).toNat) := by omega
    generalize (q - r - -(k - l)).toNat = u1 at *
    generalize (-(k - l) - (q - r)).toNat = u2 at *
    generalize (q + k).toNat = a at *
    generalize (-(q + k)).toNat = b at *
    generalize (r + l).toNat = cc at *
    generalize (-(r + l)).toNat = dd at *
    generalize i.natAbs = I at *
    generalize j.natAbs = J at *
    have hh : 2 ^ (u1 + (b + cc)) = 2 ^ (u2 + (a + dd)) := by rw [a1]
    simp only [Nat.pow_add] at hh ⊢
    -- both sides by hn, hm
    calc c * 1 * 2 ^ u1 * (I * (2 ^ b * 2 ^ dd * 2 ^ a * 2 ^ cc)) = (c * 2 ^ a) * (I * 2 ^ dd) * (2 ^ u1 * (2 ^ b * 2 ^ cc)) := by simp only [Nat.mul_one]; ac_rfl
      _ = (J * I * 2 ^ b) * (d * 2 ^ cc) * (2 ^ u1 * (2 ^ b * 2 ^ cc)) := by rw [hn, hm]
      _ = (J * I * 2 ^ b) * (d * 2 ^ cc) * (2 ^ u2 * (2 ^ a * 2 ^ dd)) := by rw [hh]
      _ = J * d * 2 ^ u2 * (I * (2 ^ b * 2 ^ dd * 2 ^ a * 2 ^ cc)) := by ac_rfl
  rw [e]
  exact own_sc_ratio hf hj h1 h2 hs
theorem own_q64 {k : Int} (h : k ≤ 900) : k + (b64.p : Int) ≤ b64.qmax := by
  have h1 : b64.qmax = 971 := by decide
  have h2 : (b64.p : Int) = 53 := rfl
  rw [h1, h2]; omega
theorem own_q32 {k : Int} (h : k ≤ 60) : k + (b32.p : Int) ≤ b32.qmax := by
  have h1 : b32.qmax = 104 := by decide
  have h2 : (b32.p : Int) = 24 := rfl
  rw [h1, h2]; omega
/-! ### doubles and floats -/
def own_D (k i : Int) (a : UInt64) : Prop := own_Sc k i (val64 a)
def own_F (k i : Int) (a : UInt32) : Prop := own_Sc k i (val32 a)
theorem own_D_no {k i : Int} {a : UInt64} (h : own_D k i a) : Jvm.Free.Fl.NoNaN64 a := Jvm.Free.Fl.val64_no.mpr fun q => by unfold own_D at h; rw [q] at h; exact h
theorem own_F_no {k i : Int} {a : UInt32} (h : own_F k i a) : Jvm.Free.Fl.NoNaN32 a := Jvm.Free.Fl.val32_no.mpr fun q => by unfold own_F at h; rw [q] at h; exact h
theorem own_v_f2d {k i : Int} {a : UInt32} (ha : own_F k i a) : val64 (FP.f2d a) = round b64 (val32 a) := by
  rw [FP.f2d_core (Jvm.Free.Fl.noNaN32_no.mp (own_F_no ha))]; exact val64_f2d a
theorem own_v_d2f {k i : Int} {a : UInt64} (ha : own_D k i a) : val32 (FP.d2f a) = round b32 (val64 a) := by
  rw [FP.d2f_core (Jvm.Free.Fl.noNaN64_no.mp (own_D_no ha))]; exact val32_d2f a
theorem own_D_i2d (a : Int32) : own_D 0 a.toInt (FP.i2d a) := own_sc0 (i2d_int a)
theorem own_D_l2d {a : Int64} (h : a.toInt.natAbs ≤ 2 ^ 53) : own_D 0 a.toInt (FP.l2d a) := own_sc0 (l2d_int h)
theorem own_F_i2f {a : Int32} (h : a.toInt.natAbs ≤ 2 ^ 24) : own_F 0 a.toInt (FP.i2f a) := own_sc0 (i2f_int h)
theorem own_D_add {k i j : Int} {a b : UInt64} (ha : own_D k i a) (hb : own_D k j b) (h : (i + j).natAbs ≤ 2 ^ 53) (h1 : -900 ≤ -k) (h2 : -k ≤ 900) : own_D k (i + j) (FP.dadd a b) := by
  unfold own_D
  rw [show val64 (FP.dadd a b) = round b64 (exactSum (val64 a) (val64 b)) from val64_dadd a b]
  exact own_sc_round good_b64 (own_sc_sum ha hb) h (by rw [qmin_b64]; omega) (own_q64 (by omega))
theorem own_D_sub {k i j : Int} {a b : UInt64} (ha : own_D k i a) (hb : own_D k j b) (h : (i + -j).natAbs ≤ 2 ^ 53) (h1 : -900 ≤ -k) (h2 : -k ≤ 900) : own_D k (i + -j) (FP.dsub a b) := by
  unfold own_D
  rw [show val64 (FP.dsub a b) = round b64 (exactSum (val64 a) (negate (val64 b))) from val64_dsub a b]
  exact own_sc_round good_b64 (own_sc_sum ha (own_sc_negate hb)) h (by rw [qmin_b64]; omega) (own_q64 (by omega))
theorem own_D_mul {k l i j : Int} {a b : UInt64} (ha : own_D k i a) (hb : own_D l j b) (h : (i * j).natAbs ≤ 2 ^ 53) (h1 : -900 ≤ -(k + l)) (h2 : -(k + l) ≤ 900) : own_D (k + l) (i * j) (FP.dmul a b) := by
  unfold own_D
  rw [show val64 (FP.dmul a b) = round b64 (exactProduct (val64 a) (val64 b)) from val64_dmul a b]
  exact own_sc_round good_b64 (own_sc_product ha hb) h (by rw [qmin_b64]; omega) (own_q64 (by omega))
theorem own_D_div {k l i j : Int} {a b : UInt64} (ha : own_D k (j * i) a) (hb : own_D l i b) (hi : i ≠ 0) (h : j.natAbs ≤ 2 ^ 53) (h1 : -900 ≤ -(k - l)) (h2 : -(k - l) ≤ 900) : own_D (k - l) j (FP.ddiv a b) := by
  unfold own_D
  rw [show val64 (FP.ddiv a b) = quotient b64 (val64 a) (val64 b) from val64_ddiv a b]
  exact own_sc_quot good_b64 ha hb hi h (by rw [qmin_b64]; omega) (own_q64 (by omega))
theorem own_D_cmp {k i j : Int} {a b : UInt64} (ha : own_D k i a) (hb : own_D k j b) : FP.dcmp a b = some (compare i j) := own_sc_order ha hb
theorem own_F_mul {k l i j : Int} {a b : UInt32} (ha : own_F k i a) (hb : own_F l j b) (h : (i * j).natAbs ≤ 2 ^ 24) (h1 : -100 ≤ -(k + l)) (h2 : -(k + l) ≤ 60) : own_F (k + l) (i * j) (FP.fmul a b) := by
  unfold own_F
  rw [show val32 (FP.fmul a b) = round b32 (exactProduct (val32 a) (val32 b)) from val32_fmul a b]
  exact own_sc_round good_b32 (own_sc_product ha hb) h (by rw [qmin_b32]; omega) (own_q32 (by omega))
theorem own_F_div {k l i j : Int} {a b : UInt32} (ha : own_F k (j * i) a) (hb : own_F l i b) (hi : i ≠ 0) (h : j.natAbs ≤ 2 ^ 24) (h1 : -100 ≤ -(k - l)) (h2 : -(k - l) ≤ 60) : own_F (k - l) j (FP.fdiv a b) := by
  unfold own_F
  rw [show val32 (FP.fdiv a b) = quotient b32 (val32 a) (val32 b) from val32_fdiv a b]
  exact own_sc_quot good_b32 ha hb hi h (by rw [qmin_b32]; omega) (own_q32 (by omega))
theorem own_F_cmp {k i j : Int} {a b : UInt32} (ha : own_F k i a) (hb : own_F k j b) : FP.fcmp a b = some (compare i j) := own_sc_order ha hb
theorem own_D_f2d {k i : Int} {a : UInt32} (ha : own_F k i a) (h : i.natAbs ≤ 2 ^ 53) (h1 : -900 ≤ -k) (h2 : -k ≤ 900) : own_D k i (FP.f2d a) := by
  unfold own_D
  rw [own_v_f2d ha]
  exact own_sc_round good_b64 ha h (by rw [qmin_b64]; omega) (own_q64 (by omega))
theorem own_F_d2f {k i : Int} {a : UInt64} (ha : own_D k i a) (h : i.natAbs ≤ 2 ^ 24) (h1 : -100 ≤ -k) (h2 : -k ≤ 60) : own_F k i (FP.d2f a) := by
  unfold own_F
  rw [own_v_d2f ha]
  exact own_sc_round good_b32 ha h (by rw [qmin_b32]; omega) (own_q32 (by omega))
/-- the same value in smaller units -/
theorem own_sc_up {k i : Int} {d : Datum} (h : own_Sc k i d) (n : Nat) : own_Sc (k + n) (i * ((2 ^ n : Nat) : Int)) d := by
  obtain ⟨s, c, q, rfl⟩ := own_sc_fin h
  have h' : signed s (c * 2 ^ (q + k).toNat) = i * ((2 ^ (-(q + k)).toNat : Nat) : Int) := h
  show signed s (c * 2 ^ (q + (k + n)).toNat) = i * ((2 ^ n : Nat) : Int) * ((2 ^ (-(q + (k + n))).toNat : Nat) : Int)
  have e : (q + (k + n)).toNat + (-(q + k)).toNat = (q + k).toNat + (n + (-(q + (k + n))).toNat) := by omega
  have p : ((2 ^ (-(q + k)).toNat : Nat) : Int) ≠ 0 := by have := Nat.two_pow_pos (-(q + k)).toNat; omega
  refine Int.eq_of_mul_eq_mul_right p ?_
  rw [← signed_mul, Nat.mul_assoc, ← Nat.pow_add, e, Nat.pow_add, ← Nat.mul_assoc, signed_mul, h', Nat.pow_add, Int.natCast_mul]
  ac_rfl
theorem own_D_up {k i : Int} {a : UInt64} (h : own_D k i a) (n : Nat) : own_D (k + n) (i * ((2 ^ n : Nat) : Int)) a := own_sc_up h n
theorem own_F_up {k i : Int} {a : UInt32} (h : own_F k i a) (n : Nat) : own_F (k + n) (i * ((2 ^ n : Nat) : Int)) a := own_sc_up h n
/-! ### one rounding of a number of many digits -/
theorem own_leading {n : Nat} (h : n ≠ 0) : leading n 1 = (n.log2 : Int) := by
  have l1 : 2 ^ n.log2 ≤ n := Nat.log2_self_le h
  unfold leading
  have e : (n.log2 : Int) - ((1 : Nat).log2 : Int) = (n.log2 : Int) := by have : (1 : Nat).log2 = 0 := by decide
                                                                          rw [this]; simp
  simp only [e]
  rw [if_pos]
  rw [show ((n.log2 : Int)).toNat = n.log2 by omega, show (-(n.log2 : Int)).toNat = 0 by omega]
  simpa using l1
theorem own_rr {f : Fmt} (hf : Good f) {s : Bool} {n : Nat} (hn : n ≠ 0) {k : Int} (h0 : 0 ≤ k) (h1 : f.qmin < -k - ((f.p : Int) - 1)) (h2 : (n.log2 : Int) + 2 ≤ f.qmax + f.p) :
    ∃ c q, (roundRatio f s n 1 (-k) = .fin s c (q - k) ∧ roundRatio f s n 1 0 = .fin s c q) ∧ c < 2 ^ f.p ∧ -((f.p : Int) - 1) ≤ q ∧ q ≤ f.qmax ∧ f.tails ≤ c := by
  have hp : 2 ≤ f.p := hf.2
  have hL := own_leading hn
  have hq0 : quantum f n 1 0 = (n.log2 : Int) - ((f.p : Int) - 1) := by unfold quantum; rw [hL]; omega
  have hqk : quantum f n 1 (-k) = (n.log2 : Int) - ((f.p : Int) - 1) - k := by unfold quantum; rw [hL]; omega
  have hfit : FP.Core.fits f (roundRatio f s n 1 0) := roundRatio_fits hf s n Nat.one_pos 0
  generalize hQ : (n.log2 : Int) - ((f.p : Int) - 1) = Q at hq0 hqk
  have eN : unitsNum n (-k) (Q - k) = unitsNum n 0 Q := by unfold unitsNum; rw [show (-k - (Q - k)).toNat = (0 - Q).toNat by omega]
  have eD : unitsDen 1 (-k) (Q - k) = unitsDen 1 0 Q := by unfold unitsDen; rw [show (Q - k - -k).toNat = (Q - 0).toNat by omega]
  have r0 : roundRatio f s n 1 0 = settle f s (nearest (unitsNum n 0 Q) (unitsDen 1 0 Q)) Q := by
    unfold roundRatio roundAt; rw [if_neg hn, hq0]
  have rk : roundRatio f s n 1 (-k) = settle f s (nearest (unitsNum n 0 Q) (unitsDen 1 0 Q)) (Q - k) := by
    unfold roundRatio roundAt; rw [if_neg hn, hqk, eN, eD]
  generalize nearest (unitsNum n 0 Q) (unitsDen 1 0 Q) = c0 at r0 rk
  unfold settle bound at r0 rk
  by_cases hc : c0 < 2 ^ f.p
  · rw [if_pos hc, if_pos (by omega)] at r0 rk
    rw [r0] at hfit
    obtain ⟨f1, f2, f3, f4⟩ := hfit
    exact ⟨c0, Q, ⟨rk, r0⟩, f1, by omega, f3, by rcases f4 with f4 | f4 <;> omega⟩
  · rw [if_neg hc, if_pos (by omega)] at r0 rk
    rw [r0] at hfit
    obtain ⟨f1, f2, f3, f4⟩ := hfit
    exact ⟨f.tails, Q + 1, ⟨by rw [rk, show Q - k + 1 = Q + 1 - k by omega], r0⟩, f1, by omega, f3, Nat.le_refl _⟩
/-- i / 2^k, rounded once, is i rounded, over 2^k -/
theorem own_round_ratio {f : Fmt} {k i : Int} {d : Datum} (h : own_Sc k i d) (hi : i ≠ 0) : round f d = roundRatio f (decide (i < 0)) i.natAbs 1 (-k) := by
  obtain ⟨s, c, q, rfl⟩ := own_sc_fin h
  have hn : c * 2 ^ (q + k).toNat = i.natAbs * 2 ^ (-(q + k)).toNat := whole_natAbs h
  rw [← whole_sign h hi]
  refine roundRatio_congr (by decide) (by decide) ?_
  rw [show (q - -k).toNat = (q + k).toNat by omega, show (-k - q).toNat = (-(q + k)).toNat by omega]
  simpa using hn
/-- a datum over 2^k -/
theorem own_quot_pow {f : Fmt} (hf : Good f) {s : Bool} {c : Nat} {q : Int} {k : Nat} {y : Datum} (hy : own_Sc 0 ((2 ^ k : Nat) : Int) y) (h1 : c < 2 ^ f.p) (h2 : f.qmin ≤ q - k) (h3 : q ≤ f.qmax) (h4 : f.tails ≤ c) : quotient f (.fin s c q) y = .fin s c (q - k) := by
  obtain ⟨t, d, r, rfl⟩ := own_sc_fin hy
  have hp := Nat.two_pow_pos k
  have hm : d * 2 ^ (r + 0).toNat = ((2 ^ k : Nat) : Int).natAbs * 2 ^ (-(r + 0)).toNat := whole_natAbs hy
  rw [Int.add_zero, Int.natAbs_natCast] at hm
  have hz : ((2 ^ k : Nat) : Int) ≠ 0 := fun z => by have h9 : 2 ^ k = 0 := Int.ofNat_eq_zero.mp z
                                                     omega
  have ht : t = false := by
    rw [whole_sign hy hz]
    exact decide_eq_false (Int.not_lt.mpr (Int.natCast_nonneg _))
  have hd : d ≠ 0 := fun z => hz ((whole_zero hy).mp z)
  subst ht
  show (if d = 0 then _ else _) = _
  rw [if_neg hd]
  have e1 : (s != false) = s := by cases s <;> rfl
  rw [e1]
  refine roundRatio_exact hf (by omega) ⟨h1, h2, by omega, Or.inr h4⟩ ?_
  rw [show (q - r - (q - (k : Int))).toNat = ((k : Int) - r).toNat by omega, show (q - (k : Int) - (q - r)).toNat = (r - (k : Int)).toNat by omega, Nat.mul_assoc]
  congr 1
  rcases Int.lt_or_le r 0 with hr | hr
  · rw [show r.toNat = 0 by omega, Nat.pow_zero, Nat.mul_one] at hm
    rw [hm, ← Nat.pow_add, ← Nat.pow_add]
    congr 1
    omega
  · rw [show (-r).toNat = 0 by omega, Nat.pow_zero, Nat.mul_one] at hm
    rcases Int.lt_or_le (k : Int) r with h | h
    · have : 2 ^ k = d * 2 ^ (r.toNat - k) * 2 ^ k := by
        rw [Nat.mul_assoc, ← Nat.pow_add, show r.toNat - k + k = r.toNat by omega, hm]
      have h5 : d * 2 ^ (r.toNat - k) = 1 := by
        have h6 : 1 * 2 ^ k = d * 2 ^ (r.toNat - k) * 2 ^ k := by rw [Nat.one_mul]; exact this
        exact (Nat.eq_of_mul_eq_mul_right hp h6).symm
      rw [show ((k : Int) - r).toNat = 0 by omega, show (r - (k : Int)).toNat = r.toNat - k by omega, h5, Nat.pow_zero]
    · have h6 : d = 2 ^ (k - r.toNat) := by
        have : d * 2 ^ r.toNat = 2 ^ (k - r.toNat) * 2 ^ r.toNat := by rw [hm, ← Nat.pow_add]; congr 1; omega
        exact Nat.eq_of_mul_eq_mul_right (Nat.two_pow_pos _) this
      rw [show (r - (k : Int)).toNat = 0 by omega, Nat.pow_zero, Nat.mul_one, h6]
      congr 1
      omega
end OwnScaled
def own_S (Z : State) (h : Heap) (w8 w9 w10 w11 w12 : Addr) : Prop := Sta Z h "com/example/focus_crawl/focuscrawl/crawl/page/XPathExpr$Operator" "PLUS" "Lcom/example/focus_crawl/focuscrawl/crawl/page/XPathExpr$Operator;" (.ref w8) ∧ Sta Z h "com/example/focus_crawl/focuscrawl/crawl/page/XPathExpr$Operator" "MINUS" "Lcom/example/focus_crawl/focuscrawl/crawl/page/XPathExpr$Operator;" (.ref w9) ∧ Sta Z h "com/example/focus_crawl/focuscrawl/crawl/page/XPathExpr$Operator" "TIMES" "Lcom/example/focus_crawl/focuscrawl/crawl/page/XPathExpr$Operator;" (.ref w10) ∧ Sta Z h "com/example/focus_crawl/focuscrawl/crawl/page/XPathExpr$Operator" "DIV" "Lcom/example/focus_crawl/focuscrawl/crawl/page/XPathExpr$Operator;" (.ref w11) ∧ Sta Z h "com/example/focus_crawl/focuscrawl/crawl/page/XPathExpr$Operator" "MOD" "Lcom/example/focus_crawl/focuscrawl/crawl/page/XPathExpr$Operator;" (.ref w12)
theorem own_eqi {args : Array Value} {s : State} {t : Term} {k : Int32} (h : (Jvm.Cond.eq t (.int k)).value args s none s [] = some true) : t.eval args s none [] s = some (.int k) := by
  have hk : (Term.int k).eval args s none [] s = some (.int k) := Term.int_eval k
  cases ht : t.eval args s none [] s with
  | none => simp [Cond.value, ht] at h
  | some y => cases y <;> simp [Cond.value, ht, hk] at h ⊢; exact h
section OwnM3
open Jvm.FP.Core
theorem own_four : own_D 0 4 4616189618054758400 := by
  have h : val64 4616189618054758400 = .fin false 4503599627370496 (-50) := by decide +kernel
  show Whole 4 (own_sh 0 (val64 4616189618054758400))
  rw [h]
  show signed false (4503599627370496 * 2 ^ ((-50 : Int) + 0).toNat) = (4 : Int) * ((2 ^ (-((-50 : Int) + 0)).toNat : Nat) : Int)
  decide +kernel
theorem own_sixteen : own_Sc 0 ((2 ^ 4 : Nat) : Int) (val64 4625196817309499392) := by
  have h : val64 4625196817309499392 = .fin false 4503599627370496 (-48) := by decide +kernel
  show Whole 16 (own_sh 0 (val64 4625196817309499392))
  rw [h]
  show signed false (4503599627370496 * 2 ^ ((-48 : Int) + 0).toNat) = (16 : Int) * ((2 ^ (-((-48 : Int) + 0)).toNat : Nat) : Int)
  decide +kernel
/-- a whole number over 4 -/
theorem own_q4 {i : Int} {a : UInt64} (ha : own_D 0 i a) (h : i.natAbs ≤ 2 ^ 53) : own_D 2 i (FP.ddiv a 4616189618054758400) := by
  have h1 : own_D 2 (i * 4) a := own_D_up ha 2
  have h2 := own_D_div (k := 2) (l := 0) h1 own_four (by decide) h (by decide) (by decide)
  exact h2
theorem own_deq {a b : UInt64} {i k : Int} (ha : own_D k i a) (hb : own_D k i b) : cmpValue (FP.dcmp a b) .l = (0 : Int32) := by
  rw [own_D_cmp ha hb]
  have h2 : compare i i = .eq := by simp [compare, compareOfLessAndEq]
  rw [h2]; rfl
theorem own_big64 {n : Nat} (h : n ≤ 63) : (n : Int) + 2 ≤ b64.qmax + (b64.p : Int) := by
  have h1 : b64.qmax = 971 := by decide
  have h2 : (b64.p : Int) = 53 := rfl
  rw [h1, h2]; omega
theorem own_low64 {q : Int} (h : -((b64.p : Int) - 1) ≤ q) : b64.qmin ≤ q - ((4 : Nat) : Int) := by
  have h1 : b64.qmin = -1074 := by decide
  have h2 : (b64.p : Int) = 53 := rfl
  rw [h2] at h; rw [h1]; omega
theorem own_tmod (x d : Int) : x.natAbs % d.natAbs = (x.tmod d).natAbs := (Int.natAbs_tmod x d).symm
theorem own_sc_rem {k i j : Int} {x y : Datum} (hx : own_Sc k i x) (hy : own_Sc k j y) (hj : j ≠ 0) : own_Sc k (i.tmod j) (exactRemainder x y) := by
  obtain ⟨s, c, q, rfl⟩ := own_sc_fin hx
  obtain ⟨t, d, r, rfl⟩ := own_sc_fin hy
  have hd : d ≠ 0 := fun z => hj ((whole_zero hy).mp z)
  have ux := whole_units (e := min q r + k) hx (by omega)
  have uy := whole_units (e := min q r + k) hy (by omega)
  have e1 : inUnits c (q + k) (min q r + k) = inUnits c q (min q r) := by unfold inUnits; rw [show q + k - (min q r + k) = q - min q r by omega]
  have e2 : inUnits d (r + k) (min q r + k) = inUnits d r (min q r) := by unfold inUnits; rw [show r + k - (min q r + k) = r - min q r by omega]
  rw [e1] at ux
  rw [e2] at uy
  show Whole (i.tmod j) (own_sh k (if d = 0 then .nan else .fin s (inUnits c q (min q r) % inUnits d r (min q r)) (min q r)))
  rw [if_neg hd]
  show signed s (_ * 2 ^ (min q r + k).toNat) = i.tmod j * ((2 ^ (-(min q r + k)).toNat : Nat) : Int)
  generalize inUnits c q (min q r) = X at *
  generalize inUnits d r (min q r) = D at *
  generalize hA : 2 ^ (-(min q r + k)).toNat = A at *
  generalize hB : 2 ^ (min q r + k).toNat = B at *
  have pA : 0 < A := by rw [← hA]; exact Nat.two_pow_pos _
  have nx : X * B = i.natAbs * A := by have := congrArg Int.natAbs ux; rw [Int.natAbs_mul, Int.natAbs_mul, natAbs_signed, Int.natAbs_natCast, Int.natAbs_natCast] at this; exact this
  have ny : D * B = j.natAbs * A := by have := congrArg Int.natAbs uy; rw [Int.natAbs_mul, Int.natAbs_mul, natAbs_signed, Int.natAbs_natCast, Int.natAbs_natCast] at this; exact this
  have e3 : X % D * B = (i.tmod j).natAbs * A := by rw [← Nat.mul_mod_mul_right, nx, ny, Nat.mul_mod_mul_right, own_tmod]
  rw [e3, signed_mul]
  congr 1
  by_cases hi : i = 0
  · rw [hi, Int.zero_tmod]; exact signed_zero s
  · have hs : s = decide (i < 0) := whole_sign hx hi
    by_cases hz : i.tmod j = 0
    · rw [hz]; exact signed_zero s
    · rw [hs]
      unfold signed
      by_cases hn : i < 0
      · have h5 : i.tmod j ≤ 0 := by have h6 := Int.neg_tmod (a := i) (b := j)
                                     have h7 := Int.tmod_nonneg (a := -i) j (by omega)
                                     omega
        simp only [hn, decide_true, if_true]; omega
      · have h5 := Int.tmod_nonneg (a := i) j (by omega)
        simp only [hn, decide_false, Bool.false_eq_true, if_false]; omega
theorem own_D_rem {k i j : Int} {a b : UInt64} (ha : own_D k i a) (hb : own_D k j b) (hj : j ≠ 0) (h : (i.tmod j).natAbs ≤ 2 ^ 53) (h1 : -900 ≤ -k) (h2 : -k ≤ 900) : own_D k (i.tmod j) (FP.drem a b) := by
  unfold own_D
  rw [show val64 (FP.drem a b) = round b64 (exactRemainder (val64 a) (val64 b)) from val64_drem a b]
  exact own_sc_round good_b64 (own_sc_rem ha hb hj) h (by rw [qmin_b64]; omega) (own_q64 (by omega))
/-- x y / 16, rounded once, is x y rounded, over 16 -/
theorem own_times {x y : Int} {a b : UInt64} {t : Int64} (ha : own_D 2 x a) (hb : own_D 2 y b) (ht : t.toInt = x * y) : Jvm.Free.Fl.NoNaN64 (FP.dmul a b) ∧ Jvm.Free.Fl.NoNaN64 (FP.ddiv (FP.l2d t) 4625196817309499392) ∧ cmpValue (FP.dcmp (FP.dmul a b) (FP.ddiv (FP.l2d t) 4625196817309499392)) .l = (0 : Int32) := by
  have hp : own_Sc 4 (x * y) (exactProduct (val64 a) (val64 b)) := own_sc_product ha hb
  have e1 : val64 (FP.dmul a b) = round b64 (exactProduct (val64 a) (val64 b)) := val64_dmul a b
  have e2 : val64 (FP.ddiv (FP.l2d t) 4625196817309499392) = quotient b64 (round b64 (ofInt t.toInt)) (val64 4625196817309499392) := by
    rw [show val64 (FP.ddiv (FP.l2d t) 4625196817309499392) = quotient b64 (val64 (FP.l2d t)) (val64 4625196817309499392) from val64_ddiv _ _, show val64 (FP.l2d t) = round b64 (ofInt t.toInt) from val64_l2d t]
  have fin : ∀ {u v : UInt64} {X Y : Datum}, val64 u = X → val64 v = Y → X ≠ .nan → Y ≠ .nan → order X Y = some .eq → Jvm.Free.Fl.NoNaN64 u ∧ Jvm.Free.Fl.NoNaN64 v ∧ cmpValue (FP.dcmp u v) .l = (0 : Int32) := by
    intro u v X Y h1 h2 h3 h4 h5
    subst h1 h2
    refine ⟨Jvm.Free.Fl.val64_no.mpr h3, Jvm.Free.Fl.val64_no.mpr h4, ?_⟩
    rw [show FP.dcmp u v = some .eq from h5]; rfl
  by_cases h0 : x * y = 0
  · have h1 : own_Sc 4 0 (val64 (FP.dmul a b)) := by rw [e1]; exact own_sc_round good_b64 (h0 ▸ hp) (by decide) (by decide) (by decide)
    have h2 : own_Sc 4 0 (val64 (FP.ddiv (FP.l2d t) 4625196817309499392)) := by
      rw [e2, ht, h0]
      have h3 : own_Sc 0 0 (round b64 (ofInt 0)) := own_sc_round good_b64 (own_sc0 (whole_ofInt 0)) (by decide) (by decide) (by decide)
      have h4 := own_sc_up h3 4
      exact own_sc_quot (k := 4) (l := 0) (j := 0) good_b64 (by simpa using h4) own_sixteen (by decide) (by decide) (by decide) (by decide)
    have h3 := own_sc_order h1 h2
    have h4 : compare (0 : Int) 0 = .eq := by decide
    rw [h4] at h3
    exact fin rfl rfl (fun q => by rw [q] at h1; exact h1) (fun q => by rw [q] at h2; exact h2) h3
  · have hn : (x * y).natAbs ≠ 0 := by omega
    have hb2 := t.toInt_lt
    have hb3 := t.le_toInt
    have hl : (x * y).natAbs.log2 ≤ 63 := by
      have h5 : 2 ^ (x * y).natAbs.log2 ≤ (x * y).natAbs := Nat.log2_self_le hn
      have h6 : (x * y).natAbs ≤ 2 ^ 63 := by rw [← ht]; omega
      exact (Nat.pow_le_pow_iff_right (by decide : 1 < 2)).mp (Nat.le_trans h5 h6)
    obtain ⟨c, q, ⟨r1, r2⟩, f1, f2, f3, f4⟩ := own_rr (f := b64) good_b64 (s := decide (x * y < 0)) hn (k := 4) (by decide) (by decide) (own_big64 hl)
    have g1 : val64 (FP.dmul a b) = .fin (decide (x * y < 0)) c (q - 4) := by rw [e1, own_round_ratio hp h0]; exact r1
    have g2 : round b64 (ofInt (x * y)) = .fin (decide (x * y < 0)) c q := r2
    have g3 : val64 (FP.ddiv (FP.l2d t) 4625196817309499392) = .fin (decide (x * y < 0)) c (q - 4) := by
      rw [e2, ht, g2]
      exact own_quot_pow good_b64 own_sixteen f1 (own_low64 f2) f3 f4
    exact fin g1 g3 (by simp) (by simp) (order_self (by simp))
end OwnM3
theorem own_rem5 (x : Int32) : ((x &&& (2147483647 : Int32)) % (5 : Int32)) = (0 : Int32) ∨ ((x &&& (2147483647 : Int32)) % (5 : Int32)) = (1 : Int32) ∨ ((x &&& (2147483647 : Int32)) % (5 : Int32)) = (2 : Int32) ∨ ((x &&& (2147483647 : Int32)) % (5 : Int32)) = (3 : Int32) ∨ ((x &&& (2147483647 : Int32)) % (5 : Int32)) = (4 : Int32) := by
  have h := c_mask x (2147483647 : Int32) 31 (by decide) (by decide)
  have h1 := (c_irem (x &&& (2147483647 : Int32)) (5 : Int32) 5 (by decide)).1 (by omega)
  have h2 : ((x &&& (2147483647 : Int32)) % (5 : Int32)).toInt = 0 ∨ ((x &&& (2147483647 : Int32)) % (5 : Int32)).toInt = 1 ∨ ((x &&& (2147483647 : Int32)) % (5 : Int32)).toInt = 2 ∨ ((x &&& (2147483647 : Int32)) % (5 : Int32)).toInt = 3 ∨ ((x &&& (2147483647 : Int32)) % (5 : Int32)).toInt = 4 := by omega
  rcases h2 with q | q | q | q | q
  · exact Or.inl (Int32.toInt_inj.mp (q.trans (by decide)))
  · exact Or.inr (Or.inl (Int32.toInt_inj.mp (q.trans (by decide))))
  · exact Or.inr (Or.inr (Or.inl (Int32.toInt_inj.mp (q.trans (by decide)))))
  · exact Or.inr (Or.inr (Or.inr (Or.inl (Int32.toInt_inj.mp (q.trans (by decide))))))
  · exact Or.inr (Or.inr (Or.inr (Or.inr ((Int32.toInt_inj.mp (q.trans (by decide)))))))
theorem pn_0 : plainName "com/example/focus_crawl/focuscrawl/crawl/page/XPathExpr$Operator" = true := by first | (simp [plainName, overriddenIn]; done) | decide +kernel
theorem d1_0 : decode prog_46_method_11_code 0 = .ok (.aload_n 0, 1) := by decide +kernel
theorem d1_1 : decode prog_46_method_11_code 1 = .ok (.getstatic 28, 3) := by decide +kernel
theorem d1_4 : decode prog_46_method_11_code 4 = .ok (.if_acmp .ne 11, 3) := by decide +kernel
theorem d1_7 : decode prog_46_method_11_code 7 = .ok (.dload_n 1, 1) := by decide +kernel
theorem d1_8 : decode prog_46_method_11_code 8 = .ok (.dload_n 3, 1) := by decide +kernel
theorem d1_9 : decode prog_46_method_11_code 9 = .ok (.dadd, 1) := by decide +kernel
theorem d1_10 : decode prog_46_method_11_code 10 = .ok (.dstore 5, 2) := by decide +kernel
theorem d1_12 : decode prog_46_method_11_code 12 = .ok (.goto 53, 3) := by decide +kernel
theorem d1_65 : decode prog_46_method_11_code 65 = .ok (.dload 5, 2) := by decide +kernel
theorem d1_67 : decode prog_46_method_11_code 67 = .ok (.dreturn, 1) := by decide +kernel
set_option maxRecDepth 65536 in
set_option maxHeartbeats 40000000 in
theorem own_ar0 (l : Launch) (Z : State) (a0 : Array Value) (hw : ∀ d ∈ tables_1, d.before a0 Z = true) (x y : UInt64) (w8 w9 w10 w11 w12 : Addr) (h0 : Heap) (S : own_S Z h0 w8 w9 w10 w11 w12) (F8 : Fld Z h0 w8 "java/lang/Enum" "ordinal" "I" (.int (8 : Int32))) (F9 : Fld Z h0 w9 "java/lang/Enum" "ordinal" "I" (.int (9 : Int32))) (F10 : Fld Z h0 w10 "java/lang/Enum" "ordinal" "I" (.int (10 : Int32))) (F11 : Fld Z h0 w11 "java/lang/Enum" "ordinal" "I" (.int (11 : Int32))) (F12 : Fld Z h0 w12 "java/lang/Enum" "ordinal" "I" (.int (12 : Int32))) (hn : Jvm.Free.Fl.NoNaN64 (FP.dadd x y)) :
    own_Met l (⟨"com/example/focus_crawl/focuscrawl/crawl/page/XPathExpr$Operator", "arithmetic", "(DD)D"⟩ : MethodName) prog_46_method_11_code 7 (some .double) [] ({ frames := 0, cells := 0, slots := 0, locals := 0 } : Room) Z #[(.ref w8), (.double x), (.double y)] h0 (fun v h L => v = some (.double (FP.dadd x y)) ∧ h = h0 ∧ L = []) := by
  obtain ⟨S8, S9, S10, S11, S12⟩ := S
  refine own_enter (plainFor_of_name pn_0) ?_
  intro p e s m below meth c T0 hx hby hml hret hlk hown hnm hZ X0 e0
  refine own_at (g' := (mkF m 0 #[oR w8, oD x, .second, oD y, .second, .unset, .unset] [])) (by first | (simp [entryFrame, mkF, argsToLocals, Value.category]; done) | rfl) ?_
  show own_Go p e below _ T0 (mkF m 0 #[oR w8, oD x, .second, oD y, .second, .unset, .unset] [])
  refine own_by (fun t_ k_ => XS.aloadN X0.here hx rfl (hb hby d1_0) rfl rfl  k_) ?_
  show own_Go p e below _ T0 (mkF m 1 #[oR w8, oD x, .second, oD y, .second, .unset, .unset] [(.ref w8)])
  obtain ⟨T1, XT1, eT1, stT1⟩ := getS2 X0 hx hZ hown (host := "") (Or.inl (hw _ (List.mem_of_getElem? (i := 10) rfl))) Via.refl e0 S8 (g := (mkF m 1 #[oR w8, oD x, .second, oD y, .second, .unset, .unset] [(.ref w8)])) rfl (hb hby d1_1)
  refine own_by stT1 ?_
  show own_Go p e below _ T1 (mkF m 4 #[oR w8, oD x, .second, oD y, .second, .unset, .unset] [(.ref w8), (.ref w8)])
  refine own_by (fun t_ k_ => Jvm.RoadKit.acmp (g := (mkF m 4 #[oR w8, oD x, .second, oD y, .second, .unset, .unset] [(.ref w8), (.ref w8)])) XT1 hx rfl rfl rfl (pc0 := 4) (pc' := 7) (same := true) rfl (hb hby d1_4) rfl (decide_eq_true (congrArg Value.ref (rfl))) (by decide) (by decide) k_) ?_
  show own_Go p e below _ T1 (mkF m 7 #[oR w8, oD x, .second, oD y, .second, .unset, .unset] [])
  refine own_by (fun t_ k_ => XS.dloadN XT1.here hx rfl (hb hby d1_7) rfl  k_) ?_
  show own_Go p e below _ T1 (mkF m 8 #[oR w8, oD x, .second, oD y, .second, .unset, .unset] [(.double x)])
  refine own_by (fun t_ k_ => XS.dloadN XT1.here hx rfl (hb hby d1_8) rfl  k_) ?_
  show own_Go p e below _ T1 (mkF m 9 #[oR w8, oD x, .second, oD y, .second, .unset, .unset] [(.double y), (.double x)])
  refine own_by (fun t_ k_ => XS.daddS XT1.here hx rfl (hb hby d1_9) rfl hn rfl k_) ?_
  show own_Go p e below _ T1 (mkF m 10 #[oR w8, oD x, .second, oD y, .second, .unset, .unset] [(.double (FP.dadd x y))])
  refine own_by (fun t_ k_ => XS.dstore XT1.here hx rfl (hb hby d1_10) rfl (l' := #[oR w8, oD x, .second, oD y, .second, oD (FP.dadd x y), .second]) rfl k_) ?_
  show own_Go p e below _ T1 (mkF m 12 #[oR w8, oD x, .second, oD y, .second, oD (FP.dadd x y), .second] [])
  refine own_by (fun t_ k_ => XS.goto XT1.here hx rfl (pc0 := 12) (pc' := 65) rfl (hb hby d1_12) (by decide) (by decide) k_) ?_
  show own_Go p e below _ T1 (mkF m 65 #[oR w8, oD x, .second, oD y, .second, oD (FP.dadd x y), .second] [])
  refine own_by (fun t_ k_ => XS.dload XT1.here hx rfl (hb hby d1_65) rfl  k_) ?_
  show own_Go p e below _ T1 (mkF m 67 #[oR w8, oD x, .second, oD y, .second, oD (FP.dadd x y), .second] [(.double (FP.dadd x y))])
  exact own_retD XT1 hx hlk hret (hb hby d1_67) (by decide) (by decide) (⟨rfl, eT1, rfl⟩)
theorem d1_15 : decode prog_46_method_11_code 15 = .ok (.aload_n 0, 1) := by decide +kernel
theorem d1_16 : decode prog_46_method_11_code 16 = .ok (.getstatic 31, 3) := by decide +kernel
theorem d1_19 : decode prog_46_method_11_code 19 = .ok (.if_acmp .ne 11, 3) := by decide +kernel
theorem d1_22 : decode prog_46_method_11_code 22 = .ok (.dload_n 1, 1) := by decide +kernel
theorem d1_23 : decode prog_46_method_11_code 23 = .ok (.dload_n 3, 1) := by decide +kernel
theorem d1_24 : decode prog_46_method_11_code 24 = .ok (.dsub, 1) := by decide +kernel
theorem d1_25 : decode prog_46_method_11_code 25 = .ok (.dstore 5, 2) := by decide +kernel
theorem d1_27 : decode prog_46_method_11_code 27 = .ok (.goto 38, 3) := by decide +kernel
set_option maxRecDepth 65536 in
set_option maxHeartbeats 40000000 in
theorem own_ar1 (l : Launch) (Z : State) (a0 : Array Value) (hw : ∀ d ∈ tables_1, d.before a0 Z = true) (x y : UInt64) (w8 w9 w10 w11 w12 : Addr) (h0 : Heap) (S : own_S Z h0 w8 w9 w10 w11 w12) (F8 : Fld Z h0 w8 "java/lang/Enum" "ordinal" "I" (.int (8 : Int32))) (F9 : Fld Z h0 w9 "java/lang/Enum" "ordinal" "I" (.int (9 : Int32))) (F10 : Fld Z h0 w10 "java/lang/Enum" "ordinal" "I" (.int (10 : Int32))) (F11 : Fld Z h0 w11 "java/lang/Enum" "ordinal" "I" (.int (11 : Int32))) (F12 : Fld Z h0 w12 "java/lang/Enum" "ordinal" "I" (.int (12 : Int32))) (hn : Jvm.Free.Fl.NoNaN64 (FP.dsub x y)) :
    own_Met l (⟨"com/example/focus_crawl/focuscrawl/crawl/page/XPathExpr$Operator", "arithmetic", "(DD)D"⟩ : MethodName) prog_46_method_11_code 7 (some .double) [] ({ frames := 0, cells := 0, slots := 0, locals := 0 } : Room) Z #[(.ref w9), (.double x), (.double y)] h0 (fun v h L => v = some (.double (FP.dsub x y)) ∧ h = h0 ∧ L = []) := by
  obtain ⟨S8, S9, S10, S11, S12⟩ := S
  refine own_enter (plainFor_of_name pn_0) ?_
  intro p e s m below meth c T0 hx hby hml hret hlk hown hnm hZ X0 e0
  refine own_at (g' := (mkF m 0 #[oR w9, oD x, .second, oD y, .second, .unset, .unset] [])) (by first | (simp [entryFrame, mkF, argsToLocals, Value.category]; done) | rfl) ?_
  show own_Go p e below _ T0 (mkF m 0 #[oR w9, oD x, .second, oD y, .second, .unset, .unset] [])
  refine own_by (fun t_ k_ => XS.aloadN X0.here hx rfl (hb hby d1_0) rfl rfl  k_) ?_
  show own_Go p e below _ T0 (mkF m 1 #[oR w9, oD x, .second, oD y, .second, .unset, .unset] [(.ref w9)])
  obtain ⟨T1, XT1, eT1, stT1⟩ := getS2 X0 hx hZ hown (host := "") (Or.inl (hw _ (List.mem_of_getElem? (i := 10) rfl))) Via.refl e0 S8 (g := (mkF m 1 #[oR w9, oD x, .second, oD y, .second, .unset, .unset] [(.ref w9)])) rfl (hb hby d1_1)
  refine own_by stT1 ?_
  show own_Go p e below _ T1 (mkF m 4 #[oR w9, oD x, .second, oD y, .second, .unset, .unset] [(.ref w8), (.ref w9)])
  refine own_by (fun t_ k_ => Jvm.RoadKit.acmp (g := (mkF m 4 #[oR w9, oD x, .second, oD y, .second, .unset, .unset] [(.ref w8), (.ref w9)])) XT1 hx rfl rfl rfl (pc0 := 4) (pc' := 15) (same := false) rfl (hb hby d1_4) rfl (decide_eq_false fun q => ((F9.ne F8 (by decide))) (Value.ref.inj q)) (by decide) (by decide) k_) ?_
  show own_Go p e below _ T1 (mkF m 15 #[oR w9, oD x, .second, oD y, .second, .unset, .unset] [])
  refine own_by (fun t_ k_ => XS.aloadN XT1.here hx rfl (hb hby d1_15) rfl rfl  k_) ?_
  show own_Go p e below _ T1 (mkF m 16 #[oR w9, oD x, .second, oD y, .second, .unset, .unset] [(.ref w9)])
  obtain ⟨T2, XT2, eT2, stT2⟩ := getS2 XT1 hx hZ hown (host := "") (Or.inl (hw _ (List.mem_of_getElem? (i := 13) rfl))) Via.refl eT1 S9 (g := (mkF m 16 #[oR w9, oD x, .second, oD y, .second, .unset, .unset] [(.ref w9)])) rfl (hb hby d1_16)
  refine own_by stT2 ?_
  show own_Go p e below _ T2 (mkF m 19 #[oR w9, oD x, .second, oD y, .second, .unset, .unset] [(.ref w9), (.ref w9)])
  refine own_by (fun t_ k_ => Jvm.RoadKit.acmp (g := (mkF m 19 #[oR w9, oD x, .second, oD y, .second, .unset, .unset] [(.ref w9), (.ref w9)])) XT2 hx rfl rfl rfl (pc0 := 19) (pc' := 22) (same := true) rfl (hb hby d1_19) rfl (decide_eq_true (congrArg Value.ref (rfl))) (by decide) (by decide) k_) ?_
  show own_Go p e below _ T2 (mkF m 22 #[oR w9, oD x, .second, oD y, .second, .unset, .unset] [])
  refine own_by (fun t_ k_ => XS.dloadN XT2.here hx rfl (hb hby d1_22) rfl  k_) ?_
  show own_Go p e below _ T2 (mkF m 23 #[oR w9, oD x, .second, oD y, .second, .unset, .unset] [(.double x)])
  refine own_by (fun t_ k_ => XS.dloadN XT2.here hx rfl (hb hby d1_23) rfl  k_) ?_
  show own_Go p e below _ T2 (mkF m 24 #[oR w9, oD x, .second, oD y, .second, .unset, .unset] [(.double y), (.double x)])
  refine own_by (fun t_ k_ => XS.dsubS XT2.here hx rfl (hb hby d1_24) rfl hn rfl k_) ?_
  show own_Go p e below _ T2 (mkF m 25 #[oR w9, oD x, .second, oD y, .second, .unset, .unset] [(.double (FP.dsub x y))])
  refine own_by (fun t_ k_ => XS.dstore XT2.here hx rfl (hb hby d1_25) rfl (l' := #[oR w9, oD x, .second, oD y, .second, oD (FP.dsub x y), .second]) rfl k_) ?_
  show own_Go p e below _ T2 (mkF m 27 #[oR w9, oD x, .second, oD y, .second, oD (FP.dsub x y), .second] [])
  refine own_by (fun t_ k_ => XS.goto XT2.here hx rfl (pc0 := 27) (pc' := 65) rfl (hb hby d1_27) (by decide) (by decide) k_) ?_
  show own_Go p e below _ T2 (mkF m 65 #[oR w9, oD x, .second, oD y, .second, oD (FP.dsub x y), .second] [])
  refine own_by (fun t_ k_ => XS.dload XT2.here hx rfl (hb hby d1_65) rfl  k_) ?_
  show own_Go p e below _ T2 (mkF m 67 #[oR w9, oD x, .second, oD y, .second, oD (FP.dsub x y), .second] [(.double (FP.dsub x y))])
  exact own_retD XT2 hx hlk hret (hb hby d1_67) (by decide) (by decide) (⟨rfl, eT2, rfl⟩)
theorem d1_30 : decode prog_46_method_11_code 30 = .ok (.aload_n 0, 1) := by decide +kernel
theorem d1_31 : decode prog_46_method_11_code 31 = .ok (.getstatic 34, 3) := by decide +kernel
theorem d1_34 : decode prog_46_method_11_code 34 = .ok (.if_acmp .ne 11, 3) := by decide +kernel
theorem d1_37 : decode prog_46_method_11_code 37 = .ok (.dload_n 1, 1) := by decide +kernel
theorem d1_38 : decode prog_46_method_11_code 38 = .ok (.dload_n 3, 1) := by decide +kernel
theorem d1_39 : decode prog_46_method_11_code 39 = .ok (.dmul, 1) := by decide +kernel
theorem d1_40 : decode prog_46_method_11_code 40 = .ok (.dstore 5, 2) := by decide +kernel
theorem d1_42 : decode prog_46_method_11_code 42 = .ok (.goto 23, 3) := by decide +kernel
set_option maxRecDepth 65536 in
set_option maxHeartbeats 40000000 in
theorem own_ar2 (l : Launch) (Z : State) (a0 : Array Value) (hw : ∀ d ∈ tables_1, d.before a0 Z = true) (x y : UInt64) (w8 w9 w10 w11 w12 : Addr) (h0 : Heap) (S : own_S Z h0 w8 w9 w10 w11 w12) (F8 : Fld Z h0 w8 "java/lang/Enum" "ordinal" "I" (.int (8 : Int32))) (F9 : Fld Z h0 w9 "java/lang/Enum" "ordinal" "I" (.int (9 : Int32))) (F10 : Fld Z h0 w10 "java/lang/Enum" "ordinal" "I" (.int (10 : Int32))) (F11 : Fld Z h0 w11 "java/lang/Enum" "ordinal" "I" (.int (11 : Int32))) (F12 : Fld Z h0 w12 "java/lang/Enum" "ordinal" "I" (.int (12 : Int32))) (hn : Jvm.Free.Fl.NoNaN64 (FP.dmul x y)) :
    own_Met l (⟨"com/example/focus_crawl/focuscrawl/crawl/page/XPathExpr$Operator", "arithmetic", "(DD)D"⟩ : MethodName) prog_46_method_11_code 7 (some .double) [] ({ frames := 0, cells := 0, slots := 0, locals := 0 } : Room) Z #[(.ref w10), (.double x), (.double y)] h0 (fun v h L => v = some (.double (FP.dmul x y)) ∧ h = h0 ∧ L = []) := by
  obtain ⟨S8, S9, S10, S11, S12⟩ := S
  refine own_enter (plainFor_of_name pn_0) ?_
  intro p e s m below meth c T0 hx hby hml hret hlk hown hnm hZ X0 e0
  refine own_at (g' := (mkF m 0 #[oR w10, oD x, .second, oD y, .second, .unset, .unset] [])) (by first | (simp [entryFrame, mkF, argsToLocals, Value.category]; done) | rfl) ?_
  show own_Go p e below _ T0 (mkF m 0 #[oR w10, oD x, .second, oD y, .second, .unset, .unset] [])
  refine own_by (fun t_ k_ => XS.aloadN X0.here hx rfl (hb hby d1_0) rfl rfl  k_) ?_
  show own_Go p e below _ T0 (mkF m 1 #[oR w10, oD x, .second, oD y, .second, .unset, .unset] [(.ref w10)])
  obtain ⟨T1, XT1, eT1, stT1⟩ := getS2 X0 hx hZ hown (host := "") (Or.inl (hw _ (List.mem_of_getElem? (i := 10) rfl))) Via.refl e0 S8 (g := (mkF m 1 #[oR w10, oD x, .second, oD y, .second, .unset, .unset] [(.ref w10)])) rfl (hb hby d1_1)
  refine own_by stT1 ?_
  show own_Go p e below _ T1 (mkF m 4 #[oR w10, oD x, .second, oD y, .second, .unset, .unset] [(.ref w8), (.ref w10)])
  refine own_by (fun t_ k_ => Jvm.RoadKit.acmp (g := (mkF m 4 #[oR w10, oD x, .second, oD y, .second, .unset, .unset] [(.ref w8), (.ref w10)])) XT1 hx rfl rfl rfl (pc0 := 4) (pc' := 15) (same := false) rfl (hb hby d1_4) rfl (decide_eq_false fun q => ((F10.ne F8 (by decide))) (Value.ref.inj q)) (by decide) (by decide) k_) ?_
  show own_Go p e below _ T1 (mkF m 15 #[oR w10, oD x, .second, oD y, .second, .unset, .unset] [])
  refine own_by (fun t_ k_ => XS.aloadN XT1.here hx rfl (hb hby d1_15) rfl rfl  k_) ?_
  show own_Go p e below _ T1 (mkF m 16 #[oR w10, oD x, .second, oD y, .second, .unset, .unset] [(.ref w10)])
  obtain ⟨T2, XT2, eT2, stT2⟩ := getS2 XT1 hx hZ hown (host := "") (Or.inl (hw _ (List.mem_of_getElem? (i := 13) rfl))) Via.refl eT1 S9 (g := (mkF m 16 #[oR w10, oD x, .second, oD y, .second, .unset, .unset] [(.ref w10)])) rfl (hb hby d1_16)
  refine own_by stT2 ?_
  show own_Go p e below _ T2 (mkF m 19 #[oR w10, oD x, .second, oD y, .second, .unset, .unset] [(.ref w9), (.ref w10)])
  refine own_by (fun t_ k_ => Jvm.RoadKit.acmp (g := (mkF m 19 #[oR w10, oD x, .second, oD y, .second, .unset, .unset] [(.ref w9), (.ref w10)])) XT2 hx rfl rfl rfl (pc0 := 19) (pc' := 30) (same := false) rfl (hb hby d1_19) rfl (decide_eq_false fun q => ((F10.ne F9 (by decide))) (Value.ref.inj q)) (by decide) (by decide) k_) ?_
  show own_Go p e below _ T2 (mkF m 30 #[oR w10, oD x, .second, oD y, .second, .unset, .unset] [])
  refine own_by (fun t_ k_ => XS.aloadN XT2.here hx rfl (hb hby d1_30) rfl rfl  k_) ?_
  show own_Go p e below _ T2 (mkF m 31 #[oR w10, oD x, .second, oD y, .second, .unset, .unset] [(.ref w10)])
  obtain ⟨T3, XT3, eT3, stT3⟩ := getS2 XT2 hx hZ hown (host := "") (Or.inl (hw _ (List.mem_of_getElem? (i := 16) rfl))) Via.refl eT2 S10 (g := (mkF m 31 #[oR w10, oD x, .second, oD y, .second, .unset, .unset] [(.ref w10)])) rfl (hb hby d1_31)
  refine own_by stT3 ?_
  show own_Go p e below _ T3 (mkF m 34 #[oR w10, oD x, .second, oD y, .second, .unset, .unset] [(.ref w10), (.ref w10)])
  refine own_by (fun t_ k_ => Jvm.RoadKit.acmp (g := (mkF m 34 #[oR w10, oD x, .second, oD y, .second, .unset, .unset] [(.ref w10), (.ref w10)])) XT3 hx rfl rfl rfl (pc0 := 34) (pc' := 37) (same := true) rfl (hb hby d1_34) rfl (decide_eq_true (congrArg Value.ref (rfl))) (by decide) (by decide) k_) ?_
  show own_Go p e below _ T3 (mkF m 37 #[oR w10, oD x, .second, oD y, .second, .unset, .unset] [])
  refine own_by (fun t_ k_ => XS.dloadN XT3.here hx rfl (hb hby d1_37) rfl  k_) ?_
  show own_Go p e below _ T3 (mkF m 38 #[oR w10, oD x, .second, oD y, .second, .unset, .unset] [(.double x)])
  refine own_by (fun t_ k_ => XS.dloadN XT3.here hx rfl (hb hby d1_38) rfl  k_) ?_
  show own_Go p e below _ T3 (mkF m 39 #[oR w10, oD x, .second, oD y, .second, .unset, .unset] [(.double y), (.double x)])
  refine own_by (fun t_ k_ => XS.dmulS XT3.here hx rfl (hb hby d1_39) rfl hn rfl k_) ?_
  show own_Go p e below _ T3 (mkF m 40 #[oR w10, oD x, .second, oD y, .second, .unset, .unset] [(.double (FP.dmul x y))])
  refine own_by (fun t_ k_ => XS.dstore XT3.here hx rfl (hb hby d1_40) rfl (l' := #[oR w10, oD x, .second, oD y, .second, oD (FP.dmul x y), .second]) rfl k_) ?_
  show own_Go p e below _ T3 (mkF m 42 #[oR w10, oD x, .second, oD y, .second, oD (FP.dmul x y), .second] [])
  refine own_by (fun t_ k_ => XS.goto XT3.here hx rfl (pc0 := 42) (pc' := 65) rfl (hb hby d1_42) (by decide) (by decide) k_) ?_
  show own_Go p e below _ T3 (mkF m 65 #[oR w10, oD x, .second, oD y, .second, oD (FP.dmul x y), .second] [])
  refine own_by (fun t_ k_ => XS.dload XT3.here hx rfl (hb hby d1_65) rfl  k_) ?_
  show own_Go p e below _ T3 (mkF m 67 #[oR w10, oD x, .second, oD y, .second, oD (FP.dmul x y), .second] [(.double (FP.dmul x y))])
  exact own_retD XT3 hx hlk hret (hb hby d1_67) (by decide) (by decide) (⟨rfl, eT3, rfl⟩)
theorem d1_45 : decode prog_46_method_11_code 45 = .ok (.aload_n 0, 1) := by decide +kernel
theorem d1_46 : decode prog_46_method_11_code 46 = .ok (.getstatic 37, 3) := by decide +kernel
theorem d1_49 : decode prog_46_method_11_code 49 = .ok (.if_acmp .ne 11, 3) := by decide +kernel
theorem d1_52 : decode prog_46_method_11_code 52 = .ok (.dload_n 1, 1) := by decide +kernel
theorem d1_53 : decode prog_46_method_11_code 53 = .ok (.dload_n 3, 1) := by decide +kernel
theorem d1_54 : decode prog_46_method_11_code 54 = .ok (.ddiv, 1) := by decide +kernel
theorem d1_55 : decode prog_46_method_11_code 55 = .ok (.dstore 5, 2) := by decide +kernel
theorem d1_57 : decode prog_46_method_11_code 57 = .ok (.goto 8, 3) := by decide +kernel
set_option maxRecDepth 65536 in
set_option maxHeartbeats 40000000 in
theorem own_ar3 (l : Launch) (Z : State) (a0 : Array Value) (hw : ∀ d ∈ tables_1, d.before a0 Z = true) (x y : UInt64) (w8 w9 w10 w11 w12 : Addr) (h0 : Heap) (S : own_S Z h0 w8 w9 w10 w11 w12) (F8 : Fld Z h0 w8 "java/lang/Enum" "ordinal" "I" (.int (8 : Int32))) (F9 : Fld Z h0 w9 "java/lang/Enum" "ordinal" "I" (.int (9 : Int32))) (F10 : Fld Z h0 w10 "java/lang/Enum" "ordinal" "I" (.int (10 : Int32))) (F11 : Fld Z h0 w11 "java/lang/Enum" "ordinal" "I" (.int (11 : Int32))) (F12 : Fld Z h0 w12 "java/lang/Enum" "ordinal" "I" (.int (12 : Int32))) (hn : Jvm.Free.Fl.NoNaN64 (FP.ddiv x y)) :
    own_Met l (⟨"com/example/focus_crawl/focuscrawl/crawl/page/XPathExpr$Operator", "arithmetic", "(DD)D"⟩ : MethodName) prog_46_method_11_code 7 (some .double) [] ({ frames := 0, cells := 0, slots := 0, locals := 0 } : Room) Z #[(.ref w11), (.double x), (.double y)] h0 (fun v h L => v = some (.double (FP.ddiv x y)) ∧ h = h0 ∧ L = []) := by
  obtain ⟨S8, S9, S10, S11, S12⟩ := S
  refine own_enter (plainFor_of_name pn_0) ?_
  intro p e s m below meth c T0 hx hby hml hret hlk hown hnm hZ X0 e0
  refine own_at (g' := (mkF m 0 #[oR w11, oD x, .second, oD y, .second, .unset, .unset] [])) (by first | (simp [entryFrame, mkF, argsToLocals, Value.category]; done) | rfl) ?_
  show own_Go p e below _ T0 (mkF m 0 #[oR w11, oD x, .second, oD y, .second, .unset, .unset] [])
  refine own_by (fun t_ k_ => XS.aloadN X0.here hx rfl (hb hby d1_0) rfl rfl  k_) ?_
  show own_Go p e below _ T0 (mkF m 1 #[oR w11, oD x, .second, oD y, .second, .unset, .unset] [(.ref w11)])
  obtain ⟨T1, XT1, eT1, stT1⟩ := getS2 X0 hx hZ hown (host := "") (Or.inl (hw _ (List.mem_of_getElem? (i := 10) rfl))) Via.refl e0 S8 (g := (mkF m 1 #[oR w11, oD x, .second, oD y, .second, .unset, .unset] [(.ref w11)])) rfl (hb hby d1_1)
  refine own_by stT1 ?_
  show own_Go p e below _ T1 (mkF m 4 #[oR w11, oD x, .second, oD y, .second, .unset, .unset] [(.ref w8), (.ref w11)])
  refine own_by (fun t_ k_ => Jvm.RoadKit.acmp (g := (mkF m 4 #[oR w11, oD x, .second, oD y, .second, .unset, .unset] [(.ref w8), (.ref w11)])) XT1 hx rfl rfl rfl (pc0 := 4) (pc' := 15) (same := false) rfl (hb hby d1_4) rfl (decide_eq_false fun q => ((F11.ne F8 (by decide))) (Value.ref.inj q)) (by decide) (by decide) k_) ?_
  show own_Go p e below _ T1 (mkF m 15 #[oR w11, oD x, .second, oD y, .second, .unset, .unset] [])
  refine own_by (fun t_ k_ => XS.aloadN XT1.here hx rfl (hb hby d1_15) rfl rfl  k_) ?_
  show own_Go p e below _ T1 (mkF m 16 #[oR w11, oD x, .second, oD y, .second, .unset, .unset] [(.ref w11)])
  obtain ⟨T2, XT2, eT2, stT2⟩ := getS2 XT1 hx hZ hown (host := "") (Or.inl (hw _ (List.mem_of_getElem? (i := 13) rfl))) Via.refl eT1 S9 (g := (mkF m 16 #[oR w11, oD x, .second, oD y, .second, .unset, .unset] [(.ref w11)])) rfl (hb hby d1_16)
  refine own_by stT2 ?_
  show own_Go p e below _ T2 (mkF m 19 #[oR w11, oD x, .second, oD y, .second, .unset, .unset] [(.ref w9), (.ref w11)])
  refine own_by (fun t_ k_ => Jvm.RoadKit.acmp (g := (mkF m 19 #[oR w11, oD x, .second, oD y, .second, .unset, .unset] [(.ref w9), (.ref w11)])) XT2 hx rfl rfl rfl (pc0 := 19) (pc' := 30) (same := false) rfl (hb hby d1_19) rfl (decide_eq_false fun q => ((F11.ne F9 (by decide))) (Value.ref.inj q)) (by decide) (by decide) k_) ?_
  show own_Go p e below _ T2 (mkF m 30 #[oR w11, oD x, .second, oD y, .second, .unset, .unset] [])
  refine own_by (fun t_ k_ => XS.aloadN XT2.here hx rfl (hb hby d1_30) rfl rfl  k_) ?_
  show own_Go p e below _ T2 (mkF m 31 #[oR w11, oD x, .second, oD y, .second, .unset, .unset] [(.ref w11)])
  obtain ⟨T3, XT3, eT3, stT3⟩ := getS2 XT2 hx hZ hown (host := "") (Or.inl (hw _ (List.mem_of_getElem? (i := 16) rfl))) Via.refl eT2 S10 (g := (mkF m 31 #[oR w11, oD x, .second, oD y, .second, .unset, .unset] [(.ref w11)])) rfl (hb hby d1_31)
  refine own_by stT3 ?_
  show own_Go p e below _ T3 (mkF m 34 #[oR w11, oD x, .second, oD y, .second, .unset, .unset] [(.ref w10), (.ref w11)])
  refine own_by (fun t_ k_ => Jvm.RoadKit.acmp (g := (mkF m 34 #[oR w11, oD x, .second, oD y, .second, .unset, .unset] [(.ref w10), (.ref w11)])) XT3 hx rfl rfl rfl (pc0 := 34) (pc' := 45) (same := false) rfl (hb hby d1_34) rfl (decide_eq_false fun q => ((F11.ne F10 (by decide))) (Value.ref.inj q)) (by decide) (by decide) k_) ?_
  show own_Go p e below _ T3 (mkF m 45 #[oR w11, oD x, .second, oD y, .second, .unset, .unset] [])
  refine own_by (fun t_ k_ => XS.aloadN XT3.here hx rfl (hb hby d1_45) rfl rfl  k_) ?_
  show own_Go p e below _ T3 (mkF m 46 #[oR w11, oD x, .second, oD y, .second, .unset, .unset] [(.ref w11)])
  obtain ⟨T4, XT4, eT4, stT4⟩ := getS2 XT3 hx hZ hown (host := "") (Or.inl (hw _ (List.mem_of_getElem? (i := 18) rfl))) Via.refl eT3 S11 (g := (mkF m 46 #[oR w11, oD x, .second, oD y, .second, .unset, .unset] [(.ref w11)])) rfl (hb hby d1_46)
  refine own_by stT4 ?_
  show own_Go p e below _ T4 (mkF m 49 #[oR w11, oD x, .second, oD y, .second, .unset, .unset] [(.ref w11), (.ref w11)])
  refine own_by (fun t_ k_ => Jvm.RoadKit.acmp (g := (mkF m 49 #[oR w11, oD x, .second, oD y, .second, .unset, .unset] [(.ref w11), (.ref w11)])) XT4 hx rfl rfl rfl (pc0 := 49) (pc' := 52) (same := true) rfl (hb hby d1_49) rfl (decide_eq_true (congrArg Value.ref (rfl))) (by decide) (by decide) k_) ?_
  show own_Go p e below _ T4 (mkF m 52 #[oR w11, oD x, .second, oD y, .second, .unset, .unset] [])
  refine own_by (fun t_ k_ => XS.dloadN XT4.here hx rfl (hb hby d1_52) rfl  k_) ?_
  show own_Go p e below _ T4 (mkF m 53 #[oR w11, oD x, .second, oD y, .second, .unset, .unset] [(.double x)])
  refine own_by (fun t_ k_ => XS.dloadN XT4.here hx rfl (hb hby d1_53) rfl  k_) ?_
  show own_Go p e below _ T4 (mkF m 54 #[oR w11, oD x, .second, oD y, .second, .unset, .unset] [(.double y), (.double x)])
  refine own_by (fun t_ k_ => XS.ddivS XT4.here hx rfl (hb hby d1_54) rfl hn rfl k_) ?_
  show own_Go p e below _ T4 (mkF m 55 #[oR w11, oD x, .second, oD y, .second, .unset, .unset] [(.double (FP.ddiv x y))])
  refine own_by (fun t_ k_ => XS.dstore XT4.here hx rfl (hb hby d1_55) rfl (l' := #[oR w11, oD x, .second, oD y, .second, oD (FP.ddiv x y), .second]) rfl k_) ?_
  show own_Go p e below _ T4 (mkF m 57 #[oR w11, oD x, .second, oD y, .second, oD (FP.ddiv x y), .second] [])
  refine own_by (fun t_ k_ => XS.goto XT4.here hx rfl (pc0 := 57) (pc' := 65) rfl (hb hby d1_57) (by decide) (by decide) k_) ?_
  show own_Go p e below _ T4 (mkF m 65 #[oR w11, oD x, .second, oD y, .second, oD (FP.ddiv x y), .second] [])
  refine own_by (fun t_ k_ => XS.dload XT4.here hx rfl (hb hby d1_65) rfl  k_) ?_
  show own_Go p e below _ T4 (mkF m 67 #[oR w11, oD x, .second, oD y, .second, oD (FP.ddiv x y), .second] [(.double (FP.ddiv x y))])
  exact own_retD XT4 hx hlk hret (hb hby d1_67) (by decide) (by decide) (⟨rfl, eT4, rfl⟩)
theorem d1_60 : decode prog_46_method_11_code 60 = .ok (.dload_n 1, 1) := by decide +kernel
theorem d1_61 : decode prog_46_method_11_code 61 = .ok (.dload_n 3, 1) := by decide +kernel
theorem d1_62 : decode prog_46_method_11_code 62 = .ok (.drem, 1) := by decide +kernel
theorem d1_63 : decode prog_46_method_11_code 63 = .ok (.dstore 5, 2) := by decide +kernel
set_option maxRecDepth 65536 in
set_option maxHeartbeats 40000000 in
theorem own_ar4 (l : Launch) (Z : State) (a0 : Array Value) (hw : ∀ d ∈ tables_1, d.before a0 Z = true) (x y : UInt64) (w8 w9 w10 w11 w12 : Addr) (h0 : Heap) (S : own_S Z h0 w8 w9 w10 w11 w12) (F8 : Fld Z h0 w8 "java/lang/Enum" "ordinal" "I" (.int (8 : Int32))) (F9 : Fld Z h0 w9 "java/lang/Enum" "ordinal" "I" (.int (9 : Int32))) (F10 : Fld Z h0 w10 "java/lang/Enum" "ordinal" "I" (.int (10 : Int32))) (F11 : Fld Z h0 w11 "java/lang/Enum" "ordinal" "I" (.int (11 : Int32))) (F12 : Fld Z h0 w12 "java/lang/Enum" "ordinal" "I" (.int (12 : Int32))) (hn : Jvm.Free.Fl.NoNaN64 (FP.drem x y)) :
    own_Met l (⟨"com/example/focus_crawl/focuscrawl/crawl/page/XPathExpr$Operator", "arithmetic", "(DD)D"⟩ : MethodName) prog_46_method_11_code 7 (some .double) [] ({ frames := 0, cells := 0, slots := 0, locals := 0 } : Room) Z #[(.ref w12), (.double x), (.double y)] h0 (fun v h L => v = some (.double (FP.drem x y)) ∧ h = h0 ∧ L = []) := by
  obtain ⟨S8, S9, S10, S11, S12⟩ := S
  refine own_enter (plainFor_of_name pn_0) ?_
  intro p e s m below meth c T0 hx hby hml hret hlk hown hnm hZ X0 e0
  refine own_at (g' := (mkF m 0 #[oR w12, oD x, .second, oD y, .second, .unset, .unset] [])) (by first | (simp [entryFrame, mkF, argsToLocals, Value.category]; done) | rfl) ?_
  show own_Go p e below _ T0 (mkF m 0 #[oR w12, oD x, .second, oD y, .second, .unset, .unset] [])
  refine own_by (fun t_ k_ => XS.aloadN X0.here hx rfl (hb hby d1_0) rfl rfl  k_) ?_
  show own_Go p e below _ T0 (mkF m 1 #[oR w12, oD x, .second, oD y, .second, .unset, .unset] [(.ref w12)])
  obtain ⟨T1, XT1, eT1, stT1⟩ := getS2 X0 hx hZ hown (host := "") (Or.inl (hw _ (List.mem_of_getElem? (i := 10) rfl))) Via.refl e0 S8 (g := (mkF m 1 #[oR w12, oD x, .second, oD y, .second, .unset, .unset] [(.ref w12)])) rfl (hb hby d1_1)
  refine own_by stT1 ?_
  show own_Go p e below _ T1 (mkF m 4 #[oR w12, oD x, .second, oD y, .second, .unset, .unset] [(.ref w8), (.ref w12)])
  refine own_by (fun t_ k_ => Jvm.RoadKit.acmp (g := (mkF m 4 #[oR w12, oD x, .second, oD y, .second, .unset, .unset] [(.ref w8), (.ref w12)])) XT1 hx rfl rfl rfl (pc0 := 4) (pc' := 15) (same := false) rfl (hb hby d1_4) rfl (decide_eq_false fun q => ((F12.ne F8 (by decide))) (Value.ref.inj q)) (by decide) (by decide) k_) ?_
  show own_Go p e below _ T1 (mkF m 15 #[oR w12, oD x, .second, oD y, .second, .unset, .unset] [])
  refine own_by (fun t_ k_ => XS.aloadN XT1.here hx rfl (hb hby d1_15) rfl rfl  k_) ?_
  show own_Go p e below _ T1 (mkF m 16 #[oR w12, oD x, .second, oD y, .second, .unset, .unset] [(.ref w12)])
  obtain ⟨T2, XT2, eT2, stT2⟩ := getS2 XT1 hx hZ hown (host := "") (Or.inl (hw _ (List.mem_of_getElem? (i := 13) rfl))) Via.refl eT1 S9 (g := (mkF m 16 #[oR w12, oD x, .second, oD y, .second, .unset, .unset] [(.ref w12)])) rfl (hb hby d1_16)
  refine own_by stT2 ?_
  show own_Go p e below _ T2 (mkF m 19 #[oR w12, oD x, .second, oD y, .second, .unset, .unset] [(.ref w9), (.ref w12)])
  refine own_by (fun t_ k_ => Jvm.RoadKit.acmp (g := (mkF m 19 #[oR w12, oD x, .second, oD y, .second, .unset, .unset] [(.ref w9), (.ref w12)])) XT2 hx rfl rfl rfl (pc0 := 19) (pc' := 30) (same := false) rfl (hb hby d1_19) rfl (decide_eq_false fun q => ((F12.ne F9 (by decide))) (Value.ref.inj q)) (by decide) (by decide) k_) ?_
  show own_Go p e below _ T2 (mkF m 30 #[oR w12, oD x, .second, oD y, .second, .unset, .unset] [])
  refine own_by (fun t_ k_ => XS.aloadN XT2.here hx rfl (hb hby d1_30) rfl rfl  k_) ?_
  show own_Go p e below _ T2 (mkF m 31 #[oR w12, oD x, .second, oD y, .second, .unset, .unset] [(.ref w12)])
  obtain ⟨T3, XT3, eT3, stT3⟩ := getS2 XT2 hx hZ hown (host := "") (Or.inl (hw _ (List.mem_of_getElem? (i := 16) rfl))) Via.refl eT2 S10 (g := (mkF m 31 #[oR w12, oD x, .second, oD y, .second, .unset, .unset] [(.ref w12)])) rfl (hb hby d1_31)
  refine own_by stT3 ?_
  show own_Go p e below _ T3 (mkF m 34 #[oR w12, oD x, .second, oD y, .second, .unset, .unset] [(.ref w10), (.ref w12)])
  refine own_by (fun t_ k_ => Jvm.RoadKit.acmp (g := (mkF m 34 #[oR w12, oD x, .second, oD y, .second, .unset, .unset] [(.ref w10), (.ref w12)])) XT3 hx rfl rfl rfl (pc0 := 34) (pc' := 45) (same := false) rfl (hb hby d1_34) rfl (decide_eq_false fun q => ((F12.ne F10 (by decide))) (Value.ref.inj q)) (by decide) (by decide) k_) ?_
  show own_Go p e below _ T3 (mkF m 45 #[oR w12, oD x, .second, oD y, .second, .unset, .unset] [])
  refine own_by (fun t_ k_ => XS.aloadN XT3.here hx rfl (hb hby d1_45) rfl rfl  k_) ?_
  show own_Go p e below _ T3 (mkF m 46 #[oR w12, oD x, .second, oD y, .second, .unset, .unset] [(.ref w12)])
  obtain ⟨T4, XT4, eT4, stT4⟩ := getS2 XT3 hx hZ hown (host := "") (Or.inl (hw _ (List.mem_of_getElem? (i := 18) rfl))) Via.refl eT3 S11 (g := (mkF m 46 #[oR w12, oD x, .second, oD y, .second, .unset, .unset] [(.ref w12)])) rfl (hb hby d1_46)
  refine own_by stT4 ?_
  show own_Go p e below _ T4 (mkF m 49 #[oR w12, oD x, .second, oD y, .second, .unset, .unset] [(.ref w11), (.ref w12)])
  refine own_by (fun t_ k_ => Jvm.RoadKit.acmp (g := (mkF m 49 #[oR w12, oD x, .second, oD y, .second, .unset, .unset] [(.ref w11), (.ref w12)])) XT4 hx rfl rfl rfl (pc0 := 49) (pc' := 60) (same := false) rfl (hb hby d1_49) rfl (decide_eq_false fun q => ((F12.ne F11 (by decide))) (Value.ref.inj q)) (by decide) (by decide) k_) ?_
  show own_Go p e below _ T4 (mkF m 60 #[oR w12, oD x, .second, oD y, .second, .unset, .unset] [])
  refine own_by (fun t_ k_ => XS.dloadN XT4.here hx rfl (hb hby d1_60) rfl  k_) ?_
  show own_Go p e below _ T4 (mkF m 61 #[oR w12, oD x, .second, oD y, .second, .unset, .unset] [(.double x)])
  refine own_by (fun t_ k_ => XS.dloadN XT4.here hx rfl (hb hby d1_61) rfl  k_) ?_
  show own_Go p e below _ T4 (mkF m 62 #[oR w12, oD x, .second, oD y, .second, .unset, .unset] [(.double y), (.double x)])
  refine own_by (fun t_ k_ => own_drem XT4.here hx rfl (hb hby d1_62) rfl hn k_) ?_
  show own_Go p e below _ T4 (mkF m 63 #[oR w12, oD x, .second, oD y, .second, .unset, .unset] [(.double (FP.drem x y))])
  refine own_by (fun t_ k_ => XS.dstore XT4.here hx rfl (hb hby d1_63) rfl (l' := #[oR w12, oD x, .second, oD y, .second, oD (FP.drem x y), .second]) rfl k_) ?_
  show own_Go p e below _ T4 (mkF m 65 #[oR w12, oD x, .second, oD y, .second, oD (FP.drem x y), .second] [])
  refine own_by (fun t_ k_ => XS.dload XT4.here hx rfl (hb hby d1_65) rfl  k_) ?_
  show own_Go p e below _ T4 (mkF m 67 #[oR w12, oD x, .second, oD y, .second, oD (FP.drem x y), .second] [(.double (FP.drem x y))])
  exact own_retD XT4 hx hlk hret (hb hby d1_67) (by decide) (by decide) (⟨rfl, eT4, rfl⟩)
theorem own_prod21 (x d : Int32) : -2251799813685248 ≤ (x >>> ((11 : Int32) &&& 31)).toInt * d.toInt ∧ (x >>> ((11 : Int32) &&& 31)).toInt * d.toInt ≤ 2251799813685248 ∧ -1048576 ≤ (x >>> ((11 : Int32) &&& 31)).toInt ∧ (x >>> ((11 : Int32) &&& 31)).toInt ≤ 1048576 := by
  have h := c_ishr x 11 11 (by decide)
  have h2 := rng32 x
  have h3 := rng32 d
  have b1 : -1048576 ≤ (x >>> ((11 : Int32) &&& 31)).toInt := by omega
  have b2 : (x >>> ((11 : Int32) &&& 31)).toInt ≤ 1048576 := by omega
  have m := mc (a := (x >>> ((11 : Int32) &&& 31)).toInt) (b := d.toInt) (l1 := -1048576) (h1 := 1048576) (l2 := -2147483648) (h2 := 2147483648) b1 b2 h3.1 (by omega)
  generalize (x >>> ((11 : Int32) &&& 31)).toInt * d.toInt = P at m ⊢
  omega
theorem pn_1 : plainName "com/example/focus_crawl/focuscrawl/crawl/page/OperatorArithmeticPinLaw" = true := by first | (simp [plainName, overriddenIn]; done) | decide +kernel
theorem pd_0 : parseMethodDescriptor "(DD)D" = some ⟨[.double, .double], some .double⟩ := by decide +kernel
set_option maxRecDepth 65536 in
set_option maxHeartbeats 40000000 in
theorem own_law (l : Launch) (Z : State) (a0 : Array Value) (hw : ∀ d ∈ tables_1, d.before a0 Z = true) (i0 i1 i2 : Int32) (w8 w9 w10 w11 w12 : Addr) (h0 : Heap) (S : own_S Z h0 w8 w9 w10 w11 w12) (E8 : Exa Z h0 w8 "com/example/focus_crawl/focuscrawl/crawl/page/XPathExpr$Operator") (E9 : Exa Z h0 w9 "com/example/focus_crawl/focuscrawl/crawl/page/XPathExpr$Operator") (E10 : Exa Z h0 w10 "com/example/focus_crawl/focuscrawl/crawl/page/XPathExpr$Operator") (E11 : Exa Z h0 w11 "com/example/focus_crawl/focuscrawl/crawl/page/XPathExpr$Operator") (E12 : Exa Z h0 w12 "com/example/focus_crawl/focuscrawl/crawl/page/XPathExpr$Operator") (F8 : Fld Z h0 w8 "java/lang/Enum" "ordinal" "I" (.int (8 : Int32))) (F9 : Fld Z h0 w9 "java/lang/Enum" "ordinal" "I" (.int (9 : Int32))) (F10 : Fld Z h0 w10 "java/lang/Enum" "ordinal" "I" (.int (10 : Int32))) (F11 : Fld Z h0 w11 "java/lang/Enum" "ordinal" "I" (.int (11 : Int32))) (F12 : Fld Z h0 w12 "java/lang/Enum" "ordinal" "I" (.int (12 : Int32))) :
    own_Met l x code maxLocals ret tables_1 room_1 Z #[(.int i0), (.int i1), (.int i2)] h0 (fun v h L => v = some (.int (1 : Int32)) ∧ h = h0 ∧ L = []) := by
  have S_ := S; obtain ⟨S8, S9, S10, S11, S12⟩ := S
  refine own_enter (plainFor_of_name pn_1) ?_
  intro p e s m below meth c T0 hx hby hml hret hlk hown hnm hZ X0 e0
  refine own_at (g' := (mkF m 0 #[oI i0, oI i1, oI i2, .unset, .unset, .unset, .unset, .unset, .unset, .unset, .unset, .unset, .unset, .unset] [])) (by first | (simp [entryFrame, mkF, argsToLocals, Value.category, maxLocals]; done) | rfl) ?_
  show own_Go p e below _ T0 (mkF m 0 #[oI i0, oI i1, oI i2, .unset, .unset, .unset, .unset, .unset, .unset, .unset, .unset, .unset, .unset, .unset] [])
  rcases own_rem5 i0 with hk | hk | hk | hk | hk
  · refine own_by (fun t_ k_ => XS.iloadN X0.here hx rfl (hb hby at_0) rfl  k_) ?_
    show own_Go p e below _ T0 (mkF m 1 #[oI i0, oI i1, oI i2, .unset, .unset, .unset, .unset, .unset, .unset, .unset, .unset, .unset, .unset, .unset] [(.int i0)])
    refine own_by (fun t_ k_ => X0.ldcI hx hown (mvT hZ (hw _ (List.mem_of_getElem? (i := 0) rfl))) rfl (hb hby at_1) k_) ?_
    show own_Go p e below _ T0 (mkF m 3 #[oI i0, oI i1, oI i2, .unset, .unset, .unset, .unset, .unset, .unset, .unset, .unset, .unset, .unset, .unset] [(.int (2147483647 : Int32)), (.int i0)])
    refine own_by (fun t_ k_ => XS.iand X0.here hx rfl (hb hby at_3) rfl k_) ?_
    show own_Go p e below _ T0 (mkF m 4 #[oI i0, oI i1, oI i2, .unset, .unset, .unset, .unset, .unset, .unset, .unset, .unset, .unset, .unset, .unset] [(.int (i0 &&& (2147483647 : Int32)))])
    refine own_by (fun t_ k_ => XT.iconstV X0.here hx rfl (5 : Int32) (hb hby at_4) (by decide) k_) ?_
    show own_Go p e below _ T0 (mkF m 5 #[oI i0, oI i1, oI i2, .unset, .unset, .unset, .unset, .unset, .unset, .unset, .unset, .unset, .unset, .unset] [(.int (5 : Int32)), (.int (i0 &&& (2147483647 : Int32)))])
    refine own_by (fun t_ k_ => iremM X0 hx rfl (hb hby at_5) rfl (by decide) k_) ?_
    show own_Go p e below _ T0 (mkF m 6 #[oI i0, oI i1, oI i2, .unset, .unset, .unset, .unset, .unset, .unset, .unset, .unset, .unset, .unset, .unset] [(.int ((i0 &&& (2147483647 : Int32)) % (5 : Int32)))])
    rw [hk]
    show own_Go p e below _ T0 (mkF m 6 #[oI i0, oI i1, oI i2, .unset, .unset, .unset, .unset, .unset, .unset, .unset, .unset, .unset, .unset, .unset] [(.int (0 : Int32))])
    refine own_by (fun t_ k_ => XS.istoreN X0.here hx rfl (hb hby at_6) rfl (l' := #[oI i0, oI i1, oI i2, oI (0 : Int32), .unset, .unset, .unset, .unset, .unset, .unset, .unset, .unset, .unset, .unset]) rfl k_) ?_
    show own_Go p e below _ T0 (mkF m 7 #[oI i0, oI i1, oI i2, oI (0 : Int32), .unset, .unset, .unset, .unset, .unset, .unset, .unset, .unset, .unset, .unset] [])
    refine own_by (fun t_ k_ => XS.iloadN X0.here hx rfl (hb hby at_7) rfl  k_) ?_
    show own_Go p e below _ T0 (mkF m 8 #[oI i0, oI i1, oI i2, oI (0 : Int32), .unset, .unset, .unset, .unset, .unset, .unset, .unset, .unset, .unset, .unset] [(.int i2)])
    have J : ∀ dd : Int32, ¬ dd = 0 → own_Go p e below (own_K s room_1.cells room_1.slots (fun v h L => v = some (.int (1 : Int32)) ∧ h = h0 ∧ L = [])) T0 (mkF m 16 #[oI i0, oI i1, oI i2, oI (0 : Int32), .unset, .unset, .unset, .unset, .unset, .unset, .unset, .unset, .unset, .unset] [(.int dd)]) := by
      intro dd hd0
      show own_Go p e below _ T0 (mkF m 16 #[oI i0, oI i1, oI i2, oI (0 : Int32), .unset, .unset, .unset, .unset, .unset, .unset, .unset, .unset, .unset, .unset] [(.int dd)])
      refine own_by (fun t_ k_ => XS.istore X0.here hx rfl (hb hby at_16) rfl (l' := #[oI i0, oI i1, oI i2, oI (0 : Int32), oI dd, .unset, .unset, .unset, .unset, .unset, .unset, .unset, .unset, .unset]) rfl k_) ?_
      show own_Go p e below _ T0 (mkF m 18 #[oI i0, oI i1, oI i2, oI (0 : Int32), oI dd, .unset, .unset, .unset, .unset, .unset, .unset, .unset, .unset, .unset] [])
      refine own_by (fun t_ k_ => XS.iloadN X0.here hx rfl (hb hby at_18) rfl  k_) ?_
      show own_Go p e below _ T0 (mkF m 19 #[oI i0, oI i1, oI i2, oI (0 : Int32), oI dd, .unset, .unset, .unset, .unset, .unset, .unset, .unset, .unset, .unset] [(.int (0 : Int32))])
      refine own_by (fun t_ k_ => XS.ifNo X0.here hx rfl (hb hby at_19) rfl (XT.i0_ne_f (by decide)) k_) ?_
      show own_Go p e below _ T0 (mkF m 22 #[oI i0, oI i1, oI i2, oI (0 : Int32), oI dd, .unset, .unset, .unset, .unset, .unset, .unset, .unset, .unset, .unset] [])
      obtain ⟨T1, XT1, eT1, stT1⟩ := getS2 X0 hx hZ hown (host := "") (Or.inl (hw _ (List.mem_of_getElem? (i := 1) rfl))) Via.refl e0 S8 (g := (mkF m 22 #[oI i0, oI i1, oI i2, oI (0 : Int32), oI dd, .unset, .unset, .unset, .unset, .unset, .unset, .unset, .unset, .unset] [])) rfl (hb hby at_22)
      refine own_by stT1 ?_
      show own_Go p e below _ T1 (mkF m 25 #[oI i0, oI i1, oI i2, oI (0 : Int32), oI dd, .unset, .unset, .unset, .unset, .unset, .unset, .unset, .unset, .unset] [(.ref w8)])
      refine own_by (fun t_ k_ => XS.astore XT1.here hx rfl (hb hby at_25) rfl rfl (l' := #[oI i0, oI i1, oI i2, oI (0 : Int32), oI dd, oR w8, .unset, .unset, .unset, .unset, .unset, .unset, .unset, .unset]) rfl k_) ?_
      show own_Go p e below _ T1 (mkF m 27 #[oI i0, oI i1, oI i2, oI (0 : Int32), oI dd, oR w8, .unset, .unset, .unset, .unset, .unset, .unset, .unset, .unset] [])
      refine own_by (fun t_ k_ => XS.iloadN XT1.here hx rfl (hb hby at_27) rfl  k_) ?_
      show own_Go p e below _ T1 (mkF m 28 #[oI i0, oI i1, oI i2, oI (0 : Int32), oI dd, oR w8, .unset, .unset, .unset, .unset, .unset, .unset, .unset, .unset] [(.int i1)])
      refine own_by (fun t_ k_ => XS.i2dS XT1.here hx rfl (hb hby at_28) rfl rfl k_) ?_
      show own_Go p e below _ T1 (mkF m 29 #[oI i0, oI i1, oI i2, oI (0 : Int32), oI dd, oR w8, .unset, .unset, .unset, .unset, .unset, .unset, .unset, .unset] [(.double (FP.i2d i1))])
      have D1 := own_D_i2d i1
      have R1 := rng32 i1
      generalize (FP.i2d i1) = y1 at D1 ⊢
      show own_Go p e below _ T1 (mkF m 29 #[oI i0, oI i1, oI i2, oI (0 : Int32), oI dd, oR w8, .unset, .unset, .unset, .unset, .unset, .unset, .unset, .unset] [(.double y1)])
      refine own_by (fun t_ k_ => XT1.ldc2DoubleC hx hown (mvT hZ (hw _ (List.mem_of_getElem? (i := 4) rfl))) (g := (mkF m 29 #[oI i0, oI i1, oI i2, oI (0 : Int32), oI dd, oR w8, .unset, .unset, .unset, .unset, .unset, .unset, .unset, .unset] [(.double y1)])) rfl (hb hby at_29) t_ k_) ?_
      show own_Go p e below _ T1 (mkF m 32 #[oI i0, oI i1, oI i2, oI (0 : Int32), oI dd, oR w8, .unset, .unset, .unset, .unset, .unset, .unset, .unset, .unset] [(.double (4616189618054758400 : UInt64)), (.double y1)])
      have D2 := own_q4 D1 (by omega)
      refine own_by (fun t_ k_ => XS.ddivS XT1.here hx rfl (hb hby at_32) rfl (own_D_no D2) rfl k_) ?_
      show own_Go p e below _ T1 (mkF m 33 #[oI i0, oI i1, oI i2, oI (0 : Int32), oI dd, oR w8, .unset, .unset, .unset, .unset, .unset, .unset, .unset, .unset] [(.double (FP.ddiv y1 (4616189618054758400 : UInt64)))])
      generalize (FP.ddiv y1 (4616189618054758400 : UInt64)) = x2 at D2 ⊢
      show own_Go p e below _ T1 (mkF m 33 #[oI i0, oI i1, oI i2, oI (0 : Int32), oI dd, oR w8, .unset, .unset, .unset, .unset, .unset, .unset, .unset, .unset] [(.double x2)])
      refine own_by (fun t_ k_ => XS.dstore XT1.here hx rfl (hb hby at_33) rfl (l' := #[oI i0, oI i1, oI i2, oI (0 : Int32), oI dd, oR w8, oD x2, .second, .unset, .unset, .unset, .unset, .unset, .unset]) rfl k_) ?_
      show own_Go p e below _ T1 (mkF m 35 #[oI i0, oI i1, oI i2, oI (0 : Int32), oI dd, oR w8, oD x2, .second, .unset, .unset, .unset, .unset, .unset, .unset] [])
      refine own_by (fun t_ k_ => XS.iloadN XT1.here hx rfl (hb hby at_35) rfl  k_) ?_
      show own_Go p e below _ T1 (mkF m 36 #[oI i0, oI i1, oI i2, oI (0 : Int32), oI dd, oR w8, oD x2, .second, .unset, .unset, .unset, .unset, .unset, .unset] [(.int i2)])
      refine own_by (fun t_ k_ => XS.i2dS XT1.here hx rfl (hb hby at_36) rfl rfl k_) ?_
      show own_Go p e below _ T1 (mkF m 37 #[oI i0, oI i1, oI i2, oI (0 : Int32), oI dd, oR w8, oD x2, .second, .unset, .unset, .unset, .unset, .unset, .unset] [(.double (FP.i2d i2))])
      have D3 := own_D_i2d i2
      have R3 := rng32 i2
      generalize (FP.i2d i2) = y3 at D3 ⊢
      show own_Go p e below _ T1 (mkF m 37 #[oI i0, oI i1, oI i2, oI (0 : Int32), oI dd, oR w8, oD x2, .second, .unset, .unset, .unset, .unset, .unset, .unset] [(.double y3)])
      refine own_by (fun t_ k_ => XT1.ldc2DoubleC hx hown (mvT hZ (hw _ (List.mem_of_getElem? (i := 4) rfl))) (g := (mkF m 37 #[oI i0, oI i1, oI i2, oI (0 : Int32), oI dd, oR w8, oD x2, .second, .unset, .unset, .unset, .unset, .unset, .unset] [(.double y3)])) rfl (hb hby at_37) t_ k_) ?_
      show own_Go p e below _ T1 (mkF m 40 #[oI i0, oI i1, oI i2, oI (0 : Int32), oI dd, oR w8, oD x2, .second, .unset, .unset, .unset, .unset, .unset, .unset] [(.double (4616189618054758400 : UInt64)), (.double y3)])
      have D3 := own_q4 D3 (by omega)
      refine own_by (fun t_ k_ => XS.ddivS XT1.here hx rfl (hb hby at_40) rfl (own_D_no D3) rfl k_) ?_
      show own_Go p e below _ T1 (mkF m 41 #[oI i0, oI i1, oI i2, oI (0 : Int32), oI dd, oR w8, oD x2, .second, .unset, .unset, .unset, .unset, .unset, .unset] [(.double (FP.ddiv y3 (4616189618054758400 : UInt64)))])
      generalize (FP.ddiv y3 (4616189618054758400 : UInt64)) = x4 at D3 ⊢
      show own_Go p e below _ T1 (mkF m 41 #[oI i0, oI i1, oI i2, oI (0 : Int32), oI dd, oR w8, oD x2, .second, .unset, .unset, .unset, .unset, .unset, .unset] [(.double x4)])
      refine own_by (fun t_ k_ => XS.dstore XT1.here hx rfl (hb hby at_41) rfl (l' := #[oI i0, oI i1, oI i2, oI (0 : Int32), oI dd, oR w8, oD x2, .second, oD x4, .second, .unset, .unset, .unset, .unset]) rfl k_) ?_
      show own_Go p e below _ T1 (mkF m 43 #[oI i0, oI i1, oI i2, oI (0 : Int32), oI dd, oR w8, oD x2, .second, oD x4, .second, .unset, .unset, .unset, .unset] [])
      refine own_by (fun t_ k_ => XS.iloadN XT1.here hx rfl (hb hby at_43) rfl  k_) ?_
      show own_Go p e below _ T1 (mkF m 44 #[oI i0, oI i1, oI i2, oI (0 : Int32), oI dd, oR w8, oD x2, .second, oD x4, .second, .unset, .unset, .unset, .unset] [(.int i1)])
      refine own_by (fun t_ k_ => XT.i2l XT1.here hx rfl (hb hby at_44) rfl k_) ?_
      show own_Go p e below _ T1 (mkF m 45 #[oI i0, oI i1, oI i2, oI (0 : Int32), oI dd, oR w8, oD x2, .second, oD x4, .second, .unset, .unset, .unset, .unset] [(.long (i1.toInt64))])
      refine own_by (fun t_ k_ => XS.iloadN XT1.here hx rfl (hb hby at_45) rfl  k_) ?_
      show own_Go p e below _ T1 (mkF m 46 #[oI i0, oI i1, oI i2, oI (0 : Int32), oI dd, oR w8, oD x2, .second, oD x4, .second, .unset, .unset, .unset, .unset] [(.int i2), (.long (i1.toInt64))])
      refine own_by (fun t_ k_ => XT.i2l XT1.here hx rfl (hb hby at_46) rfl k_) ?_
      show own_Go p e below _ T1 (mkF m 47 #[oI i0, oI i1, oI i2, oI (0 : Int32), oI dd, oR w8, oD x2, .second, oD x4, .second, .unset, .unset, .unset, .unset] [(.long (i2.toInt64)), (.long (i1.toInt64))])
      refine own_by (fun t_ k_ => XT.ladd XT1.here hx rfl (hb hby at_47) rfl k_) ?_
      show own_Go p e below _ T1 (mkF m 48 #[oI i0, oI i1, oI i2, oI (0 : Int32), oI dd, oR w8, oD x2, .second, oD x4, .second, .unset, .unset, .unset, .unset] [(.long ((i1.toInt64) + (i2.toInt64)))])
      refine own_by (fun t_ k_ => XS.l2dS XT1.here hx rfl (hb hby at_48) rfl rfl k_) ?_
      show own_Go p e below _ T1 (mkF m 49 #[oI i0, oI i1, oI i2, oI (0 : Int32), oI dd, oR w8, oD x2, .second, oD x4, .second, .unset, .unset, .unset, .unset] [(.double (FP.l2d ((i1.toInt64) + (i2.toInt64))))])
      have R5 := rng32 i1
      have Q5 := rng32 i2
      have U5 := rng32 dd
      have H5 : (((i1.toInt64) + (i2.toInt64))).toInt = i1.toInt + i2.toInt := by
        have a1 := c_i2l i1
        have a2 := c_i2l i2
        have a3 := c_ladd (i1.toInt64) (i2.toInt64)
        have a4 := rng64 ((i1.toInt64) + (i2.toInt64))
        omega
      have D5 := own_D_l2d (a := ((i1.toInt64) + (i2.toInt64))) (by rw [H5]; omega)
      rw [H5] at D5
      generalize (FP.l2d ((i1.toInt64) + (i2.toInt64))) = y5 at D5 ⊢
      show own_Go p e below _ T1 (mkF m 49 #[oI i0, oI i1, oI i2, oI (0 : Int32), oI dd, oR w8, oD x2, .second, oD x4, .second, .unset, .unset, .unset, .unset] [(.double y5)])
      refine own_by (fun t_ k_ => XT1.ldc2DoubleC hx hown (mvT hZ (hw _ (List.mem_of_getElem? (i := 4) rfl))) (g := (mkF m 49 #[oI i0, oI i1, oI i2, oI (0 : Int32), oI dd, oR w8, oD x2, .second, oD x4, .second, .unset, .unset, .unset, .unset] [(.double y5)])) rfl (hb hby at_49) t_ k_) ?_
      show own_Go p e below _ T1 (mkF m 52 #[oI i0, oI i1, oI i2, oI (0 : Int32), oI dd, oR w8, oD x2, .second, oD x4, .second, .unset, .unset, .unset, .unset] [(.double (4616189618054758400 : UInt64)), (.double y5)])
      have D4 := own_q4 D5 (by omega)
      refine own_by (fun t_ k_ => XS.ddivS XT1.here hx rfl (hb hby at_52) rfl (own_D_no D4) rfl k_) ?_
      show own_Go p e below _ T1 (mkF m 53 #[oI i0, oI i1, oI i2, oI (0 : Int32), oI dd, oR w8, oD x2, .second, oD x4, .second, .unset, .unset, .unset, .unset] [(.double (FP.ddiv y5 (4616189618054758400 : UInt64)))])
      generalize (FP.ddiv y5 (4616189618054758400 : UInt64)) = x6 at D4 ⊢
      show own_Go p e below _ T1 (mkF m 53 #[oI i0, oI i1, oI i2, oI (0 : Int32), oI dd, oR w8, oD x2, .second, oD x4, .second, .unset, .unset, .unset, .unset] [(.double x6)])
      refine own_by (fun t_ k_ => XS.dstore XT1.here hx rfl (hb hby at_53) rfl (l' := #[oI i0, oI i1, oI i2, oI (0 : Int32), oI dd, oR w8, oD x2, .second, oD x4, .second, oD x6, .second, .unset, .unset]) rfl k_) ?_
      show own_Go p e below _ T1 (mkF m 55 #[oI i0, oI i1, oI i2, oI (0 : Int32), oI dd, oR w8, oD x2, .second, oD x4, .second, oD x6, .second, .unset, .unset] [])
      refine own_by (fun t_ k_ => XS.goto XT1.here hx rfl (pc0 := 55) (pc' := 220) rfl (hb hby at_55) (by decide) (by decide) k_) ?_
      show own_Go p e below _ T1 (mkF m 220 #[oI i0, oI i1, oI i2, oI (0 : Int32), oI dd, oR w8, oD x2, .second, oD x4, .second, oD x6, .second, .unset, .unset] [])
      refine own_by (fun t_ k_ => XS.aload XT1.here hx rfl (hb hby at_220) rfl rfl  k_) ?_
      show own_Go p e below _ T1 (mkF m 222 #[oI i0, oI i1, oI i2, oI (0 : Int32), oI dd, oR w8, oD x2, .second, oD x4, .second, oD x6, .second, .unset, .unset] [(.ref w8)])
      refine own_by (fun t_ k_ => XS.dload XT1.here hx rfl (hb hby at_222) rfl  k_) ?_
      show own_Go p e below _ T1 (mkF m 224 #[oI i0, oI i1, oI i2, oI (0 : Int32), oI dd, oR w8, oD x2, .second, oD x4, .second, oD x6, .second, .unset, .unset] [(.double x2), (.ref w8)])
      refine own_by (fun t_ k_ => XS.dload XT1.here hx rfl (hb hby at_224) rfl  k_) ?_
      show own_Go p e below _ T1 (mkF m 226 #[oI i0, oI i1, oI i2, oI (0 : Int32), oI dd, oR w8, oD x2, .second, oD x4, .second, oD x6, .second, .unset, .unset] [(.double x4), (.double x2), (.ref w8)])
      have hres := own_D_add D2 D3 (by omega) (by decide) (by decide)
      refine own_callV XT1 hx hZ hown (hw _ (List.mem_of_getElem? (i := 5) rfl)) (hw _ (List.mem_of_getElem? (i := 6) rfl)) (hw _ (List.mem_of_getElem? (i := 8) rfl)) (hw _ (List.mem_of_getElem? (i := 7) rfl)) (hw _ (List.mem_of_getElem? (i := 9) rfl)) (hw _ (List.mem_of_getElem? (i := 2) rfl)) (by decide) eT1 (b := w8) E8 (argsL := [(.double x2), (.double x4)]) (rest := []) (own_ar0 l Z a0 hw x2 x4 w8 w9 w10 w11 w12 h0 S_ F8 F9 F10 F11 F12 (own_D_no hres)) 0 (by decide) (by decide) (by rw [hml]; rfl) (lenOf pd_0 rfl) (Nat.le_of_eq rfl) (hb hby at_226) (by decide) (by decide) (st := [(.double x4), (.double x2), (.ref w8)]) rfl ?_
      intro T5 LT5 vT5 XT5 hQT5
      obtain ⟨rfl, eT5, rfl⟩ := hQT5
      show own_Go p e below _ T5 (mkF m 229 #[oI i0, oI i1, oI i2, oI (0 : Int32), oI dd, oR w8, oD x2, .second, oD x4, .second, oD x6, .second, .unset, .unset] [(.double (FP.dadd x2 x4))])
      refine own_by (fun t_ k_ => XS.dstore XT5.here hx rfl (hb hby at_229) rfl (l' := #[oI i0, oI i1, oI i2, oI (0 : Int32), oI dd, oR w8, oD x2, .second, oD x4, .second, oD x6, .second, oD (FP.dadd x2 x4), .second]) rfl k_) ?_
      show own_Go p e below _ T5 (mkF m 231 #[oI i0, oI i1, oI i2, oI (0 : Int32), oI dd, oR w8, oD x2, .second, oD x4, .second, oD x6, .second, oD (FP.dadd x2 x4), .second] [])
      refine own_by (fun t_ k_ => XS.dload XT5.here hx rfl (hb hby at_231) rfl  k_) ?_
      show own_Go p e below _ T5 (mkF m 233 #[oI i0, oI i1, oI i2, oI (0 : Int32), oI dd, oR w8, oD x2, .second, oD x4, .second, oD x6, .second, oD (FP.dadd x2 x4), .second] [(.double (FP.dadd x2 x4))])
      refine own_by (fun t_ k_ => XS.dload XT5.here hx rfl (hb hby at_233) rfl  k_) ?_
      show own_Go p e below _ T5 (mkF m 235 #[oI i0, oI i1, oI i2, oI (0 : Int32), oI dd, oR w8, oD x2, .second, oD x4, .second, oD x6, .second, oD (FP.dadd x2 x4), .second] [(.double x6), (.double (FP.dadd x2 x4))])
      refine own_by (fun t_ k_ => XS.dcmpS XT5.here hx rfl (hb hby at_235) rfl (own_deq hres D4) k_) ?_
      show own_Go p e below _ T5 (mkF m 236 #[oI i0, oI i1, oI i2, oI (0 : Int32), oI dd, oR w8, oD x2, .second, oD x4, .second, oD x6, .second, oD (FP.dadd x2 x4), .second] [(.int (0 : Int32))])
      refine own_by (fun t_ k_ => XS.ifNo XT5.here hx rfl (hb hby at_236) rfl (XT.i0_ne_f (by decide)) k_) ?_
      show own_Go p e below _ T5 (mkF m 239 #[oI i0, oI i1, oI i2, oI (0 : Int32), oI dd, oR w8, oD x2, .second, oD x4, .second, oD x6, .second, oD (FP.dadd x2 x4), .second] [])
      refine own_by (fun t_ k_ => XT.iconstV XT5.here hx rfl (1 : Int32) (hb hby at_239) (by decide) k_) ?_
      show own_Go p e below _ T5 (mkF m 240 #[oI i0, oI i1, oI i2, oI (0 : Int32), oI dd, oR w8, oD x2, .second, oD x4, .second, oD x6, .second, oD (FP.dadd x2 x4), .second] [(.int (1 : Int32))])
      refine own_by (fun t_ k_ => XS.goto XT5.here hx rfl (pc0 := 240) (pc' := 244) rfl (hb hby at_240) (by decide) (by decide) k_) ?_
      show own_Go p e below _ T5 (mkF m 244 #[oI i0, oI i1, oI i2, oI (0 : Int32), oI dd, oR w8, oD x2, .second, oD x4, .second, oD x6, .second, oD (FP.dadd x2 x4), .second] [(.int (1 : Int32))])
      exact own_retN XT5 hx hlk hret (by simp) (w := (1 : Int32)) (hb hby at_244) (by decide) (by decide) (by decide) (⟨rfl, eT5, rfl⟩)
    by_cases c8_5 : i2 = (0 : Int32)
    · refine own_by (fun t_ k_ => XS.ifNo X0.here hx rfl (hb hby at_8) rfl (XT.i0_ne_f c8_5) k_) ?_
      show own_Go p e below _ T0 (mkF m 11 #[oI i0, oI i1, oI i2, oI (0 : Int32), .unset, .unset, .unset, .unset, .unset, .unset, .unset, .unset, .unset, .unset] [])
      refine own_by (fun t_ k_ => XT.iconstV X0.here hx rfl (1 : Int32) (hb hby at_11) (by decide) k_) ?_
      show own_Go p e below _ T0 (mkF m 12 #[oI i0, oI i1, oI i2, oI (0 : Int32), .unset, .unset, .unset, .unset, .unset, .unset, .unset, .unset, .unset, .unset] [(.int (1 : Int32))])
      refine own_by (fun t_ k_ => XS.goto X0.here hx rfl (pc0 := 12) (pc' := 16) rfl (hb hby at_12) (by decide) (by decide) k_) ?_
      show own_Go p e below _ T0 (mkF m 16 #[oI i0, oI i1, oI i2, oI (0 : Int32), .unset, .unset, .unset, .unset, .unset, .unset, .unset, .unset, .unset, .unset] [(.int (1 : Int32))])
      exact J _ (by decide)
    · refine own_by (fun t_ k_ => XS.ifYes X0.here hx rfl (pc0 := 8) (pc' := 15) rfl (hb hby at_8) rfl (XT.i0_ne_t c8_5) (by decide) (by decide) k_) ?_
      show own_Go p e below _ T0 (mkF m 15 #[oI i0, oI i1, oI i2, oI (0 : Int32), .unset, .unset, .unset, .unset, .unset, .unset, .unset, .unset, .unset, .unset] [])
      refine own_by (fun t_ k_ => XS.iloadN X0.here hx rfl (hb hby at_15) rfl  k_) ?_
      show own_Go p e below _ T0 (mkF m 16 #[oI i0, oI i1, oI i2, oI (0 : Int32), .unset, .unset, .unset, .unset, .unset, .unset, .unset, .unset, .unset, .unset] [(.int i2)])
      exact J _ c8_5
  · refine own_by (fun t_ k_ => XS.iloadN X0.here hx rfl (hb hby at_0) rfl  k_) ?_
    show own_Go p e below _ T0 (mkF m 1 #[oI i0, oI i1, oI i2, .unset, .unset, .unset, .unset, .unset, .unset, .unset, .unset, .unset, .unset, .unset] [(.int i0)])
    refine own_by (fun t_ k_ => X0.ldcI hx hown (mvT hZ (hw _ (List.mem_of_getElem? (i := 0) rfl))) rfl (hb hby at_1) k_) ?_
    show own_Go p e below _ T0 (mkF m 3 #[oI i0, oI i1, oI i2, .unset, .unset, .unset, .unset, .unset, .unset, .unset, .unset, .unset, .unset, .unset] [(.int (2147483647 : Int32)), (.int i0)])
    refine own_by (fun t_ k_ => XS.iand X0.here hx rfl (hb hby at_3) rfl k_) ?_
    show own_Go p e below _ T0 (mkF m 4 #[oI i0, oI i1, oI i2, .unset, .unset, .unset, .unset, .unset, .unset, .unset, .unset, .unset, .unset, .unset] [(.int (i0 &&& (2147483647 : Int32)))])
    refine own_by (fun t_ k_ => XT.iconstV X0.here hx rfl (5 : Int32) (hb hby at_4) (by decide) k_) ?_
    show own_Go p e below _ T0 (mkF m 5 #[oI i0, oI i1, oI i2, .unset, .unset, .unset, .unset, .unset, .unset, .unset, .unset, .unset, .unset, .unset] [(.int (5 : Int32)), (.int (i0 &&& (2147483647 : Int32)))])
    refine own_by (fun t_ k_ => iremM X0 hx rfl (hb hby at_5) rfl (by decide) k_) ?_
    show own_Go p e below _ T0 (mkF m 6 #[oI i0, oI i1, oI i2, .unset, .unset, .unset, .unset, .unset, .unset, .unset, .unset, .unset, .unset, .unset] [(.int ((i0 &&& (2147483647 : Int32)) % (5 : Int32)))])
    rw [hk]
    show own_Go p e below _ T0 (mkF m 6 #[oI i0, oI i1, oI i2, .unset, .unset, .unset, .unset, .unset, .unset, .unset, .unset, .unset, .unset, .unset] [(.int (1 : Int32))])
    refine own_by (fun t_ k_ => XS.istoreN X0.here hx rfl (hb hby at_6) rfl (l' := #[oI i0, oI i1, oI i2, oI (1 : Int32), .unset, .unset, .unset, .unset, .unset, .unset, .unset, .unset, .unset, .unset]) rfl k_) ?_
    show own_Go p e below _ T0 (mkF m 7 #[oI i0, oI i1, oI i2, oI (1 : Int32), .unset, .unset, .unset, .unset, .unset, .unset, .unset, .unset, .unset, .unset] [])
    refine own_by (fun t_ k_ => XS.iloadN X0.here hx rfl (hb hby at_7) rfl  k_) ?_
    show own_Go p e below _ T0 (mkF m 8 #[oI i0, oI i1, oI i2, oI (1 : Int32), .unset, .unset, .unset, .unset, .unset, .unset, .unset, .unset, .unset, .unset] [(.int i2)])
    have J : ∀ dd : Int32, ¬ dd = 0 → own_Go p e below (own_K s room_1.cells room_1.slots (fun v h L => v = some (.int (1 : Int32)) ∧ h = h0 ∧ L = [])) T0 (mkF m 16 #[oI i0, oI i1, oI i2, oI (1 : Int32), .unset, .unset, .unset, .unset, .unset, .unset, .unset, .unset, .unset, .unset] [(.int dd)]) := by
      intro dd hd0
      show own_Go p e below _ T0 (mkF m 16 #[oI i0, oI i1, oI i2, oI (1 : Int32), .unset, .unset, .unset, .unset, .unset, .unset, .unset, .unset, .unset, .unset] [(.int dd)])
      refine own_by (fun t_ k_ => XS.istore X0.here hx rfl (hb hby at_16) rfl (l' := #[oI i0, oI i1, oI i2, oI (1 : Int32), oI dd, .unset, .unset, .unset, .unset, .unset, .unset, .unset, .unset, .unset]) rfl k_) ?_
      show own_Go p e below _ T0 (mkF m 18 #[oI i0, oI i1, oI i2, oI (1 : Int32), oI dd, .unset, .unset, .unset, .unset, .unset, .unset, .unset, .unset, .unset] [])
      refine own_by (fun t_ k_ => XS.iloadN X0.here hx rfl (hb hby at_18) rfl  k_) ?_
      show own_Go p e below _ T0 (mkF m 19 #[oI i0, oI i1, oI i2, oI (1 : Int32), oI dd, .unset, .unset, .unset, .unset, .unset, .unset, .unset, .unset, .unset] [(.int (1 : Int32))])
      refine own_by (fun t_ k_ => XS.ifYes X0.here hx rfl (pc0 := 19) (pc' := 58) rfl (hb hby at_19) rfl (XT.i0_ne_t (by decide)) (by decide) (by decide) k_) ?_
      show own_Go p e below _ T0 (mkF m 58 #[oI i0, oI i1, oI i2, oI (1 : Int32), oI dd, .unset, .unset, .unset, .unset, .unset, .unset, .unset, .unset, .unset] [])
      refine own_by (fun t_ k_ => XS.iloadN X0.here hx rfl (hb hby at_58) rfl  k_) ?_
      show own_Go p e below _ T0 (mkF m 59 #[oI i0, oI i1, oI i2, oI (1 : Int32), oI dd, .unset, .unset, .unset, .unset, .unset, .unset, .unset, .unset, .unset] [(.int (1 : Int32))])
      refine own_by (fun t_ k_ => XT.iconstV X0.here hx rfl (1 : Int32) (hb hby at_59) (by decide) k_) ?_
      show own_Go p e below _ T0 (mkF m 60 #[oI i0, oI i1, oI i2, oI (1 : Int32), oI dd, .unset, .unset, .unset, .unset, .unset, .unset, .unset, .unset, .unset] [(.int (1 : Int32)), (.int (1 : Int32))])
      refine own_by (fun t_ k_ => XS.icmpNo X0.here hx rfl (hb hby at_60) rfl (XT.ii_ne_f (by decide)) k_) ?_
      show own_Go p e below _ T0 (mkF m 63 #[oI i0, oI i1, oI i2, oI (1 : Int32), oI dd, .unset, .unset, .unset, .unset, .unset, .unset, .unset, .unset, .unset] [])
      obtain ⟨T7, XT7, eT7, stT7⟩ := getS2 X0 hx hZ hown (host := "") (Or.inl (hw _ (List.mem_of_getElem? (i := 11) rfl))) Via.refl e0 S9 (g := (mkF m 63 #[oI i0, oI i1, oI i2, oI (1 : Int32), oI dd, .unset, .unset, .unset, .unset, .unset, .unset, .unset, .unset, .unset] [])) rfl (hb hby at_63)
      refine own_by stT7 ?_
      show own_Go p e below _ T7 (mkF m 66 #[oI i0, oI i1, oI i2, oI (1 : Int32), oI dd, .unset, .unset, .unset, .unset, .unset, .unset, .unset, .unset, .unset] [(.ref w9)])
      refine own_by (fun t_ k_ => XS.astore XT7.here hx rfl (hb hby at_66) rfl rfl (l' := #[oI i0, oI i1, oI i2, oI (1 : Int32), oI dd, oR w9, .unset, .unset, .unset, .unset, .unset, .unset, .unset, .unset]) rfl k_) ?_
      show own_Go p e below _ T7 (mkF m 68 #[oI i0, oI i1, oI i2, oI (1 : Int32), oI dd, oR w9, .unset, .unset, .unset, .unset, .unset, .unset, .unset, .unset] [])
      refine own_by (fun t_ k_ => XS.iloadN XT7.here hx rfl (hb hby at_68) rfl  k_) ?_
      show own_Go p e below _ T7 (mkF m 69 #[oI i0, oI i1, oI i2, oI (1 : Int32), oI dd, oR w9, .unset, .unset, .unset, .unset, .unset, .unset, .unset, .unset] [(.int i1)])
      refine own_by (fun t_ k_ => XS.i2dS XT7.here hx rfl (hb hby at_69) rfl rfl k_) ?_
      show own_Go p e below _ T7 (mkF m 70 #[oI i0, oI i1, oI i2, oI (1 : Int32), oI dd, oR w9, .unset, .unset, .unset, .unset, .unset, .unset, .unset, .unset] [(.double (FP.i2d i1))])
      have D1 := own_D_i2d i1
      have R1 := rng32 i1
      generalize (FP.i2d i1) = y1 at D1 ⊢
      show own_Go p e below _ T7 (mkF m 70 #[oI i0, oI i1, oI i2, oI (1 : Int32), oI dd, oR w9, .unset, .unset, .unset, .unset, .unset, .unset, .unset, .unset] [(.double y1)])
      refine own_by (fun t_ k_ => XT7.ldc2DoubleC hx hown (mvT hZ (hw _ (List.mem_of_getElem? (i := 4) rfl))) (g := (mkF m 70 #[oI i0, oI i1, oI i2, oI (1 : Int32), oI dd, oR w9, .unset, .unset, .unset, .unset, .unset, .unset, .unset, .unset] [(.double y1)])) rfl (hb hby at_70) t_ k_) ?_
      show own_Go p e below _ T7 (mkF m 73 #[oI i0, oI i1, oI i2, oI (1 : Int32), oI dd, oR w9, .unset, .unset, .unset, .unset, .unset, .unset, .unset, .unset] [(.double (4616189618054758400 : UInt64)), (.double y1)])
      have D8 := own_q4 D1 (by omega)
      refine own_by (fun t_ k_ => XS.ddivS XT7.here hx rfl (hb hby at_73) rfl (own_D_no D8) rfl k_) ?_
      show own_Go p e below _ T7 (mkF m 74 #[oI i0, oI i1, oI i2, oI (1 : Int32), oI dd, oR w9, .unset, .unset, .unset, .unset, .unset, .unset, .unset, .unset] [(.double (FP.ddiv y1 (4616189618054758400 : UInt64)))])
      generalize (FP.ddiv y1 (4616189618054758400 : UInt64)) = x2 at D8 ⊢
      show own_Go p e below _ T7 (mkF m 74 #[oI i0, oI i1, oI i2, oI (1 : Int32), oI dd, oR w9, .unset, .unset, .unset, .unset, .unset, .unset, .unset, .unset] [(.double x2)])
      refine own_by (fun t_ k_ => XS.dstore XT7.here hx rfl (hb hby at_74) rfl (l' := #[oI i0, oI i1, oI i2, oI (1 : Int32), oI dd, oR w9, oD x2, .second, .unset, .unset, .unset, .unset, .unset, .unset]) rfl k_) ?_
      show own_Go p e below _ T7 (mkF m 76 #[oI i0, oI i1, oI i2, oI (1 : Int32), oI dd, oR w9, oD x2, .second, .unset, .unset, .unset, .unset, .unset, .unset] [])
      refine own_by (fun t_ k_ => XS.iloadN XT7.here hx rfl (hb hby at_76) rfl  k_) ?_
      show own_Go p e below _ T7 (mkF m 77 #[oI i0, oI i1, oI i2, oI (1 : Int32), oI dd, oR w9, oD x2, .second, .unset, .unset, .unset, .unset, .unset, .unset] [(.int i2)])
      refine own_by (fun t_ k_ => XS.i2dS XT7.here hx rfl (hb hby at_77) rfl rfl k_) ?_
      show own_Go p e below _ T7 (mkF m 78 #[oI i0, oI i1, oI i2, oI (1 : Int32), oI dd, oR w9, oD x2, .second, .unset, .unset, .unset, .unset, .unset, .unset] [(.double (FP.i2d i2))])
      have D3 := own_D_i2d i2
      have R3 := rng32 i2
      generalize (FP.i2d i2) = y3 at D3 ⊢
      show own_Go p e below _ T7 (mkF m 78 #[oI i0, oI i1, oI i2, oI (1 : Int32), oI dd, oR w9, oD x2, .second, .unset, .unset, .unset, .unset, .unset, .unset] [(.double y3)])
      refine own_by (fun t_ k_ => XT7.ldc2DoubleC hx hown (mvT hZ (hw _ (List.mem_of_getElem? (i := 4) rfl))) (g := (mkF m 78 #[oI i0, oI i1, oI i2, oI (1 : Int32), oI dd, oR w9, oD x2, .second, .unset, .unset, .unset, .unset, .unset, .unset] [(.double y3)])) rfl (hb hby at_78) t_ k_) ?_
      show own_Go p e below _ T7 (mkF m 81 #[oI i0, oI i1, oI i2, oI (1 : Int32), oI dd, oR w9, oD x2, .second, .unset, .unset, .unset, .unset, .unset, .unset] [(.double (4616189618054758400 : UInt64)), (.double y3)])
      have D9 := own_q4 D3 (by omega)
      refine own_by (fun t_ k_ => XS.ddivS XT7.here hx rfl (hb hby at_81) rfl (own_D_no D9) rfl k_) ?_
      show own_Go p e below _ T7 (mkF m 82 #[oI i0, oI i1, oI i2, oI (1 : Int32), oI dd, oR w9, oD x2, .second, .unset, .unset, .unset, .unset, .unset, .unset] [(.double (FP.ddiv y3 (4616189618054758400 : UInt64)))])
      generalize (FP.ddiv y3 (4616189618054758400 : UInt64)) = x4 at D9 ⊢
      show own_Go p e below _ T7 (mkF m 82 #[oI i0, oI i1, oI i2, oI (1 : Int32), oI dd, oR w9, oD x2, .second, .unset, .unset, .unset, .unset, .unset, .unset] [(.double x4)])
      refine own_by (fun t_ k_ => XS.dstore XT7.here hx rfl (hb hby at_82) rfl (l' := #[oI i0, oI i1, oI i2, oI (1 : Int32), oI dd, oR w9, oD x2, .second, oD x4, .second, .unset, .unset, .unset, .unset]) rfl k_) ?_
      show own_Go p e below _ T7 (mkF m 84 #[oI i0, oI i1, oI i2, oI (1 : Int32), oI dd, oR w9, oD x2, .second, oD x4, .second, .unset, .unset, .unset, .unset] [])
      refine own_by (fun t_ k_ => XS.iloadN XT7.here hx rfl (hb hby at_84) rfl  k_) ?_
      show own_Go p e below _ T7 (mkF m 85 #[oI i0, oI i1, oI i2, oI (1 : Int32), oI dd, oR w9, oD x2, .second, oD x4, .second, .unset, .unset, .unset, .unset] [(.int i1)])
      refine own_by (fun t_ k_ => XT.i2l XT7.here hx rfl (hb hby at_85) rfl k_) ?_
      show own_Go p e below _ T7 (mkF m 86 #[oI i0, oI i1, oI i2, oI (1 : Int32), oI dd, oR w9, oD x2, .second, oD x4, .second, .unset, .unset, .unset, .unset] [(.long (i1.toInt64))])
      refine own_by (fun t_ k_ => XS.iloadN XT7.here hx rfl (hb hby at_86) rfl  k_) ?_
      show own_Go p e below _ T7 (mkF m 87 #[oI i0, oI i1, oI i2, oI (1 : Int32), oI dd, oR w9, oD x2, .second, oD x4, .second, .unset, .unset, .unset, .unset] [(.int i2), (.long (i1.toInt64))])
      refine own_by (fun t_ k_ => XT.i2l XT7.here hx rfl (hb hby at_87) rfl k_) ?_
      show own_Go p e below _ T7 (mkF m 88 #[oI i0, oI i1, oI i2, oI (1 : Int32), oI dd, oR w9, oD x2, .second, oD x4, .second, .unset, .unset, .unset, .unset] [(.long (i2.toInt64)), (.long (i1.toInt64))])
      refine own_by (fun t_ k_ => XT.lsub XT7.here hx rfl (hb hby at_88) rfl k_) ?_
      show own_Go p e below _ T7 (mkF m 89 #[oI i0, oI i1, oI i2, oI (1 : Int32), oI dd, oR w9, oD x2, .second, oD x4, .second, .unset, .unset, .unset, .unset] [(.long ((i1.toInt64) - (i2.toInt64)))])
      refine own_by (fun t_ k_ => XS.l2dS XT7.here hx rfl (hb hby at_89) rfl rfl k_) ?_
      show own_Go p e below _ T7 (mkF m 90 #[oI i0, oI i1, oI i2, oI (1 : Int32), oI dd, oR w9, oD x2, .second, oD x4, .second, .unset, .unset, .unset, .unset] [(.double (FP.l2d ((i1.toInt64) - (i2.toInt64))))])
      have R5 := rng32 i1
      have Q5 := rng32 i2
      have U5 := rng32 dd
      have H5 : (((i1.toInt64) - (i2.toInt64))).toInt = i1.toInt + - i2.toInt := by
        have a1 := c_i2l i1
        have a2 := c_i2l i2
        have a3 := c_lsub (i1.toInt64) (i2.toInt64)
        have a4 := rng64 ((i1.toInt64) - (i2.toInt64))
        omega
      have D5 := own_D_l2d (a := ((i1.toInt64) - (i2.toInt64))) (by rw [H5]; omega)
      rw [H5] at D5
      generalize (FP.l2d ((i1.toInt64) - (i2.toInt64))) = y5 at D5 ⊢
      show own_Go p e below _ T7 (mkF m 90 #[oI i0, oI i1, oI i2, oI (1 : Int32), oI dd, oR w9, oD x2, .second, oD x4, .second, .unset, .unset, .unset, .unset] [(.double y5)])
      refine own_by (fun t_ k_ => XT7.ldc2DoubleC hx hown (mvT hZ (hw _ (List.mem_of_getElem? (i := 4) rfl))) (g := (mkF m 90 #[oI i0, oI i1, oI i2, oI (1 : Int32), oI dd, oR w9, oD x2, .second, oD x4, .second, .unset, .unset, .unset, .unset] [(.double y5)])) rfl (hb hby at_90) t_ k_) ?_
      show own_Go p e below _ T7 (mkF m 93 #[oI i0, oI i1, oI i2, oI (1 : Int32), oI dd, oR w9, oD x2, .second, oD x4, .second, .unset, .unset, .unset, .unset] [(.double (4616189618054758400 : UInt64)), (.double y5)])
      have D10 := own_q4 D5 (by omega)
      refine own_by (fun t_ k_ => XS.ddivS XT7.here hx rfl (hb hby at_93) rfl (own_D_no D10) rfl k_) ?_
      show own_Go p e below _ T7 (mkF m 94 #[oI i0, oI i1, oI i2, oI (1 : Int32), oI dd, oR w9, oD x2, .second, oD x4, .second, .unset, .unset, .unset, .unset] [(.double (FP.ddiv y5 (4616189618054758400 : UInt64)))])
      generalize (FP.ddiv y5 (4616189618054758400 : UInt64)) = x6 at D10 ⊢
      show own_Go p e below _ T7 (mkF m 94 #[oI i0, oI i1, oI i2, oI (1 : Int32), oI dd, oR w9, oD x2, .second, oD x4, .second, .unset, .unset, .unset, .unset] [(.double x6)])
      refine own_by (fun t_ k_ => XS.dstore XT7.here hx rfl (hb hby at_94) rfl (l' := #[oI i0, oI i1, oI i2, oI (1 : Int32), oI dd, oR w9, oD x2, .second, oD x4, .second, oD x6, .second, .unset, .unset]) rfl k_) ?_
      show own_Go p e below _ T7 (mkF m 96 #[oI i0, oI i1, oI i2, oI (1 : Int32), oI dd, oR w9, oD x2, .second, oD x4, .second, oD x6, .second, .unset, .unset] [])
      refine own_by (fun t_ k_ => XS.goto XT7.here hx rfl (pc0 := 96) (pc' := 220) rfl (hb hby at_96) (by decide) (by decide) k_) ?_
      show own_Go p e below _ T7 (mkF m 220 #[oI i0, oI i1, oI i2, oI (1 : Int32), oI dd, oR w9, oD x2, .second, oD x4, .second, oD x6, .second, .unset, .unset] [])
      refine own_by (fun t_ k_ => XS.aload XT7.here hx rfl (hb hby at_220) rfl rfl  k_) ?_
      show own_Go p e below _ T7 (mkF m 222 #[oI i0, oI i1, oI i2, oI (1 : Int32), oI dd, oR w9, oD x2, .second, oD x4, .second, oD x6, .second, .unset, .unset] [(.ref w9)])
      refine own_by (fun t_ k_ => XS.dload XT7.here hx rfl (hb hby at_222) rfl  k_) ?_
      show own_Go p e below _ T7 (mkF m 224 #[oI i0, oI i1, oI i2, oI (1 : Int32), oI dd, oR w9, oD x2, .second, oD x4, .second, oD x6, .second, .unset, .unset] [(.double x2), (.ref w9)])
      refine own_by (fun t_ k_ => XS.dload XT7.here hx rfl (hb hby at_224) rfl  k_) ?_
      show own_Go p e below _ T7 (mkF m 226 #[oI i0, oI i1, oI i2, oI (1 : Int32), oI dd, oR w9, oD x2, .second, oD x4, .second, oD x6, .second, .unset, .unset] [(.double x4), (.double x2), (.ref w9)])
      have hres := own_D_sub D8 D9 (by omega) (by decide) (by decide)
      refine own_callV XT7 hx hZ hown (hw _ (List.mem_of_getElem? (i := 5) rfl)) (hw _ (List.mem_of_getElem? (i := 6) rfl)) (hw _ (List.mem_of_getElem? (i := 8) rfl)) (hw _ (List.mem_of_getElem? (i := 7) rfl)) (hw _ (List.mem_of_getElem? (i := 9) rfl)) (hw _ (List.mem_of_getElem? (i := 2) rfl)) (by decide) eT7 (b := w9) E9 (argsL := [(.double x2), (.double x4)]) (rest := []) (own_ar1 l Z a0 hw x2 x4 w8 w9 w10 w11 w12 h0 S_ F8 F9 F10 F11 F12 (own_D_no hres)) 0 (by decide) (by decide) (by rw [hml]; rfl) (lenOf pd_0 rfl) (Nat.le_of_eq rfl) (hb hby at_226) (by decide) (by decide) (st := [(.double x4), (.double x2), (.ref w9)]) rfl ?_
      intro T11 LT11 vT11 XT11 hQT11
      obtain ⟨rfl, eT11, rfl⟩ := hQT11
      show own_Go p e below _ T11 (mkF m 229 #[oI i0, oI i1, oI i2, oI (1 : Int32), oI dd, oR w9, oD x2, .second, oD x4, .second, oD x6, .second, .unset, .unset] [(.double (FP.dsub x2 x4))])
      refine own_by (fun t_ k_ => XS.dstore XT11.here hx rfl (hb hby at_229) rfl (l' := #[oI i0, oI i1, oI i2, oI (1 : Int32), oI dd, oR w9, oD x2, .second, oD x4, .second, oD x6, .second, oD (FP.dsub x2 x4), .second]) rfl k_) ?_
      show own_Go p e below _ T11 (mkF m 231 #[oI i0, oI i1, oI i2, oI (1 : Int32), oI dd, oR w9, oD x2, .second, oD x4, .second, oD x6, .second, oD (FP.dsub x2 x4), .second] [])
      refine own_by (fun t_ k_ => XS.dload XT11.here hx rfl (hb hby at_231) rfl  k_) ?_
      show own_Go p e below _ T11 (mkF m 233 #[oI i0, oI i1, oI i2, oI (1 : Int32), oI dd, oR w9, oD x2, .second, oD x4, .second, oD x6, .second, oD (FP.dsub x2 x4), .second] [(.double (FP.dsub x2 x4))])
      refine own_by (fun t_ k_ => XS.dload XT11.here hx rfl (hb hby at_233) rfl  k_) ?_
      show own_Go p e below _ T11 (mkF m 235 #[oI i0, oI i1, oI i2, oI (1 : Int32), oI dd, oR w9, oD x2, .second, oD x4, .second, oD x6, .second, oD (FP.dsub x2 x4), .second] [(.double x6), (.double (FP.dsub x2 x4))])
      refine own_by (fun t_ k_ => XS.dcmpS XT11.here hx rfl (hb hby at_235) rfl (own_deq hres D10) k_) ?_
      show own_Go p e below _ T11 (mkF m 236 #[oI i0, oI i1, oI i2, oI (1 : Int32), oI dd, oR w9, oD x2, .second, oD x4, .second, oD x6, .second, oD (FP.dsub x2 x4), .second] [(.int (0 : Int32))])
      refine own_by (fun t_ k_ => XS.ifNo XT11.here hx rfl (hb hby at_236) rfl (XT.i0_ne_f (by decide)) k_) ?_
      show own_Go p e below _ T11 (mkF m 239 #[oI i0, oI i1, oI i2, oI (1 : Int32), oI dd, oR w9, oD x2, .second, oD x4, .second, oD x6, .second, oD (FP.dsub x2 x4), .second] [])
      refine own_by (fun t_ k_ => XT.iconstV XT11.here hx rfl (1 : Int32) (hb hby at_239) (by decide) k_) ?_
      show own_Go p e below _ T11 (mkF m 240 #[oI i0, oI i1, oI i2, oI (1 : Int32), oI dd, oR w9, oD x2, .second, oD x4, .second, oD x6, .second, oD (FP.dsub x2 x4), .second] [(.int (1 : Int32))])
      refine own_by (fun t_ k_ => XS.goto XT11.here hx rfl (pc0 := 240) (pc' := 244) rfl (hb hby at_240) (by decide) (by decide) k_) ?_
      show own_Go p e below _ T11 (mkF m 244 #[oI i0, oI i1, oI i2, oI (1 : Int32), oI dd, oR w9, oD x2, .second, oD x4, .second, oD x6, .second, oD (FP.dsub x2 x4), .second] [(.int (1 : Int32))])
      exact own_retN XT11 hx hlk hret (by simp) (w := (1 : Int32)) (hb hby at_244) (by decide) (by decide) (by decide) (⟨rfl, eT11, rfl⟩)
    by_cases c8_11 : i2 = (0 : Int32)
    · refine own_by (fun t_ k_ => XS.ifNo X0.here hx rfl (hb hby at_8) rfl (XT.i0_ne_f c8_11) k_) ?_
      show own_Go p e below _ T0 (mkF m 11 #[oI i0, oI i1, oI i2, oI (1 : Int32), .unset, .unset, .unset, .unset, .unset, .unset, .unset, .unset, .unset, .unset] [])
      refine own_by (fun t_ k_ => XT.iconstV X0.here hx rfl (1 : Int32) (hb hby at_11) (by decide) k_) ?_
      show own_Go p e below _ T0 (mkF m 12 #[oI i0, oI i1, oI i2, oI (1 : Int32), .unset, .unset, .unset, .unset, .unset, .unset, .unset, .unset, .unset, .unset] [(.int (1 : Int32))])
      refine own_by (fun t_ k_ => XS.goto X0.here hx rfl (pc0 := 12) (pc' := 16) rfl (hb hby at_12) (by decide) (by decide) k_) ?_
      show own_Go p e below _ T0 (mkF m 16 #[oI i0, oI i1, oI i2, oI (1 : Int32), .unset, .unset, .unset, .unset, .unset, .unset, .unset, .unset, .unset, .unset] [(.int (1 : Int32))])
      exact J _ (by decide)
    · refine own_by (fun t_ k_ => XS.ifYes X0.here hx rfl (pc0 := 8) (pc' := 15) rfl (hb hby at_8) rfl (XT.i0_ne_t c8_11) (by decide) (by decide) k_) ?_
      show own_Go p e below _ T0 (mkF m 15 #[oI i0, oI i1, oI i2, oI (1 : Int32), .unset, .unset, .unset, .unset, .unset, .unset, .unset, .unset, .unset, .unset] [])
      refine own_by (fun t_ k_ => XS.iloadN X0.here hx rfl (hb hby at_15) rfl  k_) ?_
      show own_Go p e below _ T0 (mkF m 16 #[oI i0, oI i1, oI i2, oI (1 : Int32), .unset, .unset, .unset, .unset, .unset, .unset, .unset, .unset, .unset, .unset] [(.int i2)])
      exact J _ c8_11
  · refine own_by (fun t_ k_ => XS.iloadN X0.here hx rfl (hb hby at_0) rfl  k_) ?_
    show own_Go p e below _ T0 (mkF m 1 #[oI i0, oI i1, oI i2, .unset, .unset, .unset, .unset, .unset, .unset, .unset, .unset, .unset, .unset, .unset] [(.int i0)])
    refine own_by (fun t_ k_ => X0.ldcI hx hown (mvT hZ (hw _ (List.mem_of_getElem? (i := 0) rfl))) rfl (hb hby at_1) k_) ?_
    show own_Go p e below _ T0 (mkF m 3 #[oI i0, oI i1, oI i2, .unset, .unset, .unset, .unset, .unset, .unset, .unset, .unset, .unset, .unset, .unset] [(.int (2147483647 : Int32)), (.int i0)])
    refine own_by (fun t_ k_ => XS.iand X0.here hx rfl (hb hby at_3) rfl k_) ?_
    show own_Go p e below _ T0 (mkF m 4 #[oI i0, oI i1, oI i2, .unset, .unset, .unset, .unset, .unset, .unset, .unset, .unset, .unset, .unset, .unset] [(.int (i0 &&& (2147483647 : Int32)))])
    refine own_by (fun t_ k_ => XT.iconstV X0.here hx rfl (5 : Int32) (hb hby at_4) (by decide) k_) ?_
    show own_Go p e below _ T0 (mkF m 5 #[oI i0, oI i1, oI i2, .unset, .unset, .unset, .unset, .unset, .unset, .unset, .unset, .unset, .unset, .unset] [(.int (5 : Int32)), (.int (i0 &&& (2147483647 : Int32)))])
    refine own_by (fun t_ k_ => iremM X0 hx rfl (hb hby at_5) rfl (by decide) k_) ?_
    show own_Go p e below _ T0 (mkF m 6 #[oI i0, oI i1, oI i2, .unset, .unset, .unset, .unset, .unset, .unset, .unset, .unset, .unset, .unset, .unset] [(.int ((i0 &&& (2147483647 : Int32)) % (5 : Int32)))])
    rw [hk]
    show own_Go p e below _ T0 (mkF m 6 #[oI i0, oI i1, oI i2, .unset, .unset, .unset, .unset, .unset, .unset, .unset, .unset, .unset, .unset, .unset] [(.int (2 : Int32))])
    refine own_by (fun t_ k_ => XS.istoreN X0.here hx rfl (hb hby at_6) rfl (l' := #[oI i0, oI i1, oI i2, oI (2 : Int32), .unset, .unset, .unset, .unset, .unset, .unset, .unset, .unset, .unset, .unset]) rfl k_) ?_
    show own_Go p e below _ T0 (mkF m 7 #[oI i0, oI i1, oI i2, oI (2 : Int32), .unset, .unset, .unset, .unset, .unset, .unset, .unset, .unset, .unset, .unset] [])
    refine own_by (fun t_ k_ => XS.iloadN X0.here hx rfl (hb hby at_7) rfl  k_) ?_
    show own_Go p e below _ T0 (mkF m 8 #[oI i0, oI i1, oI i2, oI (2 : Int32), .unset, .unset, .unset, .unset, .unset, .unset, .unset, .unset, .unset, .unset] [(.int i2)])
    have J : ∀ dd : Int32, ¬ dd = 0 → own_Go p e below (own_K s room_1.cells room_1.slots (fun v h L => v = some (.int (1 : Int32)) ∧ h = h0 ∧ L = [])) T0 (mkF m 16 #[oI i0, oI i1, oI i2, oI (2 : Int32), .unset, .unset, .unset, .unset, .unset, .unset, .unset, .unset, .unset, .unset] [(.int dd)]) := by
      intro dd hd0
      show own_Go p e below _ T0 (mkF m 16 #[oI i0, oI i1, oI i2, oI (2 : Int32), .unset, .unset, .unset, .unset, .unset, .unset, .unset, .unset, .unset, .unset] [(.int dd)])
      refine own_by (fun t_ k_ => XS.istore X0.here hx rfl (hb hby at_16) rfl (l' := #[oI i0, oI i1, oI i2, oI (2 : Int32), oI dd, .unset, .unset, .unset, .unset, .unset, .unset, .unset, .unset, .unset]) rfl k_) ?_
      show own_Go p e below _ T0 (mkF m 18 #[oI i0, oI i1, oI i2, oI (2 : Int32), oI dd, .unset, .unset, .unset, .unset, .unset, .unset, .unset, .unset, .unset] [])
      refine own_by (fun t_ k_ => XS.iloadN X0.here hx rfl (hb hby at_18) rfl  k_) ?_
      show own_Go p e below _ T0 (mkF m 19 #[oI i0, oI i1, oI i2, oI (2 : Int32), oI dd, .unset, .unset, .unset, .unset, .unset, .unset, .unset, .unset, .unset] [(.int (2 : Int32))])
      refine own_by (fun t_ k_ => XS.ifYes X0.here hx rfl (pc0 := 19) (pc' := 58) rfl (hb hby at_19) rfl (XT.i0_ne_t (by decide)) (by decide) (by decide) k_) ?_
      show own_Go p e below _ T0 (mkF m 58 #[oI i0, oI i1, oI i2, oI (2 : Int32), oI dd, .unset, .unset, .unset, .unset, .unset, .unset, .unset, .unset, .unset] [])
      refine own_by (fun t_ k_ => XS.iloadN X0.here hx rfl (hb hby at_58) rfl  k_) ?_
      show own_Go p e below _ T0 (mkF m 59 #[oI i0, oI i1, oI i2, oI (2 : Int32), oI dd, .unset, .unset, .unset, .unset, .unset, .unset, .unset, .unset, .unset] [(.int (2 : Int32))])
      refine own_by (fun t_ k_ => XT.iconstV X0.here hx rfl (1 : Int32) (hb hby at_59) (by decide) k_) ?_
      show own_Go p e below _ T0 (mkF m 60 #[oI i0, oI i1, oI i2, oI (2 : Int32), oI dd, .unset, .unset, .unset, .unset, .unset, .unset, .unset, .unset, .unset] [(.int (1 : Int32)), (.int (2 : Int32))])
      refine own_by (fun t_ k_ => XS.icmpYes X0.here hx rfl (pc0 := 60) (pc' := 99) rfl (hb hby at_60) rfl (XT.ii_ne_t (by decide)) (by decide) (by decide) k_) ?_
      show own_Go p e below _ T0 (mkF m 99 #[oI i0, oI i1, oI i2, oI (2 : Int32), oI dd, .unset, .unset, .unset, .unset, .unset, .unset, .unset, .unset, .unset] [])
      refine own_by (fun t_ k_ => XS.iloadN X0.here hx rfl (hb hby at_99) rfl  k_) ?_
      show own_Go p e below _ T0 (mkF m 100 #[oI i0, oI i1, oI i2, oI (2 : Int32), oI dd, .unset, .unset, .unset, .unset, .unset, .unset, .unset, .unset, .unset] [(.int (2 : Int32))])
      refine own_by (fun t_ k_ => XT.iconstV X0.here hx rfl (2 : Int32) (hb hby at_100) (by decide) k_) ?_
      show own_Go p e below _ T0 (mkF m 101 #[oI i0, oI i1, oI i2, oI (2 : Int32), oI dd, .unset, .unset, .unset, .unset, .unset, .unset, .unset, .unset, .unset] [(.int (2 : Int32)), (.int (2 : Int32))])
      refine own_by (fun t_ k_ => XS.icmpNo X0.here hx rfl (hb hby at_101) rfl (XT.ii_ne_f (by decide)) k_) ?_
      show own_Go p e below _ T0 (mkF m 104 #[oI i0, oI i1, oI i2, oI (2 : Int32), oI dd, .unset, .unset, .unset, .unset, .unset, .unset, .unset, .unset, .unset] [])
      obtain ⟨T13, XT13, eT13, stT13⟩ := getS2 X0 hx hZ hown (host := "") (Or.inl (hw _ (List.mem_of_getElem? (i := 21) rfl))) Via.refl e0 S10 (g := (mkF m 104 #[oI i0, oI i1, oI i2, oI (2 : Int32), oI dd, .unset, .unset, .unset, .unset, .unset, .unset, .unset, .unset, .unset] [])) rfl (hb hby at_104)
      refine own_by stT13 ?_
      show own_Go p e below _ T13 (mkF m 107 #[oI i0, oI i1, oI i2, oI (2 : Int32), oI dd, .unset, .unset, .unset, .unset, .unset, .unset, .unset, .unset, .unset] [(.ref w10)])
      refine own_by (fun t_ k_ => XS.astore XT13.here hx rfl (hb hby at_107) rfl rfl (l' := #[oI i0, oI i1, oI i2, oI (2 : Int32), oI dd, oR w10, .unset, .unset, .unset, .unset, .unset, .unset, .unset, .unset]) rfl k_) ?_
      show own_Go p e below _ T13 (mkF m 109 #[oI i0, oI i1, oI i2, oI (2 : Int32), oI dd, oR w10, .unset, .unset, .unset, .unset, .unset, .unset, .unset, .unset] [])
      refine own_by (fun t_ k_ => XS.iloadN XT13.here hx rfl (hb hby at_109) rfl  k_) ?_
      show own_Go p e below _ T13 (mkF m 110 #[oI i0, oI i1, oI i2, oI (2 : Int32), oI dd, oR w10, .unset, .unset, .unset, .unset, .unset, .unset, .unset, .unset] [(.int i1)])
      refine own_by (fun t_ k_ => XS.i2dS XT13.here hx rfl (hb hby at_110) rfl rfl k_) ?_
      show own_Go p e below _ T13 (mkF m 111 #[oI i0, oI i1, oI i2, oI (2 : Int32), oI dd, oR w10, .unset, .unset, .unset, .unset, .unset, .unset, .unset, .unset] [(.double (FP.i2d i1))])
      have D1 := own_D_i2d i1
      have R1 := rng32 i1
      generalize (FP.i2d i1) = y1 at D1 ⊢
      show own_Go p e below _ T13 (mkF m 111 #[oI i0, oI i1, oI i2, oI (2 : Int32), oI dd, oR w10, .unset, .unset, .unset, .unset, .unset, .unset, .unset, .unset] [(.double y1)])
      refine own_by (fun t_ k_ => XT13.ldc2DoubleC hx hown (mvT hZ (hw _ (List.mem_of_getElem? (i := 4) rfl))) (g := (mkF m 111 #[oI i0, oI i1, oI i2, oI (2 : Int32), oI dd, oR w10, .unset, .unset, .unset, .unset, .unset, .unset, .unset, .unset] [(.double y1)])) rfl (hb hby at_111) t_ k_) ?_
      show own_Go p e below _ T13 (mkF m 114 #[oI i0, oI i1, oI i2, oI (2 : Int32), oI dd, oR w10, .unset, .unset, .unset, .unset, .unset, .unset, .unset, .unset] [(.double (4616189618054758400 : UInt64)), (.double y1)])
      have D14 := own_q4 D1 (by omega)
      refine own_by (fun t_ k_ => XS.ddivS XT13.here hx rfl (hb hby at_114) rfl (own_D_no D14) rfl k_) ?_
      show own_Go p e below _ T13 (mkF m 115 #[oI i0, oI i1, oI i2, oI (2 : Int32), oI dd, oR w10, .unset, .unset, .unset, .unset, .unset, .unset, .unset, .unset] [(.double (FP.ddiv y1 (4616189618054758400 : UInt64)))])
      generalize (FP.ddiv y1 (4616189618054758400 : UInt64)) = x2 at D14 ⊢
      show own_Go p e below _ T13 (mkF m 115 #[oI i0, oI i1, oI i2, oI (2 : Int32), oI dd, oR w10, .unset, .unset, .unset, .unset, .unset, .unset, .unset, .unset] [(.double x2)])
      refine own_by (fun t_ k_ => XS.dstore XT13.here hx rfl (hb hby at_115) rfl (l' := #[oI i0, oI i1, oI i2, oI (2 : Int32), oI dd, oR w10, oD x2, .second, .unset, .unset, .unset, .unset, .unset, .unset]) rfl k_) ?_
      show own_Go p e below _ T13 (mkF m 117 #[oI i0, oI i1, oI i2, oI (2 : Int32), oI dd, oR w10, oD x2, .second, .unset, .unset, .unset, .unset, .unset, .unset] [])
      refine own_by (fun t_ k_ => XS.iloadN XT13.here hx rfl (hb hby at_117) rfl  k_) ?_
      show own_Go p e below _ T13 (mkF m 118 #[oI i0, oI i1, oI i2, oI (2 : Int32), oI dd, oR w10, oD x2, .second, .unset, .unset, .unset, .unset, .unset, .unset] [(.int i2)])
      refine own_by (fun t_ k_ => XS.i2dS XT13.here hx rfl (hb hby at_118) rfl rfl k_) ?_
      show own_Go p e below _ T13 (mkF m 119 #[oI i0, oI i1, oI i2, oI (2 : Int32), oI dd, oR w10, oD x2, .second, .unset, .unset, .unset, .unset, .unset, .unset] [(.double (FP.i2d i2))])
      have D3 := own_D_i2d i2
      have R3 := rng32 i2
      generalize (FP.i2d i2) = y3 at D3 ⊢
      show own_Go p e below _ T13 (mkF m 119 #[oI i0, oI i1, oI i2, oI (2 : Int32), oI dd, oR w10, oD x2, .second, .unset, .unset, .unset, .unset, .unset, .unset] [(.double y3)])
      refine own_by (fun t_ k_ => XT13.ldc2DoubleC hx hown (mvT hZ (hw _ (List.mem_of_getElem? (i := 4) rfl))) (g := (mkF m 119 #[oI i0, oI i1, oI i2, oI (2 : Int32), oI dd, oR w10, oD x2, .second, .unset, .unset, .unset, .unset, .unset, .unset] [(.double y3)])) rfl (hb hby at_119) t_ k_) ?_
      show own_Go p e below _ T13 (mkF m 122 #[oI i0, oI i1, oI i2, oI (2 : Int32), oI dd, oR w10, oD x2, .second, .unset, .unset, .unset, .unset, .unset, .unset] [(.double (4616189618054758400 : UInt64)), (.double y3)])
      have D15 := own_q4 D3 (by omega)
      refine own_by (fun t_ k_ => XS.ddivS XT13.here hx rfl (hb hby at_122) rfl (own_D_no D15) rfl k_) ?_
      show own_Go p e below _ T13 (mkF m 123 #[oI i0, oI i1, oI i2, oI (2 : Int32), oI dd, oR w10, oD x2, .second, .unset, .unset, .unset, .unset, .unset, .unset] [(.double (FP.ddiv y3 (4616189618054758400 : UInt64)))])
      generalize (FP.ddiv y3 (4616189618054758400 : UInt64)) = x4 at D15 ⊢
      show own_Go p e below _ T13 (mkF m 123 #[oI i0, oI i1, oI i2, oI (2 : Int32), oI dd, oR w10, oD x2, .second, .unset, .unset, .unset, .unset, .unset, .unset] [(.double x4)])
      refine own_by (fun t_ k_ => XS.dstore XT13.here hx rfl (hb hby at_123) rfl (l' := #[oI i0, oI i1, oI i2, oI (2 : Int32), oI dd, oR w10, oD x2, .second, oD x4, .second, .unset, .unset, .unset, .unset]) rfl k_) ?_
      show own_Go p e below _ T13 (mkF m 125 #[oI i0, oI i1, oI i2, oI (2 : Int32), oI dd, oR w10, oD x2, .second, oD x4, .second, .unset, .unset, .unset, .unset] [])
      refine own_by (fun t_ k_ => XS.iloadN XT13.here hx rfl (hb hby at_125) rfl  k_) ?_
      show own_Go p e below _ T13 (mkF m 126 #[oI i0, oI i1, oI i2, oI (2 : Int32), oI dd, oR w10, oD x2, .second, oD x4, .second, .unset, .unset, .unset, .unset] [(.int i1)])
      refine own_by (fun t_ k_ => XT.i2l XT13.here hx rfl (hb hby at_126) rfl k_) ?_
      show own_Go p e below _ T13 (mkF m 127 #[oI i0, oI i1, oI i2, oI (2 : Int32), oI dd, oR w10, oD x2, .second, oD x4, .second, .unset, .unset, .unset, .unset] [(.long (i1.toInt64))])
      refine own_by (fun t_ k_ => XS.iloadN XT13.here hx rfl (hb hby at_127) rfl  k_) ?_
      show own_Go p e below _ T13 (mkF m 128 #[oI i0, oI i1, oI i2, oI (2 : Int32), oI dd, oR w10, oD x2, .second, oD x4, .second, .unset, .unset, .unset, .unset] [(.int i2), (.long (i1.toInt64))])
      refine own_by (fun t_ k_ => XT.i2l XT13.here hx rfl (hb hby at_128) rfl k_) ?_
      show own_Go p e below _ T13 (mkF m 129 #[oI i0, oI i1, oI i2, oI (2 : Int32), oI dd, oR w10, oD x2, .second, oD x4, .second, .unset, .unset, .unset, .unset] [(.long (i2.toInt64)), (.long (i1.toInt64))])
      refine own_by (fun t_ k_ => XT.lmul XT13.here hx rfl (hb hby at_129) rfl k_) ?_
      show own_Go p e below _ T13 (mkF m 130 #[oI i0, oI i1, oI i2, oI (2 : Int32), oI dd, oR w10, oD x2, .second, oD x4, .second, .unset, .unset, .unset, .unset] [(.long ((i1.toInt64) * (i2.toInt64)))])
      refine own_by (fun t_ k_ => XS.l2dS XT13.here hx rfl (hb hby at_130) rfl rfl k_) ?_
      show own_Go p e below _ T13 (mkF m 131 #[oI i0, oI i1, oI i2, oI (2 : Int32), oI dd, oR w10, oD x2, .second, oD x4, .second, .unset, .unset, .unset, .unset] [(.double (FP.l2d ((i1.toInt64) * (i2.toInt64))))])
      refine own_by (fun t_ k_ => XT13.ldc2DoubleC hx hown (mvT hZ (hw _ (List.mem_of_getElem? (i := 22) rfl))) (g := (mkF m 131 #[oI i0, oI i1, oI i2, oI (2 : Int32), oI dd, oR w10, oD x2, .second, oD x4, .second, .unset, .unset, .unset, .unset] [(.double (FP.l2d ((i1.toInt64) * (i2.toInt64))))])) rfl (hb hby at_131) t_ k_) ?_
      show own_Go p e below _ T13 (mkF m 134 #[oI i0, oI i1, oI i2, oI (2 : Int32), oI dd, oR w10, oD x2, .second, oD x4, .second, .unset, .unset, .unset, .unset] [(.double (4625196817309499392 : UInt64)), (.double (FP.l2d ((i1.toInt64) * (i2.toInt64))))])
      have htt : (((i1.toInt64) * (i2.toInt64))).toInt = i1.toInt * i2.toInt := XT.wideMul i1 i2
      have hti := own_times D14 D15 htt
      refine own_by (fun t_ k_ => XS.ddivS XT13.here hx rfl (hb hby at_134) rfl hti.2.1 rfl k_) ?_
      show own_Go p e below _ T13 (mkF m 135 #[oI i0, oI i1, oI i2, oI (2 : Int32), oI dd, oR w10, oD x2, .second, oD x4, .second, .unset, .unset, .unset, .unset] [(.double (FP.ddiv (FP.l2d ((i1.toInt64) * (i2.toInt64))) (4625196817309499392 : UInt64)))])
      refine own_by (fun t_ k_ => XS.dstore XT13.here hx rfl (hb hby at_135) rfl (l' := #[oI i0, oI i1, oI i2, oI (2 : Int32), oI dd, oR w10, oD x2, .second, oD x4, .second, oD (FP.ddiv (FP.l2d ((i1.toInt64) * (i2.toInt64))) (4625196817309499392 : UInt64)), .second, .unset, .unset]) rfl k_) ?_
      show own_Go p e below _ T13 (mkF m 137 #[oI i0, oI i1, oI i2, oI (2 : Int32), oI dd, oR w10, oD x2, .second, oD x4, .second, oD (FP.ddiv (FP.l2d ((i1.toInt64) * (i2.toInt64))) (4625196817309499392 : UInt64)), .second, .unset, .unset] [])
      refine own_by (fun t_ k_ => XS.goto XT13.here hx rfl (pc0 := 137) (pc' := 220) rfl (hb hby at_137) (by decide) (by decide) k_) ?_
      show own_Go p e below _ T13 (mkF m 220 #[oI i0, oI i1, oI i2, oI (2 : Int32), oI dd, oR w10, oD x2, .second, oD x4, .second, oD (FP.ddiv (FP.l2d ((i1.toInt64) * (i2.toInt64))) (4625196817309499392 : UInt64)), .second, .unset, .unset] [])
      refine own_by (fun t_ k_ => XS.aload XT13.here hx rfl (hb hby at_220) rfl rfl  k_) ?_
      show own_Go p e below _ T13 (mkF m 222 #[oI i0, oI i1, oI i2, oI (2 : Int32), oI dd, oR w10, oD x2, .second, oD x4, .second, oD (FP.ddiv (FP.l2d ((i1.toInt64) * (i2.toInt64))) (4625196817309499392 : UInt64)), .second, .unset, .unset] [(.ref w10)])
      refine own_by (fun t_ k_ => XS.dload XT13.here hx rfl (hb hby at_222) rfl  k_) ?_
      show own_Go p e below _ T13 (mkF m 224 #[oI i0, oI i1, oI i2, oI (2 : Int32), oI dd, oR w10, oD x2, .second, oD x4, .second, oD (FP.ddiv (FP.l2d ((i1.toInt64) * (i2.toInt64))) (4625196817309499392 : UInt64)), .second, .unset, .unset] [(.double x2), (.ref w10)])
      refine own_by (fun t_ k_ => XS.dload XT13.here hx rfl (hb hby at_224) rfl  k_) ?_
      show own_Go p e below _ T13 (mkF m 226 #[oI i0, oI i1, oI i2, oI (2 : Int32), oI dd, oR w10, oD x2, .second, oD x4, .second, oD (FP.ddiv (FP.l2d ((i1.toInt64) * (i2.toInt64))) (4625196817309499392 : UInt64)), .second, .unset, .unset] [(.double x4), (.double x2), (.ref w10)])
      refine own_callV XT13 hx hZ hown (hw _ (List.mem_of_getElem? (i := 5) rfl)) (hw _ (List.mem_of_getElem? (i := 6) rfl)) (hw _ (List.mem_of_getElem? (i := 8) rfl)) (hw _ (List.mem_of_getElem? (i := 7) rfl)) (hw _ (List.mem_of_getElem? (i := 9) rfl)) (hw _ (List.mem_of_getElem? (i := 2) rfl)) (by decide) eT13 (b := w10) E10 (argsL := [(.double x2), (.double x4)]) (rest := []) (own_ar2 l Z a0 hw x2 x4 w8 w9 w10 w11 w12 h0 S_ F8 F9 F10 F11 F12 hti.1) 0 (by decide) (by decide) (by rw [hml]; rfl) (lenOf pd_0 rfl) (Nat.le_of_eq rfl) (hb hby at_226) (by decide) (by decide) (st := [(.double x4), (.double x2), (.ref w10)]) rfl ?_
      intro T16 LT16 vT16 XT16 hQT16
      obtain ⟨rfl, eT16, rfl⟩ := hQT16
      show own_Go p e below _ T16 (mkF m 229 #[oI i0, oI i1, oI i2, oI (2 : Int32), oI dd, oR w10, oD x2, .second, oD x4, .second, oD (FP.ddiv (FP.l2d ((i1.toInt64) * (i2.toInt64))) (4625196817309499392 : UInt64)), .second, .unset, .unset] [(.double (FP.dmul x2 x4))])
      refine own_by (fun t_ k_ => XS.dstore XT16.here hx rfl (hb hby at_229) rfl (l' := #[oI i0, oI i1, oI i2, oI (2 : Int32), oI dd, oR w10, oD x2, .second, oD x4, .second, oD (FP.ddiv (FP.l2d ((i1.toInt64) * (i2.toInt64))) (4625196817309499392 : UInt64)), .second, oD (FP.dmul x2 x4), .second]) rfl k_) ?_
      show own_Go p e below _ T16 (mkF m 231 #[oI i0, oI i1, oI i2, oI (2 : Int32), oI dd, oR w10, oD x2, .second, oD x4, .second, oD (FP.ddiv (FP.l2d ((i1.toInt64) * (i2.toInt64))) (4625196817309499392 : UInt64)), .second, oD (FP.dmul x2 x4), .second] [])
      refine own_by (fun t_ k_ => XS.dload XT16.here hx rfl (hb hby at_231) rfl  k_) ?_
      show own_Go p e below _ T16 (mkF m 233 #[oI i0, oI i1, oI i2, oI (2 : Int32), oI dd, oR w10, oD x2, .second, oD x4, .second, oD (FP.ddiv (FP.l2d ((i1.toInt64) * (i2.toInt64))) (4625196817309499392 : UInt64)), .second, oD (FP.dmul x2 x4), .second] [(.double (FP.dmul x2 x4))])
      refine own_by (fun t_ k_ => XS.dload XT16.here hx rfl (hb hby at_233) rfl  k_) ?_
      show own_Go p e below _ T16 (mkF m 235 #[oI i0, oI i1, oI i2, oI (2 : Int32), oI dd, oR w10, oD x2, .second, oD x4, .second, oD (FP.ddiv (FP.l2d ((i1.toInt64) * (i2.toInt64))) (4625196817309499392 : UInt64)), .second, oD (FP.dmul x2 x4), .second] [(.double (FP.ddiv (FP.l2d ((i1.toInt64) * (i2.toInt64))) (4625196817309499392 : UInt64))), (.double (FP.dmul x2 x4))])
      refine own_by (fun t_ k_ => XS.dcmpS XT16.here hx rfl (hb hby at_235) rfl hti.2.2 k_) ?_
      show own_Go p e below _ T16 (mkF m 236 #[oI i0, oI i1, oI i2, oI (2 : Int32), oI dd, oR w10, oD x2, .second, oD x4, .second, oD (FP.ddiv (FP.l2d ((i1.toInt64) * (i2.toInt64))) (4625196817309499392 : UInt64)), .second, oD (FP.dmul x2 x4), .second] [(.int (0 : Int32))])
      refine own_by (fun t_ k_ => XS.ifNo XT16.here hx rfl (hb hby at_236) rfl (XT.i0_ne_f (by decide)) k_) ?_
      show own_Go p e below _ T16 (mkF m 239 #[oI i0, oI i1, oI i2, oI (2 : Int32), oI dd, oR w10, oD x2, .second, oD x4, .second, oD (FP.ddiv (FP.l2d ((i1.toInt64) * (i2.toInt64))) (4625196817309499392 : UInt64)), .second, oD (FP.dmul x2 x4), .second] [])
      refine own_by (fun t_ k_ => XT.iconstV XT16.here hx rfl (1 : Int32) (hb hby at_239) (by decide) k_) ?_
      show own_Go p e below _ T16 (mkF m 240 #[oI i0, oI i1, oI i2, oI (2 : Int32), oI dd, oR w10, oD x2, .second, oD x4, .second, oD (FP.ddiv (FP.l2d ((i1.toInt64) * (i2.toInt64))) (4625196817309499392 : UInt64)), .second, oD (FP.dmul x2 x4), .second] [(.int (1 : Int32))])
      refine own_by (fun t_ k_ => XS.goto XT16.here hx rfl (pc0 := 240) (pc' := 244) rfl (hb hby at_240) (by decide) (by decide) k_) ?_
      show own_Go p e below _ T16 (mkF m 244 #[oI i0, oI i1, oI i2, oI (2 : Int32), oI dd, oR w10, oD x2, .second, oD x4, .second, oD (FP.ddiv (FP.l2d ((i1.toInt64) * (i2.toInt64))) (4625196817309499392 : UInt64)), .second, oD (FP.dmul x2 x4), .second] [(.int (1 : Int32))])
      exact own_retN XT16 hx hlk hret (by simp) (w := (1 : Int32)) (hb hby at_244) (by decide) (by decide) (by decide) (⟨rfl, eT16, rfl⟩)
    by_cases c8_16 : i2 = (0 : Int32)
    · refine own_by (fun t_ k_ => XS.ifNo X0.here hx rfl (hb hby at_8) rfl (XT.i0_ne_f c8_16) k_) ?_
      show own_Go p e below _ T0 (mkF m 11 #[oI i0, oI i1, oI i2, oI (2 : Int32), .unset, .unset, .unset, .unset, .unset, .unset, .unset, .unset, .unset, .unset] [])
      refine own_by (fun t_ k_ => XT.iconstV X0.here hx rfl (1 : Int32) (hb hby at_11) (by decide) k_) ?_
      show own_Go p e below _ T0 (mkF m 12 #[oI i0, oI i1, oI i2, oI (2 : Int32), .unset, .unset, .unset, .unset, .unset, .unset, .unset, .unset, .unset, .unset] [(.int (1 : Int32))])
      refine own_by (fun t_ k_ => XS.goto X0.here hx rfl (pc0 := 12) (pc' := 16) rfl (hb hby at_12) (by decide) (by decide) k_) ?_
      show own_Go p e below _ T0 (mkF m 16 #[oI i0, oI i1, oI i2, oI (2 : Int32), .unset, .unset, .unset, .unset, .unset, .unset, .unset, .unset, .unset, .unset] [(.int (1 : Int32))])
      exact J _ (by decide)
    · refine own_by (fun t_ k_ => XS.ifYes X0.here hx rfl (pc0 := 8) (pc' := 15) rfl (hb hby at_8) rfl (XT.i0_ne_t c8_16) (by decide) (by decide) k_) ?_
      show own_Go p e below _ T0 (mkF m 15 #[oI i0, oI i1, oI i2, oI (2 : Int32), .unset, .unset, .unset, .unset, .unset, .unset, .unset, .unset, .unset, .unset] [])
      refine own_by (fun t_ k_ => XS.iloadN X0.here hx rfl (hb hby at_15) rfl  k_) ?_
      show own_Go p e below _ T0 (mkF m 16 #[oI i0, oI i1, oI i2, oI (2 : Int32), .unset, .unset, .unset, .unset, .unset, .unset, .unset, .unset, .unset, .unset] [(.int i2)])
      exact J _ c8_16
  · refine own_by (fun t_ k_ => XS.iloadN X0.here hx rfl (hb hby at_0) rfl  k_) ?_
    show own_Go p e below _ T0 (mkF m 1 #[oI i0, oI i1, oI i2, .unset, .unset, .unset, .unset, .unset, .unset, .unset, .unset, .unset, .unset, .unset] [(.int i0)])
    refine own_by (fun t_ k_ => X0.ldcI hx hown (mvT hZ (hw _ (List.mem_of_getElem? (i := 0) rfl))) rfl (hb hby at_1) k_) ?_
    show own_Go p e below _ T0 (mkF m 3 #[oI i0, oI i1, oI i2, .unset, .unset, .unset, .unset, .unset, .unset, .unset, .unset, .unset, .unset, .unset] [(.int (2147483647 : Int32)), (.int i0)])
    refine own_by (fun t_ k_ => XS.iand X0.here hx rfl (hb hby at_3) rfl k_) ?_
    show own_Go p e below _ T0 (mkF m 4 #[oI i0, oI i1, oI i2, .unset, .unset, .unset, .unset, .unset, .unset, .unset, .unset, .unset, .unset, .unset] [(.int (i0 &&& (2147483647 : Int32)))])
    refine own_by (fun t_ k_ => XT.iconstV X0.here hx rfl (5 : Int32) (hb hby at_4) (by decide) k_) ?_
    show own_Go p e below _ T0 (mkF m 5 #[oI i0, oI i1, oI i2, .unset, .unset, .unset, .unset, .unset, .unset, .unset, .unset, .unset, .unset, .unset] [(.int (5 : Int32)), (.int (i0 &&& (2147483647 : Int32)))])
    refine own_by (fun t_ k_ => iremM X0 hx rfl (hb hby at_5) rfl (by decide) k_) ?_
    show own_Go p e below _ T0 (mkF m 6 #[oI i0, oI i1, oI i2, .unset, .unset, .unset, .unset, .unset, .unset, .unset, .unset, .unset, .unset, .unset] [(.int ((i0 &&& (2147483647 : Int32)) % (5 : Int32)))])
    rw [hk]
    show own_Go p e below _ T0 (mkF m 6 #[oI i0, oI i1, oI i2, .unset, .unset, .unset, .unset, .unset, .unset, .unset, .unset, .unset, .unset, .unset] [(.int (3 : Int32))])
    refine own_by (fun t_ k_ => XS.istoreN X0.here hx rfl (hb hby at_6) rfl (l' := #[oI i0, oI i1, oI i2, oI (3 : Int32), .unset, .unset, .unset, .unset, .unset, .unset, .unset, .unset, .unset, .unset]) rfl k_) ?_
    show own_Go p e below _ T0 (mkF m 7 #[oI i0, oI i1, oI i2, oI (3 : Int32), .unset, .unset, .unset, .unset, .unset, .unset, .unset, .unset, .unset, .unset] [])
    refine own_by (fun t_ k_ => XS.iloadN X0.here hx rfl (hb hby at_7) rfl  k_) ?_
    show own_Go p e below _ T0 (mkF m 8 #[oI i0, oI i1, oI i2, oI (3 : Int32), .unset, .unset, .unset, .unset, .unset, .unset, .unset, .unset, .unset, .unset] [(.int i2)])
    have J : ∀ dd : Int32, ¬ dd = 0 → own_Go p e below (own_K s room_1.cells room_1.slots (fun v h L => v = some (.int (1 : Int32)) ∧ h = h0 ∧ L = [])) T0 (mkF m 16 #[oI i0, oI i1, oI i2, oI (3 : Int32), .unset, .unset, .unset, .unset, .unset, .unset, .unset, .unset, .unset, .unset] [(.int dd)]) := by
      intro dd hd0
      show own_Go p e below _ T0 (mkF m 16 #[oI i0, oI i1, oI i2, oI (3 : Int32), .unset, .unset, .unset, .unset, .unset, .unset, .unset, .unset, .unset, .unset] [(.int dd)])
      refine own_by (fun t_ k_ => XS.istore X0.here hx rfl (hb hby at_16) rfl (l' := #[oI i0, oI i1, oI i2, oI (3 : Int32), oI dd, .unset, .unset, .unset, .unset, .unset, .unset, .unset, .unset, .unset]) rfl k_) ?_
      show own_Go p e below _ T0 (mkF m 18 #[oI i0, oI i1, oI i2, oI (3 : Int32), oI dd, .unset, .unset, .unset, .unset, .unset, .unset, .unset, .unset, .unset] [])
      refine own_by (fun t_ k_ => XS.iloadN X0.here hx rfl (hb hby at_18) rfl  k_) ?_
      show own_Go p e below _ T0 (mkF m 19 #[oI i0, oI i1, oI i2, oI (3 : Int32), oI dd, .unset, .unset, .unset, .unset, .unset, .unset, .unset, .unset, .unset] [(.int (3 : Int32))])
      refine own_by (fun t_ k_ => XS.ifYes X0.here hx rfl (pc0 := 19) (pc' := 58) rfl (hb hby at_19) rfl (XT.i0_ne_t (by decide)) (by decide) (by decide) k_) ?_
      show own_Go p e below _ T0 (mkF m 58 #[oI i0, oI i1, oI i2, oI (3 : Int32), oI dd, .unset, .unset, .unset, .unset, .unset, .unset, .unset, .unset, .unset] [])
      refine own_by (fun t_ k_ => XS.iloadN X0.here hx rfl (hb hby at_58) rfl  k_) ?_
      show own_Go p e below _ T0 (mkF m 59 #[oI i0, oI i1, oI i2, oI (3 : Int32), oI dd, .unset, .unset, .unset, .unset, .unset, .unset, .unset, .unset, .unset] [(.int (3 : Int32))])
      refine own_by (fun t_ k_ => XT.iconstV X0.here hx rfl (1 : Int32) (hb hby at_59) (by decide) k_) ?_
      show own_Go p e below _ T0 (mkF m 60 #[oI i0, oI i1, oI i2, oI (3 : Int32), oI dd, .unset, .unset, .unset, .unset, .unset, .unset, .unset, .unset, .unset] [(.int (1 : Int32)), (.int (3 : Int32))])
      refine own_by (fun t_ k_ => XS.icmpYes X0.here hx rfl (pc0 := 60) (pc' := 99) rfl (hb hby at_60) rfl (XT.ii_ne_t (by decide)) (by decide) (by decide) k_) ?_
      show own_Go p e below _ T0 (mkF m 99 #[oI i0, oI i1, oI i2, oI (3 : Int32), oI dd, .unset, .unset, .unset, .unset, .unset, .unset, .unset, .unset, .unset] [])
      refine own_by (fun t_ k_ => XS.iloadN X0.here hx rfl (hb hby at_99) rfl  k_) ?_
      show own_Go p e below _ T0 (mkF m 100 #[oI i0, oI i1, oI i2, oI (3 : Int32), oI dd, .unset, .unset, .unset, .unset, .unset, .unset, .unset, .unset, .unset] [(.int (3 : Int32))])
      refine own_by (fun t_ k_ => XT.iconstV X0.here hx rfl (2 : Int32) (hb hby at_100) (by decide) k_) ?_
      show own_Go p e below _ T0 (mkF m 101 #[oI i0, oI i1, oI i2, oI (3 : Int32), oI dd, .unset, .unset, .unset, .unset, .unset, .unset, .unset, .unset, .unset] [(.int (2 : Int32)), (.int (3 : Int32))])
      refine own_by (fun t_ k_ => XS.icmpYes X0.here hx rfl (pc0 := 101) (pc' := 140) rfl (hb hby at_101) rfl (XT.ii_ne_t (by decide)) (by decide) (by decide) k_) ?_
      show own_Go p e below _ T0 (mkF m 140 #[oI i0, oI i1, oI i2, oI (3 : Int32), oI dd, .unset, .unset, .unset, .unset, .unset, .unset, .unset, .unset, .unset] [])
      refine own_by (fun t_ k_ => XS.iloadN X0.here hx rfl (hb hby at_140) rfl  k_) ?_
      show own_Go p e below _ T0 (mkF m 141 #[oI i0, oI i1, oI i2, oI (3 : Int32), oI dd, .unset, .unset, .unset, .unset, .unset, .unset, .unset, .unset, .unset] [(.int (3 : Int32))])
      refine own_by (fun t_ k_ => XT.iconstV X0.here hx rfl (3 : Int32) (hb hby at_141) (by decide) k_) ?_
      show own_Go p e below _ T0 (mkF m 142 #[oI i0, oI i1, oI i2, oI (3 : Int32), oI dd, .unset, .unset, .unset, .unset, .unset, .unset, .unset, .unset, .unset] [(.int (3 : Int32)), (.int (3 : Int32))])
      refine own_by (fun t_ k_ => XS.icmpNo X0.here hx rfl (hb hby at_142) rfl (XT.ii_ne_f (by decide)) k_) ?_
      show own_Go p e below _ T0 (mkF m 145 #[oI i0, oI i1, oI i2, oI (3 : Int32), oI dd, .unset, .unset, .unset, .unset, .unset, .unset, .unset, .unset, .unset] [])
      obtain ⟨T18, XT18, eT18, stT18⟩ := getS2 X0 hx hZ hown (host := "") (Or.inl (hw _ (List.mem_of_getElem? (i := 20) rfl))) Via.refl e0 S11 (g := (mkF m 145 #[oI i0, oI i1, oI i2, oI (3 : Int32), oI dd, .unset, .unset, .unset, .unset, .unset, .unset, .unset, .unset, .unset] [])) rfl (hb hby at_145)
      refine own_by stT18 ?_
      show own_Go p e below _ T18 (mkF m 148 #[oI i0, oI i1, oI i2, oI (3 : Int32), oI dd, .unset, .unset, .unset, .unset, .unset, .unset, .unset, .unset, .unset] [(.ref w11)])
      refine own_by (fun t_ k_ => XS.astore XT18.here hx rfl (hb hby at_148) rfl rfl (l' := #[oI i0, oI i1, oI i2, oI (3 : Int32), oI dd, oR w11, .unset, .unset, .unset, .unset, .unset, .unset, .unset, .unset]) rfl k_) ?_
      show own_Go p e below _ T18 (mkF m 150 #[oI i0, oI i1, oI i2, oI (3 : Int32), oI dd, oR w11, .unset, .unset, .unset, .unset, .unset, .unset, .unset, .unset] [])
      refine own_by (fun t_ k_ => XS.iloadN XT18.here hx rfl (hb hby at_150) rfl  k_) ?_
      show own_Go p e below _ T18 (mkF m 151 #[oI i0, oI i1, oI i2, oI (3 : Int32), oI dd, oR w11, .unset, .unset, .unset, .unset, .unset, .unset, .unset, .unset] [(.int i1)])
      refine own_by (fun t_ k_ => XT.bipushV XT18.here hx rfl (11 : Int32) (hb hby at_151) (by decide) k_) ?_
      show own_Go p e below _ T18 (mkF m 153 #[oI i0, oI i1, oI i2, oI (3 : Int32), oI dd, oR w11, .unset, .unset, .unset, .unset, .unset, .unset, .unset, .unset] [(.int (11 : Int32)), (.int i1)])
      refine own_by (fun t_ k_ => XT.ishr XT18.here hx rfl (hb hby at_153) rfl k_) ?_
      show own_Go p e below _ T18 (mkF m 154 #[oI i0, oI i1, oI i2, oI (3 : Int32), oI dd, oR w11, .unset, .unset, .unset, .unset, .unset, .unset, .unset, .unset] [(.int (i1 >>> ((11 : Int32) &&& 31)))])
      refine own_by (fun t_ k_ => XS.istore XT18.here hx rfl (hb hby at_154) rfl (l' := #[oI i0, oI i1, oI i2, oI (3 : Int32), oI dd, oR w11, .unset, .unset, .unset, .unset, .unset, .unset, oI (i1 >>> ((11 : Int32) &&& 31)), .unset]) rfl k_) ?_
      show own_Go p e below _ T18 (mkF m 156 #[oI i0, oI i1, oI i2, oI (3 : Int32), oI dd, oR w11, .unset, .unset, .unset, .unset, .unset, .unset, oI (i1 >>> ((11 : Int32) &&& 31)), .unset] [])
      refine own_by (fun t_ k_ => XS.iload XT18.here hx rfl (hb hby at_156) rfl  k_) ?_
      show own_Go p e below _ T18 (mkF m 158 #[oI i0, oI i1, oI i2, oI (3 : Int32), oI dd, oR w11, .unset, .unset, .unset, .unset, .unset, .unset, oI (i1 >>> ((11 : Int32) &&& 31)), .unset] [(.int (i1 >>> ((11 : Int32) &&& 31)))])
      refine own_by (fun t_ k_ => XT.i2l XT18.here hx rfl (hb hby at_158) rfl k_) ?_
      show own_Go p e below _ T18 (mkF m 159 #[oI i0, oI i1, oI i2, oI (3 : Int32), oI dd, oR w11, .unset, .unset, .unset, .unset, .unset, .unset, oI (i1 >>> ((11 : Int32) &&& 31)), .unset] [(.long ((i1 >>> ((11 : Int32) &&& 31)).toInt64))])
      refine own_by (fun t_ k_ => XS.iload XT18.here hx rfl (hb hby at_159) rfl  k_) ?_
      show own_Go p e below _ T18 (mkF m 161 #[oI i0, oI i1, oI i2, oI (3 : Int32), oI dd, oR w11, .unset, .unset, .unset, .unset, .unset, .unset, oI (i1 >>> ((11 : Int32) &&& 31)), .unset] [(.int dd), (.long ((i1 >>> ((11 : Int32) &&& 31)).toInt64))])
      refine own_by (fun t_ k_ => XT.i2l XT18.here hx rfl (hb hby at_161) rfl k_) ?_
      show own_Go p e below _ T18 (mkF m 162 #[oI i0, oI i1, oI i2, oI (3 : Int32), oI dd, oR w11, .unset, .unset, .unset, .unset, .unset, .unset, oI (i1 >>> ((11 : Int32) &&& 31)), .unset] [(.long (dd.toInt64)), (.long ((i1 >>> ((11 : Int32) &&& 31)).toInt64))])
      refine own_by (fun t_ k_ => XT.lmul XT18.here hx rfl (hb hby at_162) rfl k_) ?_
      show own_Go p e below _ T18 (mkF m 163 #[oI i0, oI i1, oI i2, oI (3 : Int32), oI dd, oR w11, .unset, .unset, .unset, .unset, .unset, .unset, oI (i1 >>> ((11 : Int32) &&& 31)), .unset] [(.long (((i1 >>> ((11 : Int32) &&& 31)).toInt64) * (dd.toInt64)))])
      refine own_by (fun t_ k_ => XS.l2dS XT18.here hx rfl (hb hby at_163) rfl rfl k_) ?_
      show own_Go p e below _ T18 (mkF m 164 #[oI i0, oI i1, oI i2, oI (3 : Int32), oI dd, oR w11, .unset, .unset, .unset, .unset, .unset, .unset, oI (i1 >>> ((11 : Int32) &&& 31)), .unset] [(.double (FP.l2d (((i1 >>> ((11 : Int32) &&& 31)).toInt64) * (dd.toInt64))))])
      have R1 := rng32 i1
      have Q1 := rng32 i2
      have U1 := rng32 dd
      have P1 := own_prod21 i1 dd
      have H1 : ((((i1 >>> ((11 : Int32) &&& 31)).toInt64) * (dd.toInt64))).toInt = (i1 >>> ((11 : Int32) &&& 31)).toInt * dd.toInt := by
        have a1 := c_i2l (i1 >>> ((11 : Int32) &&& 31))
        have a2 := c_i2l dd
        have a3 := c_lmul ((i1 >>> ((11 : Int32) &&& 31)).toInt64) (dd.toInt64)
        have a4 := rng64 (((i1 >>> ((11 : Int32) &&& 31)).toInt64) * (dd.toInt64))
        rw [a1, a2] at a3
        omega
      have D1 := own_D_l2d (a := (((i1 >>> ((11 : Int32) &&& 31)).toInt64) * (dd.toInt64))) (by rw [H1]; omega)
      rw [H1] at D1
      generalize (FP.l2d (((i1 >>> ((11 : Int32) &&& 31)).toInt64) * (dd.toInt64))) = y1 at D1 ⊢
      show own_Go p e below _ T18 (mkF m 164 #[oI i0, oI i1, oI i2, oI (3 : Int32), oI dd, oR w11, .unset, .unset, .unset, .unset, .unset, .unset, oI (i1 >>> ((11 : Int32) &&& 31)), .unset] [(.double y1)])
      refine own_by (fun t_ k_ => XT18.ldc2DoubleC hx hown (mvT hZ (hw _ (List.mem_of_getElem? (i := 4) rfl))) (g := (mkF m 164 #[oI i0, oI i1, oI i2, oI (3 : Int32), oI dd, oR w11, .unset, .unset, .unset, .unset, .unset, .unset, oI (i1 >>> ((11 : Int32) &&& 31)), .unset] [(.double y1)])) rfl (hb hby at_164) t_ k_) ?_
      show own_Go p e below _ T18 (mkF m 167 #[oI i0, oI i1, oI i2, oI (3 : Int32), oI dd, oR w11, .unset, .unset, .unset, .unset, .unset, .unset, oI (i1 >>> ((11 : Int32) &&& 31)), .unset] [(.double (4616189618054758400 : UInt64)), (.double y1)])
      have D19 := own_q4 D1 (by omega)
      refine own_by (fun t_ k_ => XS.ddivS XT18.here hx rfl (hb hby at_167) rfl (own_D_no D19) rfl k_) ?_
      show own_Go p e below _ T18 (mkF m 168 #[oI i0, oI i1, oI i2, oI (3 : Int32), oI dd, oR w11, .unset, .unset, .unset, .unset, .unset, .unset, oI (i1 >>> ((11 : Int32) &&& 31)), .unset] [(.double (FP.ddiv y1 (4616189618054758400 : UInt64)))])
      generalize (FP.ddiv y1 (4616189618054758400 : UInt64)) = x2 at D19 ⊢
      show own_Go p e below _ T18 (mkF m 168 #[oI i0, oI i1, oI i2, oI (3 : Int32), oI dd, oR w11, .unset, .unset, .unset, .unset, .unset, .unset, oI (i1 >>> ((11 : Int32) &&& 31)), .unset] [(.double x2)])
      refine own_by (fun t_ k_ => XS.dstore XT18.here hx rfl (hb hby at_168) rfl (l' := #[oI i0, oI i1, oI i2, oI (3 : Int32), oI dd, oR w11, oD x2, .second, .unset, .unset, .unset, .unset, oI (i1 >>> ((11 : Int32) &&& 31)), .unset]) rfl k_) ?_
      show own_Go p e below _ T18 (mkF m 170 #[oI i0, oI i1, oI i2, oI (3 : Int32), oI dd, oR w11, oD x2, .second, .unset, .unset, .unset, .unset, oI (i1 >>> ((11 : Int32) &&& 31)), .unset] [])
      refine own_by (fun t_ k_ => XS.iload XT18.here hx rfl (hb hby at_170) rfl  k_) ?_
      show own_Go p e below _ T18 (mkF m 172 #[oI i0, oI i1, oI i2, oI (3 : Int32), oI dd, oR w11, oD x2, .second, .unset, .unset, .unset, .unset, oI (i1 >>> ((11 : Int32) &&& 31)), .unset] [(.int dd)])
      refine own_by (fun t_ k_ => XS.i2dS XT18.here hx rfl (hb hby at_172) rfl rfl k_) ?_
      show own_Go p e below _ T18 (mkF m 173 #[oI i0, oI i1, oI i2, oI (3 : Int32), oI dd, oR w11, oD x2, .second, .unset, .unset, .unset, .unset, oI (i1 >>> ((11 : Int32) &&& 31)), .unset] [(.double (FP.i2d dd))])
      have D3 := own_D_i2d dd
      have R3 := rng32 dd
      generalize (FP.i2d dd) = y3 at D3 ⊢
      show own_Go p e below _ T18 (mkF m 173 #[oI i0, oI i1, oI i2, oI (3 : Int32), oI dd, oR w11, oD x2, .second, .unset, .unset, .unset, .unset, oI (i1 >>> ((11 : Int32) &&& 31)), .unset] [(.double y3)])
      refine own_by (fun t_ k_ => XT18.ldc2DoubleC hx hown (mvT hZ (hw _ (List.mem_of_getElem? (i := 4) rfl))) (g := (mkF m 173 #[oI i0, oI i1, oI i2, oI (3 : Int32), oI dd, oR w11, oD x2, .second, .unset, .unset, .unset, .unset, oI (i1 >>> ((11 : Int32) &&& 31)), .unset] [(.double y3)])) rfl (hb hby at_173) t_ k_) ?_
      show own_Go p e below _ T18 (mkF m 176 #[oI i0, oI i1, oI i2, oI (3 : Int32), oI dd, oR w11, oD x2, .second, .unset, .unset, .unset, .unset, oI (i1 >>> ((11 : Int32) &&& 31)), .unset] [(.double (4616189618054758400 : UInt64)), (.double y3)])
      have D20 := own_q4 D3 (by omega)
      refine own_by (fun t_ k_ => XS.ddivS XT18.here hx rfl (hb hby at_176) rfl (own_D_no D20) rfl k_) ?_
      show own_Go p e below _ T18 (mkF m 177 #[oI i0, oI i1, oI i2, oI (3 : Int32), oI dd, oR w11, oD x2, .second, .unset, .unset, .unset, .unset, oI (i1 >>> ((11 : Int32) &&& 31)), .unset] [(.double (FP.ddiv y3 (4616189618054758400 : UInt64)))])
      generalize (FP.ddiv y3 (4616189618054758400 : UInt64)) = x4 at D20 ⊢
      show own_Go p e below _ T18 (mkF m 177 #[oI i0, oI i1, oI i2, oI (3 : Int32), oI dd, oR w11, oD x2, .second, .unset, .unset, .unset, .unset, oI (i1 >>> ((11 : Int32) &&& 31)), .unset] [(.double x4)])
      refine own_by (fun t_ k_ => XS.dstore XT18.here hx rfl (hb hby at_177) rfl (l' := #[oI i0, oI i1, oI i2, oI (3 : Int32), oI dd, oR w11, oD x2, .second, oD x4, .second, .unset, .unset, oI (i1 >>> ((11 : Int32) &&& 31)), .unset]) rfl k_) ?_
      show own_Go p e below _ T18 (mkF m 179 #[oI i0, oI i1, oI i2, oI (3 : Int32), oI dd, oR w11, oD x2, .second, oD x4, .second, .unset, .unset, oI (i1 >>> ((11 : Int32) &&& 31)), .unset] [])
      refine own_by (fun t_ k_ => XS.iload XT18.here hx rfl (hb hby at_179) rfl  k_) ?_
      show own_Go p e below _ T18 (mkF m 181 #[oI i0, oI i1, oI i2, oI (3 : Int32), oI dd, oR w11, oD x2, .second, oD x4, .second, .unset, .unset, oI (i1 >>> ((11 : Int32) &&& 31)), .unset] [(.int (i1 >>> ((11 : Int32) &&& 31)))])
      refine own_by (fun t_ k_ => XS.i2dS XT18.here hx rfl (hb hby at_181) rfl rfl k_) ?_
      show own_Go p e below _ T18 (mkF m 182 #[oI i0, oI i1, oI i2, oI (3 : Int32), oI dd, oR w11, oD x2, .second, oD x4, .second, .unset, .unset, oI (i1 >>> ((11 : Int32) &&& 31)), .unset] [(.double (FP.i2d (i1 >>> ((11 : Int32) &&& 31))))])
      have D5 := own_D_i2d (i1 >>> ((11 : Int32) &&& 31))
      have R5 := rng32 (i1 >>> ((11 : Int32) &&& 31))
      generalize (FP.i2d (i1 >>> ((11 : Int32) &&& 31))) = y5 at D5 ⊢
      show own_Go p e below _ T18 (mkF m 182 #[oI i0, oI i1, oI i2, oI (3 : Int32), oI dd, oR w11, oD x2, .second, oD x4, .second, .unset, .unset, oI (i1 >>> ((11 : Int32) &&& 31)), .unset] [(.double y5)])
      refine own_by (fun t_ k_ => XS.dstore XT18.here hx rfl (hb hby at_182) rfl (l' := #[oI i0, oI i1, oI i2, oI (3 : Int32), oI dd, oR w11, oD x2, .second, oD x4, .second, oD y5, .second, oI (i1 >>> ((11 : Int32) &&& 31)), .unset]) rfl k_) ?_
      show own_Go p e below _ T18 (mkF m 184 #[oI i0, oI i1, oI i2, oI (3 : Int32), oI dd, oR w11, oD x2, .second, oD x4, .second, oD y5, .second, oI (i1 >>> ((11 : Int32) &&& 31)), .unset] [])
      refine own_by (fun t_ k_ => XS.goto XT18.here hx rfl (pc0 := 184) (pc' := 220) rfl (hb hby at_184) (by decide) (by decide) k_) ?_
      show own_Go p e below _ T18 (mkF m 220 #[oI i0, oI i1, oI i2, oI (3 : Int32), oI dd, oR w11, oD x2, .second, oD x4, .second, oD y5, .second, oI (i1 >>> ((11 : Int32) &&& 31)), .unset] [])
      refine own_by (fun t_ k_ => XS.aload XT18.here hx rfl (hb hby at_220) rfl rfl  k_) ?_
      show own_Go p e below _ T18 (mkF m 222 #[oI i0, oI i1, oI i2, oI (3 : Int32), oI dd, oR w11, oD x2, .second, oD x4, .second, oD y5, .second, oI (i1 >>> ((11 : Int32) &&& 31)), .unset] [(.ref w11)])
      refine own_by (fun t_ k_ => XS.dload XT18.here hx rfl (hb hby at_222) rfl  k_) ?_
      show own_Go p e below _ T18 (mkF m 224 #[oI i0, oI i1, oI i2, oI (3 : Int32), oI dd, oR w11, oD x2, .second, oD x4, .second, oD y5, .second, oI (i1 >>> ((11 : Int32) &&& 31)), .unset] [(.double x2), (.ref w11)])
      refine own_by (fun t_ k_ => XS.dload XT18.here hx rfl (hb hby at_224) rfl  k_) ?_
      show own_Go p e below _ T18 (mkF m 226 #[oI i0, oI i1, oI i2, oI (3 : Int32), oI dd, oR w11, oD x2, .second, oD x4, .second, oD y5, .second, oI (i1 >>> ((11 : Int32) &&& 31)), .unset] [(.double x4), (.double x2), (.ref w11)])
      have hres := own_D_div (k := 2) (l := 2) D19 D20 (fun z => hd0 (Int32.toInt_inj.mp (z.trans (by decide)))) (by have := own_prod21 i1 dd; omega) (by decide) (by decide)
      refine own_callV XT18 hx hZ hown (hw _ (List.mem_of_getElem? (i := 5) rfl)) (hw _ (List.mem_of_getElem? (i := 6) rfl)) (hw _ (List.mem_of_getElem? (i := 8) rfl)) (hw _ (List.mem_of_getElem? (i := 7) rfl)) (hw _ (List.mem_of_getElem? (i := 9) rfl)) (hw _ (List.mem_of_getElem? (i := 2) rfl)) (by decide) eT18 (b := w11) E11 (argsL := [(.double x2), (.double x4)]) (rest := []) (own_ar3 l Z a0 hw x2 x4 w8 w9 w10 w11 w12 h0 S_ F8 F9 F10 F11 F12 (own_D_no hres)) 0 (by decide) (by decide) (by rw [hml]; rfl) (lenOf pd_0 rfl) (Nat.le_of_eq rfl) (hb hby at_226) (by decide) (by decide) (st := [(.double x4), (.double x2), (.ref w11)]) rfl ?_
      intro T21 LT21 vT21 XT21 hQT21
      obtain ⟨rfl, eT21, rfl⟩ := hQT21
      show own_Go p e below _ T21 (mkF m 229 #[oI i0, oI i1, oI i2, oI (3 : Int32), oI dd, oR w11, oD x2, .second, oD x4, .second, oD y5, .second, oI (i1 >>> ((11 : Int32) &&& 31)), .unset] [(.double (FP.ddiv x2 x4))])
      refine own_by (fun t_ k_ => XS.dstore XT21.here hx rfl (hb hby at_229) rfl (l' := #[oI i0, oI i1, oI i2, oI (3 : Int32), oI dd, oR w11, oD x2, .second, oD x4, .second, oD y5, .second, oD (FP.ddiv x2 x4), .second]) rfl k_) ?_
      show own_Go p e below _ T21 (mkF m 231 #[oI i0, oI i1, oI i2, oI (3 : Int32), oI dd, oR w11, oD x2, .second, oD x4, .second, oD y5, .second, oD (FP.ddiv x2 x4), .second] [])
      refine own_by (fun t_ k_ => XS.dload XT21.here hx rfl (hb hby at_231) rfl  k_) ?_
      show own_Go p e below _ T21 (mkF m 233 #[oI i0, oI i1, oI i2, oI (3 : Int32), oI dd, oR w11, oD x2, .second, oD x4, .second, oD y5, .second, oD (FP.ddiv x2 x4), .second] [(.double (FP.ddiv x2 x4))])
      refine own_by (fun t_ k_ => XS.dload XT21.here hx rfl (hb hby at_233) rfl  k_) ?_
      show own_Go p e below _ T21 (mkF m 235 #[oI i0, oI i1, oI i2, oI (3 : Int32), oI dd, oR w11, oD x2, .second, oD x4, .second, oD y5, .second, oD (FP.ddiv x2 x4), .second] [(.double y5), (.double (FP.ddiv x2 x4))])
      refine own_by (fun t_ k_ => XS.dcmpS XT21.here hx rfl (hb hby at_235) rfl (own_deq hres D5) k_) ?_
      show own_Go p e below _ T21 (mkF m 236 #[oI i0, oI i1, oI i2, oI (3 : Int32), oI dd, oR w11, oD x2, .second, oD x4, .second, oD y5, .second, oD (FP.ddiv x2 x4), .second] [(.int (0 : Int32))])
      refine own_by (fun t_ k_ => XS.ifNo XT21.here hx rfl (hb hby at_236) rfl (XT.i0_ne_f (by decide)) k_) ?_
      show own_Go p e below _ T21 (mkF m 239 #[oI i0, oI i1, oI i2, oI (3 : Int32), oI dd, oR w11, oD x2, .second, oD x4, .second, oD y5, .second, oD (FP.ddiv x2 x4), .second] [])
      refine own_by (fun t_ k_ => XT.iconstV XT21.here hx rfl (1 : Int32) (hb hby at_239) (by decide) k_) ?_
      show own_Go p e below _ T21 (mkF m 240 #[oI i0, oI i1, oI i2, oI (3 : Int32), oI dd, oR w11, oD x2, .second, oD x4, .second, oD y5, .second, oD (FP.ddiv x2 x4), .second] [(.int (1 : Int32))])
      refine own_by (fun t_ k_ => XS.goto XT21.here hx rfl (pc0 := 240) (pc' := 244) rfl (hb hby at_240) (by decide) (by decide) k_) ?_
      show own_Go p e below _ T21 (mkF m 244 #[oI i0, oI i1, oI i2, oI (3 : Int32), oI dd, oR w11, oD x2, .second, oD x4, .second, oD y5, .second, oD (FP.ddiv x2 x4), .second] [(.int (1 : Int32))])
      exact own_retN XT21 hx hlk hret (by simp) (w := (1 : Int32)) (hb hby at_244) (by decide) (by decide) (by decide) (⟨rfl, eT21, rfl⟩)
    by_cases c8_21 : i2 = (0 : Int32)
    · refine own_by (fun t_ k_ => XS.ifNo X0.here hx rfl (hb hby at_8) rfl (XT.i0_ne_f c8_21) k_) ?_
      show own_Go p e below _ T0 (mkF m 11 #[oI i0, oI i1, oI i2, oI (3 : Int32), .unset, .unset, .unset, .unset, .unset, .unset, .unset, .unset, .unset, .unset] [])
      refine own_by (fun t_ k_ => XT.iconstV X0.here hx rfl (1 : Int32) (hb hby at_11) (by decide) k_) ?_
      show own_Go p e below _ T0 (mkF m 12 #[oI i0, oI i1, oI i2, oI (3 : Int32), .unset, .unset, .unset, .unset, .unset, .unset, .unset, .unset, .unset, .unset] [(.int (1 : Int32))])
      refine own_by (fun t_ k_ => XS.goto X0.here hx rfl (pc0 := 12) (pc' := 16) rfl (hb hby at_12) (by decide) (by decide) k_) ?_
      show own_Go p e below _ T0 (mkF m 16 #[oI i0, oI i1, oI i2, oI (3 : Int32), .unset, .unset, .unset, .unset, .unset, .unset, .unset, .unset, .unset, .unset] [(.int (1 : Int32))])
      exact J _ (by decide)
    · refine own_by (fun t_ k_ => XS.ifYes X0.here hx rfl (pc0 := 8) (pc' := 15) rfl (hb hby at_8) rfl (XT.i0_ne_t c8_21) (by decide) (by decide) k_) ?_
      show own_Go p e below _ T0 (mkF m 15 #[oI i0, oI i1, oI i2, oI (3 : Int32), .unset, .unset, .unset, .unset, .unset, .unset, .unset, .unset, .unset, .unset] [])
      refine own_by (fun t_ k_ => XS.iloadN X0.here hx rfl (hb hby at_15) rfl  k_) ?_
      show own_Go p e below _ T0 (mkF m 16 #[oI i0, oI i1, oI i2, oI (3 : Int32), .unset, .unset, .unset, .unset, .unset, .unset, .unset, .unset, .unset, .unset] [(.int i2)])
      exact J _ c8_21
  · refine own_by (fun t_ k_ => XS.iloadN X0.here hx rfl (hb hby at_0) rfl  k_) ?_
    show own_Go p e below _ T0 (mkF m 1 #[oI i0, oI i1, oI i2, .unset, .unset, .unset, .unset, .unset, .unset, .unset, .unset, .unset, .unset, .unset] [(.int i0)])
    refine own_by (fun t_ k_ => X0.ldcI hx hown (mvT hZ (hw _ (List.mem_of_getElem? (i := 0) rfl))) rfl (hb hby at_1) k_) ?_
    show own_Go p e below _ T0 (mkF m 3 #[oI i0, oI i1, oI i2, .unset, .unset, .unset, .unset, .unset, .unset, .unset, .unset, .unset, .unset, .unset] [(.int (2147483647 : Int32)), (.int i0)])
    refine own_by (fun t_ k_ => XS.iand X0.here hx rfl (hb hby at_3) rfl k_) ?_
    show own_Go p e below _ T0 (mkF m 4 #[oI i0, oI i1, oI i2, .unset, .unset, .unset, .unset, .unset, .unset, .unset, .unset, .unset, .unset, .unset] [(.int (i0 &&& (2147483647 : Int32)))])
    refine own_by (fun t_ k_ => XT.iconstV X0.here hx rfl (5 : Int32) (hb hby at_4) (by decide) k_) ?_
    show own_Go p e below _ T0 (mkF m 5 #[oI i0, oI i1, oI i2, .unset, .unset, .unset, .unset, .unset, .unset, .unset, .unset, .unset, .unset, .unset] [(.int (5 : Int32)), (.int (i0 &&& (2147483647 : Int32)))])
    refine own_by (fun t_ k_ => iremM X0 hx rfl (hb hby at_5) rfl (by decide) k_) ?_
    show own_Go p e below _ T0 (mkF m 6 #[oI i0, oI i1, oI i2, .unset, .unset, .unset, .unset, .unset, .unset, .unset, .unset, .unset, .unset, .unset] [(.int ((i0 &&& (2147483647 : Int32)) % (5 : Int32)))])
    rw [hk]
    show own_Go p e below _ T0 (mkF m 6 #[oI i0, oI i1, oI i2, .unset, .unset, .unset, .unset, .unset, .unset, .unset, .unset, .unset, .unset, .unset] [(.int (4 : Int32))])
    refine own_by (fun t_ k_ => XS.istoreN X0.here hx rfl (hb hby at_6) rfl (l' := #[oI i0, oI i1, oI i2, oI (4 : Int32), .unset, .unset, .unset, .unset, .unset, .unset, .unset, .unset, .unset, .unset]) rfl k_) ?_
    show own_Go p e below _ T0 (mkF m 7 #[oI i0, oI i1, oI i2, oI (4 : Int32), .unset, .unset, .unset, .unset, .unset, .unset, .unset, .unset, .unset, .unset] [])
    refine own_by (fun t_ k_ => XS.iloadN X0.here hx rfl (hb hby at_7) rfl  k_) ?_
    show own_Go p e below _ T0 (mkF m 8 #[oI i0, oI i1, oI i2, oI (4 : Int32), .unset, .unset, .unset, .unset, .unset, .unset, .unset, .unset, .unset, .unset] [(.int i2)])
    have J : ∀ dd : Int32, ¬ dd = 0 → own_Go p e below (own_K s room_1.cells room_1.slots (fun v h L => v = some (.int (1 : Int32)) ∧ h = h0 ∧ L = [])) T0 (mkF m 16 #[oI i0, oI i1, oI i2, oI (4 : Int32), .unset, .unset, .unset, .unset, .unset, .unset, .unset, .unset, .unset, .unset] [(.int dd)]) := by
      intro dd hd0
      show own_Go p e below _ T0 (mkF m 16 #[oI i0, oI i1, oI i2, oI (4 : Int32), .unset, .unset, .unset, .unset, .unset, .unset, .unset, .unset, .unset, .unset] [(.int dd)])
      refine own_by (fun t_ k_ => XS.istore X0.here hx rfl (hb hby at_16) rfl (l' := #[oI i0, oI i1, oI i2, oI (4 : Int32), oI dd, .unset, .unset, .unset, .unset, .unset, .unset, .unset, .unset, .unset]) rfl k_) ?_
      show own_Go p e below _ T0 (mkF m 18 #[oI i0, oI i1, oI i2, oI (4 : Int32), oI dd, .unset, .unset, .unset, .unset, .unset, .unset, .unset, .unset, .unset] [])
      refine own_by (fun t_ k_ => XS.iloadN X0.here hx rfl (hb hby at_18) rfl  k_) ?_
      show own_Go p e below _ T0 (mkF m 19 #[oI i0, oI i1, oI i2, oI (4 : Int32), oI dd, .unset, .unset, .unset, .unset, .unset, .unset, .unset, .unset, .unset] [(.int (4 : Int32))])
      refine own_by (fun t_ k_ => XS.ifYes X0.here hx rfl (pc0 := 19) (pc' := 58) rfl (hb hby at_19) rfl (XT.i0_ne_t (by decide)) (by decide) (by decide) k_) ?_
      show own_Go p e below _ T0 (mkF m 58 #[oI i0, oI i1, oI i2, oI (4 : Int32), oI dd, .unset, .unset, .unset, .unset, .unset, .unset, .unset, .unset, .unset] [])
      refine own_by (fun t_ k_ => XS.iloadN X0.here hx rfl (hb hby at_58) rfl  k_) ?_
      show own_Go p e below _ T0 (mkF m 59 #[oI i0, oI i1, oI i2, oI (4 : Int32), oI dd, .unset, .unset, .unset, .unset, .unset, .unset, .unset, .unset, .unset] [(.int (4 : Int32))])
      refine own_by (fun t_ k_ => XT.iconstV X0.here hx rfl (1 : Int32) (hb hby at_59) (by decide) k_) ?_
      show own_Go p e below _ T0 (mkF m 60 #[oI i0, oI i1, oI i2, oI (4 : Int32), oI dd, .unset, .unset, .unset, .unset, .unset, .unset, .unset, .unset, .unset] [(.int (1 : Int32)), (.int (4 : Int32))])
      refine own_by (fun t_ k_ => XS.icmpYes X0.here hx rfl (pc0 := 60) (pc' := 99) rfl (hb hby at_60) rfl (XT.ii_ne_t (by decide)) (by decide) (by decide) k_) ?_
      show own_Go p e below _ T0 (mkF m 99 #[oI i0, oI i1, oI i2, oI (4 : Int32), oI dd, .unset, .unset, .unset, .unset, .unset, .unset, .unset, .unset, .unset] [])
      refine own_by (fun t_ k_ => XS.iloadN X0.here hx rfl (hb hby at_99) rfl  k_) ?_
      show own_Go p e below _ T0 (mkF m 100 #[oI i0, oI i1, oI i2, oI (4 : Int32), oI dd, .unset, .unset, .unset, .unset, .unset, .unset, .unset, .unset, .unset] [(.int (4 : Int32))])
      refine own_by (fun t_ k_ => XT.iconstV X0.here hx rfl (2 : Int32) (hb hby at_100) (by decide) k_) ?_
      show own_Go p e below _ T0 (mkF m 101 #[oI i0, oI i1, oI i2, oI (4 : Int32), oI dd, .unset, .unset, .unset, .unset, .unset, .unset, .unset, .unset, .unset] [(.int (2 : Int32)), (.int (4 : Int32))])
      refine own_by (fun t_ k_ => XS.icmpYes X0.here hx rfl (pc0 := 101) (pc' := 140) rfl (hb hby at_101) rfl (XT.ii_ne_t (by decide)) (by decide) (by decide) k_) ?_
      show own_Go p e below _ T0 (mkF m 140 #[oI i0, oI i1, oI i2, oI (4 : Int32), oI dd, .unset, .unset, .unset, .unset, .unset, .unset, .unset, .unset, .unset] [])
      refine own_by (fun t_ k_ => XS.iloadN X0.here hx rfl (hb hby at_140) rfl  k_) ?_
      show own_Go p e below _ T0 (mkF m 141 #[oI i0, oI i1, oI i2, oI (4 : Int32), oI dd, .unset, .unset, .unset, .unset, .unset, .unset, .unset, .unset, .unset] [(.int (4 : Int32))])
      refine own_by (fun t_ k_ => XT.iconstV X0.here hx rfl (3 : Int32) (hb hby at_141) (by decide) k_) ?_
      show own_Go p e below _ T0 (mkF m 142 #[oI i0, oI i1, oI i2, oI (4 : Int32), oI dd, .unset, .unset, .unset, .unset, .unset, .unset, .unset, .unset, .unset] [(.int (3 : Int32)), (.int (4 : Int32))])
      refine own_by (fun t_ k_ => XS.icmpYes X0.here hx rfl (pc0 := 142) (pc' := 187) rfl (hb hby at_142) rfl (XT.ii_ne_t (by decide)) (by decide) (by decide) k_) ?_
      show own_Go p e below _ T0 (mkF m 187 #[oI i0, oI i1, oI i2, oI (4 : Int32), oI dd, .unset, .unset, .unset, .unset, .unset, .unset, .unset, .unset, .unset] [])
      obtain ⟨T23, XT23, eT23, stT23⟩ := getS2 X0 hx hZ hown (host := "") (Or.inl (hw _ (List.mem_of_getElem? (i := 14) rfl))) Via.refl e0 S12 (g := (mkF m 187 #[oI i0, oI i1, oI i2, oI (4 : Int32), oI dd, .unset, .unset, .unset, .unset, .unset, .unset, .unset, .unset, .unset] [])) rfl (hb hby at_187)
      refine own_by stT23 ?_
      show own_Go p e below _ T23 (mkF m 190 #[oI i0, oI i1, oI i2, oI (4 : Int32), oI dd, .unset, .unset, .unset, .unset, .unset, .unset, .unset, .unset, .unset] [(.ref w12)])
      refine own_by (fun t_ k_ => XS.astore XT23.here hx rfl (hb hby at_190) rfl rfl (l' := #[oI i0, oI i1, oI i2, oI (4 : Int32), oI dd, oR w12, .unset, .unset, .unset, .unset, .unset, .unset, .unset, .unset]) rfl k_) ?_
      show own_Go p e below _ T23 (mkF m 192 #[oI i0, oI i1, oI i2, oI (4 : Int32), oI dd, oR w12, .unset, .unset, .unset, .unset, .unset, .unset, .unset, .unset] [])
      refine own_by (fun t_ k_ => XS.iloadN XT23.here hx rfl (hb hby at_192) rfl  k_) ?_
      show own_Go p e below _ T23 (mkF m 193 #[oI i0, oI i1, oI i2, oI (4 : Int32), oI dd, oR w12, .unset, .unset, .unset, .unset, .unset, .unset, .unset, .unset] [(.int i1)])
      refine own_by (fun t_ k_ => XS.i2dS XT23.here hx rfl (hb hby at_193) rfl rfl k_) ?_
      show own_Go p e below _ T23 (mkF m 194 #[oI i0, oI i1, oI i2, oI (4 : Int32), oI dd, oR w12, .unset, .unset, .unset, .unset, .unset, .unset, .unset, .unset] [(.double (FP.i2d i1))])
      have D1 := own_D_i2d i1
      have R1 := rng32 i1
      generalize (FP.i2d i1) = y1 at D1 ⊢
      show own_Go p e below _ T23 (mkF m 194 #[oI i0, oI i1, oI i2, oI (4 : Int32), oI dd, oR w12, .unset, .unset, .unset, .unset, .unset, .unset, .unset, .unset] [(.double y1)])
      refine own_by (fun t_ k_ => XT23.ldc2DoubleC hx hown (mvT hZ (hw _ (List.mem_of_getElem? (i := 4) rfl))) (g := (mkF m 194 #[oI i0, oI i1, oI i2, oI (4 : Int32), oI dd, oR w12, .unset, .unset, .unset, .unset, .unset, .unset, .unset, .unset] [(.double y1)])) rfl (hb hby at_194) t_ k_) ?_
      show own_Go p e below _ T23 (mkF m 197 #[oI i0, oI i1, oI i2, oI (4 : Int32), oI dd, oR w12, .unset, .unset, .unset, .unset, .unset, .unset, .unset, .unset] [(.double (4616189618054758400 : UInt64)), (.double y1)])
      have D24 := own_q4 D1 (by omega)
      refine own_by (fun t_ k_ => XS.ddivS XT23.here hx rfl (hb hby at_197) rfl (own_D_no D24) rfl k_) ?_
      show own_Go p e below _ T23 (mkF m 198 #[oI i0, oI i1, oI i2, oI (4 : Int32), oI dd, oR w12, .unset, .unset, .unset, .unset, .unset, .unset, .unset, .unset] [(.double (FP.ddiv y1 (4616189618054758400 : UInt64)))])
      generalize (FP.ddiv y1 (4616189618054758400 : UInt64)) = x2 at D24 ⊢
      show own_Go p e below _ T23 (mkF m 198 #[oI i0, oI i1, oI i2, oI (4 : Int32), oI dd, oR w12, .unset, .unset, .unset, .unset, .unset, .unset, .unset, .unset] [(.double x2)])
      refine own_by (fun t_ k_ => XS.dstore XT23.here hx rfl (hb hby at_198) rfl (l' := #[oI i0, oI i1, oI i2, oI (4 : Int32), oI dd, oR w12, oD x2, .second, .unset, .unset, .unset, .unset, .unset, .unset]) rfl k_) ?_
      show own_Go p e below _ T23 (mkF m 200 #[oI i0, oI i1, oI i2, oI (4 : Int32), oI dd, oR w12, oD x2, .second, .unset, .unset, .unset, .unset, .unset, .unset] [])
      refine own_by (fun t_ k_ => XS.iload XT23.here hx rfl (hb hby at_200) rfl  k_) ?_
      show own_Go p e below _ T23 (mkF m 202 #[oI i0, oI i1, oI i2, oI (4 : Int32), oI dd, oR w12, oD x2, .second, .unset, .unset, .unset, .unset, .unset, .unset] [(.int dd)])
      refine own_by (fun t_ k_ => XS.i2dS XT23.here hx rfl (hb hby at_202) rfl rfl k_) ?_
      show own_Go p e below _ T23 (mkF m 203 #[oI i0, oI i1, oI i2, oI (4 : Int32), oI dd, oR w12, oD x2, .second, .unset, .unset, .unset, .unset, .unset, .unset] [(.double (FP.i2d dd))])
      have D3 := own_D_i2d dd
      have R3 := rng32 dd
      generalize (FP.i2d dd) = y3 at D3 ⊢
      show own_Go p e below _ T23 (mkF m 203 #[oI i0, oI i1, oI i2, oI (4 : Int32), oI dd, oR w12, oD x2, .second, .unset, .unset, .unset, .unset, .unset, .unset] [(.double y3)])
      refine own_by (fun t_ k_ => XT23.ldc2DoubleC hx hown (mvT hZ (hw _ (List.mem_of_getElem? (i := 4) rfl))) (g := (mkF m 203 #[oI i0, oI i1, oI i2, oI (4 : Int32), oI dd, oR w12, oD x2, .second, .unset, .unset, .unset, .unset, .unset, .unset] [(.double y3)])) rfl (hb hby at_203) t_ k_) ?_
      show own_Go p e below _ T23 (mkF m 206 #[oI i0, oI i1, oI i2, oI (4 : Int32), oI dd, oR w12, oD x2, .second, .unset, .unset, .unset, .unset, .unset, .unset] [(.double (4616189618054758400 : UInt64)), (.double y3)])
      have D25 := own_q4 D3 (by omega)
      refine own_by (fun t_ k_ => XS.ddivS XT23.here hx rfl (hb hby at_206) rfl (own_D_no D25) rfl k_) ?_
      show own_Go p e below _ T23 (mkF m 207 #[oI i0, oI i1, oI i2, oI (4 : Int32), oI dd, oR w12, oD x2, .second, .unset, .unset, .unset, .unset, .unset, .unset] [(.double (FP.ddiv y3 (4616189618054758400 : UInt64)))])
      generalize (FP.ddiv y3 (4616189618054758400 : UInt64)) = x4 at D25 ⊢
      show own_Go p e below _ T23 (mkF m 207 #[oI i0, oI i1, oI i2, oI (4 : Int32), oI dd, oR w12, oD x2, .second, .unset, .unset, .unset, .unset, .unset, .unset] [(.double x4)])
      refine own_by (fun t_ k_ => XS.dstore XT23.here hx rfl (hb hby at_207) rfl (l' := #[oI i0, oI i1, oI i2, oI (4 : Int32), oI dd, oR w12, oD x2, .second, oD x4, .second, .unset, .unset, .unset, .unset]) rfl k_) ?_
      show own_Go p e below _ T23 (mkF m 209 #[oI i0, oI i1, oI i2, oI (4 : Int32), oI dd, oR w12, oD x2, .second, oD x4, .second, .unset, .unset, .unset, .unset] [])
      refine own_by (fun t_ k_ => XS.iloadN XT23.here hx rfl (hb hby at_209) rfl  k_) ?_
      show own_Go p e below _ T23 (mkF m 210 #[oI i0, oI i1, oI i2, oI (4 : Int32), oI dd, oR w12, oD x2, .second, oD x4, .second, .unset, .unset, .unset, .unset] [(.int i1)])
      refine own_by (fun t_ k_ => XS.iload XT23.here hx rfl (hb hby at_210) rfl  k_) ?_
      show own_Go p e below _ T23 (mkF m 212 #[oI i0, oI i1, oI i2, oI (4 : Int32), oI dd, oR w12, oD x2, .second, oD x4, .second, .unset, .unset, .unset, .unset] [(.int dd), (.int i1)])
      refine own_by (fun t_ k_ => iremM XT23 hx rfl (hb hby at_212) rfl hd0 k_) ?_
      show own_Go p e below _ T23 (mkF m 213 #[oI i0, oI i1, oI i2, oI (4 : Int32), oI dd, oR w12, oD x2, .second, oD x4, .second, .unset, .unset, .unset, .unset] [(.int (i1 % dd))])
      refine own_by (fun t_ k_ => XS.i2dS XT23.here hx rfl (hb hby at_213) rfl rfl k_) ?_
      show own_Go p e below _ T23 (mkF m 214 #[oI i0, oI i1, oI i2, oI (4 : Int32), oI dd, oR w12, oD x2, .second, oD x4, .second, .unset, .unset, .unset, .unset] [(.double (FP.i2d (i1 % dd)))])
      have D5 := own_D_i2d (i1 % dd)
      have R5 := rng32 (i1 % dd)
      generalize (FP.i2d (i1 % dd)) = y5 at D5 ⊢
      show own_Go p e below _ T23 (mkF m 214 #[oI i0, oI i1, oI i2, oI (4 : Int32), oI dd, oR w12, oD x2, .second, oD x4, .second, .unset, .unset, .unset, .unset] [(.double y5)])
      refine own_by (fun t_ k_ => XT23.ldc2DoubleC hx hown (mvT hZ (hw _ (List.mem_of_getElem? (i := 4) rfl))) (g := (mkF m 214 #[oI i0, oI i1, oI i2, oI (4 : Int32), oI dd, oR w12, oD x2, .second, oD x4, .second, .unset, .unset, .unset, .unset] [(.double y5)])) rfl (hb hby at_214) t_ k_) ?_
      show own_Go p e below _ T23 (mkF m 217 #[oI i0, oI i1, oI i2, oI (4 : Int32), oI dd, oR w12, oD x2, .second, oD x4, .second, .unset, .unset, .unset, .unset] [(.double (4616189618054758400 : UInt64)), (.double y5)])
      have D26 := own_q4 D5 (by omega)
      refine own_by (fun t_ k_ => XS.ddivS XT23.here hx rfl (hb hby at_217) rfl (own_D_no D26) rfl k_) ?_
      show own_Go p e below _ T23 (mkF m 218 #[oI i0, oI i1, oI i2, oI (4 : Int32), oI dd, oR w12, oD x2, .second, oD x4, .second, .unset, .unset, .unset, .unset] [(.double (FP.ddiv y5 (4616189618054758400 : UInt64)))])
      generalize (FP.ddiv y5 (4616189618054758400 : UInt64)) = x6 at D26 ⊢
      show own_Go p e below _ T23 (mkF m 218 #[oI i0, oI i1, oI i2, oI (4 : Int32), oI dd, oR w12, oD x2, .second, oD x4, .second, .unset, .unset, .unset, .unset] [(.double x6)])
      refine own_by (fun t_ k_ => XS.dstore XT23.here hx rfl (hb hby at_218) rfl (l' := #[oI i0, oI i1, oI i2, oI (4 : Int32), oI dd, oR w12, oD x2, .second, oD x4, .second, oD x6, .second, .unset, .unset]) rfl k_) ?_
      show own_Go p e below _ T23 (mkF m 220 #[oI i0, oI i1, oI i2, oI (4 : Int32), oI dd, oR w12, oD x2, .second, oD x4, .second, oD x6, .second, .unset, .unset] [])
      refine own_by (fun t_ k_ => XS.aload XT23.here hx rfl (hb hby at_220) rfl rfl  k_) ?_
      show own_Go p e below _ T23 (mkF m 222 #[oI i0, oI i1, oI i2, oI (4 : Int32), oI dd, oR w12, oD x2, .second, oD x4, .second, oD x6, .second, .unset, .unset] [(.ref w12)])
      refine own_by (fun t_ k_ => XS.dload XT23.here hx rfl (hb hby at_222) rfl  k_) ?_
      show own_Go p e below _ T23 (mkF m 224 #[oI i0, oI i1, oI i2, oI (4 : Int32), oI dd, oR w12, oD x2, .second, oD x4, .second, oD x6, .second, .unset, .unset] [(.double x2), (.ref w12)])
      refine own_by (fun t_ k_ => XS.dload XT23.here hx rfl (hb hby at_224) rfl  k_) ?_
      show own_Go p e below _ T23 (mkF m 226 #[oI i0, oI i1, oI i2, oI (4 : Int32), oI dd, oR w12, oD x2, .second, oD x4, .second, oD x6, .second, .unset, .unset] [(.double x4), (.double x2), (.ref w12)])
      have hmod : (i1 % dd).toInt = i1.toInt.tmod dd.toInt := Int32.toInt_mod i1 dd
      have hrm := rng32 (i1 % dd)
      have hres := own_D_rem D24 D25 (fun z => hd0 (Int32.toInt_inj.mp (z.trans (by decide)))) (by rw [← hmod]; omega) (by decide) (by decide)
      refine own_callV XT23 hx hZ hown (hw _ (List.mem_of_getElem? (i := 5) rfl)) (hw _ (List.mem_of_getElem? (i := 6) rfl)) (hw _ (List.mem_of_getElem? (i := 8) rfl)) (hw _ (List.mem_of_getElem? (i := 7) rfl)) (hw _ (List.mem_of_getElem? (i := 9) rfl)) (hw _ (List.mem_of_getElem? (i := 2) rfl)) (by decide) eT23 (b := w12) E12 (argsL := [(.double x2), (.double x4)]) (rest := []) (own_ar4 l Z a0 hw x2 x4 w8 w9 w10 w11 w12 h0 S_ F8 F9 F10 F11 F12 (own_D_no hres)) 0 (by decide) (by decide) (by rw [hml]; rfl) (lenOf pd_0 rfl) (Nat.le_of_eq rfl) (hb hby at_226) (by decide) (by decide) (st := [(.double x4), (.double x2), (.ref w12)]) rfl ?_
      intro T27 LT27 vT27 XT27 hQT27
      obtain ⟨rfl, eT27, rfl⟩ := hQT27
      show own_Go p e below _ T27 (mkF m 229 #[oI i0, oI i1, oI i2, oI (4 : Int32), oI dd, oR w12, oD x2, .second, oD x4, .second, oD x6, .second, .unset, .unset] [(.double (FP.drem x2 x4))])
      refine own_by (fun t_ k_ => XS.dstore XT27.here hx rfl (hb hby at_229) rfl (l' := #[oI i0, oI i1, oI i2, oI (4 : Int32), oI dd, oR w12, oD x2, .second, oD x4, .second, oD x6, .second, oD (FP.drem x2 x4), .second]) rfl k_) ?_
      show own_Go p e below _ T27 (mkF m 231 #[oI i0, oI i1, oI i2, oI (4 : Int32), oI dd, oR w12, oD x2, .second, oD x4, .second, oD x6, .second, oD (FP.drem x2 x4), .second] [])
      refine own_by (fun t_ k_ => XS.dload XT27.here hx rfl (hb hby at_231) rfl  k_) ?_
      show own_Go p e below _ T27 (mkF m 233 #[oI i0, oI i1, oI i2, oI (4 : Int32), oI dd, oR w12, oD x2, .second, oD x4, .second, oD x6, .second, oD (FP.drem x2 x4), .second] [(.double (FP.drem x2 x4))])
      refine own_by (fun t_ k_ => XS.dload XT27.here hx rfl (hb hby at_233) rfl  k_) ?_
      show own_Go p e below _ T27 (mkF m 235 #[oI i0, oI i1, oI i2, oI (4 : Int32), oI dd, oR w12, oD x2, .second, oD x4, .second, oD x6, .second, oD (FP.drem x2 x4), .second] [(.double x6), (.double (FP.drem x2 x4))])
      have hexp := D26
      rw [hmod] at hexp
      refine own_by (fun t_ k_ => XS.dcmpS XT27.here hx rfl (hb hby at_235) rfl (own_deq hres hexp) k_) ?_
      show own_Go p e below _ T27 (mkF m 236 #[oI i0, oI i1, oI i2, oI (4 : Int32), oI dd, oR w12, oD x2, .second, oD x4, .second, oD x6, .second, oD (FP.drem x2 x4), .second] [(.int (0 : Int32))])
      refine own_by (fun t_ k_ => XS.ifNo XT27.here hx rfl (hb hby at_236) rfl (XT.i0_ne_f (by decide)) k_) ?_
      show own_Go p e below _ T27 (mkF m 239 #[oI i0, oI i1, oI i2, oI (4 : Int32), oI dd, oR w12, oD x2, .second, oD x4, .second, oD x6, .second, oD (FP.drem x2 x4), .second] [])
      refine own_by (fun t_ k_ => XT.iconstV XT27.here hx rfl (1 : Int32) (hb hby at_239) (by decide) k_) ?_
      show own_Go p e below _ T27 (mkF m 240 #[oI i0, oI i1, oI i2, oI (4 : Int32), oI dd, oR w12, oD x2, .second, oD x4, .second, oD x6, .second, oD (FP.drem x2 x4), .second] [(.int (1 : Int32))])
      refine own_by (fun t_ k_ => XS.goto XT27.here hx rfl (pc0 := 240) (pc' := 244) rfl (hb hby at_240) (by decide) (by decide) k_) ?_
      show own_Go p e below _ T27 (mkF m 244 #[oI i0, oI i1, oI i2, oI (4 : Int32), oI dd, oR w12, oD x2, .second, oD x4, .second, oD x6, .second, oD (FP.drem x2 x4), .second] [(.int (1 : Int32))])
      exact own_retN XT27 hx hlk hret (by simp) (w := (1 : Int32)) (hb hby at_244) (by decide) (by decide) (by decide) (⟨rfl, eT27, rfl⟩)
    by_cases c8_27 : i2 = (0 : Int32)
    · refine own_by (fun t_ k_ => XS.ifNo X0.here hx rfl (hb hby at_8) rfl (XT.i0_ne_f c8_27) k_) ?_
      show own_Go p e below _ T0 (mkF m 11 #[oI i0, oI i1, oI i2, oI (4 : Int32), .unset, .unset, .unset, .unset, .unset, .unset, .unset, .unset, .unset, .unset] [])
      refine own_by (fun t_ k_ => XT.iconstV X0.here hx rfl (1 : Int32) (hb hby at_11) (by decide) k_) ?_
      show own_Go p e below _ T0 (mkF m 12 #[oI i0, oI i1, oI i2, oI (4 : Int32), .unset, .unset, .unset, .unset, .unset, .unset, .unset, .unset, .unset, .unset] [(.int (1 : Int32))])
      refine own_by (fun t_ k_ => XS.goto X0.here hx rfl (pc0 := 12) (pc' := 16) rfl (hb hby at_12) (by decide) (by decide) k_) ?_
      show own_Go p e below _ T0 (mkF m 16 #[oI i0, oI i1, oI i2, oI (4 : Int32), .unset, .unset, .unset, .unset, .unset, .unset, .unset, .unset, .unset, .unset] [(.int (1 : Int32))])
      exact J _ (by decide)
    · refine own_by (fun t_ k_ => XS.ifYes X0.here hx rfl (pc0 := 8) (pc' := 15) rfl (hb hby at_8) rfl (XT.i0_ne_t c8_27) (by decide) (by decide) k_) ?_
      show own_Go p e below _ T0 (mkF m 15 #[oI i0, oI i1, oI i2, oI (4 : Int32), .unset, .unset, .unset, .unset, .unset, .unset, .unset, .unset, .unset, .unset] [])
      refine own_by (fun t_ k_ => XS.iloadN X0.here hx rfl (hb hby at_15) rfl  k_) ?_
      show own_Go p e below _ T0 (mkF m 16 #[oI i0, oI i1, oI i2, oI (4 : Int32), .unset, .unset, .unset, .unset, .unset, .unset, .unset, .unset, .unset, .unset] [(.int i2)])
      exact J _ c8_27
set_option maxRecDepth 65536 in
set_option maxHeartbeats 40000000 in
theorem comes_1 {Post : Tables → Env → Array Value → State → Outcome → State → Prop} (hpost : ∀ tb e args s v u, (limb_1_1.after args s (.returned v) u = true ∧ limb_1_2.after args s (.returned v) u = true ∧ True) → FrameEnd s (.returned v) u (Jvm.fieldLocs frame_1_writes args s ++ Jvm.arrayLocs frame_1_arrays args s ++ Jvm.staticLocs frame_1_statics s) 0 0 → Post tb e args s (.returned v) u) :
    ArmFor flags0 classFile x code maxLocals ret World_1 tables_1 room_1 Calls_1 rest_1 Pre_1 Post := by
  intro l hfl _ _ p e ha hc hk s m args below hf hA hF happ hP
  obtain ⟨hcalls, hrest, hpre⟩ := hP
  obtain ⟨-, -, -, hnamed, -, -, -, hat⟩ := (Spec.applies_iff hf).mp happ
  obtain ⟨hg, hn⟩ := and_e (Cond.before_iff.mp (show (Jvm.Cond.and given_1 narrow_1).before args s = true from hpre))
  obtain ⟨g0, rg0⟩ := and_e hg
  obtain ⟨g1, rg1⟩ := and_e rg0
  obtain ⟨g2, rg2⟩ := and_e rg1
  have g3 := rg2
  obtain ⟨w0, w1, w2, rfl⟩ : ∃ w0 w1 w2 : Value, args = #[w0, w1, w2] := by
    have hs : args.size = 3 := by simpa [Cond.value] using g0
    obtain ⟨L⟩ := args
    match L, hs with
    | [w0, w1, w2], _ => exact ⟨w0, w1, w2, rfl⟩
  have hw := fun d (hd : d ∈ tables_1) => atoms_spec (ws := Jvm.Cond.code x code maxLocals ret :: tables_1) hat d (List.mem_cons_of_mem _ hd)
  obtain ⟨i0, ei0⟩ := is_v g1
  obtain rfl : w0 = (.int i0) := Option.some.inj ei0
  obtain ⟨i1, ei1⟩ := is_v g2
  obtain rfl : w1 = (.int i1) := Option.some.inj ei1
  obtain ⟨i2, ei2⟩ := is_v g3
  obtain rfl : w2 = (.int i2) := Option.some.inj ei2
  obtain ⟨n0, rn0⟩ := and_e hn
  obtain ⟨n1, rn1⟩ := and_e rn0
  obtain ⟨n2, rn2⟩ := and_e rn1
  obtain ⟨n3, rn3⟩ := and_e rn2
  obtain ⟨n4, rn4⟩ := and_e rn3
  obtain ⟨n5, rn5⟩ := and_e rn4
  obtain ⟨n6, rn6⟩ := and_e rn5
  obtain ⟨n7, rn7⟩ := and_e rn6
  obtain ⟨n8, rn8⟩ := and_e rn7
  have n9 := rn8
  obtain ⟨u8, v8⟩ := exa_v n0
  have S8 := Sta.start v8 (Or.inr ⟨(hw _ (List.mem_of_getElem? (i := 2) rfl)), (hw _ (List.mem_of_getElem? (i := 3) rfl))⟩)
  have E8 := Exa.start v8 n0
  have F8 := Fld.start ((fld_at v8).symm.trans (own_eqi n3))
  obtain ⟨u9, v9⟩ := exa_v n1
  have S9 := Sta.start v9 (Or.inr ⟨(hw _ (List.mem_of_getElem? (i := 2) rfl)), (hw _ (List.mem_of_getElem? (i := 12) rfl))⟩)
  have E9 := Exa.start v9 n1
  have F9 := Fld.start ((fld_at v9).symm.trans (own_eqi n2))
  obtain ⟨u10, v10⟩ := exa_v n6
  have S10 := Sta.start v10 (Or.inr ⟨(hw _ (List.mem_of_getElem? (i := 2) rfl)), (hw _ (List.mem_of_getElem? (i := 17) rfl))⟩)
  have E10 := Exa.start v10 n6
  have F10 := Fld.start ((fld_at v10).symm.trans (own_eqi n7))
  obtain ⟨u11, v11⟩ := exa_v n8
  have S11 := Sta.start v11 (Or.inr ⟨(hw _ (List.mem_of_getElem? (i := 2) rfl)), (hw _ (List.mem_of_getElem? (i := 19) rfl))⟩)
  have E11 := Exa.start v11 n8
  have F11 := Fld.start ((fld_at v11).symm.trans (own_eqi n9))
  obtain ⟨u12, v12⟩ := exa_v n4
  have S12 := Sta.start v12 (Or.inr ⟨(hw _ (List.mem_of_getElem? (i := 2) rfl)), (hw _ (List.mem_of_getElem? (i := 15) rfl))⟩)
  have E12 := Exa.start v12 n4
  have F12 := Fld.start ((fld_at v12).symm.trans (own_eqi n5))
  obtain ⟨n, o, h1, h2, h3, _, L, rfl, ⟨rfl, -, rfl⟩, hq⟩ := own_law l s _ hw i0 i1 i2 u8 u9 u10 u11 u12 s.heap ⟨S8, S9, S10, S11, S12⟩ E8 E9 E10 E11 E12 F8 F9 F10 F11 F12 p e ha hc hk s m _ below hf ((Spec.applies_iff_loose hf).mp happ).1 ⟨rfl, State.Warmed39.refl s, rfl⟩ trivial
  have N := Fr.nil s.heap.size
  refine ⟨n, _, h1, h2, h3, hpost _ _ _ _ _ _ ⟨Cond.after_iff.mpr rfl, Cond.after_iff.mpr (eq_i res_at (Term.int_eval (1)) rfl), trivial⟩ ⟨hq.1, hq.2.1, (hq.2.2.sift fun y hy => Or.inr (N y hy)).mono (by decide) (by decide)⟩⟩
theorem main_1_1 : Claimed_1_1 := comes_1 fun _ _ _ _ _ _ h hF => ⟨h.1, hF⟩
theorem main_1_2 : Claimed_1_2 := comes_1 fun _ _ _ _ _ _ h hF => ⟨h.2.1, hF⟩
end Jvm.Pilot.@@N@@
namespace Jvm.Pilot.@@N@@
open Jvm Jvm.ClassFile Sem Op Lib Jvm.Free Jvm.Stand Jvm.Pilot.@@N@@.Jvm.D
/-! MADE BY PROGRAM (witnessworld.py) out of the Statement's table words and the real class files: 12 classes; the members and pool entries that the words name. The judged class is class 1, her method 1. -/
namespace start1
open Jvm.ClassFile
def u (s : String) : CpInfo := .utf8 (stringToUtf16 s)
/-- a pool by its gaps: so many unusable entries, then the entry; so many at the end -/
def gap : Nat → List CpInfo → List CpInfo
  | 0, r => r
  | n + 1, r => .unusable :: gap n r
def poolList (es : List (Nat × CpInfo)) (last : Nat) : List CpInfo := es.foldr (fun e r => gap e.1 (e.2 :: r)) (gap last [])
def pool (es : List (Nat × CpInfo)) (last : Nat) : Array CpInfo := ⟨poolList es last⟩
def fileOf (pool : Array CpInfo) (this : Nat) (attrs : Array Attribute := #[]) (ms : Array MethodInfo := #[]) (fl : Nat := 33) (sup : Nat := 0) (ifs : Array Nat := #[]) (fds : Array FieldInfo := #[]) : ClassFile where
  minorVersion := 0
  majorVersion := 65
  constantPool := pool
  accessFlags := fl
  thisClass := this
  superClass := sup
  interfaces := ifs
  fields := fds
  methods := ms
  attributes := attrs
def plain (name : String) (sup : Option ClassId) : Class where
  name := name
  kind := .ordinary
  loader := none
  accessFlags := 33
  super := sup
  interfaces := #[]
  cf := none
  fields := #[]
  methods := #[]
  instanceTypes := #[]
  staticTypes := #[]
  resolved := #[]
  callSites := []
  init := .initialized
  statics := none
  mirror := none

def pool0 : Array CpInfo := pool [(5, u "<init>"), (0, u "()V"), (1, .class_ 10), (1, u "java/lang/Object")] 113

def k0m0 : Method := { name := "<init>", desc := "()V", sig := { parameters := [], returnType := none }, accessFlags := 1, code := none }
/-- java/lang/Object -/
def k0 : Class := { plain "java/lang/Object" none with
  accessFlags := 33
  interfaces := #[]
  cf := some (fileOf pool0 8 #[] #[{ accessFlags := 1, nameIndex := 5, descriptorIndex := 6, attributes := #[] }] 33 0 #[] #[])
  fields := #[]
  methods := #[k0m0]
  instanceTypes := #[]
  staticTypes := #[]
  resolved := Array.replicate 124 none
  statics := none }

def pool1 : Array CpInfo := pool [(2, .class_ 4), (1, u "java/lang/Object"), (0, u "<init>"), (0, u "()V"), (0, .integer 2147483647), (0, .fieldref 9 10), (0, .class_ 11), (0, .nameAndType 12 13), (0, u "com/example/focus_crawl/focuscrawl/crawl/page/XPathExpr$Operator"), (0, u "PLUS"), (0, u "Lcom/example/focus_crawl/focuscrawl/crawl/page/XPathExpr$Operator;"), (0, .double 4616189618054758400), (1, .fieldref 9 17), (0, .nameAndType 18 13), (0, u "MINUS"), (0, .fieldref 9 20), (0, .nameAndType 21 13), (0, u "TIMES"), (0, .double 4625196817309499392), (1, .fieldref 9 25), (0, .nameAndType 26 13), (0, u "DIV"), (0, .fieldref 9 28), (0, .nameAndType 29 13), (0, u "MOD"), (0, .methodref 9 31), (0, .nameAndType 32 33), (0, u "arithmetic"), (0, u "(DD)D"), (0, .class_ 35), (0, u "com/example/focus_crawl/focuscrawl/crawl/page/OperatorArithmeticPinLaw"), (2, u "law"), (0, u "(III)Z")] 7

def k1m0 : Method := { name := "<init>", desc := "()V", sig := { parameters := [], returnType := none }, accessFlags := 2, code := none }
def k1c1 : Code := { maxStack := 5, maxLocals := 14, code := code, exceptionTable := #[], attributes := #[] }
def k1m1 : Method := { name := "law", desc := "(III)Z", sig := { parameters := [.int, .int, .int], returnType := some .boolean }, accessFlags := 9, code := some k1c1 }
/-- com/example/focus_crawl/focuscrawl/crawl/page/OperatorArithmeticPinLaw -/
def k1 : Class := { plain "com/example/focus_crawl/focuscrawl/crawl/page/OperatorArithmeticPinLaw" (some 0) with
  accessFlags := 49
  interfaces := #[]
  cf := some (fileOf pool1 34 #[] #[{ accessFlags := 2, nameIndex := 5, descriptorIndex := 6, attributes := #[] }, { accessFlags := 9, nameIndex := 38, descriptorIndex := 39, attributes := #[] }] 49 2 #[] #[])
  fields := #[]
  methods := #[k1m0, k1m1]
  instanceTypes := #[]
  staticTypes := #[]
  resolved := Array.replicate 47 none
  statics := none }

def pool2 : Array CpInfo := pool [(1, .class_ 2), (0, u "java/lang/constant/Constable"), (0, .class_ 4), (0, u "java/lang/Object")] 6

/-- java/lang/constant/Constable -/
def k2 : Class := { plain "java/lang/constant/Constable" (some 0) with
  accessFlags := 1537
  interfaces := #[]
  cf := some (fileOf pool2 1 #[] #[] 1537 3 #[] #[])
  fields := #[]
  methods := #[]
  instanceTypes := #[]
  staticTypes := #[]
  resolved := Array.replicate 11 none
  statics := none }

def pool3 : Array CpInfo := pool [(1, .class_ 2), (0, u "java/lang/Comparable"), (0, .class_ 4), (0, u "java/lang/Object")] 7

/-- java/lang/Comparable -/
def k3 : Class := { plain "java/lang/Comparable" (some 0) with
  accessFlags := 1537
  interfaces := #[]
  cf := some (fileOf pool3 1 #[] #[] 1537 3 #[] #[])
  fields := #[]
  methods := #[]
  instanceTypes := #[]
  staticTypes := #[]
  resolved := Array.replicate 12 none
  statics := none }

def pool4 : Array CpInfo := pool [(1, .class_ 2), (0, u "java/io/Serializable"), (0, .class_ 4), (0, u "java/lang/Object")] 2

/-- java/io/Serializable -/
def k4 : Class := { plain "java/io/Serializable" (some 0) with
  accessFlags := 1537
  interfaces := #[]
  cf := some (fileOf pool4 1 #[] #[] 1537 3 #[] #[])
  fields := #[]
  methods := #[]
  instanceTypes := #[]
  staticTypes := #[]
  resolved := Array.replicate 7 none
  statics := none }

def pool5 : Array CpInfo := pool [(2, .class_ 4), (1, u "java/lang/Enum"), (0, u "name"), (0, u "Ljava/lang/String;"), (2, u "ordinal"), (0, u "I"), (1, .class_ 14), (1, u "java/lang/Object"), (4, u "hash"), (86, .class_ 108), (1, u "java/lang/Enum$EnumDesc"), (2, .class_ 112), (0, u "java/lang/constant/Constable"), (0, .class_ 114), (0, u "java/lang/Comparable"), (0, .class_ 116), (0, u "java/io/Serializable")] 87

/-- java/lang/Enum -/
def k5 : Class := { plain "java/lang/Enum" (some 0) with
  accessFlags := 1057
  interfaces := #[2, 3, 4]
  cf := some (fileOf pool5 2 #[.nestMembers #[106]] #[] 1057 12 #[111, 113, 115] #[{ accessFlags := 18, nameIndex := 5, descriptorIndex := 6, attributes := #[] }, { accessFlags := 18, nameIndex := 9, descriptorIndex := 10, attributes := #[] }, { accessFlags := 2, nameIndex := 19, descriptorIndex := 10, attributes := #[] }])
  fields := #[{ name := "name", type := (.object "java/lang/String"), accessFlags := 18, slot := 0, constantValue := 0 }, { name := "ordinal", type := .int, accessFlags := 18, slot := 1, constantValue := 0 }, { name := "hash", type := .int, accessFlags := 2, slot := 2, constantValue := 0 }]
  methods := #[]
  instanceTypes := #[(.object "java/lang/String"), .int, .int]
  staticTypes := #[]
  resolved := Array.replicate 204 none
  statics := none }

def pool6 : Array CpInfo := pool [(1, .class_ 2), (0, u "com/example/focus_crawl/focuscrawl/crawl/page/XPathExpr$Operator"), (2, u "OR"), (0, u "Lcom/example/focus_crawl/focuscrawl/crawl/page/XPathExpr$Operator;"), (2, u "AND"), (2, u "EQUAL"), (2, u "NOT_EQUAL"), (2, u "LESS"), (2, u "LESS_OR_EQUAL"), (2, u "GREATER"), (2, u "GREATER_OR_EQUAL"), (0, .fieldref 1 29), (0, .nameAndType 30 6), (0, u "PLUS"), (0, .fieldref 1 32), (0, .nameAndType 33 6), (0, u "MINUS"), (0, .fieldref 1 35), (0, .nameAndType 36 6), (0, u "TIMES"), (0, .fieldref 1 38), (0, .nameAndType 39 6), (0, u "DIV"), (2, u "MOD"), (2, u "$VALUES"), (0, u "[Lcom/example/focus_crawl/focuscrawl/crawl/page/XPathExpr$Operator;"), (6, .class_ 55), (1, u "java/lang/Enum"), (8, u "text"), (0, u "Ljava/lang/String;"), (68, u "arithmetic"), (0, u "(DD)D"), (6, .class_ 143), (0, u "com/example/focus_crawl/focuscrawl/crawl/page/XPathExpr")] 2

def k6c0 : Code := { maxStack := 4, maxLocals := 7, code := prog_46_method_11_code, exceptionTable := #[], attributes := #[] }
def k6m0 : Method := { name := "arithmetic", desc := "(DD)D", sig := { parameters := [.double, .double], returnType := some .double }, accessFlags := 0, code := some k6c0 }
/-- com/example/focus_crawl/focuscrawl/crawl/page/XPathExpr$Operator -/
def k6 : Class := { plain "com/example/focus_crawl/focuscrawl/crawl/page/XPathExpr$Operator" (some 5) with
  accessFlags := 16432
  interfaces := #[]
  cf := some (fileOf pool6 1 #[.nestHost 142] #[{ accessFlags := 0, nameIndex := 134, descriptorIndex := 135, attributes := #[] }] 16432 53 #[] #[{ accessFlags := 16409, nameIndex := 5, descriptorIndex := 6, attributes := #[] }, { accessFlags := 16409, nameIndex := 9, descriptorIndex := 6, attributes := #[] }, { accessFlags := 16409, nameIndex := 12, descriptorIndex := 6, attributes := #[] }, { accessFlags := 16409, nameIndex := 15, descriptorIndex := 6, attributes := #[] }, { accessFlags := 16409, nameIndex := 18, descriptorIndex := 6, attributes := #[] }, { accessFlags := 16409, nameIndex := 21, descriptorIndex := 6, attributes := #[] }, { accessFlags := 16409, nameIndex := 24, descriptorIndex := 6, attributes := #[] }, { accessFlags := 16409, nameIndex := 27, descriptorIndex := 6, attributes := #[] }, { accessFlags := 16409, nameIndex := 30, descriptorIndex := 6, attributes := #[] }, { accessFlags := 16409, nameIndex := 33, descriptorIndex := 6, attributes := #[] }, { accessFlags := 16409, nameIndex := 36, descriptorIndex := 6, attributes := #[] }, { accessFlags := 16409, nameIndex := 39, descriptorIndex := 6, attributes := #[] }, { accessFlags := 16409, nameIndex := 42, descriptorIndex := 6, attributes := #[] }, { accessFlags := 18, nameIndex := 64, descriptorIndex := 65, attributes := #[] }, { accessFlags := 4122, nameIndex := 45, descriptorIndex := 46, attributes := #[] }])
  fields := #[{ name := "OR", type := (.object "com/example/focus_crawl/focuscrawl/crawl/page/XPathExpr$Operator"), accessFlags := 16409, slot := 0, constantValue := 0 }, { name := "AND", type := (.object "com/example/focus_crawl/focuscrawl/crawl/page/XPathExpr$Operator"), accessFlags := 16409, slot := 1, constantValue := 0 }, { name := "EQUAL", type := (.object "com/example/focus_crawl/focuscrawl/crawl/page/XPathExpr$Operator"), accessFlags := 16409, slot := 2, constantValue := 0 }, { name := "NOT_EQUAL", type := (.object "com/example/focus_crawl/focuscrawl/crawl/page/XPathExpr$Operator"), accessFlags := 16409, slot := 3, constantValue := 0 }, { name := "LESS", type := (.object "com/example/focus_crawl/focuscrawl/crawl/page/XPathExpr$Operator"), accessFlags := 16409, slot := 4, constantValue := 0 }, { name := "LESS_OR_EQUAL", type := (.object "com/example/focus_crawl/focuscrawl/crawl/page/XPathExpr$Operator"), accessFlags := 16409, slot := 5, constantValue := 0 }, { name := "GREATER", type := (.object "com/example/focus_crawl/focuscrawl/crawl/page/XPathExpr$Operator"), accessFlags := 16409, slot := 6, constantValue := 0 }, { name := "GREATER_OR_EQUAL", type := (.object "com/example/focus_crawl/focuscrawl/crawl/page/XPathExpr$Operator"), accessFlags := 16409, slot := 7, constantValue := 0 }, { name := "PLUS", type := (.object "com/example/focus_crawl/focuscrawl/crawl/page/XPathExpr$Operator"), accessFlags := 16409, slot := 8, constantValue := 0 }, { name := "MINUS", type := (.object "com/example/focus_crawl/focuscrawl/crawl/page/XPathExpr$Operator"), accessFlags := 16409, slot := 9, constantValue := 0 }, { name := "TIMES", type := (.object "com/example/focus_crawl/focuscrawl/crawl/page/XPathExpr$Operator"), accessFlags := 16409, slot := 10, constantValue := 0 }, { name := "DIV", type := (.object "com/example/focus_crawl/focuscrawl/crawl/page/XPathExpr$Operator"), accessFlags := 16409, slot := 11, constantValue := 0 }, { name := "MOD", type := (.object "com/example/focus_crawl/focuscrawl/crawl/page/XPathExpr$Operator"), accessFlags := 16409, slot := 12, constantValue := 0 }, { name := "text", type := (.object "java/lang/String"), accessFlags := 18, slot := 3, constantValue := 0 }, { name := "$VALUES", type := (.array (.object "com/example/focus_crawl/focuscrawl/crawl/page/XPathExpr$Operator")), accessFlags := 4122, slot := 13, constantValue := 0 }]
  methods := #[k6m0]
  instanceTypes := #[(.object "java/lang/String"), .int, .int, (.object "java/lang/String")]
  staticTypes := #[(.object "com/example/focus_crawl/focuscrawl/crawl/page/XPathExpr$Operator"), (.object "com/example/focus_crawl/focuscrawl/crawl/page/XPathExpr$Operator"), (.object "com/example/focus_crawl/focuscrawl/crawl/page/XPathExpr$Operator"), (.object "com/example/focus_crawl/focuscrawl/crawl/page/XPathExpr$Operator"), (.object "com/example/focus_crawl/focuscrawl/crawl/page/XPathExpr$Operator"), (.object "com/example/focus_crawl/focuscrawl/crawl/page/XPathExpr$Operator"), (.object "com/example/focus_crawl/focuscrawl/crawl/page/XPathExpr$Operator"), (.object "com/example/focus_crawl/focuscrawl/crawl/page/XPathExpr$Operator"), (.object "com/example/focus_crawl/focuscrawl/crawl/page/XPathExpr$Operator"), (.object "com/example/focus_crawl/focuscrawl/crawl/page/XPathExpr$Operator"), (.object "com/example/focus_crawl/focuscrawl/crawl/page/XPathExpr$Operator"), (.object "com/example/focus_crawl/focuscrawl/crawl/page/XPathExpr$Operator"), (.object "com/example/focus_crawl/focuscrawl/crawl/page/XPathExpr$Operator"), (.array (.object "com/example/focus_crawl/focuscrawl/crawl/page/XPathExpr$Operator"))]
  resolved := Array.replicate 146 none
  statics := some 0 }

def pool7 : Array CpInfo := pool [(1, u "java/lang/Cloneable"), (0, .class_ 1), (0, u "java/lang/Object"), (0, .class_ 3)] 3

/-- java/lang/Cloneable -/
def k7 : Class := { plain "java/lang/Cloneable" (some 0) with
  accessFlags := 1537
  interfaces := #[]
  cf := some (fileOf pool7 2 #[] #[] 1537 4 #[] #[])
  fields := #[]
  methods := #[]
  instanceTypes := #[]
  staticTypes := #[]
  resolved := Array.replicate 8 none
  statics := none }

/-- the primitive byte -/
def k8 : Class := { plain "byte" none with kind := .primitive 'B', accessFlags := 0x411 }
/-- [B -/
def k9 : Class := { plain "[B" (some 0) with kind := .array 8 .byte, interfaces := #[7, 4], accessFlags := 1041 }

/-- the primitive int -/
def k10 : Class := { plain "int" none with kind := .primitive 'I', accessFlags := 0x411 }
/-- [I -/
def k11 : Class := { plain "[I" (some 0) with kind := .array 10 .int, interfaces := #[7, 4], accessFlags := 1041 }

def heap : Heap := #[{ cls := 6, slots := #[.null, .null, .null, .null, .null, .null, .null, .null, .ref 1, .ref 2, .ref 3, .ref 4, .ref 5, .null], vm := .statics 6 },
  { cls := 6, slots := #[.null, .int 8, .int 0, .null], vm := .none },
  { cls := 6, slots := #[.null, .int 9, .int 0, .null], vm := .none },
  { cls := 6, slots := #[.null, .int 10, .int 0, .null], vm := .none },
  { cls := 6, slots := #[.null, .int 11, .int 0, .null], vm := .none },
  { cls := 6, slots := #[.null, .int 12, .int 0, .null], vm := .none }]
def classes : Array Class := #[k0, k1, k2, k3, k4, k5, k6, k7, k8, k9, k10, k11]
def interned : List (Array UInt16 × Addr) := []
def slotsUsed : Nat := 34
def theMethod : MethodId := ⟨1, 1⟩
def args0 : Array Value := #[.int 5, .int 3, .int 4]
def aboutOver (below : List Frame) : State where
  vm := { classes := classes, interned := interned.toArray }
  heap := heap
  slotsUsed := slotsUsed
  threads := #[{ frames := .invoking theMethod args0 :: below }]
def below0 : List Frame := [.native { method := ⟨0, 0⟩, args := #[] }]
def about1 : State := aboutOver below0
def p0 : Program := .bare "" "" ""
def e0 : Env := launch0.env 0 0 0
theorem w_frames : about1.frames = Frame.invoking theMethod args0 :: below0 := rfl
set_option maxRecDepth 65536 in
theorem w_args : argsFit about1.vm theMethod args0 = true := by decide +kernel
set_option maxRecDepth 65536 in
theorem w_heap : heapFits about1 = true := by decide +kernel
set_option maxRecDepth 65536 in
theorem w_runnable : about1.curStatus? = some .runnable := by decide +kernel
set_option maxRecDepth 65536 in
theorem w_alone : about1.alone = true := by decide +kernel
set_option maxRecDepth 65536 in
theorem w_named : about1.methodNamed? x = some theMethod := by decide +kernel
set_option maxRecDepth 65536 in
theorem w_hears : about1.hears theMethod below0 = true := by decide +kernel
set_option maxRecDepth 65536 in
theorem w_ripe : about1.ripe theMethod args0 below0 = true := by decide +kernel
theorem w_running : about1.status = .running := rfl
set_option maxRecDepth 65536 in
theorem w_room : about1.hasRoom e0.platform room_1 = true :=
  launch0.hasRoom_least _ room_1 (by decide +kernel) (by decide +kernel) (by decide +kernel) (by decide +kernel) (by decide +kernel) (by decide +kernel)
theorem allAtoms_all (ts : List Jvm.Cond) (a : Array Jvm.Value) (st : Jvm.State) : (allAtoms ts).before a st = ts.all (fun c => c.before a st) := by
  induction ts with
  | nil => rfl
  | cons c t ih =>
    show (Jvm.Cond.and c (allAtoms t)).before a st = _
    rw [Jvm.Cond.before_and, ih, List.all_cons]
def words1 : List Jvm.Cond := Jvm.Cond.code x code maxLocals ret :: tables_1
/-- a 'code' word, met by the world's own term for the bytes: nothing is compared byte by byte -/
theorem code_word {y : MethodName} {bytes : ByteArray} {mx : Nat} {rt : Option FieldType} {a : Array Value} {s : State} {m : MethodId} {meth : Method} {c : Code} (h1 : s.methodNamed? y = some m) (h2 : s.vm.method? m = some meth) (h3 : meth.code = some c) (h4 : c.code = bytes)
    (h5 : (c.maxLocals == mx && c.exceptionTable.isEmpty && decide (c.maxStack ≤ mostOperands) && decide (meth.sig.returnType = rt) && !meth.locks && decide (parseMethodDescriptor y.desc = some meth.sig)) = true) : (Jvm.Cond.code y bytes mx rt).before a s = true := by
  simp only [Bool.and_eq_true, beq_iff_eq, Bool.not_eq_true', decide_eq_true_eq] at h5
  obtain ⟨⟨⟨⟨⟨g1, g2⟩, g3⟩, g4⟩, g5⟩, g6⟩ := h5
  simp [Cond.before, Cond.holds, Cond.value, h1, h2, h3, h4, g1, g2, g3, g4, g5, g6]
def isCode : Jvm.Cond → Bool
  | .code _ _ _ _ => true
  | _ => false
theorem all_split {L : List Jvm.Cond} {P : Jvm.Cond → Bool} (h1 : L.all (fun c => isCode c || P c) = true) (h2 : ∀ c ∈ L.filter isCode, P c = true) : L.all P = true := by
  refine List.all_eq_true.mpr fun c hc => ?_
  have h := List.all_eq_true.mp h1 c hc
  rcases Bool.eq_false_or_eq_true (isCode c) with hi | hi
  · exact h2 c (List.mem_filter.mpr ⟨hc, hi⟩)
  · simpa [hi] using h
set_option maxRecDepth 65536 in
theorem w_c0 : (Jvm.Cond.code x code maxLocals ret).before args0 about1 = true := code_word (m := ⟨1, 1⟩) (meth := k1m1) (c := k1c1) (by decide +kernel) rfl rfl rfl (by decide +kernel)
set_option maxRecDepth 65536 in
theorem w_c1 : (Jvm.Cond.code ({ cls := "com/example/focus_crawl/focuscrawl/crawl/page/XPathExpr$Operator", name := "arithmetic", desc := "(DD)D" } : Jvm.MethodName) prog_46_method_11_code (7 : Nat) (Option.some Jvm.ClassFile.FieldType.double)).before args0 about1 = true := code_word (m := ⟨6, 0⟩) (meth := k6m0) (c := k6c0) (by decide +kernel) rfl rfl rfl (by decide +kernel)
def codes1 : List Jvm.Cond := [Jvm.Cond.code x code maxLocals ret, Jvm.Cond.code ({ cls := "com/example/focus_crawl/focuscrawl/crawl/page/XPathExpr$Operator", name := "arithmetic", desc := "(DD)D" } : Jvm.MethodName) prog_46_method_11_code (7 : Nat) (Option.some Jvm.ClassFile.FieldType.double)]
set_option maxRecDepth 65536 in
theorem codes_eq : words1.filter isCode = codes1 := rfl
theorem w_codes : ∀ c ∈ words1.filter isCode, c.before args0 about1 = true := by
  rw [codes_eq]
  intro c hc
  simp only [codes1, List.mem_cons, List.not_mem_nil, or_false] at hc
  rcases hc with rfl | rfl
  · exact w_c0
  · exact w_c1
set_option maxRecDepth 65536 in
theorem w_t1 : words1.all (fun c => isCode c || c.before args0 about1) = true := by decide +kernel
theorem w_tables : (allAtoms (Jvm.Cond.code x code maxLocals ret :: tables_1)).before args0 about1 = true := by
  rw [allAtoms_all]
  show words1.all (fun c => c.before args0 about1) = true
  refine all_split ?_ w_codes
  rw [w_t1]
set_option maxRecDepth 65536 in
theorem w_case : (Jvm.Cond.and given_1 narrow_1).before args0 about1 = true := by decide +kernel
theorem w_applies : (headSpec (Jvm.Cond.code x code maxLocals ret :: tables_1) room_1).applies x e0.platform about1 = true :=
  (Spec.applies_iff w_frames).mpr ⟨w_running, w_runnable, w_alone, w_named, w_hears, w_ripe, w_room, w_tables⟩
theorem atStart : AtStart classFile x code maxLocals ret World_1 tables_1 room_1 Calls_1 rest_1 Pre_1 launch0 p0 e0 about1 theMethod args0 below0 :=
  ⟨lists_1, trivial, launch0.admits_env _ _ _, launch0.least_env, fairChoices_fair.cas, fairChoices_fair.clock, w_frames, w_args, w_heap, w_applies, trivial, trivial, w_case⟩
end start1
theorem witness_1 : WitnessClaimed_1 := ⟨start1.p0, start1.e0, start1.about1, start1.theMethod, start1.args0, start1.below0, start1.atStart⟩
end Jvm.Pilot.@@N@@
