import JvmDerived
import JvmDerived.Pilot.@@N@@Statement
import JvmDerived.Pilot.@@N@@Code
set_option linter.unusedVariables false
set_option linter.unusedSimpArgs false
namespace Jvm.Pilot.@@N@@
open Jvm Jvm.ClassFile Sem Op Lib Jvm.Free Jvm.Stand Jvm.LawKit Jvm.RoadKit Bundle Jvm.Pilot.@@N@@.Jvm.D
abbrev oI (x : Int32) : Slot := .val (.int x)
abbrev oR (x : Addr) : Slot := .val (.ref x)
abbrev oD (x : UInt64) : Slot := .val (.double x)
abbrev oF (x : UInt32) : Slot := .val (.float x)
abbrev oJ (x : Int64) : Slot := .val (.long x)
section Own
variable {p : Program} {l : Launch} {e : Env} {R : Room} {s : State} {m : MethodId} {args : Array Value} {below : List Frame} {meth : Method} {c : Code} {T T' : State} {locs : List Loc} {cells slots : Nat} {Z : State} {a0 : Array Value} {h h0 : Heap} {K : State → Outcome → Prop} {Q : Option Value → Heap → List Loc → Prop}
/-- from the frame g over the state T the run comes to an end that K takes -/
def own_Go (p : Program) (e : Env) (below : List Frame) (K : State → Outcome → Prop) (T : State) (g : JFrame) : Prop :=
  ∃ s₂ o, Steps p.tables e below (T.setTop g) s₂ ∧ s₂.status = .running ∧ Ended s₂ below o ∧ K s₂ o
theorem own_by {g g' : JFrame} (h : ∀ t, Steps p.tables e below (T'.setTop g') t → Steps p.tables e below (T.setTop g) t) (k : own_Go p e below K T' g') : own_Go p e below K T g := by
  obtain ⟨s2, o, h1, h2⟩ := k
  exact ⟨s2, o, h _ h1, h2⟩
def own_K (s : State) (k n : Nat) (Q : Option Value → Heap → List Loc → Prop) (t : State) (o : Outcome) : Prop := ∃ v L, o = .returned v ∧ Q v t.heap L ∧ FrameEnd s o t L k n
def own_Met (l : Launch) (y : MethodName) (bytes : ByteArray) (mx : Nat) (ret : Option FieldType) (ws : List Jvm.Cond) (rm : Room) (Z : State) (as' : Array Value) (h0 : Heap) (Q : Option Value → Heap → List Loc → Prop) : Prop :=
  MetFree l y (head1 (Jvm.Cond.code y bytes mx ret :: ws) rm) (fun a U => a = as' ∧ Z.Warmed39 U.vm ∧ U.heap = h0) (fun _ _ _ _ _ => True) (fun _ U o U' => ∃ v L, o = .returned v ∧ Q v U'.heap L ∧ FrameEnd U o U' L rm.cells rm.slots)
theorem own_enter {y : MethodName} {bytes : ByteArray} {mx : Nat} {ret : Option FieldType} {ws : List Jvm.Cond} {rm : Room} {as' : Array Value} (hn : plainFor y = true)
    (body : ∀ (p : Program) (e : Env) (s : State) (m : MethodId) (below : List Frame) (meth : Method) (c : Code) (T0 : State), p.tables.exec = Jvm.exec → c.code = bytes → c.maxLocals = mx → meth.sig.returnType = ret → meth.locks = false → s.vm.findClass y.cls = some m.cls → meth.name = y.name → Z.Warmed39 s.vm →
      Stand p l e rm s m as' below meth c T0 [] 0 0 → T0.heap = h0 → own_Go p e below (own_K s rm.cells rm.slots Q) T0 (entryFrame m as' mx)) : own_Met l y bytes mx ret ws rm Z as' h0 Q := by
  refine MetFree.of_bodySF hn hisR ?_
  intro p e s m args below meth c s₁ Bd hml hP hK
  obtain ⟨rfl, hZ, hh⟩ := hP
  obtain ⟨s2, o, h1, h2, h3, h4⟩ := body p e s m below meth c s₁ Bd.exec Bd.bytes hml Bd.returns Bd.notSynchronized (findClass_of_methodNamed Bd.named) (name_of_methodNamed Bd.named Bd.method).1 hZ (Stand.of_body Bd) (by rw [← hh, Bd.state]; rfl)
  exact ⟨s2, o, h1, h2, h3, h4⟩
theorem own_at {g g' : JFrame} (q : g = g') (k : own_Go p e below K T g') : own_Go p e below K T g := q ▸ k
theorem own_leave (X : Stand p l e R s m args below meth c T locs cells slots) (hlk : meth.locks = false) {v : Option Value} {k n : Nat} (hv : meth.sig.returnType = none → v = none) {g : JFrame}
    (step : ∀ fs, (∀ (f : JFrame) (acts : List Action), f.method = m → f.locked = none → f.entered = [] → (doReturn e (T.setTop f) acts v).1 = T.setFrames fs) → Steps p.tables e below (T.setTop g) (T.setFrames fs)) (hk : cells ≤ k) (hn : slots ≤ n) (hQ : Q v T.heap locs) : own_Go p e below (own_K s k n Q) T g := by
  obtain ⟨fs, hr, hrun, hended, hW, hsame⟩ := X.leave (v := v) hv hlk
  exact ⟨_, _, step fs hr, hrun, hended, v, locs, rfl, hQ, ⟨_, rfl⟩, hW, hsame.mono hk hn⟩
theorem own_retI (X : Stand p l e R s m args below meth c T locs cells slots) (hx : p.tables.exec = Jvm.exec) (hlk : meth.locks = false) (hret : meth.sig.returnType = some .int) {pc : Nat} {Ls : Array Slot} {z : Int32} {rest : List Value} {k n : Nat} (hd : decode c.code pc = .ok (.ireturn, 1)) (hk : cells ≤ k) (hn : slots ≤ n) (hQ : Q (some (.int z)) T.heap locs) :
    own_Go p e below (own_K s k n Q) T (mkF m pc Ls (.int z :: rest)) := by
  refine own_leave X hlk (v := some (.int z)) (fun h => by rw [hret] at h; cases h) (fun fs hl => ?_) hk hn hQ
  have hm' : T.vm.method? m = some meth := X.method'
  have hn : narrow .int (.int z) = .int z := rfl
  show Steps p.tables e below (T.setTop { method := m, pc := pc, locals := Ls, stack := _ :: rest, locked := none }) _
  jvm_step X.here [X.here.top, hx, hd, hm', hret, hn]
  first | (intro acts; rw [hl _ acts rfl rfl rfl]) | rw [hl _ _ rfl rfl rfl]
  exact Steps.refl _
theorem own_retN (X : Stand p l e R s m args below meth c T locs cells slots) (hx : p.tables.exec = Jvm.exec) (hlk : meth.locks = false) {t : FieldType} (hret : meth.sig.returnType = some t) (ht : t = .boolean ∨ t = .byte ∨ t = .char ∨ t = .short) {pc : Nat} {Ls : Array Slot} {z w : Int32} {rest : List Value} {k n : Nat} (hd : decode c.code pc = .ok (.ireturn, 1)) (hw : nar t z = w) (hk : cells ≤ k) (hn : slots ≤ n) (hQ : Q (some (.int w)) T.heap locs) :
    own_Go p e below (own_K s k n Q) T (mkF m pc Ls (.int z :: rest)) := by
  subst hw
  exact own_leave X hlk (v := some (.int (nar t z))) (fun h => by rw [hret] at h; cases h) (fun fs hl => retN X hx hret ht hd hl) hk hn hQ
theorem own_retA (X : Stand p l e R s m args below meth c T locs cells slots) (hx : p.tables.exec = Jvm.exec) (hlk : meth.locks = false) {t : FieldType} (hret : meth.sig.returnType = some t) (ht : t.isReference = true) {pc : Nat} {Ls : Array Slot} {v : Value} (hv : v.isRef = true) {rest : List Value} {k n : Nat} (hd : decode c.code pc = .ok (.areturn, 1)) (hk : cells ≤ k) (hn : slots ≤ n) (hQ : Q (some v) T.heap locs) :
    own_Go p e below (own_K s k n Q) T (mkF m pc Ls (v :: rest)) :=
  own_leave X hlk (v := some v) (fun h => by rw [hret] at h; cases h) (fun fs hl => retOut X hx hret (by cases t <;> first | (cases ht; done) | (rcases ref_cases hv with rfl | ⟨a, rfl⟩ <;> rfl)) (Or.inr (Or.inr (Or.inr (Or.inr ⟨rfl, ht, hv⟩)))) hd hl) hk hn hQ
theorem own_retV (X : Stand p l e R s m args below meth c T locs cells slots) (hx : p.tables.exec = Jvm.exec) (hlk : meth.locks = false) (hret : meth.sig.returnType = none) {pc : Nat} {Ls : Array Slot} {k n : Nat} (hd : decode c.code pc = .ok (.return_, 1)) (hk : cells ≤ k) (hn : slots ≤ n) (hQ : Q none T.heap locs) :
    own_Go p e below (own_K s k n Q) T (mkF m pc Ls []) :=
  own_leave X hlk (v := none) (fun _ => rfl) (fun fs hl => X.returnOut hx hret hd hl) hk hn hQ
theorem own_callS (X : Stand p l e R s m args below meth c T locs cells slots) (hx : p.tables.exec = Jvm.exec) (hZ : Z.Warmed39 s.vm) {own : String} {index : Nat} {y : MethodName} {bytes : ByteArray} {mx : Nat} {ret : Option FieldType} {rm : Room} (hown : s.vm.findClass own = some m.cls) (w1 : (Jvm.Cond.methodLink own index y).before a0 Z = true) (w2 : (Jvm.Cond.static y).before a0 Z = true) (w3 : (Jvm.Cond.initialized y.cls).before a0 Z = true) (w4 : (Jvm.Cond.code y bytes mx ret).before a0 Z = true)
    (hy : y.cls ≠ "java/lang/invoke/MethodHandle" ∧ y.cls ≠ "java/lang/invoke/VarHandle") (eT : T.heap = h) {argsL rest : List Value} (M : own_Met l y bytes mx ret [] rm Z argsL.toArray h Q) (W : Nat) (hf : rm.frames + 1 ≤ R.frames) (hl : W + (mx + 11) + rm.locals ≤ R.locals) {pc : Nat} {Ls : Array Slot} (hsize : Ls.size = c.maxLocals)
    (hlen : ∀ sig, parseMethodDescriptor y.desc = some sig → argsL.length = sig.parameters.length) (hW : (rest.map fun v => v.category).sum ≤ W) (hd : decode c.code pc = .ok (.invokestatic index, 3)) (hc : cells + rm.cells ≤ R.cells) (hs : slots + rm.slots ≤ R.slots) {st : List Value} (hst : st = argsL.reverse ++ rest)
    (k : ∀ (T' : State) (L : List Loc) (v : Option Value), Stand p l e R s m args below meth c T' (locs ++ L) (cells + rm.cells) (slots + rm.slots) → Q v T'.heap L → own_Go p e below K T' (mkF m (pc + 3) Ls (v.toList ++ rest))) : own_Go p e below K T (mkF m pc Ls st) := by
  obtain ⟨v, _, ⟨T1, L1, k1, n1⟩, -, X1, ⟨Lc, hQ, l1, y1, z1⟩, stp⟩ := Jvm.LawKit.callS X hx hown (mvT hZ w1) (mvT hZ w2) (mvT hZ w3) (mvT hZ w4) hy (backOf (W := W) M hZ w4 w3 hf hl) (g := mkF m pc Ls st) rfl hsize (argsL := argsL) (rest := rest) hlen hst (by show 2 * 0 + _ ≤ _; omega) hd (fun _ _ => ⟨rfl, eT, hc, hs⟩)
  dsimp only [Pt.U, Pt.locs, Pt.cells, Pt.slots] at X1 l1 y1 z1 stp hQ
  subst l1 y1 z1
  exact own_by stp (k T1 Lc v X1 hQ)
theorem own_callV (X : Stand p l e R s m args below meth c T locs cells slots) (hx : p.tables.exec = Jvm.exec) (hZ : Z.Warmed39 s.vm) {own C : String} {index : Nat} {y : MethodName} {bytes : ByteArray} {mx : Nat} {ret : Option FieldType} {rm : Room} (hown : s.vm.findClass own = some m.cls) (w1 : (Jvm.Cond.methodLink own index y).before a0 Z = true) (w2 : (Jvm.Cond.declares y).before a0 Z = true) (w3 : (Jvm.Cond.selects C y y).before a0 Z = true) (w4 : (Jvm.Cond.instanceMethod y).before a0 Z = true) (w5 : (Jvm.Cond.code y bytes mx ret).before a0 Z = true) (w6 : (Jvm.Cond.initialized y.cls).before a0 Z = true)
    (hy : y.cls ≠ "java/lang/invoke/MethodHandle" ∧ y.cls ≠ "java/lang/invoke/VarHandle") (eT : T.heap = h) {b : Addr} (E : Exa Z h b C) {argsL rest : List Value} (M : own_Met l y bytes mx ret [] rm Z (.ref b :: argsL).toArray h Q) (W : Nat) (hf : rm.frames + 1 ≤ R.frames) (hl : W + (mx + 11) + rm.locals ≤ R.locals) {pc : Nat} {Ls : Array Slot} (hsize : Ls.size = c.maxLocals)
    (hlen : ∀ sig, parseMethodDescriptor y.desc = some sig → argsL.length = sig.parameters.length) (hW : (rest.map fun v => v.category).sum ≤ W) (hd : decode c.code pc = .ok (.invokevirtual index, 3)) (hc : cells + rm.cells ≤ R.cells) (hs : slots + rm.slots ≤ R.slots) {st : List Value} (hst : st = argsL.reverse ++ .ref b :: rest)
    (k : ∀ (T' : State) (L : List Loc) (v : Option Value), Stand p l e R s m args below meth c T' (locs ++ L) (cells + rm.cells) (slots + rm.slots) → Q v T'.heap L → own_Go p e below K T' (mkF m (pc + 3) Ls (v.toList ++ rest))) : own_Go p e below K T (mkF m pc Ls st) := by
  obtain ⟨cq, kq, qa, qb, qc⟩ := isOf (T := T) hZ eT E
  obtain ⟨v, _, ⟨T1, L1, k1, n1⟩, -, X1, ⟨Lc, hQ, l1, y1, z1⟩, stp⟩ := X.virtualBack hx hown (mvT hZ w1) (mvT hZ w2) (notFace_of_selects (args := #[]) (mvT hZ w3)) (mvT hZ w3) (mvT hZ w4) hy (backOf (W := W) M hZ w5 w6 hf hl) qa qc (g := mkF m pc Ls st) rfl hsize (Steps.refl _) (argsL := argsL) (rest := rest) hlen hst (by show 2 * 0 + _ ≤ _; omega) hd (fun _ _ => ⟨rfl, eT, hc, hs⟩)
  dsimp only [Pt.U, Pt.locs, Pt.cells, Pt.slots] at X1 l1 y1 z1 stp hQ
  subst l1 y1 z1
  exact own_by (fun t q => stp.trans q) (k T1 Lc v X1 hQ)
theorem own_callN (X : Stand p l e R s m args below meth c T locs cells slots) (hx : p.tables.exec = Jvm.exec) (hZ : Z.Warmed39 s.vm) {own : String} {index : Nat} {y : MethodName} {bytes : ByteArray} {mx : Nat} {rm : Room} (hy1 : y.name = "<init>") (hown : s.vm.findClass own = some m.cls) (w1 : (Jvm.Cond.methodLink own index y).before a0 Z = true) (w2 : (Jvm.Cond.instanceMethod y).before a0 Z = true) (w3 : (Jvm.Cond.code y bytes mx none).before a0 Z = true) (w4 : (Jvm.Cond.initialized y.cls).before a0 Z = true)
    (hy : y.cls ≠ "java/lang/invoke/MethodHandle" ∧ y.cls ≠ "java/lang/invoke/VarHandle") (eT : T.heap = h) {b : Addr} {argsL rest : List Value} (M : own_Met l y bytes mx none [] rm Z (.ref b :: argsL).toArray h Q) (W : Nat) (hf : rm.frames + 1 ≤ R.frames) (hl : W + (mx + 11) + rm.locals ≤ R.locals) {pc : Nat} {Ls : Array Slot} (hsize : Ls.size = c.maxLocals)
    (hlen : ∀ sig, parseMethodDescriptor y.desc = some sig → argsL.length = sig.parameters.length) (hW : (rest.map fun v => v.category).sum ≤ W) (hd : decode c.code pc = .ok (.invokespecial index, 3)) (hc : cells + rm.cells ≤ R.cells) (hs : slots + rm.slots ≤ R.slots) {st : List Value} (hst : st = argsL.reverse ++ .ref b :: rest)
    (k : ∀ (T' : State) (L : List Loc) (v : Option Value), Stand p l e R s m args below meth c T' (locs ++ L) (cells + rm.cells) (slots + rm.slots) → Q v T'.heap L → own_Go p e below K T' (mkF m (pc + 3) Ls (v.toList ++ rest))) : own_Go p e below K T (mkF m pc Ls st) := by
  obtain ⟨v, _, ⟨T1, L1, k1, n1⟩, -, X1, ⟨Lc, hQ, l1, y1, z1⟩, stp⟩ := X.specialBack hx hy1 hown (mvT hZ w1) (mvT hZ w2) (mvT hZ w3) hy (backOf (W := W) M hZ w3 w4 hf hl) (g := mkF m pc Ls st) rfl hsize (Steps.refl _) (a := b) (argsL := argsL) (rest := rest) hlen hst (by show 2 * 0 + _ ≤ _; omega) hd (fun _ _ => ⟨rfl, eT, hc, hs⟩)
  dsimp only [Pt.U, Pt.locs, Pt.cells, Pt.slots] at X1 l1 y1 z1 stp hQ
  subst l1 y1 z1
  exact own_by (fun t q => stp.trans q) (k T1 Lc v X1 hQ)
end Own
section OwnHeap
variable {p : Program} {l : Launch} {e : Env} {R : Room} {s : State} {m : MethodId} {args : Array Value} {below : List Frame} {meth : Method} {c : Code} {T T' : State} {locs : List Loc} {cells slots : Nat} {Z : State} {a0 : Array Value} {h h' h0 : Heap} {K : State → Outcome → Prop} {Q : Option Value → Heap → List Loc → Prop} {a b : Addr} {ty : FieldType} {k : ClassId} {vs : List Value} {ws : List Addr} {sl : Nat} {v w : Value} {C n d : String}
/-- the array at a, of the class k, holds just vs -/
def own_A (Z : State) (h : Heap) (a : Addr) (ty : FieldType) (k : ClassId) (vs : List Value) : Prop := ∃ c : Cell, Arr Z h a c ty ∧ c.cls = k ∧ c.slots.toList = vs
theorem own_A.ext (V : own_A Z h a ty k vs) (E : Ext h h') : own_A Z h' a ty k vs := by obtain ⟨c, A, r⟩ := V; exact ⟨c, A.ext E, r⟩
theorem own_A.keep (V : own_A Z h a ty k vs) (K : Keep h h' ws) (q : a ∉ ws) : own_A Z h' a ty k vs := by obtain ⟨c, A, r⟩ := V; exact ⟨c, ⟨K.2.1 a c A.1 q, A.2⟩, r⟩
theorem own_A.other (V : own_A Z h b ty k vs) (W : Wr h h' a sl v) (q : b ≠ a) : own_A Z h' b ty k vs := by obtain ⟨c, A, r⟩ := V; exact ⟨c, A.other W q, r⟩
theorem own_A.set (V : own_A Z h a ty k vs) (W : Wr h h' a sl v) : own_A Z h' a ty k (vs.set sl v) := by
  obtain ⟨c, A, r1, r2⟩ := V
  exact ⟨_, A.same W, r1, by rw [← r2]; simp [Cell.setSlot]⟩
theorem own_A.lt (V : own_A Z h a ty k vs) : a < h.size := by obtain ⟨c, A, -⟩ := V; exact A.lt
theorem own_ek (E : Ext h h') : Keep h h' [] := (Keep.refl h []).ext E
theorem own_stak (F : Sta Z h C n d v) (K : Keep h h' []) : Sta Z h' C n d v := by
  obtain ⟨cf, i, k, f, st, cell, h1, h2, h3, h4, h5, r⟩ := F
  exact ⟨cf, i, k, f, st, cell, h1, h2, h3, h4, K.2.1 _ _ h5 nin0, r⟩
theorem own_in {c : Cell} (q : c.slots.toList = vs) {j : Int32} (hj : ¬ j < 0) (hi : j.toNatClampNeg < vs.length) : ¬ (j < 0 ∨ c.slots.size ≤ j.toNatClampNeg) := by
  rintro (h | h)
  · exact hj h
  · rw [← q, Array.length_toList] at hi; omega
theorem own_get {c : Cell} (q : c.slots.toList = vs) (i : Nat) : c.slots[i]? = vs[i]? := by rw [← q, Array.getElem?_toList]
theorem own_newP (X : Stand p l e R s m args below meth c T locs cells slots) (hx : p.tables.exec = Jvm.exec) (hZ : Z.Warmed39 s.vm) {aty : ArrayType} (w : (Jvm.Cond.arrayClass (newarray.typeOf aty)).before a0 Z = true) (eT : T.heap = h) {pc : Nat} {Ls : Array Slot} {n : Int32} {rest : List Value} (hd : decode c.code pc = .ok (.newarray aty, 2)) (N cap : Nat) (hN : n.toNatClampNeg = N) (hn : ¬ n < 0) (hcap : N ≤ cap) (hb : cap * 8 ≤ 536870912) (hc : cells + 1 ≤ R.cells) (hl : slots + cap ≤ R.slots)
    (kk : ∀ (T' : State) (h' : Heap) (cA : ClassId), Stand p l e R s m args below meth c T' locs (cells + 1) (slots + cap) → T'.heap = h' → Ext h h' → own_A Z h' h.size (newarray.typeOf aty) cA (List.replicate N (defaultValue (newarray.typeOf aty))) → own_Go p e below K T' (mkF m (pc + 2) Ls (.ref h.size :: rest))) :
    own_Go p e below K T (mkF m pc Ls (.int n :: rest)) := by
  obtain ⟨T', h', cA, X', e', E, A, st⟩ := newP X hx hZ w eT (g := mkF m pc Ls (.int n :: rest)) rfl hd (n := n) (rest := rest) rfl hn (cap := cap) (by rw [hN]; exact hcap) hb hc hl
  exact own_by st (kk T' h' cA X' e' E ⟨_, A, rfl, by simp [newA, hN]⟩)
theorem own_newR (X : Stand p l e R s m args below meth c T locs cells slots) (hx : p.tables.exec = Jvm.exec) (hZ : Z.Warmed39 s.vm) {own C : String} {index : Nat} (hown : s.vm.findClass own = some m.cls) (w1 : (Jvm.Cond.classLink own index C).before a0 Z = true) (w2 : (Jvm.Cond.arrayOver (.object C)).before a0 Z = true) (eT : T.heap = h) {pc : Nat} {Ls : Array Slot} {n : Int32} {rest : List Value} (hd : decode c.code pc = .ok (.anewarray index, 3)) (N cap : Nat) (hN : n.toNatClampNeg = N) (hn : ¬ n < 0) (hcap : N ≤ cap) (hb : cap * 8 ≤ 536870912) (hc : cells + 1 ≤ R.cells) (hl : slots + cap ≤ R.slots)
    (kk : ∀ (T' : State) (h' : Heap) (cA : ClassId), Stand p l e R s m args below meth c T' locs (cells + 1) (slots + cap) → T'.heap = h' → Ext h h' → own_A Z h' h.size (.object C) cA (List.replicate N .null) → Ovr Z cA C → own_Go p e below K T' (mkF m (pc + 3) Ls (.ref h.size :: rest))) :
    own_Go p e below K T (mkF m pc Ls (.int n :: rest)) := by
  obtain ⟨T', h', cA, X', e', E, A, O, st⟩ := newR X hx hZ hown w1 w2 eT (g := mkF m pc Ls (.int n :: rest)) rfl hd (n := n) (rest := rest) rfl hn (cap := cap) (by rw [hN]; exact hcap) hb hc hl
  exact own_by st (kk T' h' cA X' e' E ⟨_, A, rfl, by simp [newA, hN, defaultValue]⟩ O)
theorem own_stI (X : Stand p l e R s m args below meth c T locs cells slots) (hx : p.tables.exec = Jvm.exec) (hZ : Z.Warmed39 s.vm) (eT : T.heap = h) (V : own_A Z h a .int k vs) {j x : Int32} (i : Nat) (hi : j.toNatClampNeg = i) (hj : ¬ j < 0) (hl : i < vs.length) {pc : Nat} {Ls : Array Slot} {rest : List Value} (hd : decode c.code pc = .ok (.iastore, 1))
    (kk : ∀ (T' : State) (h' : Heap), Stand p l e R s m args below meth c T' (locs ++ [⟨a, i⟩]) cells slots → T'.heap = h' → Wr h h' a i (.int x) → own_A Z h' a .int k (vs.set i (.int x)) → own_Go p e below K T' (mkF m (pc + 1) Ls rest)) :
    own_Go p e below K T (mkF m pc Ls (.int x :: .int j :: .ref a :: rest)) := by
  subst hi
  obtain ⟨cl, A, q1, q2⟩ := V
  obtain ⟨T', h', X', e', W, st⟩ := stI X hx hZ eT A (j := j) (x := x) (own_in q2 hj hl) (g := mkF m pc Ls (.int x :: .int j :: .ref a :: rest)) rfl rfl hd
  exact own_by st (kk T' h' X' e' W (own_A.set ⟨cl, A, q1, q2⟩ W))
theorem own_stC (X : Stand p l e R s m args below meth c T locs cells slots) (hx : p.tables.exec = Jvm.exec) (hZ : Z.Warmed39 s.vm) (eT : T.heap = h) (V : own_A Z h a .char k vs) {j x y : Int32} (i : Nat) (hi : j.toNatClampNeg = i) (hj : ¬ j < 0) (hl : i < vs.length) (hy : nar .char x = y) {pc : Nat} {Ls : Array Slot} {rest : List Value} (hd : decode c.code pc = .ok (.castore, 1))
    (kk : ∀ (T' : State) (h' : Heap), Stand p l e R s m args below meth c T' (locs ++ [⟨a, i⟩]) cells slots → T'.heap = h' → Wr h h' a i (.int y) → own_A Z h' a .char k (vs.set i (.int y)) → own_Go p e below K T' (mkF m (pc + 1) Ls rest)) :
    own_Go p e below K T (mkF m pc Ls (.int x :: .int j :: .ref a :: rest)) := by
  subst hi; subst hy
  obtain ⟨cl, A, q1, q2⟩ := V
  obtain ⟨T', h', X', e', W, st⟩ := stC X hx hZ eT A (j := j) (x := x) (own_in q2 hj hl) (g := mkF m pc Ls (.int x :: .int j :: .ref a :: rest)) rfl rfl hd
  exact own_by st (kk T' h' X' e' W (own_A.set ⟨cl, A, q1, q2⟩ W))
theorem own_stZ (X : Stand p l e R s m args below meth c T locs cells slots) (hx : p.tables.exec = Jvm.exec) (hZ : Z.Warmed39 s.vm) (eT : T.heap = h) (V : own_A Z h a .boolean k vs) {j x y : Int32} (i : Nat) (hi : j.toNatClampNeg = i) (hj : ¬ j < 0) (hl : i < vs.length) (hy : nar .boolean x = y) {pc : Nat} {Ls : Array Slot} {rest : List Value} (hd : decode c.code pc = .ok (.bastore, 1))
    (kk : ∀ (T' : State) (h' : Heap), Stand p l e R s m args below meth c T' (locs ++ [⟨a, i⟩]) cells slots → T'.heap = h' → Wr h h' a i (.int y) → own_A Z h' a .boolean k (vs.set i (.int y)) → own_Go p e below K T' (mkF m (pc + 1) Ls rest)) :
    own_Go p e below K T (mkF m pc Ls (.int x :: .int j :: .ref a :: rest)) := by
  subst hi; subst hy
  obtain ⟨cl, A, q1, q2⟩ := V
  obtain ⟨T', h', X', e', W, st⟩ := stZ X hx hZ eT A (j := j) (x := x) (own_in q2 hj hl) (g := mkF m pc Ls (.int x :: .int j :: .ref a :: rest)) rfl rfl hd
  exact own_by st (kk T' h' X' e' W (own_A.set ⟨cl, A, q1, q2⟩ W))
theorem own_stR (X : Stand p l e R s m args below meth c T locs cells slots) (hx : p.tables.exec = Jvm.exec) (hZ : Z.Warmed39 s.vm) (eT : T.heap = h) (V : own_A Z h a ty k vs) (hty : ty.isReference = true) {j : Int32} {v : Value} (i : Nat) (hi : j.toNatClampNeg = i) (hj : ¬ j < 0) (hl : i < vs.length) (F : Sto Z h a v) {pc : Nat} {Ls : Array Slot} {rest : List Value} (hd : decode c.code pc = .ok (.aastore, 1))
    (kk : ∀ (T' : State) (h' : Heap), Stand p l e R s m args below meth c T' (locs ++ [⟨a, i⟩]) cells slots → T'.heap = h' → Wr h h' a i v → own_A Z h' a ty k (vs.set i v) → own_Go p e below K T' (mkF m (pc + 1) Ls rest)) :
    own_Go p e below K T (mkF m pc Ls (v :: .int j :: .ref a :: rest)) := by
  subst hi
  obtain ⟨cl, A, q1, q2⟩ := V
  obtain ⟨T', h', X', e', W, st⟩ := stR X hx hZ eT A (j := j) (v := v) (own_in q2 hj hl) hty F (g := mkF m pc Ls (v :: .int j :: .ref a :: rest)) rfl rfl hd
  exact own_by st (kk T' h' X' e' W (own_A.set ⟨cl, A, q1, q2⟩ W))
theorem own_sto {y : Addr} {C : String} (V : own_A Z h a ty k vs) (O : Ovr Z k C) (E : Exa Z h y C) : Sto Z h a (.ref y) := by
  obtain ⟨cl, A, q1, -⟩ := V
  exact Sto.ofV A q1 O (Ins.self E)
theorem own_ldI (X : Stand p l e R s m args below meth c T locs cells slots) (hx : p.tables.exec = Jvm.exec) (hZ : Z.Warmed39 s.vm) (eT : T.heap = h) (V : own_A Z h a .int k vs) {j : Int32} {v : Value} (i : Nat) (hi : j.toNatClampNeg = i) (hj : ¬ j < 0) (hv : vs[i]? = some v) {pc : Nat} {Ls : Array Slot} {rest : List Value} (hd : decode c.code pc = .ok (.iaload, 1))
    (kk : own_Go p e below K T (mkF m (pc + 1) Ls (v :: rest))) : own_Go p e below K T (mkF m pc Ls (.int j :: .ref a :: rest)) := by
  subst hi
  obtain ⟨cl, A, q1, q2⟩ := V
  exact own_by (fun t q => X.iaload hx (j := j) (v := v) (by rw [eT]; exact A.1) (State.isArrayOf_alike hZ.alike A.2.1) A.2.2 (own_in q2 hj (List.getElem?_eq_some_iff.mp hv).1) (by rw [own_get q2]; exact hv) (g := mkF m pc Ls (.int j :: .ref a :: rest)) rfl rfl hd t q) kk
theorem own_ldC (X : Stand p l e R s m args below meth c T locs cells slots) (hx : p.tables.exec = Jvm.exec) (hZ : Z.Warmed39 s.vm) (eT : T.heap = h) (V : own_A Z h a .char k vs) {j : Int32} {v : Value} (i : Nat) (hi : j.toNatClampNeg = i) (hj : ¬ j < 0) (hv : vs[i]? = some v) {pc : Nat} {Ls : Array Slot} {rest : List Value} (hd : decode c.code pc = .ok (.caload, 1))
    (kk : own_Go p e below K T (mkF m (pc + 1) Ls (v :: rest))) : own_Go p e below K T (mkF m pc Ls (.int j :: .ref a :: rest)) := by
  subst hi
  obtain ⟨cl, A, q1, q2⟩ := V
  exact own_by (fun t q => X.caload hx (j := j) (v := v) (by rw [eT]; exact A.1) (State.isArrayOf_alike hZ.alike A.2.1) A.2.2 (own_in q2 hj (List.getElem?_eq_some_iff.mp hv).1) (by rw [own_get q2]; exact hv) (g := mkF m pc Ls (.int j :: .ref a :: rest)) rfl rfl hd t q) kk
theorem own_ldR (X : Stand p l e R s m args below meth c T locs cells slots) (hx : p.tables.exec = Jvm.exec) (hZ : Z.Warmed39 s.vm) (eT : T.heap = h) (V : own_A Z h a ty k vs) (hty : ty.isReference = true) {j : Int32} {v : Value} (i : Nat) (hi : j.toNatClampNeg = i) (hj : ¬ j < 0) (hv : vs[i]? = some v) {pc : Nat} {Ls : Array Slot} {rest : List Value} (hd : decode c.code pc = .ok (.aaload, 1))
    (kk : own_Go p e below K T (mkF m (pc + 1) Ls (v :: rest))) : own_Go p e below K T (mkF m pc Ls (.int j :: .ref a :: rest)) := by
  subst hi
  obtain ⟨cl, A, q1, q2⟩ := V
  exact own_by (fun t q => X.aaload hx (j := j) (v := v) (by rw [eT]; exact A.1) (State.isArrayOf_alike hZ.alike A.2.1) hty A.2.2 (own_in q2 hj (List.getElem?_eq_some_iff.mp hv).1) (by rw [own_get q2]; exact hv) (g := mkF m pc Ls (.int j :: .ref a :: rest)) rfl rfl hd t q) kk
theorem own_len (X : Stand p l e R s m args below meth c T locs cells slots) (hx : p.tables.exec = Jvm.exec) (hZ : Z.Warmed39 s.vm) (eT : T.heap = h) (V : own_A Z h a ty k vs) (n : Int32) (hn : vs.length.toInt32 = n) {pc : Nat} {Ls : Array Slot} {rest : List Value} (hd : decode c.code pc = .ok (.arraylength, 1))
    (kk : own_Go p e below K T (mkF m (pc + 1) Ls (.int n :: rest))) : own_Go p e below K T (mkF m pc Ls (.ref a :: rest)) := by
  subst hn
  obtain ⟨cl, A, q1, rfl⟩ := V
  refine own_by (fun t q => X.arraylength hx (cell := cl) (by rw [eT]; exact A.1) (State.isArrayOf_alike hZ.alike A.2.1) (g := mkF m pc Ls (.ref a :: rest)) rfl (rest := rest) rfl hd t q) ?_
  rw [Array.length_toList] at kk
  exact kk
theorem own_new (X : Stand p l e R s m args below meth c T locs cells slots) (hx : p.tables.exec = Jvm.exec) (hZ : Z.Warmed39 s.vm) {own C : String} {index n : Nat} (hown : s.vm.findClass own = some m.cls) (w1 : (Jvm.Cond.classLink own index C).before a0 Z = true) (w2 : (Jvm.Cond.instantiable C n).before a0 Z = true) (w3 : (Jvm.Cond.initialized C).before a0 Z = true) (eT : T.heap = h) {pc : Nat} {Ls : Array Slot} {st : List Value} (hd : decode c.code pc = .ok (.new index, 3)) (hc : cells + 1 ≤ R.cells) (hl : slots + n ≤ R.slots)
    (kk : ∀ (T' : State) (h' : Heap), Stand p l e R s m args below meth c T' locs (cells + 1) (slots + n) → T'.heap = h' → Ext h h' → Exa Z h' h.size C → (∀ {O nm d : String} {ty : FieldType}, Laid Z a0 C O nm d → parseFieldDescriptor d = some ty → Fld Z h' h.size O nm d (defaultValue ty)) → own_Go p e below K T' (mkF m (pc + 3) Ls (.ref h.size :: st))) :
    own_Go p e below K T (mkF m pc Ls st) := by
  obtain ⟨T', h', X', e', E, A, D, -, stp⟩ := newO X hx hZ hown w1 w2 w3 eT (g := mkF m pc Ls st) rfl hd hc hl
  exact own_by stp (kk T' h' X' e' E A D)
theorem own_getF (X : Stand p l e R s m args below meth c T locs cells slots) (hx : p.tables.exec = Jvm.exec) (hZ : Z.Warmed39 s.vm) {own O n d : String} {index : Nat} (hown : s.vm.findClass own = some m.cls) (w : (Jvm.Cond.fieldLink own index O n d).before a0 Z = true) (eT : T.heap = h) (F : Fld Z h a O n d v) {pc : Nat} {Ls : Array Slot} {rest : List Value} (hd : decode c.code pc = .ok (.getfield index, 3))
    (kk : ∀ T' : State, Stand p l e R s m args below meth c T' locs cells slots → T'.heap = h → own_Go p e below K T' (mkF m (pc + 3) Ls (v :: rest))) : own_Go p e below K T (mkF m pc Ls (.ref a :: rest)) := by
  obtain ⟨T', X', e', st⟩ := getF X hx hZ hown (host := "") (Or.inl w) Via.refl eT F (g := mkF m pc Ls (.ref a :: rest)) rfl rfl hd
  exact own_by st (kk T' X' e')
theorem own_putF (X : Stand p l e R s m args below meth c T locs cells slots) (hx : p.tables.exec = Jvm.exec) (hZ : Z.Warmed39 s.vm) {own O n d C : String} {index kn : Nat} {ty : FieldType} (hown : s.vm.findClass own = some m.cls) (w : (Jvm.Cond.fieldLink own index O n d).before a0 Z = true) (eT : T.heap = h) {old : Value} (F : Fld Z h a O n d old) (E : Exa Z h a C) (L : (Jvm.Cond.lays C O n d).before a0 Z = true ∨ ((Jvm.Cond.laysFinal C O n d).before a0 Z = true ∧ own = O ∧ meth.name = "<init>")) (wi : (Jvm.Cond.instantiable C kn).before a0 Z = true) (hty : parseFieldDescriptor d = some ty) (hn : narrow ty v = v) (hf : fits ty v = true) {pc : Nat} {Ls : Array Slot} {rest : List Value} (hd : decode c.code pc = .ok (.putfield index, 3))
    (kk : ∀ (T' : State) (h' : Heap), Stand p l e R s m args below meth c T' (locs ++ [⟨a, Jvm.RoadKit.slotOf Z O n d⟩]) cells slots → T'.heap = h' → Wr h h' a (Jvm.RoadKit.slotOf Z O n d) v → own_Go p e below K T' (mkF m (pc + 3) Ls rest)) : own_Go p e below K T (mkF m pc Ls (v :: .ref a :: rest)) := by
  obtain ⟨T', h', X', e', W, st⟩ := putF X hx hZ hown (host := "") (Or.inl w) Via.refl eT F E L wi hty hn hf (g := mkF m pc Ls (v :: .ref a :: rest)) rfl rfl hd
  exact own_by st (kk T' h' X' e' W)
end OwnHeap
section OwnHeapF
variable {p : Program} {l : Launch} {e : Env} {R : Room} {s : State} {m : MethodId} {args : Array Value} {below : List Frame} {meth : Method} {c : Code} {T T' : State} {locs : List Loc} {cells slots : Nat} {Z : State} {a0 : Array Value} {h h' h0 : Heap} {K : State → Outcome → Prop} {a b : Addr} {k : ClassId} {vs : List Value}
theorem own_stD (X : Stand p l e R s m args below meth c T locs cells slots) (hx : p.tables.exec = Jvm.exec) (hZ : Z.Warmed39 s.vm) (eT : T.heap = h) (V : own_A Z h a .double k vs) {j : Int32} {x : UInt64} (i : Nat) (hi : j.toNatClampNeg = i) (hj : ¬ j < 0) (hl : i < vs.length) {pc : Nat} {Ls : Array Slot} {rest : List Value} (hd : decode c.code pc = .ok (.dastore, 1))
    (kk : ∀ (T' : State) (h' : Heap), Stand p l e R s m args below meth c T' (locs ++ [⟨a, i⟩]) cells slots → T'.heap = h' → Wr h h' a i (.double x) → own_A Z h' a .double k (vs.set i (.double x)) → own_Go p e below K T' (mkF m (pc + 1) Ls rest)) :
    own_Go p e below K T (mkF m pc Ls (.double x :: .int j :: .ref a :: rest)) := by
  subst hi
  obtain ⟨cl, A, q1, q2⟩ := V
  obtain ⟨T', h', X', e', W, st⟩ := stD X hx hZ eT A (j := j) (x := x) (own_in q2 hj hl) (g := mkF m pc Ls (.double x :: .int j :: .ref a :: rest)) rfl rfl hd
  exact own_by st (kk T' h' X' e' W (own_A.set ⟨cl, A, q1, q2⟩ W))
theorem own_stF (X : Stand p l e R s m args below meth c T locs cells slots) (hx : p.tables.exec = Jvm.exec) (hZ : Z.Warmed39 s.vm) (eT : T.heap = h) (V : own_A Z h a .float k vs) {j : Int32} {x : UInt32} (i : Nat) (hi : j.toNatClampNeg = i) (hj : ¬ j < 0) (hl : i < vs.length) {pc : Nat} {Ls : Array Slot} {rest : List Value} (hd : decode c.code pc = .ok (.fastore, 1))
    (kk : ∀ (T' : State) (h' : Heap), Stand p l e R s m args below meth c T' (locs ++ [⟨a, i⟩]) cells slots → T'.heap = h' → Wr h h' a i (.float x) → own_A Z h' a .float k (vs.set i (.float x)) → own_Go p e below K T' (mkF m (pc + 1) Ls rest)) :
    own_Go p e below K T (mkF m pc Ls (.float x :: .int j :: .ref a :: rest)) := by
  subst hi
  obtain ⟨cl, A, q1, q2⟩ := V
  obtain ⟨T', h', X', e', W, st⟩ := stF X hx hZ eT A (j := j) (x := x) (own_in q2 hj hl) (g := mkF m pc Ls (.float x :: .int j :: .ref a :: rest)) rfl rfl hd
  exact own_by st (kk T' h' X' e' W (own_A.set ⟨cl, A, q1, q2⟩ W))
theorem own_ldD (X : Stand p l e R s m args below meth c T locs cells slots) (hx : p.tables.exec = Jvm.exec) (hZ : Z.Warmed39 s.vm) (eT : T.heap = h) (V : own_A Z h a .double k vs) {j : Int32} {v : Value} (i : Nat) (hi : j.toNatClampNeg = i) (hj : ¬ j < 0) (hv : vs[i]? = some v) {pc : Nat} {Ls : Array Slot} {rest : List Value} (hd : decode c.code pc = .ok (.daload, 1))
    (kk : own_Go p e below K T (mkF m (pc + 1) Ls (v :: rest))) : own_Go p e below K T (mkF m pc Ls (.int j :: .ref a :: rest)) := by
  subst hi
  obtain ⟨cl, A, q1, q2⟩ := V
  exact own_by (fun t q => X.daload hx (j := j) (v := v) (by rw [eT]; exact A.1) (State.isArrayOf_alike hZ.alike A.2.1) A.2.2 (own_in q2 hj (List.getElem?_eq_some_iff.mp hv).1) (by rw [own_get q2]; exact hv) (g := mkF m pc Ls (.int j :: .ref a :: rest)) rfl rfl hd t q) kk
theorem own_ldF (X : Stand p l e R s m args below meth c T locs cells slots) (hx : p.tables.exec = Jvm.exec) (hZ : Z.Warmed39 s.vm) (eT : T.heap = h) (V : own_A Z h a .float k vs) {j : Int32} {v : Value} (i : Nat) (hi : j.toNatClampNeg = i) (hj : ¬ j < 0) (hv : vs[i]? = some v) {pc : Nat} {Ls : Array Slot} {rest : List Value} (hd : decode c.code pc = .ok (.faload, 1))
    (kk : own_Go p e below K T (mkF m (pc + 1) Ls (v :: rest))) : own_Go p e below K T (mkF m pc Ls (.int j :: .ref a :: rest)) := by
  subst hi
  obtain ⟨cl, A, q1, q2⟩ := V
  exact own_by (fun t q => X.faload hx (j := j) (v := v) (by rw [eT]; exact A.1) (State.isArrayOf_alike hZ.alike A.2.1) A.2.2 (own_in q2 hj (List.getElem?_eq_some_iff.mp hv).1) (by rw [own_get q2]; exact hv) (g := mkF m pc Ls (.int j :: .ref a :: rest)) rfl rfl hd t q) kk
theorem own_retD {Q : Option Value → Heap → List Loc → Prop} (X : Stand p l e R s m args below meth c T locs cells slots) (hx : p.tables.exec = Jvm.exec) (hlk : meth.locks = false) (hret : meth.sig.returnType = some .double) {pc : Nat} {Ls : Array Slot} {z : UInt64} {rest : List Value} {k n : Nat} (hd : decode c.code pc = .ok (.dreturn, 1)) (hk : cells ≤ k) (hn : slots ≤ n) (hQ : Q (some (.double z)) T.heap locs) :
    own_Go p e below (own_K s k n Q) T (mkF m pc Ls (.double z :: rest)) :=
  own_leave X hlk (v := some (.double z)) (fun h => by rw [hret] at h; cases h) (fun fs hl => retOut X hx hret rfl (Or.inr (Or.inr (Or.inl ⟨rfl, rfl, z, rfl⟩))) hd hl) hk hn hQ
theorem own_retF {Q : Option Value → Heap → List Loc → Prop} (X : Stand p l e R s m args below meth c T locs cells slots) (hx : p.tables.exec = Jvm.exec) (hlk : meth.locks = false) (hret : meth.sig.returnType = some .float) {pc : Nat} {Ls : Array Slot} {z : UInt32} {rest : List Value} {k n : Nat} (hd : decode c.code pc = .ok (.freturn, 1)) (hk : cells ≤ k) (hn : slots ≤ n) (hQ : Q (some (.float z)) T.heap locs) :
    own_Go p e below (own_K s k n Q) T (mkF m pc Ls (.float z :: rest)) :=
  own_leave X hlk (v := some (.float z)) (fun h => by rw [hret] at h; cases h) (fun fs hl => retOut X hx hret rfl (Or.inr (Or.inr (Or.inr (Or.inl ⟨rfl, rfl, z, rfl⟩)))) hd hl) hk hn hQ
end OwnHeapF
section OwnScaled
open Jvm.FP.Core
/-- the exponent moved by k -/
def own_sh (k : Int) : Datum → Datum
  | .fin s c q => .fin s c (q + k)
  | .nan => .nan
  | .inf s => .inf s
/-- d is i / 2^k -/
def own_Sc (k : Int) (i : Int) (d : Datum) : Prop := Whole i (own_sh k d)
theorem own_sc_fin {k i : Int} {d : Datum} (h : own_Sc k i d) : ∃ s c q, d = .fin s c q := by
  cases d with
  | nan => exact h.elim
  | inf => exact h.elim
  | fin s c q => exact ⟨s, c, q, rfl⟩
theorem own_sc0 {i : Int} {d : Datum} (h : Whole i d) : own_Sc 0 i d := by
  cases d with
  | nan => exact h.elim
  | inf => exact h.elim
  | fin s c q => show Whole i (.fin s c (q + 0)); rw [Int.add_zero]; exact h
theorem own_sc_sum {k i j : Int} {x y : Datum} (hx : own_Sc k i x) (hy : own_Sc k j y) : own_Sc k (i + j) (exactSum x y) := by
  obtain ⟨s, c, q, rfl⟩ := own_sc_fin hx
  obtain ⟨t, d, r, rfl⟩ := own_sc_fin hy
  have h := whole_sum (x := .fin s c (q + k)) (y := .fin t d (r + k)) hx hy
  have e : exactSum (.fin s c (q + k)) (.fin t d (r + k)) = own_sh k (exactSum (.fin s c q) (.fin t d r)) := by
    have e1 : min (q + k) (r + k) = min q r + k := by omega
    simp only [exactSum, own_sh, sumUnits, inUnits, e1, show ∀ a : Int, a + k - (min q r + k) = a - min q r from fun a => by omega]
  rw [e] at h
  exact h
theorem own_sc_product {k l i j : Int} {x y : Datum} (hx : own_Sc k i x) (hy : own_Sc l j y) : own_Sc (k + l) (i * j) (exactProduct x y) := by
  obtain ⟨s, c, q, rfl⟩ := own_sc_fin hx
  obtain ⟨t, d, r, rfl⟩ := own_sc_fin hy
  have h := whole_product (x := .fin s c (q + k)) (y := .fin t d (r + l)) hx hy
  have e : exactProduct (.fin s c (q + k)) (.fin t d (r + l)) = own_sh (k + l) (exactProduct (.fin s c q) (.fin t d r)) := by
    simp only [exactProduct, own_sh]
    rw [show q + k + (r + l) = q + r + (k + l) by omega]
  rw [e] at h
  exact h
theorem own_sc_negate {k i : Int} {x : Datum} (hx : own_Sc k i x) : own_Sc k (-i) (negate x) := by
  obtain ⟨s, c, q, rfl⟩ := own_sc_fin hx
  exact whole_negate (x := .fin s c (q + k)) hx
theorem own_sc_order {k i j : Int} {x y : Datum} (hx : own_Sc k i x) (hy : own_Sc k j y) : order x y = some (compare i j) := by
  obtain ⟨s, c, q, rfl⟩ := own_sc_fin hx
  obtain ⟨t, d, r, rfl⟩ := own_sc_fin hy
  have h := order_whole (x := .fin s c (q + k)) (y := .fin t d (r + k)) hx hy
  have e1 : min (q + k) (r + k) = min q r + k := by omega
  have e : order (.fin s c (q + k)) (.fin t d (r + k)) = order (.fin s c q) (.fin t d r) := by
    simp only [order, inUnits, e1, show ∀ a : Int, a + k - (min q r + k) = a - min q r from fun a => by omega]
  rw [← e]; exact h
/-- what is n / 2^k in one writing is so in another -/
theorem own_sc_of_units {f : Fmt} {s : Bool} {c' n : Nat} {q' k i : Int} (h1 : f.qmin ≤ q') (h2 : f.qmin ≤ -k) (hu : inUnits c' q' f.qmin = inUnits n (-k) f.qmin) (hs : signed s n = i) : own_Sc k i (.fin s c' q') := by
  show signed s (c' * 2 ^ (q' + k).toNat) = i * ((2 ^ (-(q' + k)).toNat : Nat) : Int)
  have e : c' * 2 ^ (q' + k).toNat = n * 2 ^ (-(q' + k)).toNat := by
    unfold inUnits at hu
    by_cases h : 0 ≤ q' + k
    · rw [show (q' - f.qmin).toNat = (q' + k).toNat + (-k - f.qmin).toNat by omega, Nat.pow_add, ← Nat.mul_assoc] at hu
      rw [show (-(q' + k)).toNat = 0 by omega, Nat.pow_zero, Nat.mul_one]
      exact Nat.eq_of_mul_eq_mul_right (Nat.two_pow_pos _) hu
    · rw [show (-k - f.qmin).toNat = (-(q' + k)).toNat + (q' - f.qmin).toNat by omega, Nat.pow_add, ← Nat.mul_assoc] at hu
      rw [show (q' + k).toNat = 0 by omega, Nat.pow_zero, Nat.mul_one]
      exact Nat.eq_of_mul_eq_mul_right (Nat.two_pow_pos _) hu
  rw [e, signed_mul, hs]
theorem own_signed_abs {s : Bool} {i : Int} (h : i ≠ 0 → s = decide (i < 0)) : signed s i.natAbs = i := by
  by_cases hi : i = 0
  · rw [hi]; exact signed_zero s
  · rw [h hi]; unfold signed
    by_cases h : i < 0 <;> simp [h] <;> omega
theorem own_sc_ratio {f : Fmt} (hf : Good f) {s : Bool} {i k : Int} (hi : i.natAbs ≤ 2 ^ f.p) (h1 : f.qmin ≤ -k) (h2 : -k + f.p ≤ f.qmax) (hs : i ≠ 0 → s = decide (i < 0)) : own_Sc k i (roundRatio f s i.natAbs 1 (-k)) := by
  have hp : 2 ≤ f.p := hf.2
  rcases Nat.lt_or_ge i.natAbs (2 ^ f.p) with hlt | hge
  · obtain ⟨c', q', e, hu⟩ := round_exact hf s hlt h1 (by omega)
    have hfit : FP.Core.fits f (.fin s c' q') := by rw [← e]; exact round_fits hf _
    have e' : roundRatio f s i.natAbs 1 (-k) = .fin s c' q' := e
    rw [e']
    exact own_sc_of_units hfit.2.1 h1 hu (own_signed_abs hs)
  · have he : i.natAbs = 2 ^ f.p := by omega
    have h3 : (1 : Nat) < 2 ^ f.p := Nat.one_lt_two_pow (by omega)
    obtain ⟨c', q', e, hu⟩ := round_exact hf s h3 (q := -k + f.p) (by omega) h2
    have hfit : FP.Core.fits f (.fin s c' q') := by rw [← e]; exact round_fits hf _
    have e' : roundRatio f s i.natAbs 1 (-k) = .fin s c' q' := by
      rw [← e]
      refine roundRatio_congr (by decide) (by decide) ?_
      rw [he, show (-k - (-k + (f.p : Int))).toNat = 0 by omega, show (-k + (f.p : Int) - -k).toNat = f.p by omega]
      simp
    rw [e']
    refine own_sc_of_units hfit.2.1 h1 (hu.trans ?_) (own_signed_abs hs)
    unfold inUnits
    rw [he, show (-k + (f.p : Int) - f.qmin).toNat = f.p + (-k - f.qmin).toNat by omega, Nat.pow_add]
    simp
/-- small enough numbers over 2^k are kept by rounding -/
theorem own_sc_round {f : Fmt} (hf : Good f) {k i : Int} {d : Datum} (h : own_Sc k i d) (hi : i.natAbs ≤ 2 ^ f.p) (h1 : f.qmin ≤ -k) (h2 : -k + f.p ≤ f.qmax) : own_Sc k i (round f d) := by
  obtain ⟨s, c, q, rfl⟩ := own_sc_fin h
  have hn : c * 2 ^ (q + k).toNat = i.natAbs * 2 ^ (-(q + k)).toNat := whole_natAbs h
  have e : round f (.fin s c q) = roundRatio f s i.natAbs 1 (-k) := by
    refine roundRatio_congr (by decide) (by decide) ?_
    rw [show (q - -k).toNat = (q + k).toNat by omega, show (-k - q).toNat = (-(q + k)).toNat by omega]
    simpa using hn
  rw [e]
  exact own_sc_ratio hf hi h1 h2 (fun hz => whole_sign h hz)
/-- a quotient that is j / 2^(k - l) -/
theorem own_sc_quot {f : Fmt} (hf : Good f) {k l i j : Int} {x y : Datum} (hx : own_Sc k (j * i) x) (hy : own_Sc l i y) (hi0 : i ≠ 0) (hj : j.natAbs ≤ 2 ^ f.p) (h1 : f.qmin ≤ -(k - l)) (h2 : -(k - l) + f.p ≤ f.qmax) : own_Sc (k - l) j (quotient f x y) := by
  obtain ⟨s, c, q, rfl⟩ := own_sc_fin hx
  obtain ⟨t, d, r, rfl⟩ := own_sc_fin hy
  have hn : c * 2 ^ (q + k).toNat = (j * i).natAbs * 2 ^ (-(q + k)).toNat := whole_natAbs hx
  have hm : d * 2 ^ (r + l).toNat = i.natAbs * 2 ^ (-(r + l)).toNat := whole_natAbs hy
  have hd : d ≠ 0 := fun q => hi0 ((whole_zero hy).mp q)
  have hs : j ≠ 0 → (s != t) = decide (j < 0) := fun hj0 => by
    rw [whole_sign hx (Int.mul_ne_zero hj0 hi0), whole_sign hy hi0]
    by_cases a : j < 0 <;> by_cases b : i < 0
    · have : 0 < j * i := Int.mul_pos_of_neg_of_neg a b
      simp [a, b, show ¬ j * i < 0 by omega]
    · have : j * i < 0 := Int.mul_neg_of_neg_of_pos a (by omega)
      simp [a, b, this]
    · have : j * i < 0 := Int.mul_neg_of_pos_of_neg (by omega) b
      simp [a, b, this]
    · have : 0 < j * i := Int.mul_pos (by omega) (by omega)
      simp [a, b, show ¬ j * i < 0 by omega]
  have e : quotient f (.fin s c q) (.fin t d r) = roundRatio f (s != t) j.natAbs 1 (-(k - l)) := by
    show (if d = 0 then _ else _) = _
    rw [if_neg hd]
    refine roundRatio_congr (by omega) (by decide) ?_
    rw [Int.natAbs_mul] at hn
    have hip : 0 < i.natAbs := by omega
    -- c 2^(q+k) = |j||i|, d 2^(r+l) = |i|
    have p0 : 0 < i.natAbs * 2 ^ ((-(q + k)).toNat + (-(r + l)).toNat + (q + k).toNat + (r + l).toNat) := Nat.mul_pos hip (Nat.two_pow_pos _)
    refine Nat.eq_of_mul_eq_mul_right p0 ?_
    have a1 : (q - r - -(k - l)).toNat + ((-(q + k)).toNat + (r + l).toNat) = (-(k - l) - (q - r)).toNat + ((q + k).toNat + (-(r + l)).toNat) := by omega
    generalize (q - r - -(k - l)).toNat = u1 at *
    generalize (-(k - l) - (q - r)).toNat = u2 at *
    generalize (q + k).toNat = a at *
    generalize (-(q + k)).toNat = b at *
    generalize (r + l).toNat = cc at *
    generalize (-(r + l)).toNat = dd at *
    generalize i.natAbs = I at *
    generalize j.natAbs = J at *
    have hh : 2 ^ (u1 + (b + cc)) = 2 ^ (u2 + (a + dd)) := by rw [a1]
    simp only [Nat.pow_add] at hh ⊢
    -- both sides by hn, hm
    calc c * 1 * 2 ^ u1 * (I * (2 ^ b * 2 ^ dd * 2 ^ a * 2 ^ cc)) = (c * 2 ^ a) * (I * 2 ^ dd) * (2 ^ u1 * (2 ^ b * 2 ^ cc)) := by simp only [Nat.mul_one]; ac_rfl
      _ = (J * I * 2 ^ b) * (d * 2 ^ cc) * (2 ^ u1 * (2 ^ b * 2 ^ cc)) := by rw [hn, hm]
      _ = (J * I * 2 ^ b) * (d * 2 ^ cc) * (2 ^ u2 * (2 ^ a * 2 ^ dd)) := by rw [hh]
      _ = J * d * 2 ^ u2 * (I * (2 ^ b * 2 ^ dd * 2 ^ a * 2 ^ cc)) := by ac_rfl
  rw [e]
  exact own_sc_ratio hf hj h1 h2 hs
theorem own_q64 {k : Int} (h : k ≤ 900) : k + (b64.p : Int) ≤ b64.qmax := by
  have h1 : b64.qmax = 971 := by decide
  have h2 : (b64.p : Int) = 53 := rfl
  rw [h1, h2]; omega
theorem own_q32 {k : Int} (h : k ≤ 60) : k + (b32.p : Int) ≤ b32.qmax := by
  have h1 : b32.qmax = 104 := by decide
  have h2 : (b32.p : Int) = 24 := rfl
  rw [h1, h2]; omega
/-! ### doubles and floats -/
def own_D (k i : Int) (a : UInt64) : Prop := own_Sc k i (val64 a)
def own_F (k i : Int) (a : UInt32) : Prop := own_Sc k i (val32 a)
theorem own_D_no {k i : Int} {a : UInt64} (h : own_D k i a) : Jvm.Free.Fl.NoNaN64 a := Jvm.Free.Fl.val64_no.mpr fun q => by unfold own_D at h; rw [q] at h; exact h
theorem own_F_no {k i : Int} {a : UInt32} (h : own_F k i a) : Jvm.Free.Fl.NoNaN32 a := Jvm.Free.Fl.val32_no.mpr fun q => by unfold own_F at h; rw [q] at h; exact h
theorem own_v_f2d {k i : Int} {a : UInt32} (ha : own_F k i a) : val64 (FP.f2d a) = round b64 (val32 a) := by
  rw [FP.f2d_core (Jvm.Free.Fl.noNaN32_no.mp (own_F_no ha))]; exact val64_f2d a
theorem own_v_d2f {k i : Int} {a : UInt64} (ha : own_D k i a) : val32 (FP.d2f a) = round b32 (val64 a) := by
  rw [FP.d2f_core (Jvm.Free.Fl.noNaN64_no.mp (own_D_no ha))]; exact val32_d2f a
theorem own_D_i2d (a : Int32) : own_D 0 a.toInt (FP.i2d a) := own_sc0 (i2d_int a)
theorem own_D_l2d {a : Int64} (h : a.toInt.natAbs ≤ 2 ^ 53) : own_D 0 a.toInt (FP.l2d a) := own_sc0 (l2d_int h)
theorem own_F_i2f {a : Int32} (h : a.toInt.natAbs ≤ 2 ^ 24) : own_F 0 a.toInt (FP.i2f a) := own_sc0 (i2f_int h)
theorem own_D_add {k i j : Int} {a b : UInt64} (ha : own_D k i a) (hb : own_D k j b) (h : (i + j).natAbs ≤ 2 ^ 53) (h1 : -900 ≤ -k) (h2 : -k ≤ 900) : own_D k (i + j) (FP.dadd a b) := by
  unfold own_D
  rw [show val64 (FP.dadd a b) = round b64 (exactSum (val64 a) (val64 b)) from val64_dadd a b]
  exact own_sc_round good_b64 (own_sc_sum ha hb) h (by rw [qmin_b64]; omega) (own_q64 (by omega))
theorem own_D_sub {k i j : Int} {a b : UInt64} (ha : own_D k i a) (hb : own_D k j b) (h : (i + -j).natAbs ≤ 2 ^ 53) (h1 : -900 ≤ -k) (h2 : -k ≤ 900) : own_D k (i + -j) (FP.dsub a b) := by
  unfold own_D
  rw [show val64 (FP.dsub a b) = round b64 (exactSum (val64 a) (negate (val64 b))) from val64_dsub a b]
  exact own_sc_round good_b64 (own_sc_sum ha (own_sc_negate hb)) h (by rw [qmin_b64]; omega) (own_q64 (by omega))
theorem own_D_mul {k l i j : Int} {a b : UInt64} (ha : own_D k i a) (hb : own_D l j b) (h : (i * j).natAbs ≤ 2 ^ 53) (h1 : -900 ≤ -(k + l)) (h2 : -(k + l) ≤ 900) : own_D (k + l) (i * j) (FP.dmul a b) := by
  unfold own_D
  rw [show val64 (FP.dmul a b) = round b64 (exactProduct (val64 a) (val64 b)) from val64_dmul a b]
  exact own_sc_round good_b64 (own_sc_product ha hb) h (by rw [qmin_b64]; omega) (own_q64 (by omega))
theorem own_D_div {k l i j : Int} {a b : UInt64} (ha : own_D k (j * i) a) (hb : own_D l i b) (hi : i ≠ 0) (h : j.natAbs ≤ 2 ^ 53) (h1 : -900 ≤ -(k - l)) (h2 : -(k - l) ≤ 900) : own_D (k - l) j (FP.ddiv a b) := by
  unfold own_D
  rw [show val64 (FP.ddiv a b) = quotient b64 (val64 a) (val64 b) from val64_ddiv a b]
  exact own_sc_quot good_b64 ha hb hi h (by rw [qmin_b64]; omega) (own_q64 (by omega))
theorem own_D_cmp {k i j : Int} {a b : UInt64} (ha : own_D k i a) (hb : own_D k j b) : FP.dcmp a b = some (compare i j) := own_sc_order ha hb
theorem own_F_mul {k l i j : Int} {a b : UInt32} (ha : own_F k i a) (hb : own_F l j b) (h : (i * j).natAbs ≤ 2 ^ 24) (h1 : -100 ≤ -(k + l)) (h2 : -(k + l) ≤ 60) : own_F (k + l) (i * j) (FP.fmul a b) := by
  unfold own_F
  rw [show val32 (FP.fmul a b) = round b32 (exactProduct (val32 a) (val32 b)) from val32_fmul a b]
  exact own_sc_round good_b32 (own_sc_product ha hb) h (by rw [qmin_b32]; omega) (own_q32 (by omega))
theorem own_F_div {k l i j : Int} {a b : UInt32} (ha : own_F k (j * i) a) (hb : own_F l i b) (hi : i ≠ 0) (h : j.natAbs ≤ 2 ^ 24) (h1 : -100 ≤ -(k - l)) (h2 : -(k - l) ≤ 60) : own_F (k - l) j (FP.fdiv a b) := by
  unfold own_F
  rw [show val32 (FP.fdiv a b) = quotient b32 (val32 a) (val32 b) from val32_fdiv a b]
  exact own_sc_quot good_b32 ha hb hi h (by rw [qmin_b32]; omega) (own_q32 (by omega))
theorem own_F_cmp {k i j : Int} {a b : UInt32} (ha : own_F k i a) (hb : own_F k j b) : FP.fcmp a b = some (compare i j) := own_sc_order ha hb
theorem own_D_f2d {k i : Int} {a : UInt32} (ha : own_F k i a) (h : i.natAbs ≤ 2 ^ 53) (h1 : -900 ≤ -k) (h2 : -k ≤ 900) : own_D k i (FP.f2d a) := by
  unfold own_D
  rw [own_v_f2d ha]
  exact own_sc_round good_b64 ha h (by rw [qmin_b64]; omega) (own_q64 (by omega))
theorem own_F_d2f {k i : Int} {a : UInt64} (ha : own_D k i a) (h : i.natAbs ≤ 2 ^ 24) (h1 : -100 ≤ -k) (h2 : -k ≤ 60) : own_F k i (FP.d2f a) := by
  unfold own_F
  rw [own_v_d2f ha]
  exact own_sc_round good_b32 ha h (by rw [qmin_b32]; omega) (own_q32 (by omega))
/-- the same value in smaller units -/
theorem own_sc_up {k i : Int} {d : Datum} (h : own_Sc k i d) (n : Nat) : own_Sc (k + n) (i * ((2 ^ n : Nat) : Int)) d := by
  obtain ⟨s, c, q, rfl⟩ := own_sc_fin h
  have h' : signed s (c * 2 ^ (q + k).toNat) = i * ((2 ^ (-(q + k)).toNat : Nat) : Int) := h
  show signed s (c * 2 ^ (q + (k + n)).toNat) = i * ((2 ^ n : Nat) : Int) * ((2 ^ (-(q + (k + n))).toNat : Nat) : Int)
  have e : (q + (k + n)).toNat + (-(q + k)).toNat = (q + k).toNat + (n + (-(q + (k + n))).toNat) := by omega
  have p : ((2 ^ (-(q + k)).toNat : Nat) : Int) ≠ 0 := by have := Nat.two_pow_pos (-(q + k)).toNat; omega
  refine Int.eq_of_mul_eq_mul_right p ?_
  rw [← signed_mul, Nat.mul_assoc, ← Nat.pow_add, e, Nat.pow_add, ← Nat.mul_assoc, signed_mul, h', Nat.pow_add, Int.natCast_mul]
  ac_rfl
theorem own_D_up {k i : Int} {a : UInt64} (h : own_D k i a) (n : Nat) : own_D (k + n) (i * ((2 ^ n : Nat) : Int)) a := own_sc_up h n
theorem own_F_up {k i : Int} {a : UInt32} (h : own_F k i a) (n : Nat) : own_F (k + n) (i * ((2 ^ n : Nat) : Int)) a := own_sc_up h n
/-! ### one rounding of a number of many digits -/
theorem own_leading {n : Nat} (h : n ≠ 0) : leading n 1 = (n.log2 : Int) := by
  have l1 : 2 ^ n.log2 ≤ n := Nat.log2_self_le h
  unfold leading
  have e : (n.log2 : Int) - ((1 : Nat).log2 : Int) = (n.log2 : Int) := by have : (1 : Nat).log2 = 0 := by decide
                                                                          rw [this]; simp
  simp only [e]
  rw [if_pos]
  rw [show ((n.log2 : Int)).toNat = n.log2 by omega, show (-(n.log2 : Int)).toNat = 0 by omega]
  simpa using l1
theorem own_rr {f : Fmt} (hf : Good f) {s : Bool} {n : Nat} (hn : n ≠ 0) {k : Int} (h0 : 0 ≤ k) (h1 : f.qmin < -k - ((f.p : Int) - 1)) (h2 : (n.log2 : Int) + 2 ≤ f.qmax + f.p) :
    ∃ c q, (roundRatio f s n 1 (-k) = .fin s c (q - k) ∧ roundRatio f s n 1 0 = .fin s c q) ∧ c < 2 ^ f.p ∧ -((f.p : Int) - 1) ≤ q ∧ q ≤ f.qmax ∧ f.tails ≤ c := by
  have hp : 2 ≤ f.p := hf.2
  have hL := own_leading hn
  have hq0 : quantum f n 1 0 = (n.log2 : Int) - ((f.p : Int) - 1) := by unfold quantum; rw [hL]; omega
  have hqk : quantum f n 1 (-k) = (n.log2 : Int) - ((f.p : Int) - 1) - k := by unfold quantum; rw [hL]; omega
  have hfit : FP.Core.fits f (roundRatio f s n 1 0) := roundRatio_fits hf s n Nat.one_pos 0
  generalize hQ : (n.log2 : Int) - ((f.p : Int) - 1) = Q at hq0 hqk
  have eN : unitsNum n (-k) (Q - k) = unitsNum n 0 Q := by unfold unitsNum; rw [show (-k - (Q - k)).toNat = (0 - Q).toNat by omega]
  have eD : unitsDen 1 (-k) (Q - k) = unitsDen 1 0 Q := by unfold unitsDen; rw [show (Q - k - -k).toNat = (Q - 0).toNat by omega]
  have r0 : roundRatio f s n 1 0 = settle f s (nearest (unitsNum n 0 Q) (unitsDen 1 0 Q)) Q := by
    unfold roundRatio roundAt; rw [if_neg hn, hq0]
  have rk : roundRatio f s n 1 (-k) = settle f s (nearest (unitsNum n 0 Q) (unitsDen 1 0 Q)) (Q - k) := by
    unfold roundRatio roundAt; rw [if_neg hn, hqk, eN, eD]
  generalize nearest (unitsNum n 0 Q) (unitsDen 1 0 Q) = c0 at r0 rk
  unfold settle bound at r0 rk
  by_cases hc : c0 < 2 ^ f.p
  · rw [if_pos hc, if_pos (by omega)] at r0 rk
    rw [r0] at hfit
    obtain ⟨f1, f2, f3, f4⟩ := hfit
    exact ⟨c0, Q, ⟨rk, r0⟩, f1, by omega, f3, by rcases f4 with f4 | f4 <;> omega⟩
  · rw [if_neg hc, if_pos (by omega)] at r0 rk
    rw [r0] at hfit
    obtain ⟨f1, f2, f3, f4⟩ := hfit
    exact ⟨f.tails, Q + 1, ⟨by rw [rk, show Q - k + 1 = Q + 1 - k by omega], r0⟩, f1, by omega, f3, Nat.le_refl _⟩
/-- i / 2^k, rounded once, is i rounded, over 2^k -/
theorem own_round_ratio {f : Fmt} {k i : Int} {d : Datum} (h : own_Sc k i d) (hi : i ≠ 0) : round f d = roundRatio f (decide (i < 0)) i.natAbs 1 (-k) := by
  obtain ⟨s, c, q, rfl⟩ := own_sc_fin h
  have hn : c * 2 ^ (q + k).toNat = i.natAbs * 2 ^ (-(q + k)).toNat := whole_natAbs h
  rw [← whole_sign h hi]
  refine roundRatio_congr (by decide) (by decide) ?_
  rw [show (q - -k).toNat = (q + k).toNat by omega, show (-k - q).toNat = (-(q + k)).toNat by omega]
  simpa using hn
/-- a datum over 2^k -/
theorem own_quot_pow {f : Fmt} (hf : Good f) {s : Bool} {c : Nat} {q : Int} {k : Nat} {y : Datum} (hy : own_Sc 0 ((2 ^ k : Nat) : Int) y) (h1 : c < 2 ^ f.p) (h2 : f.qmin ≤ q - k) (h3 : q ≤ f.qmax) (h4 : f.tails ≤ c) : quotient f (.fin s c q) y = .fin s c (q - k) := by
  obtain ⟨t, d, r, rfl⟩ := own_sc_fin hy
  have hp := Nat.two_pow_pos k
  have hm : d * 2 ^ (r + 0).toNat = ((2 ^ k : Nat) : Int).natAbs * 2 ^ (-(r + 0)).toNat := whole_natAbs hy
  rw [Int.add_zero, Int.natAbs_natCast] at hm
  have hz : ((2 ^ k : Nat) : Int) ≠ 0 := fun z => by have h9 : 2 ^ k = 0 := Int.ofNat_eq_zero.mp z
                                                     omega
  have ht : t = false := by
    rw [whole_sign hy hz]
    exact decide_eq_false (Int.not_lt.mpr (Int.natCast_nonneg _))
  have hd : d ≠ 0 := fun z => hz ((whole_zero hy).mp z)
  subst ht
  show (if d = 0 then _ else _) = _
  rw [if_neg hd]
  have e1 : (s != false) = s := by cases s <;> rfl
  rw [e1]
  refine roundRatio_exact hf (by omega) ⟨h1, h2, by omega, Or.inr h4⟩ ?_
  rw [show (q - r - (q - (k : Int))).toNat = ((k : Int) - r).toNat by omega, show (q - (k : Int) - (q - r)).toNat = (r - (k : Int)).toNat by omega, Nat.mul_assoc]
  congr 1
  rcases Int.lt_or_le r 0 with hr | hr
  · rw [show r.toNat = 0 by omega, Nat.pow_zero, Nat.mul_one] at hm
    rw [hm, ← Nat.pow_add, ← Nat.pow_add]
    congr 1
    omega
  · rw [show (-r).toNat = 0 by omega, Nat.pow_zero, Nat.mul_one] at hm
    rcases Int.lt_or_le (k : Int) r with h | h
    · have : 2 ^ k = d * 2 ^ (r.toNat - k) * 2 ^ k := by
        rw [Nat.mul_assoc, ← Nat.pow_add, show r.toNat - k + k = r.toNat by omega, hm]
      have h5 : d * 2 ^ (r.toNat - k) = 1 := by
        have h6 : 1 * 2 ^ k = d * 2 ^ (r.toNat - k) * 2 ^ k := by rw [Nat.one_mul]; exact this
        exact (Nat.eq_of_mul_eq_mul_right hp h6).symm
      rw [show ((k : Int) - r).toNat = 0 by omega, show (r - (k : Int)).toNat = r.toNat - k by omega, h5, Nat.pow_zero]
    · have h6 : d = 2 ^ (k - r.toNat) := by
        have : d * 2 ^ r.toNat = 2 ^ (k - r.toNat) * 2 ^ r.toNat := by rw [hm, ← Nat.pow_add]; congr 1; omega
        exact Nat.eq_of_mul_eq_mul_right (Nat.two_pow_pos _) this
      rw [show (r - (k : Int)).toNat = 0 by omega, Nat.pow_zero, Nat.mul_one, h6]
      congr 1
      omega
end OwnScaled
theorem own_cmp_lt {a b : UInt64} {i j : Int} (C : FP.dcmp a b = some (compare i j)) (h : i < j) : (cmpValue (FP.dcmp a b) .g) < (0 : Int32) := by
  have h2 : compare i j = .lt := by simp [compare, compareOfLessAndEq, h]
  rw [C, h2]; decide
theorem own_cmp_nlt {a b : UInt64} {i j : Int} (C : FP.dcmp a b = some (compare i j)) (h : ¬ i < j) : ¬ (cmpValue (FP.dcmp a b) .g) < (0 : Int32) := by
  rw [C]
  by_cases e : i = j
  · have h2 : compare i j = .eq := by simp [compare, compareOfLessAndEq, e]
    rw [h2]; decide
  · have h2 : compare i j = .gt := by simp [compare, compareOfLessAndEq, e, h]
    rw [h2]; decide
theorem own_cmp_gt {a b : UInt64} {i j : Int} (C : FP.dcmp a b = some (compare i j)) (h : j < i) : (0 : Int32) < (cmpValue (FP.dcmp a b) .g) := by
  have h2 : compare i j = .gt := by simp [compare, compareOfLessAndEq, show ¬ i < j by omega, show ¬ i = j by omega]
  rw [C, h2]; decide
theorem own_cmp_ngt {a b : UInt64} {i j : Int} (C : FP.dcmp a b = some (compare i j)) (h : ¬ j < i) : ¬ (0 : Int32) < (cmpValue (FP.dcmp a b) .g) := by
  rw [C]
  by_cases e : i = j
  · have h2 : compare i j = .eq := by simp [compare, compareOfLessAndEq, e]
    rw [h2]; decide
  · have h2 : compare i j = .lt := by simp [compare, compareOfLessAndEq, show i < j by omega]
    rw [h2]; decide
theorem own_b3 (x : Int32) : 0 ≤ (x &&& (3 : Int32)).toInt ∧ (x &&& (3 : Int32)).toInt ≤ 3 := c_and x 3 (by decide)
theorem own_frs {k : Nat} {L : List Loc} {a : Addr} {i : Nat} (N : Fr k L) (q : k ≤ a) : Fr k (L ++ [⟨a, i⟩]) := N.app fun y hy => by cases List.mem_singleton.mp hy; exact q
theorem own_app0 {k : Nat} {L : List Loc} (N : Fr k L) : Fr k (L ++ []) := by rw [List.append_nil]; exact N
theorem own_n (x : Int32) : x &&& (7 : Int32) = (0 : Int32) ∨ x &&& (7 : Int32) = (1 : Int32) ∨ x &&& (7 : Int32) = (2 : Int32) ∨ x &&& (7 : Int32) = (3 : Int32) ∨ x &&& (7 : Int32) = (4 : Int32) ∨ x &&& (7 : Int32) = (5 : Int32) ∨ x &&& (7 : Int32) = (6 : Int32) ∨ x &&& (7 : Int32) = (7 : Int32) := by
  have h := c_mask x (7 : Int32) 3 (by decide) (by decide)
  have h2 : (x &&& (7 : Int32)).toInt = 0 ∨ (x &&& (7 : Int32)).toInt = 1 ∨ (x &&& (7 : Int32)).toInt = 2 ∨ (x &&& (7 : Int32)).toInt = 3 ∨ (x &&& (7 : Int32)).toInt = 4 ∨ (x &&& (7 : Int32)).toInt = 5 ∨ (x &&& (7 : Int32)).toInt = 6 ∨ (x &&& (7 : Int32)).toInt = 7 := by omega
  rcases h2 with q | q | q | q | q | q | q | q
  · exact Or.inl (Int32.toInt_inj.mp (q.trans (by decide)))
  · exact Or.inr (Or.inl (Int32.toInt_inj.mp (q.trans (by decide))))
  · exact Or.inr (Or.inr (Or.inl (Int32.toInt_inj.mp (q.trans (by decide)))))
  · exact Or.inr (Or.inr (Or.inr (Or.inl (Int32.toInt_inj.mp (q.trans (by decide))))))
  · exact Or.inr (Or.inr (Or.inr (Or.inr (Or.inl (Int32.toInt_inj.mp (q.trans (by decide)))))))
  · exact Or.inr (Or.inr (Or.inr (Or.inr (Or.inr (Or.inl (Int32.toInt_inj.mp (q.trans (by decide))))))))
  · exact Or.inr (Or.inr (Or.inr (Or.inr (Or.inr (Or.inr (Or.inl (Int32.toInt_inj.mp (q.trans (by decide)))))))))
  · exact Or.inr (Or.inr (Or.inr (Or.inr (Or.inr (Or.inr (Or.inr ((Int32.toInt_inj.mp (q.trans (by decide))))))))))
theorem own_b63 (x : Int32) : -16 ≤ ((x &&& (63 : Int32)) - (16 : Int32)).toInt ∧ ((x &&& (63 : Int32)) - (16 : Int32)).toInt ≤ 47 := by
  have h := c_and x 63 (by decide)
  have h1 := c_isub (x &&& (63 : Int32)) (16 : Int32)
  have h2 := rng32 ((x &&& (63 : Int32)) - (16 : Int32))
  have h3 : (63 : Int32).toInt = 63 := by decide
  have h4 : (16 : Int32).toInt = 16 := by decide
  omega
theorem own_two : own_D 0 2 4611686018427387904 := by
  have h : FP.Core.val64 4611686018427387904 = .fin false 4503599627370496 (-51) := by decide +kernel
  show FP.Core.Whole 2 (own_sh 0 (FP.Core.val64 4611686018427387904))
  rw [h]
  show FP.Core.signed false (4503599627370496 * 2 ^ ((-51 : Int) + 0).toNat) = (2 : Int) * ((2 ^ (-((-51 : Int) + 0)).toNat : Nat) : Int)
  decide +kernel
def own_one (n : Int32) (i : Int32) (v : UInt64) (x : UInt64)  : Int32 := (if i < n then (if (0 : Int32) < (cmpValue (FP.dcmp v x) .g) then (0 : Int32) else (1 : Int32)) else (0 : Int32))
theorem pn_0 : plainName "com/example/biclique/biclique/draw/AscendingCountAtMostPinLaw" = true := by first | (simp [plainName, overriddenIn]; done) | decide +kernel
theorem d1_0 : decode method_2_code 0 = .ok (.iload_n 1, 1) := by decide +kernel
theorem d1_1 : decode method_2_code 1 = .ok (.iload_n 0, 1) := by decide +kernel
theorem d1_2 : decode method_2_code 2 = .ok (.if_icmp .ge 14, 3) := by decide +kernel
theorem d1_5 : decode method_2_code 5 = .ok (.dload_n 2, 1) := by decide +kernel
theorem d1_6 : decode method_2_code 6 = .ok (.dload 4, 2) := by decide +kernel
theorem d1_8 : decode method_2_code 8 = .ok (.dcmp .g, 1) := by decide +kernel
theorem d1_9 : decode method_2_code 9 = .ok (.ifCond .gt 7, 3) := by decide +kernel
theorem d1_16 : decode method_2_code 16 = .ok (.iconst 0, 1) := by decide +kernel
theorem d1_17 : decode method_2_code 17 = .ok (.ireturn, 1) := by decide +kernel
theorem d1_12 : decode method_2_code 12 = .ok (.iconst 1, 1) := by decide +kernel
theorem d1_13 : decode method_2_code 13 = .ok (.goto 4, 3) := by decide +kernel
set_option maxRecDepth 65536 in
set_option maxHeartbeats 40000000 in
theorem own_one_met (l : Launch) (Z : State) (a0 : Array Value) (hw : ∀ d ∈ tables_1, d.before a0 Z = true) (n : Int32) (i : Int32) (v : UInt64) (x : UInt64)  (h0 : Heap)  :
    own_Met l (⟨"com/example/biclique/biclique/draw/AscendingCountAtMostPinLaw", "cnt", "(IIDD)I"⟩ : MethodName) method_2_code 6 (some .int) [] ({ frames := 0, cells := 0, slots := 0, locals := 0 } : Room) Z #[(.int n), (.int i), (.double v), (.double x)] h0 (fun rv rh rL => rv = some (.int (own_one n i v x )) ∧ rh = h0 ∧ rL = []) := by
  refine own_enter (plainFor_of_name pn_0) ?_
  intro p e s m below meth c T0 hx hby hml hret hlk hown hnm hZ X0 e0
  refine own_at (g' := (mkF m 0 #[oI n, oI i, oD v, .second, oD x, .second] [])) (by first | (simp [entryFrame, mkF, argsToLocals, Value.category]; done) | rfl) ?_
  show own_Go p e below _ T0 (mkF m 0 #[oI n, oI i, oD v, .second, oD x, .second] [])
  refine own_by (fun t_ k_ => XS.iloadN X0.here hx rfl (hb hby d1_0) rfl  k_) ?_
  show own_Go p e below _ T0 (mkF m 1 #[oI n, oI i, oD v, .second, oD x, .second] [(.int i)])
  refine own_by (fun t_ k_ => XS.iloadN X0.here hx rfl (hb hby d1_1) rfl  k_) ?_
  show own_Go p e below _ T0 (mkF m 2 #[oI n, oI i, oD v, .second, oD x, .second] [(.int n), (.int i)])
  by_cases c2_0 : i < n
  · refine own_by (fun t_ k_ => XS.icmpNo X0.here hx rfl (hb hby d1_2) rfl (XT.ii_ge_f c2_0) k_) ?_
    show own_Go p e below _ T0 (mkF m 5 #[oI n, oI i, oD v, .second, oD x, .second] [])
    refine own_by (fun t_ k_ => XS.dloadN X0.here hx rfl (hb hby d1_5) rfl  k_) ?_
    show own_Go p e below _ T0 (mkF m 6 #[oI n, oI i, oD v, .second, oD x, .second] [(.double v)])
    refine own_by (fun t_ k_ => XS.dload X0.here hx rfl (hb hby d1_6) rfl  k_) ?_
    show own_Go p e below _ T0 (mkF m 8 #[oI n, oI i, oD v, .second, oD x, .second] [(.double x), (.double v)])
    refine own_by (fun t_ k_ => XS.dcmpS X0.here hx rfl (hb hby d1_8) rfl rfl k_) ?_
    show own_Go p e below _ T0 (mkF m 9 #[oI n, oI i, oD v, .second, oD x, .second] [(.int (cmpValue (FP.dcmp v x) .g))])
    by_cases c9_1 : (0 : Int32) < (cmpValue (FP.dcmp v x) .g)
    · refine own_by (fun t_ k_ => XS.ifYes X0.here hx rfl (pc0 := 9) (pc' := 16) rfl (hb hby d1_9) rfl (XT.i0_gt_t c9_1) (by decide) (by decide) k_) ?_
      show own_Go p e below _ T0 (mkF m 16 #[oI n, oI i, oD v, .second, oD x, .second] [])
      refine own_by (fun t_ k_ => XT.iconstV X0.here hx rfl (0 : Int32) (hb hby d1_16) (by decide) k_) ?_
      show own_Go p e below _ T0 (mkF m 17 #[oI n, oI i, oD v, .second, oD x, .second] [(.int (0 : Int32))])
      exact own_retI X0 hx hlk hret (hb hby d1_17) (by decide) (by decide) (⟨by rw [own_one, if_pos c2_0, if_pos c9_1], e0, rfl⟩)
    · refine own_by (fun t_ k_ => XS.ifNo X0.here hx rfl (hb hby d1_9) rfl (XT.i0_gt_f c9_1) k_) ?_
      show own_Go p e below _ T0 (mkF m 12 #[oI n, oI i, oD v, .second, oD x, .second] [])
      refine own_by (fun t_ k_ => XT.iconstV X0.here hx rfl (1 : Int32) (hb hby d1_12) (by decide) k_) ?_
      show own_Go p e below _ T0 (mkF m 13 #[oI n, oI i, oD v, .second, oD x, .second] [(.int (1 : Int32))])
      refine own_by (fun t_ k_ => XS.goto X0.here hx rfl (pc0 := 13) (pc' := 17) rfl (hb hby d1_13) (by decide) (by decide) k_) ?_
      show own_Go p e below _ T0 (mkF m 17 #[oI n, oI i, oD v, .second, oD x, .second] [(.int (1 : Int32))])
      exact own_retI X0 hx hlk hret (hb hby d1_17) (by decide) (by decide) (⟨by rw [own_one, if_pos c2_0, if_neg c9_1], e0, rfl⟩)
  · refine own_by (fun t_ k_ => XS.icmpYes X0.here hx rfl (pc0 := 2) (pc' := 16) rfl (hb hby d1_2) rfl (XT.ii_ge_t c2_0) (by decide) (by decide) k_) ?_
    show own_Go p e below _ T0 (mkF m 16 #[oI n, oI i, oD v, .second, oD x, .second] [])
    refine own_by (fun t_ k_ => XT.iconstV X0.here hx rfl (0 : Int32) (hb hby d1_16) (by decide) k_) ?_
    show own_Go p e below _ T0 (mkF m 17 #[oI n, oI i, oD v, .second, oD x, .second] [(.int (0 : Int32))])
    exact own_retI X0 hx hlk hret (hb hby d1_17) (by decide) (by decide) (⟨by rw [own_one, if_neg c2_0], e0, rfl⟩)
def own_cb0 (a : Addr) (x : UInt64) (kA : ClassId)  : Int32 := (0 : Int32)
theorem pn_1 : plainName "com/example/biclique/biclique/draw/Ascending" = true := by first | (simp [plainName, overriddenIn]; done) | decide +kernel
theorem d2_0 : decode prog_41_method_3_code 0 = .ok (.iconst 0, 1) := by decide +kernel
theorem d2_1 : decode prog_41_method_3_code 1 = .ok (.istore_n 3, 1) := by decide +kernel
theorem d2_2 : decode prog_41_method_3_code 2 = .ok (.aload_n 0, 1) := by decide +kernel
theorem d2_3 : decode prog_41_method_3_code 3 = .ok (.arraylength, 1) := by decide +kernel
theorem d2_4 : decode prog_41_method_3_code 4 = .ok (.istore 4, 2) := by decide +kernel
theorem d2_6 : decode prog_41_method_3_code 6 = .ok (.iload_n 3, 1) := by decide +kernel
theorem d2_7 : decode prog_41_method_3_code 7 = .ok (.iload 4, 2) := by decide +kernel
theorem d2_9 : decode prog_41_method_3_code 9 = .ok (.if_icmp .ge 35, 3) := by decide +kernel
theorem d2_44 : decode prog_41_method_3_code 44 = .ok (.iload_n 3, 1) := by decide +kernel
theorem d2_45 : decode prog_41_method_3_code 45 = .ok (.ireturn, 1) := by decide +kernel
set_option maxRecDepth 65536 in
set_option maxHeartbeats 40000000 in
theorem own_cb0_met (l : Launch) (Z : State) (a0 : Array Value) (hw : ∀ d ∈ tables_1, d.before a0 Z = true) (a : Addr) (x : UInt64) (kA : ClassId)  (h0 : Heap) (V : own_A Z h0 a .double kA []) :
    own_Met l (⟨"com/example/biclique/biclique/draw/Ascending", "countAtMost", "([DD)I"⟩ : MethodName) prog_41_method_3_code 6 (some .int) [] ({ frames := 0, cells := 0, slots := 0, locals := 0 } : Room) Z #[(.ref a), (.double x)] h0 (fun rv rh rL => rv = some (.int (own_cb0 a x kA )) ∧ rh = h0 ∧ rL = []) := by
  refine own_enter (plainFor_of_name pn_1) ?_
  intro p e s m below meth c T0 hx hby hml hret hlk hown hnm hZ X0 e0
  refine own_at (g' := (mkF m 0 #[oR a, oD x, .second, .unset, .unset, .unset] [])) (by first | (simp [entryFrame, mkF, argsToLocals, Value.category]; done) | rfl) ?_
  show own_Go p e below _ T0 (mkF m 0 #[oR a, oD x, .second, .unset, .unset, .unset] [])
  refine own_by (fun t_ k_ => XT.iconstV X0.here hx rfl (0 : Int32) (hb hby d2_0) (by decide) k_) ?_
  show own_Go p e below _ T0 (mkF m 1 #[oR a, oD x, .second, .unset, .unset, .unset] [(.int (0 : Int32))])
  refine own_by (fun t_ k_ => XS.istoreN X0.here hx rfl (hb hby d2_1) rfl (l' := #[oR a, oD x, .second, oI (0 : Int32), .unset, .unset]) rfl k_) ?_
  show own_Go p e below _ T0 (mkF m 2 #[oR a, oD x, .second, oI (0 : Int32), .unset, .unset] [])
  refine own_by (fun t_ k_ => XS.aloadN X0.here hx rfl (hb hby d2_2) rfl rfl  k_) ?_
  show own_Go p e below _ T0 (mkF m 3 #[oR a, oD x, .second, oI (0 : Int32), .unset, .unset] [(.ref a)])
  refine own_len X0 hx hZ e0 V (0 : Int32) rfl (hb hby d2_3) ?_
  show own_Go p e below _ T0 (mkF m 4 #[oR a, oD x, .second, oI (0 : Int32), .unset, .unset] [(.int (0 : Int32))])
  refine own_by (fun t_ k_ => XS.istore X0.here hx rfl (hb hby d2_4) rfl (l' := #[oR a, oD x, .second, oI (0 : Int32), oI (0 : Int32), .unset]) rfl k_) ?_
  show own_Go p e below _ T0 (mkF m 6 #[oR a, oD x, .second, oI (0 : Int32), oI (0 : Int32), .unset] [])
  refine own_by (fun t_ k_ => XS.iloadN X0.here hx rfl (hb hby d2_6) rfl  k_) ?_
  show own_Go p e below _ T0 (mkF m 7 #[oR a, oD x, .second, oI (0 : Int32), oI (0 : Int32), .unset] [(.int (0 : Int32))])
  refine own_by (fun t_ k_ => XS.iload X0.here hx rfl (hb hby d2_7) rfl  k_) ?_
  show own_Go p e below _ T0 (mkF m 9 #[oR a, oD x, .second, oI (0 : Int32), oI (0 : Int32), .unset] [(.int (0 : Int32)), (.int (0 : Int32))])
  refine own_by (fun t_ k_ => XS.icmpYes X0.here hx rfl (pc0 := 9) (pc' := 44) rfl (hb hby d2_9) rfl (XT.ii_ge_t (by decide)) (by decide) (by decide) k_) ?_
  show own_Go p e below _ T0 (mkF m 44 #[oR a, oD x, .second, oI (0 : Int32), oI (0 : Int32), .unset] [])
  refine own_by (fun t_ k_ => XS.iloadN X0.here hx rfl (hb hby d2_44) rfl  k_) ?_
  show own_Go p e below _ T0 (mkF m 45 #[oR a, oD x, .second, oI (0 : Int32), oI (0 : Int32), .unset] [(.int (0 : Int32))])
  exact own_retI X0 hx hlk hret (hb hby d2_45) (by decide) (by decide) (⟨by rw [own_cb0], e0, rfl⟩)
def own_cb1 (a : Addr) (x : UInt64) (kA : ClassId) (d0 : UInt64) : Int32 := (if (0 : Int32) < (cmpValue (FP.dcmp d0 x) .g) then (0 : Int32) else (1 : Int32))
theorem d2_12 : decode prog_41_method_3_code 12 = .ok (.iload_n 3, 1) := by decide +kernel
theorem d2_13 : decode prog_41_method_3_code 13 = .ok (.iload 4, 2) := by decide +kernel
theorem d2_15 : decode prog_41_method_3_code 15 = .ok (.iadd, 1) := by decide +kernel
theorem d2_16 : decode prog_41_method_3_code 16 = .ok (.iconst 1, 1) := by decide +kernel
theorem d2_17 : decode prog_41_method_3_code 17 = .ok (.iushr, 1) := by decide +kernel
theorem d2_18 : decode prog_41_method_3_code 18 = .ok (.istore 5, 2) := by decide +kernel
theorem d2_20 : decode prog_41_method_3_code 20 = .ok (.aload_n 0, 1) := by decide +kernel
theorem d2_21 : decode prog_41_method_3_code 21 = .ok (.iload 5, 2) := by decide +kernel
theorem d2_23 : decode prog_41_method_3_code 23 = .ok (.daload, 1) := by decide +kernel
theorem d2_24 : decode prog_41_method_3_code 24 = .ok (.dload_n 1, 1) := by decide +kernel
theorem d2_25 : decode prog_41_method_3_code 25 = .ok (.dcmp .g, 1) := by decide +kernel
theorem d2_26 : decode prog_41_method_3_code 26 = .ok (.ifCond .gt 11, 3) := by decide +kernel
theorem d2_37 : decode prog_41_method_3_code 37 = .ok (.iload 5, 2) := by decide +kernel
theorem d2_39 : decode prog_41_method_3_code 39 = .ok (.istore 4, 2) := by decide +kernel
theorem d2_41 : decode prog_41_method_3_code 41 = .ok (.goto (-35), 3) := by decide +kernel
theorem d2_29 : decode prog_41_method_3_code 29 = .ok (.iload 5, 2) := by decide +kernel
theorem d2_31 : decode prog_41_method_3_code 31 = .ok (.iconst 1, 1) := by decide +kernel
theorem d2_32 : decode prog_41_method_3_code 32 = .ok (.iadd, 1) := by decide +kernel
theorem d2_33 : decode prog_41_method_3_code 33 = .ok (.istore_n 3, 1) := by decide +kernel
theorem d2_34 : decode prog_41_method_3_code 34 = .ok (.goto 7, 3) := by decide +kernel
set_option maxRecDepth 65536 in
set_option maxHeartbeats 40000000 in
theorem own_cb1_met (l : Launch) (Z : State) (a0 : Array Value) (hw : ∀ d ∈ tables_1, d.before a0 Z = true) (a : Addr) (x : UInt64) (kA : ClassId) (d0 : UInt64) (h0 : Heap) (V : own_A Z h0 a .double kA [(.double d0)]) :
    own_Met l (⟨"com/example/biclique/biclique/draw/Ascending", "countAtMost", "([DD)I"⟩ : MethodName) prog_41_method_3_code 6 (some .int) [] ({ frames := 0, cells := 0, slots := 0, locals := 0 } : Room) Z #[(.ref a), (.double x)] h0 (fun rv rh rL => rv = some (.int (own_cb1 a x kA d0)) ∧ rh = h0 ∧ rL = []) := by
  refine own_enter (plainFor_of_name pn_1) ?_
  intro p e s m below meth c T0 hx hby hml hret hlk hown hnm hZ X0 e0
  refine own_at (g' := (mkF m 0 #[oR a, oD x, .second, .unset, .unset, .unset] [])) (by first | (simp [entryFrame, mkF, argsToLocals, Value.category]; done) | rfl) ?_
  show own_Go p e below _ T0 (mkF m 0 #[oR a, oD x, .second, .unset, .unset, .unset] [])
  refine own_by (fun t_ k_ => XT.iconstV X0.here hx rfl (0 : Int32) (hb hby d2_0) (by decide) k_) ?_
  show own_Go p e below _ T0 (mkF m 1 #[oR a, oD x, .second, .unset, .unset, .unset] [(.int (0 : Int32))])
  refine own_by (fun t_ k_ => XS.istoreN X0.here hx rfl (hb hby d2_1) rfl (l' := #[oR a, oD x, .second, oI (0 : Int32), .unset, .unset]) rfl k_) ?_
  show own_Go p e below _ T0 (mkF m 2 #[oR a, oD x, .second, oI (0 : Int32), .unset, .unset] [])
  refine own_by (fun t_ k_ => XS.aloadN X0.here hx rfl (hb hby d2_2) rfl rfl  k_) ?_
  show own_Go p e below _ T0 (mkF m 3 #[oR a, oD x, .second, oI (0 : Int32), .unset, .unset] [(.ref a)])
  refine own_len X0 hx hZ e0 V (1 : Int32) rfl (hb hby d2_3) ?_
  show own_Go p e below _ T0 (mkF m 4 #[oR a, oD x, .second, oI (0 : Int32), .unset, .unset] [(.int (1 : Int32))])
  refine own_by (fun t_ k_ => XS.istore X0.here hx rfl (hb hby d2_4) rfl (l' := #[oR a, oD x, .second, oI (0 : Int32), oI (1 : Int32), .unset]) rfl k_) ?_
  show own_Go p e below _ T0 (mkF m 6 #[oR a, oD x, .second, oI (0 : Int32), oI (1 : Int32), .unset] [])
  refine own_by (fun t_ k_ => XS.iloadN X0.here hx rfl (hb hby d2_6) rfl  k_) ?_
  show own_Go p e below _ T0 (mkF m 7 #[oR a, oD x, .second, oI (0 : Int32), oI (1 : Int32), .unset] [(.int (0 : Int32))])
  refine own_by (fun t_ k_ => XS.iload X0.here hx rfl (hb hby d2_7) rfl  k_) ?_
  show own_Go p e below _ T0 (mkF m 9 #[oR a, oD x, .second, oI (0 : Int32), oI (1 : Int32), .unset] [(.int (1 : Int32)), (.int (0 : Int32))])
  refine own_by (fun t_ k_ => XS.icmpNo X0.here hx rfl (hb hby d2_9) rfl (XT.ii_ge_f (by decide)) k_) ?_
  show own_Go p e below _ T0 (mkF m 12 #[oR a, oD x, .second, oI (0 : Int32), oI (1 : Int32), .unset] [])
  refine own_by (fun t_ k_ => XS.iloadN X0.here hx rfl (hb hby d2_12) rfl  k_) ?_
  show own_Go p e below _ T0 (mkF m 13 #[oR a, oD x, .second, oI (0 : Int32), oI (1 : Int32), .unset] [(.int (0 : Int32))])
  refine own_by (fun t_ k_ => XS.iload X0.here hx rfl (hb hby d2_13) rfl  k_) ?_
  show own_Go p e below _ T0 (mkF m 15 #[oR a, oD x, .second, oI (0 : Int32), oI (1 : Int32), .unset] [(.int (1 : Int32)), (.int (0 : Int32))])
  refine own_by (fun t_ k_ => XS.iadd X0.here hx rfl (hb hby d2_15) rfl k_) ?_
  show own_Go p e below _ T0 (mkF m 16 #[oR a, oD x, .second, oI (0 : Int32), oI (1 : Int32), .unset] [(.int ((0 : Int32) + (1 : Int32)))])
  rw [show ((0 : Int32) + (1 : Int32)) = (1 : Int32) by decide]
  show own_Go p e below _ T0 (mkF m 16 #[oR a, oD x, .second, oI (0 : Int32), oI (1 : Int32), .unset] [(.int (1 : Int32))])
  refine own_by (fun t_ k_ => XT.iconstV X0.here hx rfl (1 : Int32) (hb hby d2_16) (by decide) k_) ?_
  show own_Go p e below _ T0 (mkF m 17 #[oR a, oD x, .second, oI (0 : Int32), oI (1 : Int32), .unset] [(.int (1 : Int32)), (.int (1 : Int32))])
  refine own_by (fun t_ k_ => XT.iushr X0.here hx rfl (hb hby d2_17) rfl k_) ?_
  show own_Go p e below _ T0 (mkF m 18 #[oR a, oD x, .second, oI (0 : Int32), oI (1 : Int32), .unset] [(.int (((1 : Int32).toUInt32 >>> ((1 : Int32) &&& 31).toUInt32).toInt32))])
  rw [show (((1 : Int32).toUInt32 >>> ((1 : Int32) &&& 31).toUInt32).toInt32) = (0 : Int32) by decide]
  show own_Go p e below _ T0 (mkF m 18 #[oR a, oD x, .second, oI (0 : Int32), oI (1 : Int32), .unset] [(.int (0 : Int32))])
  refine own_by (fun t_ k_ => XS.istore X0.here hx rfl (hb hby d2_18) rfl (l' := #[oR a, oD x, .second, oI (0 : Int32), oI (1 : Int32), oI (0 : Int32)]) rfl k_) ?_
  show own_Go p e below _ T0 (mkF m 20 #[oR a, oD x, .second, oI (0 : Int32), oI (1 : Int32), oI (0 : Int32)] [])
  refine own_by (fun t_ k_ => XS.aloadN X0.here hx rfl (hb hby d2_20) rfl rfl  k_) ?_
  show own_Go p e below _ T0 (mkF m 21 #[oR a, oD x, .second, oI (0 : Int32), oI (1 : Int32), oI (0 : Int32)] [(.ref a)])
  refine own_by (fun t_ k_ => XS.iload X0.here hx rfl (hb hby d2_21) rfl  k_) ?_
  show own_Go p e below _ T0 (mkF m 23 #[oR a, oD x, .second, oI (0 : Int32), oI (1 : Int32), oI (0 : Int32)] [(.int (0 : Int32)), (.ref a)])
  refine own_ldD X0 hx hZ e0 V 0 (by decide) (by decide) (v := (.double d0)) rfl (hb hby d2_23) ?_
  show own_Go p e below _ T0 (mkF m 24 #[oR a, oD x, .second, oI (0 : Int32), oI (1 : Int32), oI (0 : Int32)] [(.double d0)])
  refine own_by (fun t_ k_ => XS.dloadN X0.here hx rfl (hb hby d2_24) rfl  k_) ?_
  show own_Go p e below _ T0 (mkF m 25 #[oR a, oD x, .second, oI (0 : Int32), oI (1 : Int32), oI (0 : Int32)] [(.double x), (.double d0)])
  refine own_by (fun t_ k_ => XS.dcmpS X0.here hx rfl (hb hby d2_25) rfl rfl k_) ?_
  show own_Go p e below _ T0 (mkF m 26 #[oR a, oD x, .second, oI (0 : Int32), oI (1 : Int32), oI (0 : Int32)] [(.int (cmpValue (FP.dcmp d0 x) .g))])
  by_cases c26_0 : (0 : Int32) < (cmpValue (FP.dcmp d0 x) .g)
  · refine own_by (fun t_ k_ => XS.ifYes X0.here hx rfl (pc0 := 26) (pc' := 37) rfl (hb hby d2_26) rfl (XT.i0_gt_t c26_0) (by decide) (by decide) k_) ?_
    show own_Go p e below _ T0 (mkF m 37 #[oR a, oD x, .second, oI (0 : Int32), oI (1 : Int32), oI (0 : Int32)] [])
    refine own_by (fun t_ k_ => XS.iload X0.here hx rfl (hb hby d2_37) rfl  k_) ?_
    show own_Go p e below _ T0 (mkF m 39 #[oR a, oD x, .second, oI (0 : Int32), oI (1 : Int32), oI (0 : Int32)] [(.int (0 : Int32))])
    refine own_by (fun t_ k_ => XS.istore X0.here hx rfl (hb hby d2_39) rfl (l' := #[oR a, oD x, .second, oI (0 : Int32), oI (0 : Int32), oI (0 : Int32)]) rfl k_) ?_
    show own_Go p e below _ T0 (mkF m 41 #[oR a, oD x, .second, oI (0 : Int32), oI (0 : Int32), oI (0 : Int32)] [])
    refine own_by (fun t_ k_ => XS.goto X0.here hx rfl (pc0 := 41) (pc' := 6) rfl (hb hby d2_41) (by decide) (by decide) k_) ?_
    show own_Go p e below _ T0 (mkF m 6 #[oR a, oD x, .second, oI (0 : Int32), oI (0 : Int32), oI (0 : Int32)] [])
    refine own_by (fun t_ k_ => XS.iloadN X0.here hx rfl (hb hby d2_6) rfl  k_) ?_
    show own_Go p e below _ T0 (mkF m 7 #[oR a, oD x, .second, oI (0 : Int32), oI (0 : Int32), oI (0 : Int32)] [(.int (0 : Int32))])
    refine own_by (fun t_ k_ => XS.iload X0.here hx rfl (hb hby d2_7) rfl  k_) ?_
    show own_Go p e below _ T0 (mkF m 9 #[oR a, oD x, .second, oI (0 : Int32), oI (0 : Int32), oI (0 : Int32)] [(.int (0 : Int32)), (.int (0 : Int32))])
    refine own_by (fun t_ k_ => XS.icmpYes X0.here hx rfl (pc0 := 9) (pc' := 44) rfl (hb hby d2_9) rfl (XT.ii_ge_t (by decide)) (by decide) (by decide) k_) ?_
    show own_Go p e below _ T0 (mkF m 44 #[oR a, oD x, .second, oI (0 : Int32), oI (0 : Int32), oI (0 : Int32)] [])
    refine own_by (fun t_ k_ => XS.iloadN X0.here hx rfl (hb hby d2_44) rfl  k_) ?_
    show own_Go p e below _ T0 (mkF m 45 #[oR a, oD x, .second, oI (0 : Int32), oI (0 : Int32), oI (0 : Int32)] [(.int (0 : Int32))])
    exact own_retI X0 hx hlk hret (hb hby d2_45) (by decide) (by decide) (⟨by rw [own_cb1, if_pos c26_0], e0, rfl⟩)
  · refine own_by (fun t_ k_ => XS.ifNo X0.here hx rfl (hb hby d2_26) rfl (XT.i0_gt_f c26_0) k_) ?_
    show own_Go p e below _ T0 (mkF m 29 #[oR a, oD x, .second, oI (0 : Int32), oI (1 : Int32), oI (0 : Int32)] [])
    refine own_by (fun t_ k_ => XS.iload X0.here hx rfl (hb hby d2_29) rfl  k_) ?_
    show own_Go p e below _ T0 (mkF m 31 #[oR a, oD x, .second, oI (0 : Int32), oI (1 : Int32), oI (0 : Int32)] [(.int (0 : Int32))])
    refine own_by (fun t_ k_ => XT.iconstV X0.here hx rfl (1 : Int32) (hb hby d2_31) (by decide) k_) ?_
    show own_Go p e below _ T0 (mkF m 32 #[oR a, oD x, .second, oI (0 : Int32), oI (1 : Int32), oI (0 : Int32)] [(.int (1 : Int32)), (.int (0 : Int32))])
    refine own_by (fun t_ k_ => XS.iadd X0.here hx rfl (hb hby d2_32) rfl k_) ?_
    show own_Go p e below _ T0 (mkF m 33 #[oR a, oD x, .second, oI (0 : Int32), oI (1 : Int32), oI (0 : Int32)] [(.int ((0 : Int32) + (1 : Int32)))])
    rw [show ((0 : Int32) + (1 : Int32)) = (1 : Int32) by decide]
    show own_Go p e below _ T0 (mkF m 33 #[oR a, oD x, .second, oI (0 : Int32), oI (1 : Int32), oI (0 : Int32)] [(.int (1 : Int32))])
    refine own_by (fun t_ k_ => XS.istoreN X0.here hx rfl (hb hby d2_33) rfl (l' := #[oR a, oD x, .second, oI (1 : Int32), oI (1 : Int32), oI (0 : Int32)]) rfl k_) ?_
    show own_Go p e below _ T0 (mkF m 34 #[oR a, oD x, .second, oI (1 : Int32), oI (1 : Int32), oI (0 : Int32)] [])
    refine own_by (fun t_ k_ => XS.goto X0.here hx rfl (pc0 := 34) (pc' := 41) rfl (hb hby d2_34) (by decide) (by decide) k_) ?_
    show own_Go p e below _ T0 (mkF m 41 #[oR a, oD x, .second, oI (1 : Int32), oI (1 : Int32), oI (0 : Int32)] [])
    refine own_by (fun t_ k_ => XS.goto X0.here hx rfl (pc0 := 41) (pc' := 6) rfl (hb hby d2_41) (by decide) (by decide) k_) ?_
    show own_Go p e below _ T0 (mkF m 6 #[oR a, oD x, .second, oI (1 : Int32), oI (1 : Int32), oI (0 : Int32)] [])
    refine own_by (fun t_ k_ => XS.iloadN X0.here hx rfl (hb hby d2_6) rfl  k_) ?_
    show own_Go p e below _ T0 (mkF m 7 #[oR a, oD x, .second, oI (1 : Int32), oI (1 : Int32), oI (0 : Int32)] [(.int (1 : Int32))])
    refine own_by (fun t_ k_ => XS.iload X0.here hx rfl (hb hby d2_7) rfl  k_) ?_
    show own_Go p e below _ T0 (mkF m 9 #[oR a, oD x, .second, oI (1 : Int32), oI (1 : Int32), oI (0 : Int32)] [(.int (1 : Int32)), (.int (1 : Int32))])
    refine own_by (fun t_ k_ => XS.icmpYes X0.here hx rfl (pc0 := 9) (pc' := 44) rfl (hb hby d2_9) rfl (XT.ii_ge_t (by decide)) (by decide) (by decide) k_) ?_
    show own_Go p e below _ T0 (mkF m 44 #[oR a, oD x, .second, oI (1 : Int32), oI (1 : Int32), oI (0 : Int32)] [])
    refine own_by (fun t_ k_ => XS.iloadN X0.here hx rfl (hb hby d2_44) rfl  k_) ?_
    show own_Go p e below _ T0 (mkF m 45 #[oR a, oD x, .second, oI (1 : Int32), oI (1 : Int32), oI (0 : Int32)] [(.int (1 : Int32))])
    exact own_retI X0 hx hlk hret (hb hby d2_45) (by decide) (by decide) (⟨by rw [own_cb1, if_neg c26_0], e0, rfl⟩)
def own_cb2 (a : Addr) (x : UInt64) (kA : ClassId) (d0 d1 : UInt64) : Int32 := (if (0 : Int32) < (cmpValue (FP.dcmp d1 x) .g) then (if (0 : Int32) < (cmpValue (FP.dcmp d0 x) .g) then (0 : Int32) else (1 : Int32)) else (2 : Int32))
set_option maxRecDepth 65536 in
set_option maxHeartbeats 40000000 in
theorem own_cb2_met (l : Launch) (Z : State) (a0 : Array Value) (hw : ∀ d ∈ tables_1, d.before a0 Z = true) (a : Addr) (x : UInt64) (kA : ClassId) (d0 d1 : UInt64) (h0 : Heap) (V : own_A Z h0 a .double kA [(.double d0), (.double d1)]) :
    own_Met l (⟨"com/example/biclique/biclique/draw/Ascending", "countAtMost", "([DD)I"⟩ : MethodName) prog_41_method_3_code 6 (some .int) [] ({ frames := 0, cells := 0, slots := 0, locals := 0 } : Room) Z #[(.ref a), (.double x)] h0 (fun rv rh rL => rv = some (.int (own_cb2 a x kA d0 d1)) ∧ rh = h0 ∧ rL = []) := by
  refine own_enter (plainFor_of_name pn_1) ?_
  intro p e s m below meth c T0 hx hby hml hret hlk hown hnm hZ X0 e0
  refine own_at (g' := (mkF m 0 #[oR a, oD x, .second, .unset, .unset, .unset] [])) (by first | (simp [entryFrame, mkF, argsToLocals, Value.category]; done) | rfl) ?_
  show own_Go p e below _ T0 (mkF m 0 #[oR a, oD x, .second, .unset, .unset, .unset] [])
  refine own_by (fun t_ k_ => XT.iconstV X0.here hx rfl (0 : Int32) (hb hby d2_0) (by decide) k_) ?_
  show own_Go p e below _ T0 (mkF m 1 #[oR a, oD x, .second, .unset, .unset, .unset] [(.int (0 : Int32))])
  refine own_by (fun t_ k_ => XS.istoreN X0.here hx rfl (hb hby d2_1) rfl (l' := #[oR a, oD x, .second, oI (0 : Int32), .unset, .unset]) rfl k_) ?_
  show own_Go p e below _ T0 (mkF m 2 #[oR a, oD x, .second, oI (0 : Int32), .unset, .unset] [])
  refine own_by (fun t_ k_ => XS.aloadN X0.here hx rfl (hb hby d2_2) rfl rfl  k_) ?_
  show own_Go p e below _ T0 (mkF m 3 #[oR a, oD x, .second, oI (0 : Int32), .unset, .unset] [(.ref a)])
  refine own_len X0 hx hZ e0 V (2 : Int32) rfl (hb hby d2_3) ?_
  show own_Go p e below _ T0 (mkF m 4 #[oR a, oD x, .second, oI (0 : Int32), .unset, .unset] [(.int (2 : Int32))])
  refine own_by (fun t_ k_ => XS.istore X0.here hx rfl (hb hby d2_4) rfl (l' := #[oR a, oD x, .second, oI (0 : Int32), oI (2 : Int32), .unset]) rfl k_) ?_
  show own_Go p e below _ T0 (mkF m 6 #[oR a, oD x, .second, oI (0 : Int32), oI (2 : Int32), .unset] [])
  refine own_by (fun t_ k_ => XS.iloadN X0.here hx rfl (hb hby d2_6) rfl  k_) ?_
  show own_Go p e below _ T0 (mkF m 7 #[oR a, oD x, .second, oI (0 : Int32), oI (2 : Int32), .unset] [(.int (0 : Int32))])
  refine own_by (fun t_ k_ => XS.iload X0.here hx rfl (hb hby d2_7) rfl  k_) ?_
  show own_Go p e below _ T0 (mkF m 9 #[oR a, oD x, .second, oI (0 : Int32), oI (2 : Int32), .unset] [(.int (2 : Int32)), (.int (0 : Int32))])
  refine own_by (fun t_ k_ => XS.icmpNo X0.here hx rfl (hb hby d2_9) rfl (XT.ii_ge_f (by decide)) k_) ?_
  show own_Go p e below _ T0 (mkF m 12 #[oR a, oD x, .second, oI (0 : Int32), oI (2 : Int32), .unset] [])
  refine own_by (fun t_ k_ => XS.iloadN X0.here hx rfl (hb hby d2_12) rfl  k_) ?_
  show own_Go p e below _ T0 (mkF m 13 #[oR a, oD x, .second, oI (0 : Int32), oI (2 : Int32), .unset] [(.int (0 : Int32))])
  refine own_by (fun t_ k_ => XS.iload X0.here hx rfl (hb hby d2_13) rfl  k_) ?_
  show own_Go p e below _ T0 (mkF m 15 #[oR a, oD x, .second, oI (0 : Int32), oI (2 : Int32), .unset] [(.int (2 : Int32)), (.int (0 : Int32))])
  refine own_by (fun t_ k_ => XS.iadd X0.here hx rfl (hb hby d2_15) rfl k_) ?_
  show own_Go p e below _ T0 (mkF m 16 #[oR a, oD x, .second, oI (0 : Int32), oI (2 : Int32), .unset] [(.int ((0 : Int32) + (2 : Int32)))])
  rw [show ((0 : Int32) + (2 : Int32)) = (2 : Int32) by decide]
  show own_Go p e below _ T0 (mkF m 16 #[oR a, oD x, .second, oI (0 : Int32), oI (2 : Int32), .unset] [(.int (2 : Int32))])
  refine own_by (fun t_ k_ => XT.iconstV X0.here hx rfl (1 : Int32) (hb hby d2_16) (by decide) k_) ?_
  show own_Go p e below _ T0 (mkF m 17 #[oR a, oD x, .second, oI (0 : Int32), oI (2 : Int32), .unset] [(.int (1 : Int32)), (.int (2 : Int32))])
  refine own_by (fun t_ k_ => XT.iushr X0.here hx rfl (hb hby d2_17) rfl k_) ?_
  show own_Go p e below _ T0 (mkF m 18 #[oR a, oD x, .second, oI (0 : Int32), oI (2 : Int32), .unset] [(.int (((2 : Int32).toUInt32 >>> ((1 : Int32) &&& 31).toUInt32).toInt32))])
  rw [show (((2 : Int32).toUInt32 >>> ((1 : Int32) &&& 31).toUInt32).toInt32) = (1 : Int32) by decide]
  show own_Go p e below _ T0 (mkF m 18 #[oR a, oD x, .second, oI (0 : Int32), oI (2 : Int32), .unset] [(.int (1 : Int32))])
  refine own_by (fun t_ k_ => XS.istore X0.here hx rfl (hb hby d2_18) rfl (l' := #[oR a, oD x, .second, oI (0 : Int32), oI (2 : Int32), oI (1 : Int32)]) rfl k_) ?_
  show own_Go p e below _ T0 (mkF m 20 #[oR a, oD x, .second, oI (0 : Int32), oI (2 : Int32), oI (1 : Int32)] [])
  refine own_by (fun t_ k_ => XS.aloadN X0.here hx rfl (hb hby d2_20) rfl rfl  k_) ?_
  show own_Go p e below _ T0 (mkF m 21 #[oR a, oD x, .second, oI (0 : Int32), oI (2 : Int32), oI (1 : Int32)] [(.ref a)])
  refine own_by (fun t_ k_ => XS.iload X0.here hx rfl (hb hby d2_21) rfl  k_) ?_
  show own_Go p e below _ T0 (mkF m 23 #[oR a, oD x, .second, oI (0 : Int32), oI (2 : Int32), oI (1 : Int32)] [(.int (1 : Int32)), (.ref a)])
  refine own_ldD X0 hx hZ e0 V 1 (by decide) (by decide) (v := (.double d1)) rfl (hb hby d2_23) ?_
  show own_Go p e below _ T0 (mkF m 24 #[oR a, oD x, .second, oI (0 : Int32), oI (2 : Int32), oI (1 : Int32)] [(.double d1)])
  refine own_by (fun t_ k_ => XS.dloadN X0.here hx rfl (hb hby d2_24) rfl  k_) ?_
  show own_Go p e below _ T0 (mkF m 25 #[oR a, oD x, .second, oI (0 : Int32), oI (2 : Int32), oI (1 : Int32)] [(.double x), (.double d1)])
  refine own_by (fun t_ k_ => XS.dcmpS X0.here hx rfl (hb hby d2_25) rfl rfl k_) ?_
  show own_Go p e below _ T0 (mkF m 26 #[oR a, oD x, .second, oI (0 : Int32), oI (2 : Int32), oI (1 : Int32)] [(.int (cmpValue (FP.dcmp d1 x) .g))])
  by_cases c26_0 : (0 : Int32) < (cmpValue (FP.dcmp d1 x) .g)
  · refine own_by (fun t_ k_ => XS.ifYes X0.here hx rfl (pc0 := 26) (pc' := 37) rfl (hb hby d2_26) rfl (XT.i0_gt_t c26_0) (by decide) (by decide) k_) ?_
    show own_Go p e below _ T0 (mkF m 37 #[oR a, oD x, .second, oI (0 : Int32), oI (2 : Int32), oI (1 : Int32)] [])
    refine own_by (fun t_ k_ => XS.iload X0.here hx rfl (hb hby d2_37) rfl  k_) ?_
    show own_Go p e below _ T0 (mkF m 39 #[oR a, oD x, .second, oI (0 : Int32), oI (2 : Int32), oI (1 : Int32)] [(.int (1 : Int32))])
    refine own_by (fun t_ k_ => XS.istore X0.here hx rfl (hb hby d2_39) rfl (l' := #[oR a, oD x, .second, oI (0 : Int32), oI (1 : Int32), oI (1 : Int32)]) rfl k_) ?_
    show own_Go p e below _ T0 (mkF m 41 #[oR a, oD x, .second, oI (0 : Int32), oI (1 : Int32), oI (1 : Int32)] [])
    refine own_by (fun t_ k_ => XS.goto X0.here hx rfl (pc0 := 41) (pc' := 6) rfl (hb hby d2_41) (by decide) (by decide) k_) ?_
    show own_Go p e below _ T0 (mkF m 6 #[oR a, oD x, .second, oI (0 : Int32), oI (1 : Int32), oI (1 : Int32)] [])
    refine own_by (fun t_ k_ => XS.iloadN X0.here hx rfl (hb hby d2_6) rfl  k_) ?_
    show own_Go p e below _ T0 (mkF m 7 #[oR a, oD x, .second, oI (0 : Int32), oI (1 : Int32), oI (1 : Int32)] [(.int (0 : Int32))])
    refine own_by (fun t_ k_ => XS.iload X0.here hx rfl (hb hby d2_7) rfl  k_) ?_
    show own_Go p e below _ T0 (mkF m 9 #[oR a, oD x, .second, oI (0 : Int32), oI (1 : Int32), oI (1 : Int32)] [(.int (1 : Int32)), (.int (0 : Int32))])
    refine own_by (fun t_ k_ => XS.icmpNo X0.here hx rfl (hb hby d2_9) rfl (XT.ii_ge_f (by decide)) k_) ?_
    show own_Go p e below _ T0 (mkF m 12 #[oR a, oD x, .second, oI (0 : Int32), oI (1 : Int32), oI (1 : Int32)] [])
    refine own_by (fun t_ k_ => XS.iloadN X0.here hx rfl (hb hby d2_12) rfl  k_) ?_
    show own_Go p e below _ T0 (mkF m 13 #[oR a, oD x, .second, oI (0 : Int32), oI (1 : Int32), oI (1 : Int32)] [(.int (0 : Int32))])
    refine own_by (fun t_ k_ => XS.iload X0.here hx rfl (hb hby d2_13) rfl  k_) ?_
    show own_Go p e below _ T0 (mkF m 15 #[oR a, oD x, .second, oI (0 : Int32), oI (1 : Int32), oI (1 : Int32)] [(.int (1 : Int32)), (.int (0 : Int32))])
    refine own_by (fun t_ k_ => XS.iadd X0.here hx rfl (hb hby d2_15) rfl k_) ?_
    show own_Go p e below _ T0 (mkF m 16 #[oR a, oD x, .second, oI (0 : Int32), oI (1 : Int32), oI (1 : Int32)] [(.int ((0 : Int32) + (1 : Int32)))])
    rw [show ((0 : Int32) + (1 : Int32)) = (1 : Int32) by decide]
    show own_Go p e below _ T0 (mkF m 16 #[oR a, oD x, .second, oI (0 : Int32), oI (1 : Int32), oI (1 : Int32)] [(.int (1 : Int32))])
    refine own_by (fun t_ k_ => XT.iconstV X0.here hx rfl (1 : Int32) (hb hby d2_16) (by decide) k_) ?_
    show own_Go p e below _ T0 (mkF m 17 #[oR a, oD x, .second, oI (0 : Int32), oI (1 : Int32), oI (1 : Int32)] [(.int (1 : Int32)), (.int (1 : Int32))])
    refine own_by (fun t_ k_ => XT.iushr X0.here hx rfl (hb hby d2_17) rfl k_) ?_
    show own_Go p e below _ T0 (mkF m 18 #[oR a, oD x, .second, oI (0 : Int32), oI (1 : Int32), oI (1 : Int32)] [(.int (((1 : Int32).toUInt32 >>> ((1 : Int32) &&& 31).toUInt32).toInt32))])
    rw [show (((1 : Int32).toUInt32 >>> ((1 : Int32) &&& 31).toUInt32).toInt32) = (0 : Int32) by decide]
    show own_Go p e below _ T0 (mkF m 18 #[oR a, oD x, .second, oI (0 : Int32), oI (1 : Int32), oI (1 : Int32)] [(.int (0 : Int32))])
    refine own_by (fun t_ k_ => XS.istore X0.here hx rfl (hb hby d2_18) rfl (l' := #[oR a, oD x, .second, oI (0 : Int32), oI (1 : Int32), oI (0 : Int32)]) rfl k_) ?_
    show own_Go p e below _ T0 (mkF m 20 #[oR a, oD x, .second, oI (0 : Int32), oI (1 : Int32), oI (0 : Int32)] [])
    refine own_by (fun t_ k_ => XS.aloadN X0.here hx rfl (hb hby d2_20) rfl rfl  k_) ?_
    show own_Go p e below _ T0 (mkF m 21 #[oR a, oD x, .second, oI (0 : Int32), oI (1 : Int32), oI (0 : Int32)] [(.ref a)])
    refine own_by (fun t_ k_ => XS.iload X0.here hx rfl (hb hby d2_21) rfl  k_) ?_
    show own_Go p e below _ T0 (mkF m 23 #[oR a, oD x, .second, oI (0 : Int32), oI (1 : Int32), oI (0 : Int32)] [(.int (0 : Int32)), (.ref a)])
    refine own_ldD X0 hx hZ e0 V 0 (by decide) (by decide) (v := (.double d0)) rfl (hb hby d2_23) ?_
    show own_Go p e below _ T0 (mkF m 24 #[oR a, oD x, .second, oI (0 : Int32), oI (1 : Int32), oI (0 : Int32)] [(.double d0)])
    refine own_by (fun t_ k_ => XS.dloadN X0.here hx rfl (hb hby d2_24) rfl  k_) ?_
    show own_Go p e below _ T0 (mkF m 25 #[oR a, oD x, .second, oI (0 : Int32), oI (1 : Int32), oI (0 : Int32)] [(.double x), (.double d0)])
    refine own_by (fun t_ k_ => XS.dcmpS X0.here hx rfl (hb hby d2_25) rfl rfl k_) ?_
    show own_Go p e below _ T0 (mkF m 26 #[oR a, oD x, .second, oI (0 : Int32), oI (1 : Int32), oI (0 : Int32)] [(.int (cmpValue (FP.dcmp d0 x) .g))])
    by_cases c26_1 : (0 : Int32) < (cmpValue (FP.dcmp d0 x) .g)
    · refine own_by (fun t_ k_ => XS.ifYes X0.here hx rfl (pc0 := 26) (pc' := 37) rfl (hb hby d2_26) rfl (XT.i0_gt_t c26_1) (by decide) (by decide) k_) ?_
      show own_Go p e below _ T0 (mkF m 37 #[oR a, oD x, .second, oI (0 : Int32), oI (1 : Int32), oI (0 : Int32)] [])
      refine own_by (fun t_ k_ => XS.iload X0.here hx rfl (hb hby d2_37) rfl  k_) ?_
      show own_Go p e below _ T0 (mkF m 39 #[oR a, oD x, .second, oI (0 : Int32), oI (1 : Int32), oI (0 : Int32)] [(.int (0 : Int32))])
      refine own_by (fun t_ k_ => XS.istore X0.here hx rfl (hb hby d2_39) rfl (l' := #[oR a, oD x, .second, oI (0 : Int32), oI (0 : Int32), oI (0 : Int32)]) rfl k_) ?_
      show own_Go p e below _ T0 (mkF m 41 #[oR a, oD x, .second, oI (0 : Int32), oI (0 : Int32), oI (0 : Int32)] [])
      refine own_by (fun t_ k_ => XS.goto X0.here hx rfl (pc0 := 41) (pc' := 6) rfl (hb hby d2_41) (by decide) (by decide) k_) ?_
      show own_Go p e below _ T0 (mkF m 6 #[oR a, oD x, .second, oI (0 : Int32), oI (0 : Int32), oI (0 : Int32)] [])
      refine own_by (fun t_ k_ => XS.iloadN X0.here hx rfl (hb hby d2_6) rfl  k_) ?_
      show own_Go p e below _ T0 (mkF m 7 #[oR a, oD x, .second, oI (0 : Int32), oI (0 : Int32), oI (0 : Int32)] [(.int (0 : Int32))])
      refine own_by (fun t_ k_ => XS.iload X0.here hx rfl (hb hby d2_7) rfl  k_) ?_
      show own_Go p e below _ T0 (mkF m 9 #[oR a, oD x, .second, oI (0 : Int32), oI (0 : Int32), oI (0 : Int32)] [(.int (0 : Int32)), (.int (0 : Int32))])
      refine own_by (fun t_ k_ => XS.icmpYes X0.here hx rfl (pc0 := 9) (pc' := 44) rfl (hb hby d2_9) rfl (XT.ii_ge_t (by decide)) (by decide) (by decide) k_) ?_
      show own_Go p e below _ T0 (mkF m 44 #[oR a, oD x, .second, oI (0 : Int32), oI (0 : Int32), oI (0 : Int32)] [])
      refine own_by (fun t_ k_ => XS.iloadN X0.here hx rfl (hb hby d2_44) rfl  k_) ?_
      show own_Go p e below _ T0 (mkF m 45 #[oR a, oD x, .second, oI (0 : Int32), oI (0 : Int32), oI (0 : Int32)] [(.int (0 : Int32))])
      exact own_retI X0 hx hlk hret (hb hby d2_45) (by decide) (by decide) (⟨by rw [own_cb2, if_pos c26_0, if_pos c26_1], e0, rfl⟩)
    · refine own_by (fun t_ k_ => XS.ifNo X0.here hx rfl (hb hby d2_26) rfl (XT.i0_gt_f c26_1) k_) ?_
      show own_Go p e below _ T0 (mkF m 29 #[oR a, oD x, .second, oI (0 : Int32), oI (1 : Int32), oI (0 : Int32)] [])
      refine own_by (fun t_ k_ => XS.iload X0.here hx rfl (hb hby d2_29) rfl  k_) ?_
      show own_Go p e below _ T0 (mkF m 31 #[oR a, oD x, .second, oI (0 : Int32), oI (1 : Int32), oI (0 : Int32)] [(.int (0 : Int32))])
      refine own_by (fun t_ k_ => XT.iconstV X0.here hx rfl (1 : Int32) (hb hby d2_31) (by decide) k_) ?_
      show own_Go p e below _ T0 (mkF m 32 #[oR a, oD x, .second, oI (0 : Int32), oI (1 : Int32), oI (0 : Int32)] [(.int (1 : Int32)), (.int (0 : Int32))])
      refine own_by (fun t_ k_ => XS.iadd X0.here hx rfl (hb hby d2_32) rfl k_) ?_
      show own_Go p e below _ T0 (mkF m 33 #[oR a, oD x, .second, oI (0 : Int32), oI (1 : Int32), oI (0 : Int32)] [(.int ((0 : Int32) + (1 : Int32)))])
      rw [show ((0 : Int32) + (1 : Int32)) = (1 : Int32) by decide]
      show own_Go p e below _ T0 (mkF m 33 #[oR a, oD x, .second, oI (0 : Int32), oI (1 : Int32), oI (0 : Int32)] [(.int (1 : Int32))])
      refine own_by (fun t_ k_ => XS.istoreN X0.here hx rfl (hb hby d2_33) rfl (l' := #[oR a, oD x, .second, oI (1 : Int32), oI (1 : Int32), oI (0 : Int32)]) rfl k_) ?_
      show own_Go p e below _ T0 (mkF m 34 #[oR a, oD x, .second, oI (1 : Int32), oI (1 : Int32), oI (0 : Int32)] [])
      refine own_by (fun t_ k_ => XS.goto X0.here hx rfl (pc0 := 34) (pc' := 41) rfl (hb hby d2_34) (by decide) (by decide) k_) ?_
      show own_Go p e below _ T0 (mkF m 41 #[oR a, oD x, .second, oI (1 : Int32), oI (1 : Int32), oI (0 : Int32)] [])
      refine own_by (fun t_ k_ => XS.goto X0.here hx rfl (pc0 := 41) (pc' := 6) rfl (hb hby d2_41) (by decide) (by decide) k_) ?_
      show own_Go p e below _ T0 (mkF m 6 #[oR a, oD x, .second, oI (1 : Int32), oI (1 : Int32), oI (0 : Int32)] [])
      refine own_by (fun t_ k_ => XS.iloadN X0.here hx rfl (hb hby d2_6) rfl  k_) ?_
      show own_Go p e below _ T0 (mkF m 7 #[oR a, oD x, .second, oI (1 : Int32), oI (1 : Int32), oI (0 : Int32)] [(.int (1 : Int32))])
      refine own_by (fun t_ k_ => XS.iload X0.here hx rfl (hb hby d2_7) rfl  k_) ?_
      show own_Go p e below _ T0 (mkF m 9 #[oR a, oD x, .second, oI (1 : Int32), oI (1 : Int32), oI (0 : Int32)] [(.int (1 : Int32)), (.int (1 : Int32))])
      refine own_by (fun t_ k_ => XS.icmpYes X0.here hx rfl (pc0 := 9) (pc' := 44) rfl (hb hby d2_9) rfl (XT.ii_ge_t (by decide)) (by decide) (by decide) k_) ?_
      show own_Go p e below _ T0 (mkF m 44 #[oR a, oD x, .second, oI (1 : Int32), oI (1 : Int32), oI (0 : Int32)] [])
      refine own_by (fun t_ k_ => XS.iloadN X0.here hx rfl (hb hby d2_44) rfl  k_) ?_
      show own_Go p e below _ T0 (mkF m 45 #[oR a, oD x, .second, oI (1 : Int32), oI (1 : Int32), oI (0 : Int32)] [(.int (1 : Int32))])
      exact own_retI X0 hx hlk hret (hb hby d2_45) (by decide) (by decide) (⟨by rw [own_cb2, if_pos c26_0, if_neg c26_1], e0, rfl⟩)
  · refine own_by (fun t_ k_ => XS.ifNo X0.here hx rfl (hb hby d2_26) rfl (XT.i0_gt_f c26_0) k_) ?_
    show own_Go p e below _ T0 (mkF m 29 #[oR a, oD x, .second, oI (0 : Int32), oI (2 : Int32), oI (1 : Int32)] [])
    refine own_by (fun t_ k_ => XS.iload X0.here hx rfl (hb hby d2_29) rfl  k_) ?_
    show own_Go p e below _ T0 (mkF m 31 #[oR a, oD x, .second, oI (0 : Int32), oI (2 : Int32), oI (1 : Int32)] [(.int (1 : Int32))])
    refine own_by (fun t_ k_ => XT.iconstV X0.here hx rfl (1 : Int32) (hb hby d2_31) (by decide) k_) ?_
    show own_Go p e below _ T0 (mkF m 32 #[oR a, oD x, .second, oI (0 : Int32), oI (2 : Int32), oI (1 : Int32)] [(.int (1 : Int32)), (.int (1 : Int32))])
    refine own_by (fun t_ k_ => XS.iadd X0.here hx rfl (hb hby d2_32) rfl k_) ?_
    show own_Go p e below _ T0 (mkF m 33 #[oR a, oD x, .second, oI (0 : Int32), oI (2 : Int32), oI (1 : Int32)] [(.int ((1 : Int32) + (1 : Int32)))])
    rw [show ((1 : Int32) + (1 : Int32)) = (2 : Int32) by decide]
    show own_Go p e below _ T0 (mkF m 33 #[oR a, oD x, .second, oI (0 : Int32), oI (2 : Int32), oI (1 : Int32)] [(.int (2 : Int32))])
    refine own_by (fun t_ k_ => XS.istoreN X0.here hx rfl (hb hby d2_33) rfl (l' := #[oR a, oD x, .second, oI (2 : Int32), oI (2 : Int32), oI (1 : Int32)]) rfl k_) ?_
    show own_Go p e below _ T0 (mkF m 34 #[oR a, oD x, .second, oI (2 : Int32), oI (2 : Int32), oI (1 : Int32)] [])
    refine own_by (fun t_ k_ => XS.goto X0.here hx rfl (pc0 := 34) (pc' := 41) rfl (hb hby d2_34) (by decide) (by decide) k_) ?_
    show own_Go p e below _ T0 (mkF m 41 #[oR a, oD x, .second, oI (2 : Int32), oI (2 : Int32), oI (1 : Int32)] [])
    refine own_by (fun t_ k_ => XS.goto X0.here hx rfl (pc0 := 41) (pc' := 6) rfl (hb hby d2_41) (by decide) (by decide) k_) ?_
    show own_Go p e below _ T0 (mkF m 6 #[oR a, oD x, .second, oI (2 : Int32), oI (2 : Int32), oI (1 : Int32)] [])
    refine own_by (fun t_ k_ => XS.iloadN X0.here hx rfl (hb hby d2_6) rfl  k_) ?_
    show own_Go p e below _ T0 (mkF m 7 #[oR a, oD x, .second, oI (2 : Int32), oI (2 : Int32), oI (1 : Int32)] [(.int (2 : Int32))])
    refine own_by (fun t_ k_ => XS.iload X0.here hx rfl (hb hby d2_7) rfl  k_) ?_
    show own_Go p e below _ T0 (mkF m 9 #[oR a, oD x, .second, oI (2 : Int32), oI (2 : Int32), oI (1 : Int32)] [(.int (2 : Int32)), (.int (2 : Int32))])
    refine own_by (fun t_ k_ => XS.icmpYes X0.here hx rfl (pc0 := 9) (pc' := 44) rfl (hb hby d2_9) rfl (XT.ii_ge_t (by decide)) (by decide) (by decide) k_) ?_
    show own_Go p e below _ T0 (mkF m 44 #[oR a, oD x, .second, oI (2 : Int32), oI (2 : Int32), oI (1 : Int32)] [])
    refine own_by (fun t_ k_ => XS.iloadN X0.here hx rfl (hb hby d2_44) rfl  k_) ?_
    show own_Go p e below _ T0 (mkF m 45 #[oR a, oD x, .second, oI (2 : Int32), oI (2 : Int32), oI (1 : Int32)] [(.int (2 : Int32))])
    exact own_retI X0 hx hlk hret (hb hby d2_45) (by decide) (by decide) (⟨by rw [own_cb2, if_neg c26_0], e0, rfl⟩)
def own_cb3 (a : Addr) (x : UInt64) (kA : ClassId) (d0 d1 d2 : UInt64) : Int32 := (if (0 : Int32) < (cmpValue (FP.dcmp d1 x) .g) then (if (0 : Int32) < (cmpValue (FP.dcmp d0 x) .g) then (0 : Int32) else (1 : Int32)) else (if (0 : Int32) < (cmpValue (FP.dcmp d2 x) .g) then (2 : Int32) else (3 : Int32)))
set_option maxRecDepth 65536 in
set_option maxHeartbeats 40000000 in
theorem own_cb3_met (l : Launch) (Z : State) (a0 : Array Value) (hw : ∀ d ∈ tables_1, d.before a0 Z = true) (a : Addr) (x : UInt64) (kA : ClassId) (d0 d1 d2 : UInt64) (h0 : Heap) (V : own_A Z h0 a .double kA [(.double d0), (.double d1), (.double d2)]) :
    own_Met l (⟨"com/example/biclique/biclique/draw/Ascending", "countAtMost", "([DD)I"⟩ : MethodName) prog_41_method_3_code 6 (some .int) [] ({ frames := 0, cells := 0, slots := 0, locals := 0 } : Room) Z #[(.ref a), (.double x)] h0 (fun rv rh rL => rv = some (.int (own_cb3 a x kA d0 d1 d2)) ∧ rh = h0 ∧ rL = []) := by
  refine own_enter (plainFor_of_name pn_1) ?_
  intro p e s m below meth c T0 hx hby hml hret hlk hown hnm hZ X0 e0
  refine own_at (g' := (mkF m 0 #[oR a, oD x, .second, .unset, .unset, .unset] [])) (by first | (simp [entryFrame, mkF, argsToLocals, Value.category]; done) | rfl) ?_
  show own_Go p e below _ T0 (mkF m 0 #[oR a, oD x, .second, .unset, .unset, .unset] [])
  refine own_by (fun t_ k_ => XT.iconstV X0.here hx rfl (0 : Int32) (hb hby d2_0) (by decide) k_) ?_
  show own_Go p e below _ T0 (mkF m 1 #[oR a, oD x, .second, .unset, .unset, .unset] [(.int (0 : Int32))])
  refine own_by (fun t_ k_ => XS.istoreN X0.here hx rfl (hb hby d2_1) rfl (l' := #[oR a, oD x, .second, oI (0 : Int32), .unset, .unset]) rfl k_) ?_
  show own_Go p e below _ T0 (mkF m 2 #[oR a, oD x, .second, oI (0 : Int32), .unset, .unset] [])
  refine own_by (fun t_ k_ => XS.aloadN X0.here hx rfl (hb hby d2_2) rfl rfl  k_) ?_
  show own_Go p e below _ T0 (mkF m 3 #[oR a, oD x, .second, oI (0 : Int32), .unset, .unset] [(.ref a)])
  refine own_len X0 hx hZ e0 V (3 : Int32) rfl (hb hby d2_3) ?_
  show own_Go p e below _ T0 (mkF m 4 #[oR a, oD x, .second, oI (0 : Int32), .unset, .unset] [(.int (3 : Int32))])
  refine own_by (fun t_ k_ => XS.istore X0.here hx rfl (hb hby d2_4) rfl (l' := #[oR a, oD x, .second, oI (0 : Int32), oI (3 : Int32), .unset]) rfl k_) ?_
  show own_Go p e below _ T0 (mkF m 6 #[oR a, oD x, .second, oI (0 : Int32), oI (3 : Int32), .unset] [])
  refine own_by (fun t_ k_ => XS.iloadN X0.here hx rfl (hb hby d2_6) rfl  k_) ?_
  show own_Go p e below _ T0 (mkF m 7 #[oR a, oD x, .second, oI (0 : Int32), oI (3 : Int32), .unset] [(.int (0 : Int32))])
  refine own_by (fun t_ k_ => XS.iload X0.here hx rfl (hb hby d2_7) rfl  k_) ?_
  show own_Go p e below _ T0 (mkF m 9 #[oR a, oD x, .second, oI (0 : Int32), oI (3 : Int32), .unset] [(.int (3 : Int32)), (.int (0 : Int32))])
  refine own_by (fun t_ k_ => XS.icmpNo X0.here hx rfl (hb hby d2_9) rfl (XT.ii_ge_f (by decide)) k_) ?_
  show own_Go p e below _ T0 (mkF m 12 #[oR a, oD x, .second, oI (0 : Int32), oI (3 : Int32), .unset] [])
  refine own_by (fun t_ k_ => XS.iloadN X0.here hx rfl (hb hby d2_12) rfl  k_) ?_
  show own_Go p e below _ T0 (mkF m 13 #[oR a, oD x, .second, oI (0 : Int32), oI (3 : Int32), .unset] [(.int (0 : Int32))])
  refine own_by (fun t_ k_ => XS.iload X0.here hx rfl (hb hby d2_13) rfl  k_) ?_
  show own_Go p e below _ T0 (mkF m 15 #[oR a, oD x, .second, oI (0 : Int32), oI (3 : Int32), .unset] [(.int (3 : Int32)), (.int (0 : Int32))])
  refine own_by (fun t_ k_ => XS.iadd X0.here hx rfl (hb hby d2_15) rfl k_) ?_
  show own_Go p e below _ T0 (mkF m 16 #[oR a, oD x, .second, oI (0 : Int32), oI (3 : Int32), .unset] [(.int ((0 : Int32) + (3 : Int32)))])
  rw [show ((0 : Int32) + (3 : Int32)) = (3 : Int32) by decide]
  show own_Go p e below _ T0 (mkF m 16 #[oR a, oD x, .second, oI (0 : Int32), oI (3 : Int32), .unset] [(.int (3 : Int32))])
  refine own_by (fun t_ k_ => XT.iconstV X0.here hx rfl (1 : Int32) (hb hby d2_16) (by decide) k_) ?_
  show own_Go p e below _ T0 (mkF m 17 #[oR a, oD x, .second, oI (0 : Int32), oI (3 : Int32), .unset] [(.int (1 : Int32)), (.int (3 : Int32))])
  refine own_by (fun t_ k_ => XT.iushr X0.here hx rfl (hb hby d2_17) rfl k_) ?_
  show own_Go p e below _ T0 (mkF m 18 #[oR a, oD x, .second, oI (0 : Int32), oI (3 : Int32), .unset] [(.int (((3 : Int32).toUInt32 >>> ((1 : Int32) &&& 31).toUInt32).toInt32))])
  rw [show (((3 : Int32).toUInt32 >>> ((1 : Int32) &&& 31).toUInt32).toInt32) = (1 : Int32) by decide]
  show own_Go p e below _ T0 (mkF m 18 #[oR a, oD x, .second, oI (0 : Int32), oI (3 : Int32), .unset] [(.int (1 : Int32))])
  refine own_by (fun t_ k_ => XS.istore X0.here hx rfl (hb hby d2_18) rfl (l' := #[oR a, oD x, .second, oI (0 : Int32), oI (3 : Int32), oI (1 : Int32)]) rfl k_) ?_
  show own_Go p e below _ T0 (mkF m 20 #[oR a, oD x, .second, oI (0 : Int32), oI (3 : Int32), oI (1 : Int32)] [])
  refine own_by (fun t_ k_ => XS.aloadN X0.here hx rfl (hb hby d2_20) rfl rfl  k_) ?_
  show own_Go p e below _ T0 (mkF m 21 #[oR a, oD x, .second, oI (0 : Int32), oI (3 : Int32), oI (1 : Int32)] [(.ref a)])
  refine own_by (fun t_ k_ => XS.iload X0.here hx rfl (hb hby d2_21) rfl  k_) ?_
  show own_Go p e below _ T0 (mkF m 23 #[oR a, oD x, .second, oI (0 : Int32), oI (3 : Int32), oI (1 : Int32)] [(.int (1 : Int32)), (.ref a)])
  refine own_ldD X0 hx hZ e0 V 1 (by decide) (by decide) (v := (.double d1)) rfl (hb hby d2_23) ?_
  show own_Go p e below _ T0 (mkF m 24 #[oR a, oD x, .second, oI (0 : Int32), oI (3 : Int32), oI (1 : Int32)] [(.double d1)])
  refine own_by (fun t_ k_ => XS.dloadN X0.here hx rfl (hb hby d2_24) rfl  k_) ?_
  show own_Go p e below _ T0 (mkF m 25 #[oR a, oD x, .second, oI (0 : Int32), oI (3 : Int32), oI (1 : Int32)] [(.double x), (.double d1)])
  refine own_by (fun t_ k_ => XS.dcmpS X0.here hx rfl (hb hby d2_25) rfl rfl k_) ?_
  show own_Go p e below _ T0 (mkF m 26 #[oR a, oD x, .second, oI (0 : Int32), oI (3 : Int32), oI (1 : Int32)] [(.int (cmpValue (FP.dcmp d1 x) .g))])
  by_cases c26_0 : (0 : Int32) < (cmpValue (FP.dcmp d1 x) .g)
  · refine own_by (fun t_ k_ => XS.ifYes X0.here hx rfl (pc0 := 26) (pc' := 37) rfl (hb hby d2_26) rfl (XT.i0_gt_t c26_0) (by decide) (by decide) k_) ?_
    show own_Go p e below _ T0 (mkF m 37 #[oR a, oD x, .second, oI (0 : Int32), oI (3 : Int32), oI (1 : Int32)] [])
    refine own_by (fun t_ k_ => XS.iload X0.here hx rfl (hb hby d2_37) rfl  k_) ?_
    show own_Go p e below _ T0 (mkF m 39 #[oR a, oD x, .second, oI (0 : Int32), oI (3 : Int32), oI (1 : Int32)] [(.int (1 : Int32))])
    refine own_by (fun t_ k_ => XS.istore X0.here hx rfl (hb hby d2_39) rfl (l' := #[oR a, oD x, .second, oI (0 : Int32), oI (1 : Int32), oI (1 : Int32)]) rfl k_) ?_
    show own_Go p e below _ T0 (mkF m 41 #[oR a, oD x, .second, oI (0 : Int32), oI (1 : Int32), oI (1 : Int32)] [])
    refine own_by (fun t_ k_ => XS.goto X0.here hx rfl (pc0 := 41) (pc' := 6) rfl (hb hby d2_41) (by decide) (by decide) k_) ?_
    show own_Go p e below _ T0 (mkF m 6 #[oR a, oD x, .second, oI (0 : Int32), oI (1 : Int32), oI (1 : Int32)] [])
    refine own_by (fun t_ k_ => XS.iloadN X0.here hx rfl (hb hby d2_6) rfl  k_) ?_
    show own_Go p e below _ T0 (mkF m 7 #[oR a, oD x, .second, oI (0 : Int32), oI (1 : Int32), oI (1 : Int32)] [(.int (0 : Int32))])
    refine own_by (fun t_ k_ => XS.iload X0.here hx rfl (hb hby d2_7) rfl  k_) ?_
    show own_Go p e below _ T0 (mkF m 9 #[oR a, oD x, .second, oI (0 : Int32), oI (1 : Int32), oI (1 : Int32)] [(.int (1 : Int32)), (.int (0 : Int32))])
    refine own_by (fun t_ k_ => XS.icmpNo X0.here hx rfl (hb hby d2_9) rfl (XT.ii_ge_f (by decide)) k_) ?_
    show own_Go p e below _ T0 (mkF m 12 #[oR a, oD x, .second, oI (0 : Int32), oI (1 : Int32), oI (1 : Int32)] [])
    refine own_by (fun t_ k_ => XS.iloadN X0.here hx rfl (hb hby d2_12) rfl  k_) ?_
    show own_Go p e below _ T0 (mkF m 13 #[oR a, oD x, .second, oI (0 : Int32), oI (1 : Int32), oI (1 : Int32)] [(.int (0 : Int32))])
    refine own_by (fun t_ k_ => XS.iload X0.here hx rfl (hb hby d2_13) rfl  k_) ?_
    show own_Go p e below _ T0 (mkF m 15 #[oR a, oD x, .second, oI (0 : Int32), oI (1 : Int32), oI (1 : Int32)] [(.int (1 : Int32)), (.int (0 : Int32))])
    refine own_by (fun t_ k_ => XS.iadd X0.here hx rfl (hb hby d2_15) rfl k_) ?_
    show own_Go p e below _ T0 (mkF m 16 #[oR a, oD x, .second, oI (0 : Int32), oI (1 : Int32), oI (1 : Int32)] [(.int ((0 : Int32) + (1 : Int32)))])
    rw [show ((0 : Int32) + (1 : Int32)) = (1 : Int32) by decide]
    show own_Go p e below _ T0 (mkF m 16 #[oR a, oD x, .second, oI (0 : Int32), oI (1 : Int32), oI (1 : Int32)] [(.int (1 : Int32))])
    refine own_by (fun t_ k_ => XT.iconstV X0.here hx rfl (1 : Int32) (hb hby d2_16) (by decide) k_) ?_
    show own_Go p e below _ T0 (mkF m 17 #[oR a, oD x, .second, oI (0 : Int32), oI (1 : Int32), oI (1 : Int32)] [(.int (1 : Int32)), (.int (1 : Int32))])
    refine own_by (fun t_ k_ => XT.iushr X0.here hx rfl (hb hby d2_17) rfl k_) ?_
    show own_Go p e below _ T0 (mkF m 18 #[oR a, oD x, .second, oI (0 : Int32), oI (1 : Int32), oI (1 : Int32)] [(.int (((1 : Int32).toUInt32 >>> ((1 : Int32) &&& 31).toUInt32).toInt32))])
    rw [show (((1 : Int32).toUInt32 >>> ((1 : Int32) &&& 31).toUInt32).toInt32) = (0 : Int32) by decide]
    show own_Go p e below _ T0 (mkF m 18 #[oR a, oD x, .second, oI (0 : Int32), oI (1 : Int32), oI (1 : Int32)] [(.int (0 : Int32))])
    refine own_by (fun t_ k_ => XS.istore X0.here hx rfl (hb hby d2_18) rfl (l' := #[oR a, oD x, .second, oI (0 : Int32), oI (1 : Int32), oI (0 : Int32)]) rfl k_) ?_
    show own_Go p e below _ T0 (mkF m 20 #[oR a, oD x, .second, oI (0 : Int32), oI (1 : Int32), oI (0 : Int32)] [])
    refine own_by (fun t_ k_ => XS.aloadN X0.here hx rfl (hb hby d2_20) rfl rfl  k_) ?_
    show own_Go p e below _ T0 (mkF m 21 #[oR a, oD x, .second, oI (0 : Int32), oI (1 : Int32), oI (0 : Int32)] [(.ref a)])
    refine own_by (fun t_ k_ => XS.iload X0.here hx rfl (hb hby d2_21) rfl  k_) ?_
    show own_Go p e below _ T0 (mkF m 23 #[oR a, oD x, .second, oI (0 : Int32), oI (1 : Int32), oI (0 : Int32)] [(.int (0 : Int32)), (.ref a)])
    refine own_ldD X0 hx hZ e0 V 0 (by decide) (by decide) (v := (.double d0)) rfl (hb hby d2_23) ?_
    show own_Go p e below _ T0 (mkF m 24 #[oR a, oD x, .second, oI (0 : Int32), oI (1 : Int32), oI (0 : Int32)] [(.double d0)])
    refine own_by (fun t_ k_ => XS.dloadN X0.here hx rfl (hb hby d2_24) rfl  k_) ?_
    show own_Go p e below _ T0 (mkF m 25 #[oR a, oD x, .second, oI (0 : Int32), oI (1 : Int32), oI (0 : Int32)] [(.double x), (.double d0)])
    refine own_by (fun t_ k_ => XS.dcmpS X0.here hx rfl (hb hby d2_25) rfl rfl k_) ?_
    show own_Go p e below _ T0 (mkF m 26 #[oR a, oD x, .second, oI (0 : Int32), oI (1 : Int32), oI (0 : Int32)] [(.int (cmpValue (FP.dcmp d0 x) .g))])
    by_cases c26_1 : (0 : Int32) < (cmpValue (FP.dcmp d0 x) .g)
    · refine own_by (fun t_ k_ => XS.ifYes X0.here hx rfl (pc0 := 26) (pc' := 37) rfl (hb hby d2_26) rfl (XT.i0_gt_t c26_1) (by decide) (by decide) k_) ?_
      show own_Go p e below _ T0 (mkF m 37 #[oR a, oD x, .second, oI (0 : Int32), oI (1 : Int32), oI (0 : Int32)] [])
      refine own_by (fun t_ k_ => XS.iload X0.here hx rfl (hb hby d2_37) rfl  k_) ?_
      show own_Go p e below _ T0 (mkF m 39 #[oR a, oD x, .second, oI (0 : Int32), oI (1 : Int32), oI (0 : Int32)] [(.int (0 : Int32))])
      refine own_by (fun t_ k_ => XS.istore X0.here hx rfl (hb hby d2_39) rfl (l' := #[oR a, oD x, .second, oI (0 : Int32), oI (0 : Int32), oI (0 : Int32)]) rfl k_) ?_
      show own_Go p e below _ T0 (mkF m 41 #[oR a, oD x, .second, oI (0 : Int32), oI (0 : Int32), oI (0 : Int32)] [])
      refine own_by (fun t_ k_ => XS.goto X0.here hx rfl (pc0 := 41) (pc' := 6) rfl (hb hby d2_41) (by decide) (by decide) k_) ?_
      show own_Go p e below _ T0 (mkF m 6 #[oR a, oD x, .second, oI (0 : Int32), oI (0 : Int32), oI (0 : Int32)] [])
      refine own_by (fun t_ k_ => XS.iloadN X0.here hx rfl (hb hby d2_6) rfl  k_) ?_
      show own_Go p e below _ T0 (mkF m 7 #[oR a, oD x, .second, oI (0 : Int32), oI (0 : Int32), oI (0 : Int32)] [(.int (0 : Int32))])
      refine own_by (fun t_ k_ => XS.iload X0.here hx rfl (hb hby d2_7) rfl  k_) ?_
      show own_Go p e below _ T0 (mkF m 9 #[oR a, oD x, .second, oI (0 : Int32), oI (0 : Int32), oI (0 : Int32)] [(.int (0 : Int32)), (.int (0 : Int32))])
      refine own_by (fun t_ k_ => XS.icmpYes X0.here hx rfl (pc0 := 9) (pc' := 44) rfl (hb hby d2_9) rfl (XT.ii_ge_t (by decide)) (by decide) (by decide) k_) ?_
      show own_Go p e below _ T0 (mkF m 44 #[oR a, oD x, .second, oI (0 : Int32), oI (0 : Int32), oI (0 : Int32)] [])
      refine own_by (fun t_ k_ => XS.iloadN X0.here hx rfl (hb hby d2_44) rfl  k_) ?_
      show own_Go p e below _ T0 (mkF m 45 #[oR a, oD x, .second, oI (0 : Int32), oI (0 : Int32), oI (0 : Int32)] [(.int (0 : Int32))])
      exact own_retI X0 hx hlk hret (hb hby d2_45) (by decide) (by decide) (⟨by rw [own_cb3, if_pos c26_0, if_pos c26_1], e0, rfl⟩)
    · refine own_by (fun t_ k_ => XS.ifNo X0.here hx rfl (hb hby d2_26) rfl (XT.i0_gt_f c26_1) k_) ?_
      show own_Go p e below _ T0 (mkF m 29 #[oR a, oD x, .second, oI (0 : Int32), oI (1 : Int32), oI (0 : Int32)] [])
      refine own_by (fun t_ k_ => XS.iload X0.here hx rfl (hb hby d2_29) rfl  k_) ?_
      show own_Go p e below _ T0 (mkF m 31 #[oR a, oD x, .second, oI (0 : Int32), oI (1 : Int32), oI (0 : Int32)] [(.int (0 : Int32))])
      refine own_by (fun t_ k_ => XT.iconstV X0.here hx rfl (1 : Int32) (hb hby d2_31) (by decide) k_) ?_
      show own_Go p e below _ T0 (mkF m 32 #[oR a, oD x, .second, oI (0 : Int32), oI (1 : Int32), oI (0 : Int32)] [(.int (1 : Int32)), (.int (0 : Int32))])
      refine own_by (fun t_ k_ => XS.iadd X0.here hx rfl (hb hby d2_32) rfl k_) ?_
      show own_Go p e below _ T0 (mkF m 33 #[oR a, oD x, .second, oI (0 : Int32), oI (1 : Int32), oI (0 : Int32)] [(.int ((0 : Int32) + (1 : Int32)))])
      rw [show ((0 : Int32) + (1 : Int32)) = (1 : Int32) by decide]
      show own_Go p e below _ T0 (mkF m 33 #[oR a, oD x, .second, oI (0 : Int32), oI (1 : Int32), oI (0 : Int32)] [(.int (1 : Int32))])
      refine own_by (fun t_ k_ => XS.istoreN X0.here hx rfl (hb hby d2_33) rfl (l' := #[oR a, oD x, .second, oI (1 : Int32), oI (1 : Int32), oI (0 : Int32)]) rfl k_) ?_
      show own_Go p e below _ T0 (mkF m 34 #[oR a, oD x, .second, oI (1 : Int32), oI (1 : Int32), oI (0 : Int32)] [])
      refine own_by (fun t_ k_ => XS.goto X0.here hx rfl (pc0 := 34) (pc' := 41) rfl (hb hby d2_34) (by decide) (by decide) k_) ?_
      show own_Go p e below _ T0 (mkF m 41 #[oR a, oD x, .second, oI (1 : Int32), oI (1 : Int32), oI (0 : Int32)] [])
      refine own_by (fun t_ k_ => XS.goto X0.here hx rfl (pc0 := 41) (pc' := 6) rfl (hb hby d2_41) (by decide) (by decide) k_) ?_
      show own_Go p e below _ T0 (mkF m 6 #[oR a, oD x, .second, oI (1 : Int32), oI (1 : Int32), oI (0 : Int32)] [])
      refine own_by (fun t_ k_ => XS.iloadN X0.here hx rfl (hb hby d2_6) rfl  k_) ?_
      show own_Go p e below _ T0 (mkF m 7 #[oR a, oD x, .second, oI (1 : Int32), oI (1 : Int32), oI (0 : Int32)] [(.int (1 : Int32))])
      refine own_by (fun t_ k_ => XS.iload X0.here hx rfl (hb hby d2_7) rfl  k_) ?_
      show own_Go p e below _ T0 (mkF m 9 #[oR a, oD x, .second, oI (1 : Int32), oI (1 : Int32), oI (0 : Int32)] [(.int (1 : Int32)), (.int (1 : Int32))])
      refine own_by (fun t_ k_ => XS.icmpYes X0.here hx rfl (pc0 := 9) (pc' := 44) rfl (hb hby d2_9) rfl (XT.ii_ge_t (by decide)) (by decide) (by decide) k_) ?_
      show own_Go p e below _ T0 (mkF m 44 #[oR a, oD x, .second, oI (1 : Int32), oI (1 : Int32), oI (0 : Int32)] [])
      refine own_by (fun t_ k_ => XS.iloadN X0.here hx rfl (hb hby d2_44) rfl  k_) ?_
      show own_Go p e below _ T0 (mkF m 45 #[oR a, oD x, .second, oI (1 : Int32), oI (1 : Int32), oI (0 : Int32)] [(.int (1 : Int32))])
      exact own_retI X0 hx hlk hret (hb hby d2_45) (by decide) (by decide) (⟨by rw [own_cb3, if_pos c26_0, if_neg c26_1], e0, rfl⟩)
  · refine own_by (fun t_ k_ => XS.ifNo X0.here hx rfl (hb hby d2_26) rfl (XT.i0_gt_f c26_0) k_) ?_
    show own_Go p e below _ T0 (mkF m 29 #[oR a, oD x, .second, oI (0 : Int32), oI (3 : Int32), oI (1 : Int32)] [])
    refine own_by (fun t_ k_ => XS.iload X0.here hx rfl (hb hby d2_29) rfl  k_) ?_
    show own_Go p e below _ T0 (mkF m 31 #[oR a, oD x, .second, oI (0 : Int32), oI (3 : Int32), oI (1 : Int32)] [(.int (1 : Int32))])
    refine own_by (fun t_ k_ => XT.iconstV X0.here hx rfl (1 : Int32) (hb hby d2_31) (by decide) k_) ?_
    show own_Go p e below _ T0 (mkF m 32 #[oR a, oD x, .second, oI (0 : Int32), oI (3 : Int32), oI (1 : Int32)] [(.int (1 : Int32)), (.int (1 : Int32))])
    refine own_by (fun t_ k_ => XS.iadd X0.here hx rfl (hb hby d2_32) rfl k_) ?_
    show own_Go p e below _ T0 (mkF m 33 #[oR a, oD x, .second, oI (0 : Int32), oI (3 : Int32), oI (1 : Int32)] [(.int ((1 : Int32) + (1 : Int32)))])
    rw [show ((1 : Int32) + (1 : Int32)) = (2 : Int32) by decide]
    show own_Go p e below _ T0 (mkF m 33 #[oR a, oD x, .second, oI (0 : Int32), oI (3 : Int32), oI (1 : Int32)] [(.int (2 : Int32))])
    refine own_by (fun t_ k_ => XS.istoreN X0.here hx rfl (hb hby d2_33) rfl (l' := #[oR a, oD x, .second, oI (2 : Int32), oI (3 : Int32), oI (1 : Int32)]) rfl k_) ?_
    show own_Go p e below _ T0 (mkF m 34 #[oR a, oD x, .second, oI (2 : Int32), oI (3 : Int32), oI (1 : Int32)] [])
    refine own_by (fun t_ k_ => XS.goto X0.here hx rfl (pc0 := 34) (pc' := 41) rfl (hb hby d2_34) (by decide) (by decide) k_) ?_
    show own_Go p e below _ T0 (mkF m 41 #[oR a, oD x, .second, oI (2 : Int32), oI (3 : Int32), oI (1 : Int32)] [])
    refine own_by (fun t_ k_ => XS.goto X0.here hx rfl (pc0 := 41) (pc' := 6) rfl (hb hby d2_41) (by decide) (by decide) k_) ?_
    show own_Go p e below _ T0 (mkF m 6 #[oR a, oD x, .second, oI (2 : Int32), oI (3 : Int32), oI (1 : Int32)] [])
    refine own_by (fun t_ k_ => XS.iloadN X0.here hx rfl (hb hby d2_6) rfl  k_) ?_
    show own_Go p e below _ T0 (mkF m 7 #[oR a, oD x, .second, oI (2 : Int32), oI (3 : Int32), oI (1 : Int32)] [(.int (2 : Int32))])
    refine own_by (fun t_ k_ => XS.iload X0.here hx rfl (hb hby d2_7) rfl  k_) ?_
    show own_Go p e below _ T0 (mkF m 9 #[oR a, oD x, .second, oI (2 : Int32), oI (3 : Int32), oI (1 : Int32)] [(.int (3 : Int32)), (.int (2 : Int32))])
    refine own_by (fun t_ k_ => XS.icmpNo X0.here hx rfl (hb hby d2_9) rfl (XT.ii_ge_f (by decide)) k_) ?_
    show own_Go p e below _ T0 (mkF m 12 #[oR a, oD x, .second, oI (2 : Int32), oI (3 : Int32), oI (1 : Int32)] [])
    refine own_by (fun t_ k_ => XS.iloadN X0.here hx rfl (hb hby d2_12) rfl  k_) ?_
    show own_Go p e below _ T0 (mkF m 13 #[oR a, oD x, .second, oI (2 : Int32), oI (3 : Int32), oI (1 : Int32)] [(.int (2 : Int32))])
    refine own_by (fun t_ k_ => XS.iload X0.here hx rfl (hb hby d2_13) rfl  k_) ?_
    show own_Go p e below _ T0 (mkF m 15 #[oR a, oD x, .second, oI (2 : Int32), oI (3 : Int32), oI (1 : Int32)] [(.int (3 : Int32)), (.int (2 : Int32))])
    refine own_by (fun t_ k_ => XS.iadd X0.here hx rfl (hb hby d2_15) rfl k_) ?_
    show own_Go p e below _ T0 (mkF m 16 #[oR a, oD x, .second, oI (2 : Int32), oI (3 : Int32), oI (1 : Int32)] [(.int ((2 : Int32) + (3 : Int32)))])
    rw [show ((2 : Int32) + (3 : Int32)) = (5 : Int32) by decide]
    show own_Go p e below _ T0 (mkF m 16 #[oR a, oD x, .second, oI (2 : Int32), oI (3 : Int32), oI (1 : Int32)] [(.int (5 : Int32))])
    refine own_by (fun t_ k_ => XT.iconstV X0.here hx rfl (1 : Int32) (hb hby d2_16) (by decide) k_) ?_
    show own_Go p e below _ T0 (mkF m 17 #[oR a, oD x, .second, oI (2 : Int32), oI (3 : Int32), oI (1 : Int32)] [(.int (1 : Int32)), (.int (5 : Int32))])
    refine own_by (fun t_ k_ => XT.iushr X0.here hx rfl (hb hby d2_17) rfl k_) ?_
    show own_Go p e below _ T0 (mkF m 18 #[oR a, oD x, .second, oI (2 : Int32), oI (3 : Int32), oI (1 : Int32)] [(.int (((5 : Int32).toUInt32 >>> ((1 : Int32) &&& 31).toUInt32).toInt32))])
    rw [show (((5 : Int32).toUInt32 >>> ((1 : Int32) &&& 31).toUInt32).toInt32) = (2 : Int32) by decide]
    show own_Go p e below _ T0 (mkF m 18 #[oR a, oD x, .second, oI (2 : Int32), oI (3 : Int32), oI (1 : Int32)] [(.int (2 : Int32))])
    refine own_by (fun t_ k_ => XS.istore X0.here hx rfl (hb hby d2_18) rfl (l' := #[oR a, oD x, .second, oI (2 : Int32), oI (3 : Int32), oI (2 : Int32)]) rfl k_) ?_
    show own_Go p e below _ T0 (mkF m 20 #[oR a, oD x, .second, oI (2 : Int32), oI (3 : Int32), oI (2 : Int32)] [])
    refine own_by (fun t_ k_ => XS.aloadN X0.here hx rfl (hb hby d2_20) rfl rfl  k_) ?_
    show own_Go p e below _ T0 (mkF m 21 #[oR a, oD x, .second, oI (2 : Int32), oI (3 : Int32), oI (2 : Int32)] [(.ref a)])
    refine own_by (fun t_ k_ => XS.iload X0.here hx rfl (hb hby d2_21) rfl  k_) ?_
    show own_Go p e below _ T0 (mkF m 23 #[oR a, oD x, .second, oI (2 : Int32), oI (3 : Int32), oI (2 : Int32)] [(.int (2 : Int32)), (.ref a)])
    refine own_ldD X0 hx hZ e0 V 2 (by decide) (by decide) (v := (.double d2)) rfl (hb hby d2_23) ?_
    show own_Go p e below _ T0 (mkF m 24 #[oR a, oD x, .second, oI (2 : Int32), oI (3 : Int32), oI (2 : Int32)] [(.double d2)])
    refine own_by (fun t_ k_ => XS.dloadN X0.here hx rfl (hb hby d2_24) rfl  k_) ?_
    show own_Go p e below _ T0 (mkF m 25 #[oR a, oD x, .second, oI (2 : Int32), oI (3 : Int32), oI (2 : Int32)] [(.double x), (.double d2)])
    refine own_by (fun t_ k_ => XS.dcmpS X0.here hx rfl (hb hby d2_25) rfl rfl k_) ?_
    show own_Go p e below _ T0 (mkF m 26 #[oR a, oD x, .second, oI (2 : Int32), oI (3 : Int32), oI (2 : Int32)] [(.int (cmpValue (FP.dcmp d2 x) .g))])
    by_cases c26_2 : (0 : Int32) < (cmpValue (FP.dcmp d2 x) .g)
    · refine own_by (fun t_ k_ => XS.ifYes X0.here hx rfl (pc0 := 26) (pc' := 37) rfl (hb hby d2_26) rfl (XT.i0_gt_t c26_2) (by decide) (by decide) k_) ?_
      show own_Go p e below _ T0 (mkF m 37 #[oR a, oD x, .second, oI (2 : Int32), oI (3 : Int32), oI (2 : Int32)] [])
      refine own_by (fun t_ k_ => XS.iload X0.here hx rfl (hb hby d2_37) rfl  k_) ?_
      show own_Go p e below _ T0 (mkF m 39 #[oR a, oD x, .second, oI (2 : Int32), oI (3 : Int32), oI (2 : Int32)] [(.int (2 : Int32))])
      refine own_by (fun t_ k_ => XS.istore X0.here hx rfl (hb hby d2_39) rfl (l' := #[oR a, oD x, .second, oI (2 : Int32), oI (2 : Int32), oI (2 : Int32)]) rfl k_) ?_
      show own_Go p e below _ T0 (mkF m 41 #[oR a, oD x, .second, oI (2 : Int32), oI (2 : Int32), oI (2 : Int32)] [])
      refine own_by (fun t_ k_ => XS.goto X0.here hx rfl (pc0 := 41) (pc' := 6) rfl (hb hby d2_41) (by decide) (by decide) k_) ?_
      show own_Go p e below _ T0 (mkF m 6 #[oR a, oD x, .second, oI (2 : Int32), oI (2 : Int32), oI (2 : Int32)] [])
      refine own_by (fun t_ k_ => XS.iloadN X0.here hx rfl (hb hby d2_6) rfl  k_) ?_
      show own_Go p e below _ T0 (mkF m 7 #[oR a, oD x, .second, oI (2 : Int32), oI (2 : Int32), oI (2 : Int32)] [(.int (2 : Int32))])
      refine own_by (fun t_ k_ => XS.iload X0.here hx rfl (hb hby d2_7) rfl  k_) ?_
      show own_Go p e below _ T0 (mkF m 9 #[oR a, oD x, .second, oI (2 : Int32), oI (2 : Int32), oI (2 : Int32)] [(.int (2 : Int32)), (.int (2 : Int32))])
      refine own_by (fun t_ k_ => XS.icmpYes X0.here hx rfl (pc0 := 9) (pc' := 44) rfl (hb hby d2_9) rfl (XT.ii_ge_t (by decide)) (by decide) (by decide) k_) ?_
      show own_Go p e below _ T0 (mkF m 44 #[oR a, oD x, .second, oI (2 : Int32), oI (2 : Int32), oI (2 : Int32)] [])
      refine own_by (fun t_ k_ => XS.iloadN X0.here hx rfl (hb hby d2_44) rfl  k_) ?_
      show own_Go p e below _ T0 (mkF m 45 #[oR a, oD x, .second, oI (2 : Int32), oI (2 : Int32), oI (2 : Int32)] [(.int (2 : Int32))])
      exact own_retI X0 hx hlk hret (hb hby d2_45) (by decide) (by decide) (⟨by rw [own_cb3, if_neg c26_0, if_pos c26_2], e0, rfl⟩)
    · refine own_by (fun t_ k_ => XS.ifNo X0.here hx rfl (hb hby d2_26) rfl (XT.i0_gt_f c26_2) k_) ?_
      show own_Go p e below _ T0 (mkF m 29 #[oR a, oD x, .second, oI (2 : Int32), oI (3 : Int32), oI (2 : Int32)] [])
      refine own_by (fun t_ k_ => XS.iload X0.here hx rfl (hb hby d2_29) rfl  k_) ?_
      show own_Go p e below _ T0 (mkF m 31 #[oR a, oD x, .second, oI (2 : Int32), oI (3 : Int32), oI (2 : Int32)] [(.int (2 : Int32))])
      refine own_by (fun t_ k_ => XT.iconstV X0.here hx rfl (1 : Int32) (hb hby d2_31) (by decide) k_) ?_
      show own_Go p e below _ T0 (mkF m 32 #[oR a, oD x, .second, oI (2 : Int32), oI (3 : Int32), oI (2 : Int32)] [(.int (1 : Int32)), (.int (2 : Int32))])
      refine own_by (fun t_ k_ => XS.iadd X0.here hx rfl (hb hby d2_32) rfl k_) ?_
      show own_Go p e below _ T0 (mkF m 33 #[oR a, oD x, .second, oI (2 : Int32), oI (3 : Int32), oI (2 : Int32)] [(.int ((2 : Int32) + (1 : Int32)))])
      rw [show ((2 : Int32) + (1 : Int32)) = (3 : Int32) by decide]
      show own_Go p e below _ T0 (mkF m 33 #[oR a, oD x, .second, oI (2 : Int32), oI (3 : Int32), oI (2 : Int32)] [(.int (3 : Int32))])
      refine own_by (fun t_ k_ => XS.istoreN X0.here hx rfl (hb hby d2_33) rfl (l' := #[oR a, oD x, .second, oI (3 : Int32), oI (3 : Int32), oI (2 : Int32)]) rfl k_) ?_
      show own_Go p e below _ T0 (mkF m 34 #[oR a, oD x, .second, oI (3 : Int32), oI (3 : Int32), oI (2 : Int32)] [])
      refine own_by (fun t_ k_ => XS.goto X0.here hx rfl (pc0 := 34) (pc' := 41) rfl (hb hby d2_34) (by decide) (by decide) k_) ?_
      show own_Go p e below _ T0 (mkF m 41 #[oR a, oD x, .second, oI (3 : Int32), oI (3 : Int32), oI (2 : Int32)] [])
      refine own_by (fun t_ k_ => XS.goto X0.here hx rfl (pc0 := 41) (pc' := 6) rfl (hb hby d2_41) (by decide) (by decide) k_) ?_
      show own_Go p e below _ T0 (mkF m 6 #[oR a, oD x, .second, oI (3 : Int32), oI (3 : Int32), oI (2 : Int32)] [])
      refine own_by (fun t_ k_ => XS.iloadN X0.here hx rfl (hb hby d2_6) rfl  k_) ?_
      show own_Go p e below _ T0 (mkF m 7 #[oR a, oD x, .second, oI (3 : Int32), oI (3 : Int32), oI (2 : Int32)] [(.int (3 : Int32))])
      refine own_by (fun t_ k_ => XS.iload X0.here hx rfl (hb hby d2_7) rfl  k_) ?_
      show own_Go p e below _ T0 (mkF m 9 #[oR a, oD x, .second, oI (3 : Int32), oI (3 : Int32), oI (2 : Int32)] [(.int (3 : Int32)), (.int (3 : Int32))])
      refine own_by (fun t_ k_ => XS.icmpYes X0.here hx rfl (pc0 := 9) (pc' := 44) rfl (hb hby d2_9) rfl (XT.ii_ge_t (by decide)) (by decide) (by decide) k_) ?_
      show own_Go p e below _ T0 (mkF m 44 #[oR a, oD x, .second, oI (3 : Int32), oI (3 : Int32), oI (2 : Int32)] [])
      refine own_by (fun t_ k_ => XS.iloadN X0.here hx rfl (hb hby d2_44) rfl  k_) ?_
      show own_Go p e below _ T0 (mkF m 45 #[oR a, oD x, .second, oI (3 : Int32), oI (3 : Int32), oI (2 : Int32)] [(.int (3 : Int32))])
      exact own_retI X0 hx hlk hret (hb hby d2_45) (by decide) (by decide) (⟨by rw [own_cb3, if_neg c26_0, if_neg c26_2], e0, rfl⟩)
def own_cb4 (a : Addr) (x : UInt64) (kA : ClassId) (d0 d1 d2 d3 : UInt64) : Int32 := (if (0 : Int32) < (cmpValue (FP.dcmp d2 x) .g) then (if (0 : Int32) < (cmpValue (FP.dcmp d1 x) .g) then (if (0 : Int32) < (cmpValue (FP.dcmp d0 x) .g) then (0 : Int32) else (1 : Int32)) else (2 : Int32)) else (if (0 : Int32) < (cmpValue (FP.dcmp d3 x) .g) then (3 : Int32) else (4 : Int32)))
set_option maxRecDepth 65536 in
set_option maxHeartbeats 40000000 in
theorem own_cb4_met (l : Launch) (Z : State) (a0 : Array Value) (hw : ∀ d ∈ tables_1, d.before a0 Z = true) (a : Addr) (x : UInt64) (kA : ClassId) (d0 d1 d2 d3 : UInt64) (h0 : Heap) (V : own_A Z h0 a .double kA [(.double d0), (.double d1), (.double d2), (.double d3)]) :
    own_Met l (⟨"com/example/biclique/biclique/draw/Ascending", "countAtMost", "([DD)I"⟩ : MethodName) prog_41_method_3_code 6 (some .int) [] ({ frames := 0, cells := 0, slots := 0, locals := 0 } : Room) Z #[(.ref a), (.double x)] h0 (fun rv rh rL => rv = some (.int (own_cb4 a x kA d0 d1 d2 d3)) ∧ rh = h0 ∧ rL = []) := by
  refine own_enter (plainFor_of_name pn_1) ?_
  intro p e s m below meth c T0 hx hby hml hret hlk hown hnm hZ X0 e0
  refine own_at (g' := (mkF m 0 #[oR a, oD x, .second, .unset, .unset, .unset] [])) (by first | (simp [entryFrame, mkF, argsToLocals, Value.category]; done) | rfl) ?_
  show own_Go p e below _ T0 (mkF m 0 #[oR a, oD x, .second, .unset, .unset, .unset] [])
  refine own_by (fun t_ k_ => XT.iconstV X0.here hx rfl (0 : Int32) (hb hby d2_0) (by decide) k_) ?_
  show own_Go p e below _ T0 (mkF m 1 #[oR a, oD x, .second, .unset, .unset, .unset] [(.int (0 : Int32))])
  refine own_by (fun t_ k_ => XS.istoreN X0.here hx rfl (hb hby d2_1) rfl (l' := #[oR a, oD x, .second, oI (0 : Int32), .unset, .unset]) rfl k_) ?_
  show own_Go p e below _ T0 (mkF m 2 #[oR a, oD x, .second, oI (0 : Int32), .unset, .unset] [])
  refine own_by (fun t_ k_ => XS.aloadN X0.here hx rfl (hb hby d2_2) rfl rfl  k_) ?_
  show own_Go p e below _ T0 (mkF m 3 #[oR a, oD x, .second, oI (0 : Int32), .unset, .unset] [(.ref a)])
  refine own_len X0 hx hZ e0 V (4 : Int32) rfl (hb hby d2_3) ?_
  show own_Go p e below _ T0 (mkF m 4 #[oR a, oD x, .second, oI (0 : Int32), .unset, .unset] [(.int (4 : Int32))])
  refine own_by (fun t_ k_ => XS.istore X0.here hx rfl (hb hby d2_4) rfl (l' := #[oR a, oD x, .second, oI (0 : Int32), oI (4 : Int32), .unset]) rfl k_) ?_
  show own_Go p e below _ T0 (mkF m 6 #[oR a, oD x, .second, oI (0 : Int32), oI (4 : Int32), .unset] [])
  refine own_by (fun t_ k_ => XS.iloadN X0.here hx rfl (hb hby d2_6) rfl  k_) ?_
  show own_Go p e below _ T0 (mkF m 7 #[oR a, oD x, .second, oI (0 : Int32), oI (4 : Int32), .unset] [(.int (0 : Int32))])
  refine own_by (fun t_ k_ => XS.iload X0.here hx rfl (hb hby d2_7) rfl  k_) ?_
  show own_Go p e below _ T0 (mkF m 9 #[oR a, oD x, .second, oI (0 : Int32), oI (4 : Int32), .unset] [(.int (4 : Int32)), (.int (0 : Int32))])
  refine own_by (fun t_ k_ => XS.icmpNo X0.here hx rfl (hb hby d2_9) rfl (XT.ii_ge_f (by decide)) k_) ?_
  show own_Go p e below _ T0 (mkF m 12 #[oR a, oD x, .second, oI (0 : Int32), oI (4 : Int32), .unset] [])
  refine own_by (fun t_ k_ => XS.iloadN X0.here hx rfl (hb hby d2_12) rfl  k_) ?_
  show own_Go p e below _ T0 (mkF m 13 #[oR a, oD x, .second, oI (0 : Int32), oI (4 : Int32), .unset] [(.int (0 : Int32))])
  refine own_by (fun t_ k_ => XS.iload X0.here hx rfl (hb hby d2_13) rfl  k_) ?_
  show own_Go p e below _ T0 (mkF m 15 #[oR a, oD x, .second, oI (0 : Int32), oI (4 : Int32), .unset] [(.int (4 : Int32)), (.int (0 : Int32))])
  refine own_by (fun t_ k_ => XS.iadd X0.here hx rfl (hb hby d2_15) rfl k_) ?_
  show own_Go p e below _ T0 (mkF m 16 #[oR a, oD x, .second, oI (0 : Int32), oI (4 : Int32), .unset] [(.int ((0 : Int32) + (4 : Int32)))])
  rw [show ((0 : Int32) + (4 : Int32)) = (4 : Int32) by decide]
  show own_Go p e below _ T0 (mkF m 16 #[oR a, oD x, .second, oI (0 : Int32), oI (4 : Int32), .unset] [(.int (4 : Int32))])
  refine own_by (fun t_ k_ => XT.iconstV X0.here hx rfl (1 : Int32) (hb hby d2_16) (by decide) k_) ?_
  show own_Go p e below _ T0 (mkF m 17 #[oR a, oD x, .second, oI (0 : Int32), oI (4 : Int32), .unset] [(.int (1 : Int32)), (.int (4 : Int32))])
  refine own_by (fun t_ k_ => XT.iushr X0.here hx rfl (hb hby d2_17) rfl k_) ?_
  show own_Go p e below _ T0 (mkF m 18 #[oR a, oD x, .second, oI (0 : Int32), oI (4 : Int32), .unset] [(.int (((4 : Int32).toUInt32 >>> ((1 : Int32) &&& 31).toUInt32).toInt32))])
  rw [show (((4 : Int32).toUInt32 >>> ((1 : Int32) &&& 31).toUInt32).toInt32) = (2 : Int32) by decide]
  show own_Go p e below _ T0 (mkF m 18 #[oR a, oD x, .second, oI (0 : Int32), oI (4 : Int32), .unset] [(.int (2 : Int32))])
  refine own_by (fun t_ k_ => XS.istore X0.here hx rfl (hb hby d2_18) rfl (l' := #[oR a, oD x, .second, oI (0 : Int32), oI (4 : Int32), oI (2 : Int32)]) rfl k_) ?_
  show own_Go p e below _ T0 (mkF m 20 #[oR a, oD x, .second, oI (0 : Int32), oI (4 : Int32), oI (2 : Int32)] [])
  refine own_by (fun t_ k_ => XS.aloadN X0.here hx rfl (hb hby d2_20) rfl rfl  k_) ?_
  show own_Go p e below _ T0 (mkF m 21 #[oR a, oD x, .second, oI (0 : Int32), oI (4 : Int32), oI (2 : Int32)] [(.ref a)])
  refine own_by (fun t_ k_ => XS.iload X0.here hx rfl (hb hby d2_21) rfl  k_) ?_
  show own_Go p e below _ T0 (mkF m 23 #[oR a, oD x, .second, oI (0 : Int32), oI (4 : Int32), oI (2 : Int32)] [(.int (2 : Int32)), (.ref a)])
  refine own_ldD X0 hx hZ e0 V 2 (by decide) (by decide) (v := (.double d2)) rfl (hb hby d2_23) ?_
  show own_Go p e below _ T0 (mkF m 24 #[oR a, oD x, .second, oI (0 : Int32), oI (4 : Int32), oI (2 : Int32)] [(.double d2)])
  refine own_by (fun t_ k_ => XS.dloadN X0.here hx rfl (hb hby d2_24) rfl  k_) ?_
  show own_Go p e below _ T0 (mkF m 25 #[oR a, oD x, .second, oI (0 : Int32), oI (4 : Int32), oI (2 : Int32)] [(.double x), (.double d2)])
  refine own_by (fun t_ k_ => XS.dcmpS X0.here hx rfl (hb hby d2_25) rfl rfl k_) ?_
  show own_Go p e below _ T0 (mkF m 26 #[oR a, oD x, .second, oI (0 : Int32), oI (4 : Int32), oI (2 : Int32)] [(.int (cmpValue (FP.dcmp d2 x) .g))])
  by_cases c26_0 : (0 : Int32) < (cmpValue (FP.dcmp d2 x) .g)
  · refine own_by (fun t_ k_ => XS.ifYes X0.here hx rfl (pc0 := 26) (pc' := 37) rfl (hb hby d2_26) rfl (XT.i0_gt_t c26_0) (by decide) (by decide) k_) ?_
    show own_Go p e below _ T0 (mkF m 37 #[oR a, oD x, .second, oI (0 : Int32), oI (4 : Int32), oI (2 : Int32)] [])
    refine own_by (fun t_ k_ => XS.iload X0.here hx rfl (hb hby d2_37) rfl  k_) ?_
    show own_Go p e below _ T0 (mkF m 39 #[oR a, oD x, .second, oI (0 : Int32), oI (4 : Int32), oI (2 : Int32)] [(.int (2 : Int32))])
    refine own_by (fun t_ k_ => XS.istore X0.here hx rfl (hb hby d2_39) rfl (l' := #[oR a, oD x, .second, oI (0 : Int32), oI (2 : Int32), oI (2 : Int32)]) rfl k_) ?_
    show own_Go p e below _ T0 (mkF m 41 #[oR a, oD x, .second, oI (0 : Int32), oI (2 : Int32), oI (2 : Int32)] [])
    refine own_by (fun t_ k_ => XS.goto X0.here hx rfl (pc0 := 41) (pc' := 6) rfl (hb hby d2_41) (by decide) (by decide) k_) ?_
    show own_Go p e below _ T0 (mkF m 6 #[oR a, oD x, .second, oI (0 : Int32), oI (2 : Int32), oI (2 : Int32)] [])
    refine own_by (fun t_ k_ => XS.iloadN X0.here hx rfl (hb hby d2_6) rfl  k_) ?_
    show own_Go p e below _ T0 (mkF m 7 #[oR a, oD x, .second, oI (0 : Int32), oI (2 : Int32), oI (2 : Int32)] [(.int (0 : Int32))])
    refine own_by (fun t_ k_ => XS.iload X0.here hx rfl (hb hby d2_7) rfl  k_) ?_
    show own_Go p e below _ T0 (mkF m 9 #[oR a, oD x, .second, oI (0 : Int32), oI (2 : Int32), oI (2 : Int32)] [(.int (2 : Int32)), (.int (0 : Int32))])
    refine own_by (fun t_ k_ => XS.icmpNo X0.here hx rfl (hb hby d2_9) rfl (XT.ii_ge_f (by decide)) k_) ?_
    show own_Go p e below _ T0 (mkF m 12 #[oR a, oD x, .second, oI (0 : Int32), oI (2 : Int32), oI (2 : Int32)] [])
    refine own_by (fun t_ k_ => XS.iloadN X0.here hx rfl (hb hby d2_12) rfl  k_) ?_
    show own_Go p e below _ T0 (mkF m 13 #[oR a, oD x, .second, oI (0 : Int32), oI (2 : Int32), oI (2 : Int32)] [(.int (0 : Int32))])
    refine own_by (fun t_ k_ => XS.iload X0.here hx rfl (hb hby d2_13) rfl  k_) ?_
    show own_Go p e below _ T0 (mkF m 15 #[oR a, oD x, .second, oI (0 : Int32), oI (2 : Int32), oI (2 : Int32)] [(.int (2 : Int32)), (.int (0 : Int32))])
    refine own_by (fun t_ k_ => XS.iadd X0.here hx rfl (hb hby d2_15) rfl k_) ?_
    show own_Go p e below _ T0 (mkF m 16 #[oR a, oD x, .second, oI (0 : Int32), oI (2 : Int32), oI (2 : Int32)] [(.int ((0 : Int32) + (2 : Int32)))])
    rw [show ((0 : Int32) + (2 : Int32)) = (2 : Int32) by decide]
    show own_Go p e below _ T0 (mkF m 16 #[oR a, oD x, .second, oI (0 : Int32), oI (2 : Int32), oI (2 : Int32)] [(.int (2 : Int32))])
    refine own_by (fun t_ k_ => XT.iconstV X0.here hx rfl (1 : Int32) (hb hby d2_16) (by decide) k_) ?_
    show own_Go p e below _ T0 (mkF m 17 #[oR a, oD x, .second, oI (0 : Int32), oI (2 : Int32), oI (2 : Int32)] [(.int (1 : Int32)), (.int (2 : Int32))])
    refine own_by (fun t_ k_ => XT.iushr X0.here hx rfl (hb hby d2_17) rfl k_) ?_
    show own_Go p e below _ T0 (mkF m 18 #[oR a, oD x, .second, oI (0 : Int32), oI (2 : Int32), oI (2 : Int32)] [(.int (((2 : Int32).toUInt32 >>> ((1 : Int32) &&& 31).toUInt32).toInt32))])
    rw [show (((2 : Int32).toUInt32 >>> ((1 : Int32) &&& 31).toUInt32).toInt32) = (1 : Int32) by decide]
    show own_Go p e below _ T0 (mkF m 18 #[oR a, oD x, .second, oI (0 : Int32), oI (2 : Int32), oI (2 : Int32)] [(.int (1 : Int32))])
    refine own_by (fun t_ k_ => XS.istore X0.here hx rfl (hb hby d2_18) rfl (l' := #[oR a, oD x, .second, oI (0 : Int32), oI (2 : Int32), oI (1 : Int32)]) rfl k_) ?_
    show own_Go p e below _ T0 (mkF m 20 #[oR a, oD x, .second, oI (0 : Int32), oI (2 : Int32), oI (1 : Int32)] [])
    refine own_by (fun t_ k_ => XS.aloadN X0.here hx rfl (hb hby d2_20) rfl rfl  k_) ?_
    show own_Go p e below _ T0 (mkF m 21 #[oR a, oD x, .second, oI (0 : Int32), oI (2 : Int32), oI (1 : Int32)] [(.ref a)])
    refine own_by (fun t_ k_ => XS.iload X0.here hx rfl (hb hby d2_21) rfl  k_) ?_
    show own_Go p e below _ T0 (mkF m 23 #[oR a, oD x, .second, oI (0 : Int32), oI (2 : Int32), oI (1 : Int32)] [(.int (1 : Int32)), (.ref a)])
    refine own_ldD X0 hx hZ e0 V 1 (by decide) (by decide) (v := (.double d1)) rfl (hb hby d2_23) ?_
    show own_Go p e below _ T0 (mkF m 24 #[oR a, oD x, .second, oI (0 : Int32), oI (2 : Int32), oI (1 : Int32)] [(.double d1)])
    refine own_by (fun t_ k_ => XS.dloadN X0.here hx rfl (hb hby d2_24) rfl  k_) ?_
    show own_Go p e below _ T0 (mkF m 25 #[oR a, oD x, .second, oI (0 : Int32), oI (2 : Int32), oI (1 : Int32)] [(.double x), (.double d1)])
    refine own_by (fun t_ k_ => XS.dcmpS X0.here hx rfl (hb hby d2_25) rfl rfl k_) ?_
    show own_Go p e below _ T0 (mkF m 26 #[oR a, oD x, .second, oI (0 : Int32), oI (2 : Int32), oI (1 : Int32)] [(.int (cmpValue (FP.dcmp d1 x) .g))])
    by_cases c26_1 : (0 : Int32) < (cmpValue (FP.dcmp d1 x) .g)
    · refine own_by (fun t_ k_ => XS.ifYes X0.here hx rfl (pc0 := 26) (pc' := 37) rfl (hb hby d2_26) rfl (XT.i0_gt_t c26_1) (by decide) (by decide) k_) ?_
      show own_Go p e below _ T0 (mkF m 37 #[oR a, oD x, .second, oI (0 : Int32), oI (2 : Int32), oI (1 : Int32)] [])
      refine own_by (fun t_ k_ => XS.iload X0.here hx rfl (hb hby d2_37) rfl  k_) ?_
      show own_Go p e below _ T0 (mkF m 39 #[oR a, oD x, .second, oI (0 : Int32), oI (2 : Int32), oI (1 : Int32)] [(.int (1 : Int32))])
      refine own_by (fun t_ k_ => XS.istore X0.here hx rfl (hb hby d2_39) rfl (l' := #[oR a, oD x, .second, oI (0 : Int32), oI (1 : Int32), oI (1 : Int32)]) rfl k_) ?_
      show own_Go p e below _ T0 (mkF m 41 #[oR a, oD x, .second, oI (0 : Int32), oI (1 : Int32), oI (1 : Int32)] [])
      refine own_by (fun t_ k_ => XS.goto X0.here hx rfl (pc0 := 41) (pc' := 6) rfl (hb hby d2_41) (by decide) (by decide) k_) ?_
      show own_Go p e below _ T0 (mkF m 6 #[oR a, oD x, .second, oI (0 : Int32), oI (1 : Int32), oI (1 : Int32)] [])
      refine own_by (fun t_ k_ => XS.iloadN X0.here hx rfl (hb hby d2_6) rfl  k_) ?_
      show own_Go p e below _ T0 (mkF m 7 #[oR a, oD x, .second, oI (0 : Int32), oI (1 : Int32), oI (1 : Int32)] [(.int (0 : Int32))])
      refine own_by (fun t_ k_ => XS.iload X0.here hx rfl (hb hby d2_7) rfl  k_) ?_
      show own_Go p e below _ T0 (mkF m 9 #[oR a, oD x, .second, oI (0 : Int32), oI (1 : Int32), oI (1 : Int32)] [(.int (1 : Int32)), (.int (0 : Int32))])
      refine own_by (fun t_ k_ => XS.icmpNo X0.here hx rfl (hb hby d2_9) rfl (XT.ii_ge_f (by decide)) k_) ?_
      show own_Go p e below _ T0 (mkF m 12 #[oR a, oD x, .second, oI (0 : Int32), oI (1 : Int32), oI (1 : Int32)] [])
      refine own_by (fun t_ k_ => XS.iloadN X0.here hx rfl (hb hby d2_12) rfl  k_) ?_
      show own_Go p e below _ T0 (mkF m 13 #[oR a, oD x, .second, oI (0 : Int32), oI (1 : Int32), oI (1 : Int32)] [(.int (0 : Int32))])
      refine own_by (fun t_ k_ => XS.iload X0.here hx rfl (hb hby d2_13) rfl  k_) ?_
      show own_Go p e below _ T0 (mkF m 15 #[oR a, oD x, .second, oI (0 : Int32), oI (1 : Int32), oI (1 : Int32)] [(.int (1 : Int32)), (.int (0 : Int32))])
      refine own_by (fun t_ k_ => XS.iadd X0.here hx rfl (hb hby d2_15) rfl k_) ?_
      show own_Go p e below _ T0 (mkF m 16 #[oR a, oD x, .second, oI (0 : Int32), oI (1 : Int32), oI (1 : Int32)] [(.int ((0 : Int32) + (1 : Int32)))])
      rw [show ((0 : Int32) + (1 : Int32)) = (1 : Int32) by decide]
      show own_Go p e below _ T0 (mkF m 16 #[oR a, oD x, .second, oI (0 : Int32), oI (1 : Int32), oI (1 : Int32)] [(.int (1 : Int32))])
      refine own_by (fun t_ k_ => XT.iconstV X0.here hx rfl (1 : Int32) (hb hby d2_16) (by decide) k_) ?_
      show own_Go p e below _ T0 (mkF m 17 #[oR a, oD x, .second, oI (0 : Int32), oI (1 : Int32), oI (1 : Int32)] [(.int (1 : Int32)), (.int (1 : Int32))])
      refine own_by (fun t_ k_ => XT.iushr X0.here hx rfl (hb hby d2_17) rfl k_) ?_
      show own_Go p e below _ T0 (mkF m 18 #[oR a, oD x, .second, oI (0 : Int32), oI (1 : Int32), oI (1 : Int32)] [(.int (((1 : Int32).toUInt32 >>> ((1 : Int32) &&& 31).toUInt32).toInt32))])
      rw [show (((1 : Int32).toUInt32 >>> ((1 : Int32) &&& 31).toUInt32).toInt32) = (0 : Int32) by decide]
      show own_Go p e below _ T0 (mkF m 18 #[oR a, oD x, .second, oI (0 : Int32), oI (1 : Int32), oI (1 : Int32)] [(.int (0 : Int32))])
      refine own_by (fun t_ k_ => XS.istore X0.here hx rfl (hb hby d2_18) rfl (l' := #[oR a, oD x, .second, oI (0 : Int32), oI (1 : Int32), oI (0 : Int32)]) rfl k_) ?_
      show own_Go p e below _ T0 (mkF m 20 #[oR a, oD x, .second, oI (0 : Int32), oI (1 : Int32), oI (0 : Int32)] [])
      refine own_by (fun t_ k_ => XS.aloadN X0.here hx rfl (hb hby d2_20) rfl rfl  k_) ?_
      show own_Go p e below _ T0 (mkF m 21 #[oR a, oD x, .second, oI (0 : Int32), oI (1 : Int32), oI (0 : Int32)] [(.ref a)])
      refine own_by (fun t_ k_ => XS.iload X0.here hx rfl (hb hby d2_21) rfl  k_) ?_
      show own_Go p e below _ T0 (mkF m 23 #[oR a, oD x, .second, oI (0 : Int32), oI (1 : Int32), oI (0 : Int32)] [(.int (0 : Int32)), (.ref a)])
      refine own_ldD X0 hx hZ e0 V 0 (by decide) (by decide) (v := (.double d0)) rfl (hb hby d2_23) ?_
      show own_Go p e below _ T0 (mkF m 24 #[oR a, oD x, .second, oI (0 : Int32), oI (1 : Int32), oI (0 : Int32)] [(.double d0)])
      refine own_by (fun t_ k_ => XS.dloadN X0.here hx rfl (hb hby d2_24) rfl  k_) ?_
      show own_Go p e below _ T0 (mkF m 25 #[oR a, oD x, .second, oI (0 : Int32), oI (1 : Int32), oI (0 : Int32)] [(.double x), (.double d0)])
      refine own_by (fun t_ k_ => XS.dcmpS X0.here hx rfl (hb hby d2_25) rfl rfl k_) ?_
      show own_Go p e below _ T0 (mkF m 26 #[oR a, oD x, .second, oI (0 : Int32), oI (1 : Int32), oI (0 : Int32)] [(.int (cmpValue (FP.dcmp d0 x) .g))])
      by_cases c26_2 : (0 : Int32) < (cmpValue (FP.dcmp d0 x) .g)
      · refine own_by (fun t_ k_ => XS.ifYes X0.here hx rfl (pc0 := 26) (pc' := 37) rfl (hb hby d2_26) rfl (XT.i0_gt_t c26_2) (by decide) (by decide) k_) ?_
        show own_Go p e below _ T0 (mkF m 37 #[oR a, oD x, .second, oI (0 : Int32), oI (1 : Int32), oI (0 : Int32)] [])
        refine own_by (fun t_ k_ => XS.iload X0.here hx rfl (hb hby d2_37) rfl  k_) ?_
        show own_Go p e below _ T0 (mkF m 39 #[oR a, oD x, .second, oI (0 : Int32), oI (1 : Int32), oI (0 : Int32)] [(.int (0 : Int32))])
        refine own_by (fun t_ k_ => XS.istore X0.here hx rfl (hb hby d2_39) rfl (l' := #[oR a, oD x, .second, oI (0 : Int32), oI (0 : Int32), oI (0 : Int32)]) rfl k_) ?_
        show own_Go p e below _ T0 (mkF m 41 #[oR a, oD x, .second, oI (0 : Int32), oI (0 : Int32), oI (0 : Int32)] [])
        refine own_by (fun t_ k_ => XS.goto X0.here hx rfl (pc0 := 41) (pc' := 6) rfl (hb hby d2_41) (by decide) (by decide) k_) ?_
        show own_Go p e below _ T0 (mkF m 6 #[oR a, oD x, .second, oI (0 : Int32), oI (0 : Int32), oI (0 : Int32)] [])
        refine own_by (fun t_ k_ => XS.iloadN X0.here hx rfl (hb hby d2_6) rfl  k_) ?_
        show own_Go p e below _ T0 (mkF m 7 #[oR a, oD x, .second, oI (0 : Int32), oI (0 : Int32), oI (0 : Int32)] [(.int (0 : Int32))])
        refine own_by (fun t_ k_ => XS.iload X0.here hx rfl (hb hby d2_7) rfl  k_) ?_
        show own_Go p e below _ T0 (mkF m 9 #[oR a, oD x, .second, oI (0 : Int32), oI (0 : Int32), oI (0 : Int32)] [(.int (0 : Int32)), (.int (0 : Int32))])
        refine own_by (fun t_ k_ => XS.icmpYes X0.here hx rfl (pc0 := 9) (pc' := 44) rfl (hb hby d2_9) rfl (XT.ii_ge_t (by decide)) (by decide) (by decide) k_) ?_
        show own_Go p e below _ T0 (mkF m 44 #[oR a, oD x, .second, oI (0 : Int32), oI (0 : Int32), oI (0 : Int32)] [])
        refine own_by (fun t_ k_ => XS.iloadN X0.here hx rfl (hb hby d2_44) rfl  k_) ?_
        show own_Go p e below _ T0 (mkF m 45 #[oR a, oD x, .second, oI (0 : Int32), oI (0 : Int32), oI (0 : Int32)] [(.int (0 : Int32))])
        exact own_retI X0 hx hlk hret (hb hby d2_45) (by decide) (by decide) (⟨by rw [own_cb4, if_pos c26_0, if_pos c26_1, if_pos c26_2], e0, rfl⟩)
      · refine own_by (fun t_ k_ => XS.ifNo X0.here hx rfl (hb hby d2_26) rfl (XT.i0_gt_f c26_2) k_) ?_
        show own_Go p e below _ T0 (mkF m 29 #[oR a, oD x, .second, oI (0 : Int32), oI (1 : Int32), oI (0 : Int32)] [])
        refine own_by (fun t_ k_ => XS.iload X0.here hx rfl (hb hby d2_29) rfl  k_) ?_
        show own_Go p e below _ T0 (mkF m 31 #[oR a, oD x, .second, oI (0 : Int32), oI (1 : Int32), oI (0 : Int32)] [(.int (0 : Int32))])
        refine own_by (fun t_ k_ => XT.iconstV X0.here hx rfl (1 : Int32) (hb hby d2_31) (by decide) k_) ?_
        show own_Go p e below _ T0 (mkF m 32 #[oR a, oD x, .second, oI (0 : Int32), oI (1 : Int32), oI (0 : Int32)] [(.int (1 : Int32)), (.int (0 : Int32))])
        refine own_by (fun t_ k_ => XS.iadd X0.here hx rfl (hb hby d2_32) rfl k_) ?_
        show own_Go p e below _ T0 (mkF m 33 #[oR a, oD x, .second, oI (0 : Int32), oI (1 : Int32), oI (0 : Int32)] [(.int ((0 : Int32) + (1 : Int32)))])
        rw [show ((0 : Int32) + (1 : Int32)) = (1 : Int32) by decide]
        show own_Go p e below _ T0 (mkF m 33 #[oR a, oD x, .second, oI (0 : Int32), oI (1 : Int32), oI (0 : Int32)] [(.int (1 : Int32))])
        refine own_by (fun t_ k_ => XS.istoreN X0.here hx rfl (hb hby d2_33) rfl (l' := #[oR a, oD x, .second, oI (1 : Int32), oI (1 : Int32), oI (0 : Int32)]) rfl k_) ?_
        show own_Go p e below _ T0 (mkF m 34 #[oR a, oD x, .second, oI (1 : Int32), oI (1 : Int32), oI (0 : Int32)] [])
        refine own_by (fun t_ k_ => XS.goto X0.here hx rfl (pc0 := 34) (pc' := 41) rfl (hb hby d2_34) (by decide) (by decide) k_) ?_
        show own_Go p e below _ T0 (mkF m 41 #[oR a, oD x, .second, oI (1 : Int32), oI (1 : Int32), oI (0 : Int32)] [])
        refine own_by (fun t_ k_ => XS.goto X0.here hx rfl (pc0 := 41) (pc' := 6) rfl (hb hby d2_41) (by decide) (by decide) k_) ?_
        show own_Go p e below _ T0 (mkF m 6 #[oR a, oD x, .second, oI (1 : Int32), oI (1 : Int32), oI (0 : Int32)] [])
        refine own_by (fun t_ k_ => XS.iloadN X0.here hx rfl (hb hby d2_6) rfl  k_) ?_
        show own_Go p e below _ T0 (mkF m 7 #[oR a, oD x, .second, oI (1 : Int32), oI (1 : Int32), oI (0 : Int32)] [(.int (1 : Int32))])
        refine own_by (fun t_ k_ => XS.iload X0.here hx rfl (hb hby d2_7) rfl  k_) ?_
        show own_Go p e below _ T0 (mkF m 9 #[oR a, oD x, .second, oI (1 : Int32), oI (1 : Int32), oI (0 : Int32)] [(.int (1 : Int32)), (.int (1 : Int32))])
        refine own_by (fun t_ k_ => XS.icmpYes X0.here hx rfl (pc0 := 9) (pc' := 44) rfl (hb hby d2_9) rfl (XT.ii_ge_t (by decide)) (by decide) (by decide) k_) ?_
        show own_Go p e below _ T0 (mkF m 44 #[oR a, oD x, .second, oI (1 : Int32), oI (1 : Int32), oI (0 : Int32)] [])
        refine own_by (fun t_ k_ => XS.iloadN X0.here hx rfl (hb hby d2_44) rfl  k_) ?_
        show own_Go p e below _ T0 (mkF m 45 #[oR a, oD x, .second, oI (1 : Int32), oI (1 : Int32), oI (0 : Int32)] [(.int (1 : Int32))])
        exact own_retI X0 hx hlk hret (hb hby d2_45) (by decide) (by decide) (⟨by rw [own_cb4, if_pos c26_0, if_pos c26_1, if_neg c26_2], e0, rfl⟩)
    · refine own_by (fun t_ k_ => XS.ifNo X0.here hx rfl (hb hby d2_26) rfl (XT.i0_gt_f c26_1) k_) ?_
      show own_Go p e below _ T0 (mkF m 29 #[oR a, oD x, .second, oI (0 : Int32), oI (2 : Int32), oI (1 : Int32)] [])
      refine own_by (fun t_ k_ => XS.iload X0.here hx rfl (hb hby d2_29) rfl  k_) ?_
      show own_Go p e below _ T0 (mkF m 31 #[oR a, oD x, .second, oI (0 : Int32), oI (2 : Int32), oI (1 : Int32)] [(.int (1 : Int32))])
      refine own_by (fun t_ k_ => XT.iconstV X0.here hx rfl (1 : Int32) (hb hby d2_31) (by decide) k_) ?_
      show own_Go p e below _ T0 (mkF m 32 #[oR a, oD x, .second, oI (0 : Int32), oI (2 : Int32), oI (1 : Int32)] [(.int (1 : Int32)), (.int (1 : Int32))])
      refine own_by (fun t_ k_ => XS.iadd X0.here hx rfl (hb hby d2_32) rfl k_) ?_
      show own_Go p e below _ T0 (mkF m 33 #[oR a, oD x, .second, oI (0 : Int32), oI (2 : Int32), oI (1 : Int32)] [(.int ((1 : Int32) + (1 : Int32)))])
      rw [show ((1 : Int32) + (1 : Int32)) = (2 : Int32) by decide]
      show own_Go p e below _ T0 (mkF m 33 #[oR a, oD x, .second, oI (0 : Int32), oI (2 : Int32), oI (1 : Int32)] [(.int (2 : Int32))])
      refine own_by (fun t_ k_ => XS.istoreN X0.here hx rfl (hb hby d2_33) rfl (l' := #[oR a, oD x, .second, oI (2 : Int32), oI (2 : Int32), oI (1 : Int32)]) rfl k_) ?_
      show own_Go p e below _ T0 (mkF m 34 #[oR a, oD x, .second, oI (2 : Int32), oI (2 : Int32), oI (1 : Int32)] [])
      refine own_by (fun t_ k_ => XS.goto X0.here hx rfl (pc0 := 34) (pc' := 41) rfl (hb hby d2_34) (by decide) (by decide) k_) ?_
      show own_Go p e below _ T0 (mkF m 41 #[oR a, oD x, .second, oI (2 : Int32), oI (2 : Int32), oI (1 : Int32)] [])
      refine own_by (fun t_ k_ => XS.goto X0.here hx rfl (pc0 := 41) (pc' := 6) rfl (hb hby d2_41) (by decide) (by decide) k_) ?_
      show own_Go p e below _ T0 (mkF m 6 #[oR a, oD x, .second, oI (2 : Int32), oI (2 : Int32), oI (1 : Int32)] [])
      refine own_by (fun t_ k_ => XS.iloadN X0.here hx rfl (hb hby d2_6) rfl  k_) ?_
      show own_Go p e below _ T0 (mkF m 7 #[oR a, oD x, .second, oI (2 : Int32), oI (2 : Int32), oI (1 : Int32)] [(.int (2 : Int32))])
      refine own_by (fun t_ k_ => XS.iload X0.here hx rfl (hb hby d2_7) rfl  k_) ?_
      show own_Go p e below _ T0 (mkF m 9 #[oR a, oD x, .second, oI (2 : Int32), oI (2 : Int32), oI (1 : Int32)] [(.int (2 : Int32)), (.int (2 : Int32))])
      refine own_by (fun t_ k_ => XS.icmpYes X0.here hx rfl (pc0 := 9) (pc' := 44) rfl (hb hby d2_9) rfl (XT.ii_ge_t (by decide)) (by decide) (by decide) k_) ?_
      show own_Go p e below _ T0 (mkF m 44 #[oR a, oD x, .second, oI (2 : Int32), oI (2 : Int32), oI (1 : Int32)] [])
      refine own_by (fun t_ k_ => XS.iloadN X0.here hx rfl (hb hby d2_44) rfl  k_) ?_
      show own_Go p e below _ T0 (mkF m 45 #[oR a, oD x, .second, oI (2 : Int32), oI (2 : Int32), oI (1 : Int32)] [(.int (2 : Int32))])
      exact own_retI X0 hx hlk hret (hb hby d2_45) (by decide) (by decide) (⟨by rw [own_cb4, if_pos c26_0, if_neg c26_1], e0, rfl⟩)
  · refine own_by (fun t_ k_ => XS.ifNo X0.here hx rfl (hb hby d2_26) rfl (XT.i0_gt_f c26_0) k_) ?_
    show own_Go p e below _ T0 (mkF m 29 #[oR a, oD x, .second, oI (0 : Int32), oI (4 : Int32), oI (2 : Int32)] [])
    refine own_by (fun t_ k_ => XS.iload X0.here hx rfl (hb hby d2_29) rfl  k_) ?_
    show own_Go p e below _ T0 (mkF m 31 #[oR a, oD x, .second, oI (0 : Int32), oI (4 : Int32), oI (2 : Int32)] [(.int (2 : Int32))])
    refine own_by (fun t_ k_ => XT.iconstV X0.here hx rfl (1 : Int32) (hb hby d2_31) (by decide) k_) ?_
    show own_Go p e below _ T0 (mkF m 32 #[oR a, oD x, .second, oI (0 : Int32), oI (4 : Int32), oI (2 : Int32)] [(.int (1 : Int32)), (.int (2 : Int32))])
    refine own_by (fun t_ k_ => XS.iadd X0.here hx rfl (hb hby d2_32) rfl k_) ?_
    show own_Go p e below _ T0 (mkF m 33 #[oR a, oD x, .second, oI (0 : Int32), oI (4 : Int32), oI (2 : Int32)] [(.int ((2 : Int32) + (1 : Int32)))])
    rw [show ((2 : Int32) + (1 : Int32)) = (3 : Int32) by decide]
    show own_Go p e below _ T0 (mkF m 33 #[oR a, oD x, .second, oI (0 : Int32), oI (4 : Int32), oI (2 : Int32)] [(.int (3 : Int32))])
    refine own_by (fun t_ k_ => XS.istoreN X0.here hx rfl (hb hby d2_33) rfl (l' := #[oR a, oD x, .second, oI (3 : Int32), oI (4 : Int32), oI (2 : Int32)]) rfl k_) ?_
    show own_Go p e below _ T0 (mkF m 34 #[oR a, oD x, .second, oI (3 : Int32), oI (4 : Int32), oI (2 : Int32)] [])
    refine own_by (fun t_ k_ => XS.goto X0.here hx rfl (pc0 := 34) (pc' := 41) rfl (hb hby d2_34) (by decide) (by decide) k_) ?_
    show own_Go p e below _ T0 (mkF m 41 #[oR a, oD x, .second, oI (3 : Int32), oI (4 : Int32), oI (2 : Int32)] [])
    refine own_by (fun t_ k_ => XS.goto X0.here hx rfl (pc0 := 41) (pc' := 6) rfl (hb hby d2_41) (by decide) (by decide) k_) ?_
    show own_Go p e below _ T0 (mkF m 6 #[oR a, oD x, .second, oI (3 : Int32), oI (4 : Int32), oI (2 : Int32)] [])
    refine own_by (fun t_ k_ => XS.iloadN X0.here hx rfl (hb hby d2_6) rfl  k_) ?_
    show own_Go p e below _ T0 (mkF m 7 #[oR a, oD x, .second, oI (3 : Int32), oI (4 : Int32), oI (2 : Int32)] [(.int (3 : Int32))])
    refine own_by (fun t_ k_ => XS.iload X0.here hx rfl (hb hby d2_7) rfl  k_) ?_
    show own_Go p e below _ T0 (mkF m 9 #[oR a, oD x, .second, oI (3 : Int32), oI (4 : Int32), oI (2 : Int32)] [(.int (4 : Int32)), (.int (3 : Int32))])
    refine own_by (fun t_ k_ => XS.icmpNo X0.here hx rfl (hb hby d2_9) rfl (XT.ii_ge_f (by decide)) k_) ?_
    show own_Go p e below _ T0 (mkF m 12 #[oR a, oD x, .second, oI (3 : Int32), oI (4 : Int32), oI (2 : Int32)] [])
    refine own_by (fun t_ k_ => XS.iloadN X0.here hx rfl (hb hby d2_12) rfl  k_) ?_
    show own_Go p e below _ T0 (mkF m 13 #[oR a, oD x, .second, oI (3 : Int32), oI (4 : Int32), oI (2 : Int32)] [(.int (3 : Int32))])
    refine own_by (fun t_ k_ => XS.iload X0.here hx rfl (hb hby d2_13) rfl  k_) ?_
    show own_Go p e below _ T0 (mkF m 15 #[oR a, oD x, .second, oI (3 : Int32), oI (4 : Int32), oI (2 : Int32)] [(.int (4 : Int32)), (.int (3 : Int32))])
    refine own_by (fun t_ k_ => XS.iadd X0.here hx rfl (hb hby d2_15) rfl k_) ?_
    show own_Go p e below _ T0 (mkF m 16 #[oR a, oD x, .second, oI (3 : Int32), oI (4 : Int32), oI (2 : Int32)] [(.int ((3 : Int32) + (4 : Int32)))])
    rw [show ((3 : Int32) + (4 : Int32)) = (7 : Int32) by decide]
    show own_Go p e below _ T0 (mkF m 16 #[oR a, oD x, .second, oI (3 : Int32), oI (4 : Int32), oI (2 : Int32)] [(.int (7 : Int32))])
    refine own_by (fun t_ k_ => XT.iconstV X0.here hx rfl (1 : Int32) (hb hby d2_16) (by decide) k_) ?_
    show own_Go p e below _ T0 (mkF m 17 #[oR a, oD x, .second, oI (3 : Int32), oI (4 : Int32), oI (2 : Int32)] [(.int (1 : Int32)), (.int (7 : Int32))])
    refine own_by (fun t_ k_ => XT.iushr X0.here hx rfl (hb hby d2_17) rfl k_) ?_
    show own_Go p e below _ T0 (mkF m 18 #[oR a, oD x, .second, oI (3 : Int32), oI (4 : Int32), oI (2 : Int32)] [(.int (((7 : Int32).toUInt32 >>> ((1 : Int32) &&& 31).toUInt32).toInt32))])
    rw [show (((7 : Int32).toUInt32 >>> ((1 : Int32) &&& 31).toUInt32).toInt32) = (3 : Int32) by decide]
    show own_Go p e below _ T0 (mkF m 18 #[oR a, oD x, .second, oI (3 : Int32), oI (4 : Int32), oI (2 : Int32)] [(.int (3 : Int32))])
    refine own_by (fun t_ k_ => XS.istore X0.here hx rfl (hb hby d2_18) rfl (l' := #[oR a, oD x, .second, oI (3 : Int32), oI (4 : Int32), oI (3 : Int32)]) rfl k_) ?_
    show own_Go p e below _ T0 (mkF m 20 #[oR a, oD x, .second, oI (3 : Int32), oI (4 : Int32), oI (3 : Int32)] [])
    refine own_by (fun t_ k_ => XS.aloadN X0.here hx rfl (hb hby d2_20) rfl rfl  k_) ?_
    show own_Go p e below _ T0 (mkF m 21 #[oR a, oD x, .second, oI (3 : Int32), oI (4 : Int32), oI (3 : Int32)] [(.ref a)])
    refine own_by (fun t_ k_ => XS.iload X0.here hx rfl (hb hby d2_21) rfl  k_) ?_
    show own_Go p e below _ T0 (mkF m 23 #[oR a, oD x, .second, oI (3 : Int32), oI (4 : Int32), oI (3 : Int32)] [(.int (3 : Int32)), (.ref a)])
    refine own_ldD X0 hx hZ e0 V 3 (by decide) (by decide) (v := (.double d3)) rfl (hb hby d2_23) ?_
    show own_Go p e below _ T0 (mkF m 24 #[oR a, oD x, .second, oI (3 : Int32), oI (4 : Int32), oI (3 : Int32)] [(.double d3)])
    refine own_by (fun t_ k_ => XS.dloadN X0.here hx rfl (hb hby d2_24) rfl  k_) ?_
    show own_Go p e below _ T0 (mkF m 25 #[oR a, oD x, .second, oI (3 : Int32), oI (4 : Int32), oI (3 : Int32)] [(.double x), (.double d3)])
    refine own_by (fun t_ k_ => XS.dcmpS X0.here hx rfl (hb hby d2_25) rfl rfl k_) ?_
    show own_Go p e below _ T0 (mkF m 26 #[oR a, oD x, .second, oI (3 : Int32), oI (4 : Int32), oI (3 : Int32)] [(.int (cmpValue (FP.dcmp d3 x) .g))])
    by_cases c26_3 : (0 : Int32) < (cmpValue (FP.dcmp d3 x) .g)
    · refine own_by (fun t_ k_ => XS.ifYes X0.here hx rfl (pc0 := 26) (pc' := 37) rfl (hb hby d2_26) rfl (XT.i0_gt_t c26_3) (by decide) (by decide) k_) ?_
      show own_Go p e below _ T0 (mkF m 37 #[oR a, oD x, .second, oI (3 : Int32), oI (4 : Int32), oI (3 : Int32)] [])
      refine own_by (fun t_ k_ => XS.iload X0.here hx rfl (hb hby d2_37) rfl  k_) ?_
      show own_Go p e below _ T0 (mkF m 39 #[oR a, oD x, .second, oI (3 : Int32), oI (4 : Int32), oI (3 : Int32)] [(.int (3 : Int32))])
      refine own_by (fun t_ k_ => XS.istore X0.here hx rfl (hb hby d2_39) rfl (l' := #[oR a, oD x, .second, oI (3 : Int32), oI (3 : Int32), oI (3 : Int32)]) rfl k_) ?_
      show own_Go p e below _ T0 (mkF m 41 #[oR a, oD x, .second, oI (3 : Int32), oI (3 : Int32), oI (3 : Int32)] [])
      refine own_by (fun t_ k_ => XS.goto X0.here hx rfl (pc0 := 41) (pc' := 6) rfl (hb hby d2_41) (by decide) (by decide) k_) ?_
      show own_Go p e below _ T0 (mkF m 6 #[oR a, oD x, .second, oI (3 : Int32), oI (3 : Int32), oI (3 : Int32)] [])
      refine own_by (fun t_ k_ => XS.iloadN X0.here hx rfl (hb hby d2_6) rfl  k_) ?_
      show own_Go p e below _ T0 (mkF m 7 #[oR a, oD x, .second, oI (3 : Int32), oI (3 : Int32), oI (3 : Int32)] [(.int (3 : Int32))])
      refine own_by (fun t_ k_ => XS.iload X0.here hx rfl (hb hby d2_7) rfl  k_) ?_
      show own_Go p e below _ T0 (mkF m 9 #[oR a, oD x, .second, oI (3 : Int32), oI (3 : Int32), oI (3 : Int32)] [(.int (3 : Int32)), (.int (3 : Int32))])
      refine own_by (fun t_ k_ => XS.icmpYes X0.here hx rfl (pc0 := 9) (pc' := 44) rfl (hb hby d2_9) rfl (XT.ii_ge_t (by decide)) (by decide) (by decide) k_) ?_
      show own_Go p e below _ T0 (mkF m 44 #[oR a, oD x, .second, oI (3 : Int32), oI (3 : Int32), oI (3 : Int32)] [])
      refine own_by (fun t_ k_ => XS.iloadN X0.here hx rfl (hb hby d2_44) rfl  k_) ?_
      show own_Go p e below _ T0 (mkF m 45 #[oR a, oD x, .second, oI (3 : Int32), oI (3 : Int32), oI (3 : Int32)] [(.int (3 : Int32))])
      exact own_retI X0 hx hlk hret (hb hby d2_45) (by decide) (by decide) (⟨by rw [own_cb4, if_neg c26_0, if_pos c26_3], e0, rfl⟩)
    · refine own_by (fun t_ k_ => XS.ifNo X0.here hx rfl (hb hby d2_26) rfl (XT.i0_gt_f c26_3) k_) ?_
      show own_Go p e below _ T0 (mkF m 29 #[oR a, oD x, .second, oI (3 : Int32), oI (4 : Int32), oI (3 : Int32)] [])
      refine own_by (fun t_ k_ => XS.iload X0.here hx rfl (hb hby d2_29) rfl  k_) ?_
      show own_Go p e below _ T0 (mkF m 31 #[oR a, oD x, .second, oI (3 : Int32), oI (4 : Int32), oI (3 : Int32)] [(.int (3 : Int32))])
      refine own_by (fun t_ k_ => XT.iconstV X0.here hx rfl (1 : Int32) (hb hby d2_31) (by decide) k_) ?_
      show own_Go p e below _ T0 (mkF m 32 #[oR a, oD x, .second, oI (3 : Int32), oI (4 : Int32), oI (3 : Int32)] [(.int (1 : Int32)), (.int (3 : Int32))])
      refine own_by (fun t_ k_ => XS.iadd X0.here hx rfl (hb hby d2_32) rfl k_) ?_
      show own_Go p e below _ T0 (mkF m 33 #[oR a, oD x, .second, oI (3 : Int32), oI (4 : Int32), oI (3 : Int32)] [(.int ((3 : Int32) + (1 : Int32)))])
      rw [show ((3 : Int32) + (1 : Int32)) = (4 : Int32) by decide]
      show own_Go p e below _ T0 (mkF m 33 #[oR a, oD x, .second, oI (3 : Int32), oI (4 : Int32), oI (3 : Int32)] [(.int (4 : Int32))])
      refine own_by (fun t_ k_ => XS.istoreN X0.here hx rfl (hb hby d2_33) rfl (l' := #[oR a, oD x, .second, oI (4 : Int32), oI (4 : Int32), oI (3 : Int32)]) rfl k_) ?_
      show own_Go p e below _ T0 (mkF m 34 #[oR a, oD x, .second, oI (4 : Int32), oI (4 : Int32), oI (3 : Int32)] [])
      refine own_by (fun t_ k_ => XS.goto X0.here hx rfl (pc0 := 34) (pc' := 41) rfl (hb hby d2_34) (by decide) (by decide) k_) ?_
      show own_Go p e below _ T0 (mkF m 41 #[oR a, oD x, .second, oI (4 : Int32), oI (4 : Int32), oI (3 : Int32)] [])
      refine own_by (fun t_ k_ => XS.goto X0.here hx rfl (pc0 := 41) (pc' := 6) rfl (hb hby d2_41) (by decide) (by decide) k_) ?_
      show own_Go p e below _ T0 (mkF m 6 #[oR a, oD x, .second, oI (4 : Int32), oI (4 : Int32), oI (3 : Int32)] [])
      refine own_by (fun t_ k_ => XS.iloadN X0.here hx rfl (hb hby d2_6) rfl  k_) ?_
      show own_Go p e below _ T0 (mkF m 7 #[oR a, oD x, .second, oI (4 : Int32), oI (4 : Int32), oI (3 : Int32)] [(.int (4 : Int32))])
      refine own_by (fun t_ k_ => XS.iload X0.here hx rfl (hb hby d2_7) rfl  k_) ?_
      show own_Go p e below _ T0 (mkF m 9 #[oR a, oD x, .second, oI (4 : Int32), oI (4 : Int32), oI (3 : Int32)] [(.int (4 : Int32)), (.int (4 : Int32))])
      refine own_by (fun t_ k_ => XS.icmpYes X0.here hx rfl (pc0 := 9) (pc' := 44) rfl (hb hby d2_9) rfl (XT.ii_ge_t (by decide)) (by decide) (by decide) k_) ?_
      show own_Go p e below _ T0 (mkF m 44 #[oR a, oD x, .second, oI (4 : Int32), oI (4 : Int32), oI (3 : Int32)] [])
      refine own_by (fun t_ k_ => XS.iloadN X0.here hx rfl (hb hby d2_44) rfl  k_) ?_
      show own_Go p e below _ T0 (mkF m 45 #[oR a, oD x, .second, oI (4 : Int32), oI (4 : Int32), oI (3 : Int32)] [(.int (4 : Int32))])
      exact own_retI X0 hx hlk hret (hb hby d2_45) (by decide) (by decide) (⟨by rw [own_cb4, if_neg c26_0, if_neg c26_3], e0, rfl⟩)
def own_cb5 (a : Addr) (x : UInt64) (kA : ClassId) (d0 d1 d2 d3 d4 : UInt64) : Int32 := (if (0 : Int32) < (cmpValue (FP.dcmp d2 x) .g) then (if (0 : Int32) < (cmpValue (FP.dcmp d1 x) .g) then (if (0 : Int32) < (cmpValue (FP.dcmp d0 x) .g) then (0 : Int32) else (1 : Int32)) else (2 : Int32)) else (if (0 : Int32) < (cmpValue (FP.dcmp d4 x) .g) then (if (0 : Int32) < (cmpValue (FP.dcmp d3 x) .g) then (3 : Int32) else (4 : Int32)) else (5 : Int32)))
set_option maxRecDepth 65536 in
set_option maxHeartbeats 40000000 in
theorem own_cb5_met (l : Launch) (Z : State) (a0 : Array Value) (hw : ∀ d ∈ tables_1, d.before a0 Z = true) (a : Addr) (x : UInt64) (kA : ClassId) (d0 d1 d2 d3 d4 : UInt64) (h0 : Heap) (V : own_A Z h0 a .double kA [(.double d0), (.double d1), (.double d2), (.double d3), (.double d4)]) :
    own_Met l (⟨"com/example/biclique/biclique/draw/Ascending", "countAtMost", "([DD)I"⟩ : MethodName) prog_41_method_3_code 6 (some .int) [] ({ frames := 0, cells := 0, slots := 0, locals := 0 } : Room) Z #[(.ref a), (.double x)] h0 (fun rv rh rL => rv = some (.int (own_cb5 a x kA d0 d1 d2 d3 d4)) ∧ rh = h0 ∧ rL = []) := by
  refine own_enter (plainFor_of_name pn_1) ?_
  intro p e s m below meth c T0 hx hby hml hret hlk hown hnm hZ X0 e0
  refine own_at (g' := (mkF m 0 #[oR a, oD x, .second, .unset, .unset, .unset] [])) (by first | (simp [entryFrame, mkF, argsToLocals, Value.category]; done) | rfl) ?_
  show own_Go p e below _ T0 (mkF m 0 #[oR a, oD x, .second, .unset, .unset, .unset] [])
  refine own_by (fun t_ k_ => XT.iconstV X0.here hx rfl (0 : Int32) (hb hby d2_0) (by decide) k_) ?_
  show own_Go p e below _ T0 (mkF m 1 #[oR a, oD x, .second, .unset, .unset, .unset] [(.int (0 : Int32))])
  refine own_by (fun t_ k_ => XS.istoreN X0.here hx rfl (hb hby d2_1) rfl (l' := #[oR a, oD x, .second, oI (0 : Int32), .unset, .unset]) rfl k_) ?_
  show own_Go p e below _ T0 (mkF m 2 #[oR a, oD x, .second, oI (0 : Int32), .unset, .unset] [])
  refine own_by (fun t_ k_ => XS.aloadN X0.here hx rfl (hb hby d2_2) rfl rfl  k_) ?_
  show own_Go p e below _ T0 (mkF m 3 #[oR a, oD x, .second, oI (0 : Int32), .unset, .unset] [(.ref a)])
  refine own_len X0 hx hZ e0 V (5 : Int32) rfl (hb hby d2_3) ?_
  show own_Go p e below _ T0 (mkF m 4 #[oR a, oD x, .second, oI (0 : Int32), .unset, .unset] [(.int (5 : Int32))])
  refine own_by (fun t_ k_ => XS.istore X0.here hx rfl (hb hby d2_4) rfl (l' := #[oR a, oD x, .second, oI (0 : Int32), oI (5 : Int32), .unset]) rfl k_) ?_
  show own_Go p e below _ T0 (mkF m 6 #[oR a, oD x, .second, oI (0 : Int32), oI (5 : Int32), .unset] [])
  refine own_by (fun t_ k_ => XS.iloadN X0.here hx rfl (hb hby d2_6) rfl  k_) ?_
  show own_Go p e below _ T0 (mkF m 7 #[oR a, oD x, .second, oI (0 : Int32), oI (5 : Int32), .unset] [(.int (0 : Int32))])
  refine own_by (fun t_ k_ => XS.iload X0.here hx rfl (hb hby d2_7) rfl  k_) ?_
  show own_Go p e below _ T0 (mkF m 9 #[oR a, oD x, .second, oI (0 : Int32), oI (5 : Int32), .unset] [(.int (5 : Int32)), (.int (0 : Int32))])
  refine own_by (fun t_ k_ => XS.icmpNo X0.here hx rfl (hb hby d2_9) rfl (XT.ii_ge_f (by decide)) k_) ?_
  show own_Go p e below _ T0 (mkF m 12 #[oR a, oD x, .second, oI (0 : Int32), oI (5 : Int32), .unset] [])
  refine own_by (fun t_ k_ => XS.iloadN X0.here hx rfl (hb hby d2_12) rfl  k_) ?_
  show own_Go p e below _ T0 (mkF m 13 #[oR a, oD x, .second, oI (0 : Int32), oI (5 : Int32), .unset] [(.int (0 : Int32))])
  refine own_by (fun t_ k_ => XS.iload X0.here hx rfl (hb hby d2_13) rfl  k_) ?_
  show own_Go p e below _ T0 (mkF m 15 #[oR a, oD x, .second, oI (0 : Int32), oI (5 : Int32), .unset] [(.int (5 : Int32)), (.int (0 : Int32))])
  refine own_by (fun t_ k_ => XS.iadd X0.here hx rfl (hb hby d2_15) rfl k_) ?_
  show own_Go p e below _ T0 (mkF m 16 #[oR a, oD x, .second, oI (0 : Int32), oI (5 : Int32), .unset] [(.int ((0 : Int32) + (5 : Int32)))])
  rw [show ((0 : Int32) + (5 : Int32)) = (5 : Int32) by decide]
  show own_Go p e below _ T0 (mkF m 16 #[oR a, oD x, .second, oI (0 : Int32), oI (5 : Int32), .unset] [(.int (5 : Int32))])
  refine own_by (fun t_ k_ => XT.iconstV X0.here hx rfl (1 : Int32) (hb hby d2_16) (by decide) k_) ?_
  show own_Go p e below _ T0 (mkF m 17 #[oR a, oD x, .second, oI (0 : Int32), oI (5 : Int32), .unset] [(.int (1 : Int32)), (.int (5 : Int32))])
  refine own_by (fun t_ k_ => XT.iushr X0.here hx rfl (hb hby d2_17) rfl k_) ?_
  show own_Go p e below _ T0 (mkF m 18 #[oR a, oD x, .second, oI (0 : Int32), oI (5 : Int32), .unset] [(.int (((5 : Int32).toUInt32 >>> ((1 : Int32) &&& 31).toUInt32).toInt32))])
  rw [show (((5 : Int32).toUInt32 >>> ((1 : Int32) &&& 31).toUInt32).toInt32) = (2 : Int32) by decide]
  show own_Go p e below _ T0 (mkF m 18 #[oR a, oD x, .second, oI (0 : Int32), oI (5 : Int32), .unset] [(.int (2 : Int32))])
  refine own_by (fun t_ k_ => XS.istore X0.here hx rfl (hb hby d2_18) rfl (l' := #[oR a, oD x, .second, oI (0 : Int32), oI (5 : Int32), oI (2 : Int32)]) rfl k_) ?_
  show own_Go p e below _ T0 (mkF m 20 #[oR a, oD x, .second, oI (0 : Int32), oI (5 : Int32), oI (2 : Int32)] [])
  refine own_by (fun t_ k_ => XS.aloadN X0.here hx rfl (hb hby d2_20) rfl rfl  k_) ?_
  show own_Go p e below _ T0 (mkF m 21 #[oR a, oD x, .second, oI (0 : Int32), oI (5 : Int32), oI (2 : Int32)] [(.ref a)])
  refine own_by (fun t_ k_ => XS.iload X0.here hx rfl (hb hby d2_21) rfl  k_) ?_
  show own_Go p e below _ T0 (mkF m 23 #[oR a, oD x, .second, oI (0 : Int32), oI (5 : Int32), oI (2 : Int32)] [(.int (2 : Int32)), (.ref a)])
  refine own_ldD X0 hx hZ e0 V 2 (by decide) (by decide) (v := (.double d2)) rfl (hb hby d2_23) ?_
  show own_Go p e below _ T0 (mkF m 24 #[oR a, oD x, .second, oI (0 : Int32), oI (5 : Int32), oI (2 : Int32)] [(.double d2)])
  refine own_by (fun t_ k_ => XS.dloadN X0.here hx rfl (hb hby d2_24) rfl  k_) ?_
  show own_Go p e below _ T0 (mkF m 25 #[oR a, oD x, .second, oI (0 : Int32), oI (5 : Int32), oI (2 : Int32)] [(.double x), (.double d2)])
  refine own_by (fun t_ k_ => XS.dcmpS X0.here hx rfl (hb hby d2_25) rfl rfl k_) ?_
  show own_Go p e below _ T0 (mkF m 26 #[oR a, oD x, .second, oI (0 : Int32), oI (5 : Int32), oI (2 : Int32)] [(.int (cmpValue (FP.dcmp d2 x) .g))])
  by_cases c26_0 : (0 : Int32) < (cmpValue (FP.dcmp d2 x) .g)
  · refine own_by (fun t_ k_ => XS.ifYes X0.here hx rfl (pc0 := 26) (pc' := 37) rfl (hb hby d2_26) rfl (XT.i0_gt_t c26_0) (by decide) (by decide) k_) ?_
    show own_Go p e below _ T0 (mkF m 37 #[oR a, oD x, .second, oI (0 : Int32), oI (5 : Int32), oI (2 : Int32)] [])
    refine own_by (fun t_ k_ => XS.iload X0.here hx rfl (hb hby d2_37) rfl  k_) ?_
    show own_Go p e below _ T0 (mkF m 39 #[oR a, oD x, .second, oI (0 : Int32), oI (5 : Int32), oI (2 : Int32)] [(.int (2 : Int32))])
    refine own_by (fun t_ k_ => XS.istore X0.here hx rfl (hb hby d2_39) rfl (l' := #[oR a, oD x, .second, oI (0 : Int32), oI (2 : Int32), oI (2 : Int32)]) rfl k_) ?_
    show own_Go p e below _ T0 (mkF m 41 #[oR a, oD x, .second, oI (0 : Int32), oI (2 : Int32), oI (2 : Int32)] [])
    refine own_by (fun t_ k_ => XS.goto X0.here hx rfl (pc0 := 41) (pc' := 6) rfl (hb hby d2_41) (by decide) (by decide) k_) ?_
    show own_Go p e below _ T0 (mkF m 6 #[oR a, oD x, .second, oI (0 : Int32), oI (2 : Int32), oI (2 : Int32)] [])
    refine own_by (fun t_ k_ => XS.iloadN X0.here hx rfl (hb hby d2_6) rfl  k_) ?_
    show own_Go p e below _ T0 (mkF m 7 #[oR a, oD x, .second, oI (0 : Int32), oI (2 : Int32), oI (2 : Int32)] [(.int (0 : Int32))])
    refine own_by (fun t_ k_ => XS.iload X0.here hx rfl (hb hby d2_7) rfl  k_) ?_
    show own_Go p e below _ T0 (mkF m 9 #[oR a, oD x, .second, oI (0 : Int32), oI (2 : Int32), oI (2 : Int32)] [(.int (2 : Int32)), (.int (0 : Int32))])
    refine own_by (fun t_ k_ => XS.icmpNo X0.here hx rfl (hb hby d2_9) rfl (XT.ii_ge_f (by decide)) k_) ?_
    show own_Go p e below _ T0 (mkF m 12 #[oR a, oD x, .second, oI (0 : Int32), oI (2 : Int32), oI (2 : Int32)] [])
    refine own_by (fun t_ k_ => XS.iloadN X0.here hx rfl (hb hby d2_12) rfl  k_) ?_
    show own_Go p e below _ T0 (mkF m 13 #[oR a, oD x, .second, oI (0 : Int32), oI (2 : Int32), oI (2 : Int32)] [(.int (0 : Int32))])
    refine own_by (fun t_ k_ => XS.iload X0.here hx rfl (hb hby d2_13) rfl  k_) ?_
    show own_Go p e below _ T0 (mkF m 15 #[oR a, oD x, .second, oI (0 : Int32), oI (2 : Int32), oI (2 : Int32)] [(.int (2 : Int32)), (.int (0 : Int32))])
    refine own_by (fun t_ k_ => XS.iadd X0.here hx rfl (hb hby d2_15) rfl k_) ?_
    show own_Go p e below _ T0 (mkF m 16 #[oR a, oD x, .second, oI (0 : Int32), oI (2 : Int32), oI (2 : Int32)] [(.int ((0 : Int32) + (2 : Int32)))])
    rw [show ((0 : Int32) + (2 : Int32)) = (2 : Int32) by decide]
    show own_Go p e below _ T0 (mkF m 16 #[oR a, oD x, .second, oI (0 : Int32), oI (2 : Int32), oI (2 : Int32)] [(.int (2 : Int32))])
    refine own_by (fun t_ k_ => XT.iconstV X0.here hx rfl (1 : Int32) (hb hby d2_16) (by decide) k_) ?_
    show own_Go p e below _ T0 (mkF m 17 #[oR a, oD x, .second, oI (0 : Int32), oI (2 : Int32), oI (2 : Int32)] [(.int (1 : Int32)), (.int (2 : Int32))])
    refine own_by (fun t_ k_ => XT.iushr X0.here hx rfl (hb hby d2_17) rfl k_) ?_
    show own_Go p e below _ T0 (mkF m 18 #[oR a, oD x, .second, oI (0 : Int32), oI (2 : Int32), oI (2 : Int32)] [(.int (((2 : Int32).toUInt32 >>> ((1 : Int32) &&& 31).toUInt32).toInt32))])
    rw [show (((2 : Int32).toUInt32 >>> ((1 : Int32) &&& 31).toUInt32).toInt32) = (1 : Int32) by decide]
    show own_Go p e below _ T0 (mkF m 18 #[oR a, oD x, .second, oI (0 : Int32), oI (2 : Int32), oI (2 : Int32)] [(.int (1 : Int32))])
    refine own_by (fun t_ k_ => XS.istore X0.here hx rfl (hb hby d2_18) rfl (l' := #[oR a, oD x, .second, oI (0 : Int32), oI (2 : Int32), oI (1 : Int32)]) rfl k_) ?_
    show own_Go p e below _ T0 (mkF m 20 #[oR a, oD x, .second, oI (0 : Int32), oI (2 : Int32), oI (1 : Int32)] [])
    refine own_by (fun t_ k_ => XS.aloadN X0.here hx rfl (hb hby d2_20) rfl rfl  k_) ?_
    show own_Go p e below _ T0 (mkF m 21 #[oR a, oD x, .second, oI (0 : Int32), oI (2 : Int32), oI (1 : Int32)] [(.ref a)])
    refine own_by (fun t_ k_ => XS.iload X0.here hx rfl (hb hby d2_21) rfl  k_) ?_
    show own_Go p e below _ T0 (mkF m 23 #[oR a, oD x, .second, oI (0 : Int32), oI (2 : Int32), oI (1 : Int32)] [(.int (1 : Int32)), (.ref a)])
    refine own_ldD X0 hx hZ e0 V 1 (by decide) (by decide) (v := (.double d1)) rfl (hb hby d2_23) ?_
    show own_Go p e below _ T0 (mkF m 24 #[oR a, oD x, .second, oI (0 : Int32), oI (2 : Int32), oI (1 : Int32)] [(.double d1)])
    refine own_by (fun t_ k_ => XS.dloadN X0.here hx rfl (hb hby d2_24) rfl  k_) ?_
    show own_Go p e below _ T0 (mkF m 25 #[oR a, oD x, .second, oI (0 : Int32), oI (2 : Int32), oI (1 : Int32)] [(.double x), (.double d1)])
    refine own_by (fun t_ k_ => XS.dcmpS X0.here hx rfl (hb hby d2_25) rfl rfl k_) ?_
    show own_Go p e below _ T0 (mkF m 26 #[oR a, oD x, .second, oI (0 : Int32), oI (2 : Int32), oI (1 : Int32)] [(.int (cmpValue (FP.dcmp d1 x) .g))])
    by_cases c26_1 : (0 : Int32) < (cmpValue (FP.dcmp d1 x) .g)
    · refine own_by (fun t_ k_ => XS.ifYes X0.here hx rfl (pc0 := 26) (pc' := 37) rfl (hb hby d2_26) rfl (XT.i0_gt_t c26_1) (by decide) (by decide) k_) ?_
      show own_Go p e below _ T0 (mkF m 37 #[oR a, oD x, .second, oI (0 : Int32), oI (2 : Int32), oI (1 : Int32)] [])
      refine own_by (fun t_ k_ => XS.iload X0.here hx rfl (hb hby d2_37) rfl  k_) ?_
      show own_Go p e below _ T0 (mkF m 39 #[oR a, oD x, .second, oI (0 : Int32), oI (2 : Int32), oI (1 : Int32)] [(.int (1 : Int32))])
      refine own_by (fun t_ k_ => XS.istore X0.here hx rfl (hb hby d2_39) rfl (l' := #[oR a, oD x, .second, oI (0 : Int32), oI (1 : Int32), oI (1 : Int32)]) rfl k_) ?_
      show own_Go p e below _ T0 (mkF m 41 #[oR a, oD x, .second, oI (0 : Int32), oI (1 : Int32), oI (1 : Int32)] [])
      refine own_by (fun t_ k_ => XS.goto X0.here hx rfl (pc0 := 41) (pc' := 6) rfl (hb hby d2_41) (by decide) (by decide) k_) ?_
      show own_Go p e below _ T0 (mkF m 6 #[oR a, oD x, .second, oI (0 : Int32), oI (1 : Int32), oI (1 : Int32)] [])
      refine own_by (fun t_ k_ => XS.iloadN X0.here hx rfl (hb hby d2_6) rfl  k_) ?_
      show own_Go p e below _ T0 (mkF m 7 #[oR a, oD x, .second, oI (0 : Int32), oI (1 : Int32), oI (1 : Int32)] [(.int (0 : Int32))])
      refine own_by (fun t_ k_ => XS.iload X0.here hx rfl (hb hby d2_7) rfl  k_) ?_
      show own_Go p e below _ T0 (mkF m 9 #[oR a, oD x, .second, oI (0 : Int32), oI (1 : Int32), oI (1 : Int32)] [(.int (1 : Int32)), (.int (0 : Int32))])
      refine own_by (fun t_ k_ => XS.icmpNo X0.here hx rfl (hb hby d2_9) rfl (XT.ii_ge_f (by decide)) k_) ?_
      show own_Go p e below _ T0 (mkF m 12 #[oR a, oD x, .second, oI (0 : Int32), oI (1 : Int32), oI (1 : Int32)] [])
      refine own_by (fun t_ k_ => XS.iloadN X0.here hx rfl (hb hby d2_12) rfl  k_) ?_
      show own_Go p e below _ T0 (mkF m 13 #[oR a, oD x, .second, oI (0 : Int32), oI (1 : Int32), oI (1 : Int32)] [(.int (0 : Int32))])
      refine own_by (fun t_ k_ => XS.iload X0.here hx rfl (hb hby d2_13) rfl  k_) ?_
      show own_Go p e below _ T0 (mkF m 15 #[oR a, oD x, .second, oI (0 : Int32), oI (1 : Int32), oI (1 : Int32)] [(.int (1 : Int32)), (.int (0 : Int32))])
      refine own_by (fun t_ k_ => XS.iadd X0.here hx rfl (hb hby d2_15) rfl k_) ?_
      show own_Go p e below _ T0 (mkF m 16 #[oR a, oD x, .second, oI (0 : Int32), oI (1 : Int32), oI (1 : Int32)] [(.int ((0 : Int32) + (1 : Int32)))])
      rw [show ((0 : Int32) + (1 : Int32)) = (1 : Int32) by decide]
      show own_Go p e below _ T0 (mkF m 16 #[oR a, oD x, .second, oI (0 : Int32), oI (1 : Int32), oI (1 : Int32)] [(.int (1 : Int32))])
      refine own_by (fun t_ k_ => XT.iconstV X0.here hx rfl (1 : Int32) (hb hby d2_16) (by decide) k_) ?_
      show own_Go p e below _ T0 (mkF m 17 #[oR a, oD x, .second, oI (0 : Int32), oI (1 : Int32), oI (1 : Int32)] [(.int (1 : Int32)), (.int (1 : Int32))])
      refine own_by (fun t_ k_ => XT.iushr X0.here hx rfl (hb hby d2_17) rfl k_) ?_
      show own_Go p e below _ T0 (mkF m 18 #[oR a, oD x, .second, oI (0 : Int32), oI (1 : Int32), oI (1 : Int32)] [(.int (((1 : Int32).toUInt32 >>> ((1 : Int32) &&& 31).toUInt32).toInt32))])
      rw [show (((1 : Int32).toUInt32 >>> ((1 : Int32) &&& 31).toUInt32).toInt32) = (0 : Int32) by decide]
      show own_Go p e below _ T0 (mkF m 18 #[oR a, oD x, .second, oI (0 : Int32), oI (1 : Int32), oI (1 : Int32)] [(.int (0 : Int32))])
      refine own_by (fun t_ k_ => XS.istore X0.here hx rfl (hb hby d2_18) rfl (l' := #[oR a, oD x, .second, oI (0 : Int32), oI (1 : Int32), oI (0 : Int32)]) rfl k_) ?_
      show own_Go p e below _ T0 (mkF m 20 #[oR a, oD x, .second, oI (0 : Int32), oI (1 : Int32), oI (0 : Int32)] [])
      refine own_by (fun t_ k_ => XS.aloadN X0.here hx rfl (hb hby d2_20) rfl rfl  k_) ?_
      show own_Go p e below _ T0 (mkF m 21 #[oR a, oD x, .second, oI (0 : Int32), oI (1 : Int32), oI (0 : Int32)] [(.ref a)])
      refine own_by (fun t_ k_ => XS.iload X0.here hx rfl (hb hby d2_21) rfl  k_) ?_
      show own_Go p e below _ T0 (mkF m 23 #[oR a, oD x, .second, oI (0 : Int32), oI (1 : Int32), oI (0 : Int32)] [(.int (0 : Int32)), (.ref a)])
      refine own_ldD X0 hx hZ e0 V 0 (by decide) (by decide) (v := (.double d0)) rfl (hb hby d2_23) ?_
      show own_Go p e below _ T0 (mkF m 24 #[oR a, oD x, .second, oI (0 : Int32), oI (1 : Int32), oI (0 : Int32)] [(.double d0)])
      refine own_by (fun t_ k_ => XS.dloadN X0.here hx rfl (hb hby d2_24) rfl  k_) ?_
      show own_Go p e below _ T0 (mkF m 25 #[oR a, oD x, .second, oI (0 : Int32), oI (1 : Int32), oI (0 : Int32)] [(.double x), (.double d0)])
      refine own_by (fun t_ k_ => XS.dcmpS X0.here hx rfl (hb hby d2_25) rfl rfl k_) ?_
      show own_Go p e below _ T0 (mkF m 26 #[oR a, oD x, .second, oI (0 : Int32), oI (1 : Int32), oI (0 : Int32)] [(.int (cmpValue (FP.dcmp d0 x) .g))])
      by_cases c26_2 : (0 : Int32) < (cmpValue (FP.dcmp d0 x) .g)
      · refine own_by (fun t_ k_ => XS.ifYes X0.here hx rfl (pc0 := 26) (pc' := 37) rfl (hb hby d2_26) rfl (XT.i0_gt_t c26_2) (by decide) (by decide) k_) ?_
        show own_Go p e below _ T0 (mkF m 37 #[oR a, oD x, .second, oI (0 : Int32), oI (1 : Int32), oI (0 : Int32)] [])
        refine own_by (fun t_ k_ => XS.iload X0.here hx rfl (hb hby d2_37) rfl  k_) ?_
        show own_Go p e below _ T0 (mkF m 39 #[oR a, oD x, .second, oI (0 : Int32), oI (1 : Int32), oI (0 : Int32)] [(.int (0 : Int32))])
        refine own_by (fun t_ k_ => XS.istore X0.here hx rfl (hb hby d2_39) rfl (l' := #[oR a, oD x, .second, oI (0 : Int32), oI (0 : Int32), oI (0 : Int32)]) rfl k_) ?_
        show own_Go p e below _ T0 (mkF m 41 #[oR a, oD x, .second, oI (0 : Int32), oI (0 : Int32), oI (0 : Int32)] [])
        refine own_by (fun t_ k_ => XS.goto X0.here hx rfl (pc0 := 41) (pc' := 6) rfl (hb hby d2_41) (by decide) (by decide) k_) ?_
        show own_Go p e below _ T0 (mkF m 6 #[oR a, oD x, .second, oI (0 : Int32), oI (0 : Int32), oI (0 : Int32)] [])
        refine own_by (fun t_ k_ => XS.iloadN X0.here hx rfl (hb hby d2_6) rfl  k_) ?_
        show own_Go p e below _ T0 (mkF m 7 #[oR a, oD x, .second, oI (0 : Int32), oI (0 : Int32), oI (0 : Int32)] [(.int (0 : Int32))])
        refine own_by (fun t_ k_ => XS.iload X0.here hx rfl (hb hby d2_7) rfl  k_) ?_
        show own_Go p e below _ T0 (mkF m 9 #[oR a, oD x, .second, oI (0 : Int32), oI (0 : Int32), oI (0 : Int32)] [(.int (0 : Int32)), (.int (0 : Int32))])
        refine own_by (fun t_ k_ => XS.icmpYes X0.here hx rfl (pc0 := 9) (pc' := 44) rfl (hb hby d2_9) rfl (XT.ii_ge_t (by decide)) (by decide) (by decide) k_) ?_
        show own_Go p e below _ T0 (mkF m 44 #[oR a, oD x, .second, oI (0 : Int32), oI (0 : Int32), oI (0 : Int32)] [])
        refine own_by (fun t_ k_ => XS.iloadN X0.here hx rfl (hb hby d2_44) rfl  k_) ?_
        show own_Go p e below _ T0 (mkF m 45 #[oR a, oD x, .second, oI (0 : Int32), oI (0 : Int32), oI (0 : Int32)] [(.int (0 : Int32))])
        exact own_retI X0 hx hlk hret (hb hby d2_45) (by decide) (by decide) (⟨by rw [own_cb5, if_pos c26_0, if_pos c26_1, if_pos c26_2], e0, rfl⟩)
      · refine own_by (fun t_ k_ => XS.ifNo X0.here hx rfl (hb hby d2_26) rfl (XT.i0_gt_f c26_2) k_) ?_
        show own_Go p e below _ T0 (mkF m 29 #[oR a, oD x, .second, oI (0 : Int32), oI (1 : Int32), oI (0 : Int32)] [])
        refine own_by (fun t_ k_ => XS.iload X0.here hx rfl (hb hby d2_29) rfl  k_) ?_
        show own_Go p e below _ T0 (mkF m 31 #[oR a, oD x, .second, oI (0 : Int32), oI (1 : Int32), oI (0 : Int32)] [(.int (0 : Int32))])
        refine own_by (fun t_ k_ => XT.iconstV X0.here hx rfl (1 : Int32) (hb hby d2_31) (by decide) k_) ?_
        show own_Go p e below _ T0 (mkF m 32 #[oR a, oD x, .second, oI (0 : Int32), oI (1 : Int32), oI (0 : Int32)] [(.int (1 : Int32)), (.int (0 : Int32))])
        refine own_by (fun t_ k_ => XS.iadd X0.here hx rfl (hb hby d2_32) rfl k_) ?_
        show own_Go p e below _ T0 (mkF m 33 #[oR a, oD x, .second, oI (0 : Int32), oI (1 : Int32), oI (0 : Int32)] [(.int ((0 : Int32) + (1 : Int32)))])
        rw [show ((0 : Int32) + (1 : Int32)) = (1 : Int32) by decide]
        show own_Go p e below _ T0 (mkF m 33 #[oR a, oD x, .second, oI (0 : Int32), oI (1 : Int32), oI (0 : Int32)] [(.int (1 : Int32))])
        refine own_by (fun t_ k_ => XS.istoreN X0.here hx rfl (hb hby d2_33) rfl (l' := #[oR a, oD x, .second, oI (1 : Int32), oI (1 : Int32), oI (0 : Int32)]) rfl k_) ?_
        show own_Go p e below _ T0 (mkF m 34 #[oR a, oD x, .second, oI (1 : Int32), oI (1 : Int32), oI (0 : Int32)] [])
        refine own_by (fun t_ k_ => XS.goto X0.here hx rfl (pc0 := 34) (pc' := 41) rfl (hb hby d2_34) (by decide) (by decide) k_) ?_
        show own_Go p e below _ T0 (mkF m 41 #[oR a, oD x, .second, oI (1 : Int32), oI (1 : Int32), oI (0 : Int32)] [])
        refine own_by (fun t_ k_ => XS.goto X0.here hx rfl (pc0 := 41) (pc' := 6) rfl (hb hby d2_41) (by decide) (by decide) k_) ?_
        show own_Go p e below _ T0 (mkF m 6 #[oR a, oD x, .second, oI (1 : Int32), oI (1 : Int32), oI (0 : Int32)] [])
        refine own_by (fun t_ k_ => XS.iloadN X0.here hx rfl (hb hby d2_6) rfl  k_) ?_
        show own_Go p e below _ T0 (mkF m 7 #[oR a, oD x, .second, oI (1 : Int32), oI (1 : Int32), oI (0 : Int32)] [(.int (1 : Int32))])
        refine own_by (fun t_ k_ => XS.iload X0.here hx rfl (hb hby d2_7) rfl  k_) ?_
        show own_Go p e below _ T0 (mkF m 9 #[oR a, oD x, .second, oI (1 : Int32), oI (1 : Int32), oI (0 : Int32)] [(.int (1 : Int32)), (.int (1 : Int32))])
        refine own_by (fun t_ k_ => XS.icmpYes X0.here hx rfl (pc0 := 9) (pc' := 44) rfl (hb hby d2_9) rfl (XT.ii_ge_t (by decide)) (by decide) (by decide) k_) ?_
        show own_Go p e below _ T0 (mkF m 44 #[oR a, oD x, .second, oI (1 : Int32), oI (1 : Int32), oI (0 : Int32)] [])
        refine own_by (fun t_ k_ => XS.iloadN X0.here hx rfl (hb hby d2_44) rfl  k_) ?_
        show own_Go p e below _ T0 (mkF m 45 #[oR a, oD x, .second, oI (1 : Int32), oI (1 : Int32), oI (0 : Int32)] [(.int (1 : Int32))])
        exact own_retI X0 hx hlk hret (hb hby d2_45) (by decide) (by decide) (⟨by rw [own_cb5, if_pos c26_0, if_pos c26_1, if_neg c26_2], e0, rfl⟩)
    · refine own_by (fun t_ k_ => XS.ifNo X0.here hx rfl (hb hby d2_26) rfl (XT.i0_gt_f c26_1) k_) ?_
      show own_Go p e below _ T0 (mkF m 29 #[oR a, oD x, .second, oI (0 : Int32), oI (2 : Int32), oI (1 : Int32)] [])
      refine own_by (fun t_ k_ => XS.iload X0.here hx rfl (hb hby d2_29) rfl  k_) ?_
      show own_Go p e below _ T0 (mkF m 31 #[oR a, oD x, .second, oI (0 : Int32), oI (2 : Int32), oI (1 : Int32)] [(.int (1 : Int32))])
      refine own_by (fun t_ k_ => XT.iconstV X0.here hx rfl (1 : Int32) (hb hby d2_31) (by decide) k_) ?_
      show own_Go p e below _ T0 (mkF m 32 #[oR a, oD x, .second, oI (0 : Int32), oI (2 : Int32), oI (1 : Int32)] [(.int (1 : Int32)), (.int (1 : Int32))])
      refine own_by (fun t_ k_ => XS.iadd X0.here hx rfl (hb hby d2_32) rfl k_) ?_
      show own_Go p e below _ T0 (mkF m 33 #[oR a, oD x, .second, oI (0 : Int32), oI (2 : Int32), oI (1 : Int32)] [(.int ((1 : Int32) + (1 : Int32)))])
      rw [show ((1 : Int32) + (1 : Int32)) = (2 : Int32) by decide]
      show own_Go p e below _ T0 (mkF m 33 #[oR a, oD x, .second, oI (0 : Int32), oI (2 : Int32), oI (1 : Int32)] [(.int (2 : Int32))])
      refine own_by (fun t_ k_ => XS.istoreN X0.here hx rfl (hb hby d2_33) rfl (l' := #[oR a, oD x, .second, oI (2 : Int32), oI (2 : Int32), oI (1 : Int32)]) rfl k_) ?_
      show own_Go p e below _ T0 (mkF m 34 #[oR a, oD x, .second, oI (2 : Int32), oI (2 : Int32), oI (1 : Int32)] [])
      refine own_by (fun t_ k_ => XS.goto X0.here hx rfl (pc0 := 34) (pc' := 41) rfl (hb hby d2_34) (by decide) (by decide) k_) ?_
      show own_Go p e below _ T0 (mkF m 41 #[oR a, oD x, .second, oI (2 : Int32), oI (2 : Int32), oI (1 : Int32)] [])
      refine own_by (fun t_ k_ => XS.goto X0.here hx rfl (pc0 := 41) (pc' := 6) rfl (hb hby d2_41) (by decide) (by decide) k_) ?_
      show own_Go p e below _ T0 (mkF m 6 #[oR a, oD x, .second, oI (2 : Int32), oI (2 : Int32), oI (1 : Int32)] [])
      refine own_by (fun t_ k_ => XS.iloadN X0.here hx rfl (hb hby d2_6) rfl  k_) ?_
      show own_Go p e below _ T0 (mkF m 7 #[oR a, oD x, .second, oI (2 : Int32), oI (2 : Int32), oI (1 : Int32)] [(.int (2 : Int32))])
      refine own_by (fun t_ k_ => XS.iload X0.here hx rfl (hb hby d2_7) rfl  k_) ?_
      show own_Go p e below _ T0 (mkF m 9 #[oR a, oD x, .second, oI (2 : Int32), oI (2 : Int32), oI (1 : Int32)] [(.int (2 : Int32)), (.int (2 : Int32))])
      refine own_by (fun t_ k_ => XS.icmpYes X0.here hx rfl (pc0 := 9) (pc' := 44) rfl (hb hby d2_9) rfl (XT.ii_ge_t (by decide)) (by decide) (by decide) k_) ?_
      show own_Go p e below _ T0 (mkF m 44 #[oR a, oD x, .second, oI (2 : Int32), oI (2 : Int32), oI (1 : Int32)] [])
      refine own_by (fun t_ k_ => XS.iloadN X0.here hx rfl (hb hby d2_44) rfl  k_) ?_
      show own_Go p e below _ T0 (mkF m 45 #[oR a, oD x, .second, oI (2 : Int32), oI (2 : Int32), oI (1 : Int32)] [(.int (2 : Int32))])
      exact own_retI X0 hx hlk hret (hb hby d2_45) (by decide) (by decide) (⟨by rw [own_cb5, if_pos c26_0, if_neg c26_1], e0, rfl⟩)
  · refine own_by (fun t_ k_ => XS.ifNo X0.here hx rfl (hb hby d2_26) rfl (XT.i0_gt_f c26_0) k_) ?_
    show own_Go p e below _ T0 (mkF m 29 #[oR a, oD x, .second, oI (0 : Int32), oI (5 : Int32), oI (2 : Int32)] [])
    refine own_by (fun t_ k_ => XS.iload X0.here hx rfl (hb hby d2_29) rfl  k_) ?_
    show own_Go p e below _ T0 (mkF m 31 #[oR a, oD x, .second, oI (0 : Int32), oI (5 : Int32), oI (2 : Int32)] [(.int (2 : Int32))])
    refine own_by (fun t_ k_ => XT.iconstV X0.here hx rfl (1 : Int32) (hb hby d2_31) (by decide) k_) ?_
    show own_Go p e below _ T0 (mkF m 32 #[oR a, oD x, .second, oI (0 : Int32), oI (5 : Int32), oI (2 : Int32)] [(.int (1 : Int32)), (.int (2 : Int32))])
    refine own_by (fun t_ k_ => XS.iadd X0.here hx rfl (hb hby d2_32) rfl k_) ?_
    show own_Go p e below _ T0 (mkF m 33 #[oR a, oD x, .second, oI (0 : Int32), oI (5 : Int32), oI (2 : Int32)] [(.int ((2 : Int32) + (1 : Int32)))])
    rw [show ((2 : Int32) + (1 : Int32)) = (3 : Int32) by decide]
    show own_Go p e below _ T0 (mkF m 33 #[oR a, oD x, .second, oI (0 : Int32), oI (5 : Int32), oI (2 : Int32)] [(.int (3 : Int32))])
    refine own_by (fun t_ k_ => XS.istoreN X0.here hx rfl (hb hby d2_33) rfl (l' := #[oR a, oD x, .second, oI (3 : Int32), oI (5 : Int32), oI (2 : Int32)]) rfl k_) ?_
    show own_Go p e below _ T0 (mkF m 34 #[oR a, oD x, .second, oI (3 : Int32), oI (5 : Int32), oI (2 : Int32)] [])
    refine own_by (fun t_ k_ => XS.goto X0.here hx rfl (pc0 := 34) (pc' := 41) rfl (hb hby d2_34) (by decide) (by decide) k_) ?_
    show own_Go p e below _ T0 (mkF m 41 #[oR a, oD x, .second, oI (3 : Int32), oI (5 : Int32), oI (2 : Int32)] [])
    refine own_by (fun t_ k_ => XS.goto X0.here hx rfl (pc0 := 41) (pc' := 6) rfl (hb hby d2_41) (by decide) (by decide) k_) ?_
    show own_Go p e below _ T0 (mkF m 6 #[oR a, oD x, .second, oI (3 : Int32), oI (5 : Int32), oI (2 : Int32)] [])
    refine own_by (fun t_ k_ => XS.iloadN X0.here hx rfl (hb hby d2_6) rfl  k_) ?_
    show own_Go p e below _ T0 (mkF m 7 #[oR a, oD x, .second, oI (3 : Int32), oI (5 : Int32), oI (2 : Int32)] [(.int (3 : Int32))])
    refine own_by (fun t_ k_ => XS.iload X0.here hx rfl (hb hby d2_7) rfl  k_) ?_
    show own_Go p e below _ T0 (mkF m 9 #[oR a, oD x, .second, oI (3 : Int32), oI (5 : Int32), oI (2 : Int32)] [(.int (5 : Int32)), (.int (3 : Int32))])
    refine own_by (fun t_ k_ => XS.icmpNo X0.here hx rfl (hb hby d2_9) rfl (XT.ii_ge_f (by decide)) k_) ?_
    show own_Go p e below _ T0 (mkF m 12 #[oR a, oD x, .second, oI (3 : Int32), oI (5 : Int32), oI (2 : Int32)] [])
    refine own_by (fun t_ k_ => XS.iloadN X0.here hx rfl (hb hby d2_12) rfl  k_) ?_
    show own_Go p e below _ T0 (mkF m 13 #[oR a, oD x, .second, oI (3 : Int32), oI (5 : Int32), oI (2 : Int32)] [(.int (3 : Int32))])
    refine own_by (fun t_ k_ => XS.iload X0.here hx rfl (hb hby d2_13) rfl  k_) ?_
    show own_Go p e below _ T0 (mkF m 15 #[oR a, oD x, .second, oI (3 : Int32), oI (5 : Int32), oI (2 : Int32)] [(.int (5 : Int32)), (.int (3 : Int32))])
    refine own_by (fun t_ k_ => XS.iadd X0.here hx rfl (hb hby d2_15) rfl k_) ?_
    show own_Go p e below _ T0 (mkF m 16 #[oR a, oD x, .second, oI (3 : Int32), oI (5 : Int32), oI (2 : Int32)] [(.int ((3 : Int32) + (5 : Int32)))])
    rw [show ((3 : Int32) + (5 : Int32)) = (8 : Int32) by decide]
    show own_Go p e below _ T0 (mkF m 16 #[oR a, oD x, .second, oI (3 : Int32), oI (5 : Int32), oI (2 : Int32)] [(.int (8 : Int32))])
    refine own_by (fun t_ k_ => XT.iconstV X0.here hx rfl (1 : Int32) (hb hby d2_16) (by decide) k_) ?_
    show own_Go p e below _ T0 (mkF m 17 #[oR a, oD x, .second, oI (3 : Int32), oI (5 : Int32), oI (2 : Int32)] [(.int (1 : Int32)), (.int (8 : Int32))])
    refine own_by (fun t_ k_ => XT.iushr X0.here hx rfl (hb hby d2_17) rfl k_) ?_
    show own_Go p e below _ T0 (mkF m 18 #[oR a, oD x, .second, oI (3 : Int32), oI (5 : Int32), oI (2 : Int32)] [(.int (((8 : Int32).toUInt32 >>> ((1 : Int32) &&& 31).toUInt32).toInt32))])
    rw [show (((8 : Int32).toUInt32 >>> ((1 : Int32) &&& 31).toUInt32).toInt32) = (4 : Int32) by decide]
    show own_Go p e below _ T0 (mkF m 18 #[oR a, oD x, .second, oI (3 : Int32), oI (5 : Int32), oI (2 : Int32)] [(.int (4 : Int32))])
    refine own_by (fun t_ k_ => XS.istore X0.here hx rfl (hb hby d2_18) rfl (l' := #[oR a, oD x, .second, oI (3 : Int32), oI (5 : Int32), oI (4 : Int32)]) rfl k_) ?_
    show own_Go p e below _ T0 (mkF m 20 #[oR a, oD x, .second, oI (3 : Int32), oI (5 : Int32), oI (4 : Int32)] [])
    refine own_by (fun t_ k_ => XS.aloadN X0.here hx rfl (hb hby d2_20) rfl rfl  k_) ?_
    show own_Go p e below _ T0 (mkF m 21 #[oR a, oD x, .second, oI (3 : Int32), oI (5 : Int32), oI (4 : Int32)] [(.ref a)])
    refine own_by (fun t_ k_ => XS.iload X0.here hx rfl (hb hby d2_21) rfl  k_) ?_
    show own_Go p e below _ T0 (mkF m 23 #[oR a, oD x, .second, oI (3 : Int32), oI (5 : Int32), oI (4 : Int32)] [(.int (4 : Int32)), (.ref a)])
    refine own_ldD X0 hx hZ e0 V 4 (by decide) (by decide) (v := (.double d4)) rfl (hb hby d2_23) ?_
    show own_Go p e below _ T0 (mkF m 24 #[oR a, oD x, .second, oI (3 : Int32), oI (5 : Int32), oI (4 : Int32)] [(.double d4)])
    refine own_by (fun t_ k_ => XS.dloadN X0.here hx rfl (hb hby d2_24) rfl  k_) ?_
    show own_Go p e below _ T0 (mkF m 25 #[oR a, oD x, .second, oI (3 : Int32), oI (5 : Int32), oI (4 : Int32)] [(.double x), (.double d4)])
    refine own_by (fun t_ k_ => XS.dcmpS X0.here hx rfl (hb hby d2_25) rfl rfl k_) ?_
    show own_Go p e below _ T0 (mkF m 26 #[oR a, oD x, .second, oI (3 : Int32), oI (5 : Int32), oI (4 : Int32)] [(.int (cmpValue (FP.dcmp d4 x) .g))])
    by_cases c26_3 : (0 : Int32) < (cmpValue (FP.dcmp d4 x) .g)
    · refine own_by (fun t_ k_ => XS.ifYes X0.here hx rfl (pc0 := 26) (pc' := 37) rfl (hb hby d2_26) rfl (XT.i0_gt_t c26_3) (by decide) (by decide) k_) ?_
      show own_Go p e below _ T0 (mkF m 37 #[oR a, oD x, .second, oI (3 : Int32), oI (5 : Int32), oI (4 : Int32)] [])
      refine own_by (fun t_ k_ => XS.iload X0.here hx rfl (hb hby d2_37) rfl  k_) ?_
      show own_Go p e below _ T0 (mkF m 39 #[oR a, oD x, .second, oI (3 : Int32), oI (5 : Int32), oI (4 : Int32)] [(.int (4 : Int32))])
      refine own_by (fun t_ k_ => XS.istore X0.here hx rfl (hb hby d2_39) rfl (l' := #[oR a, oD x, .second, oI (3 : Int32), oI (4 : Int32), oI (4 : Int32)]) rfl k_) ?_
      show own_Go p e below _ T0 (mkF m 41 #[oR a, oD x, .second, oI (3 : Int32), oI (4 : Int32), oI (4 : Int32)] [])
      refine own_by (fun t_ k_ => XS.goto X0.here hx rfl (pc0 := 41) (pc' := 6) rfl (hb hby d2_41) (by decide) (by decide) k_) ?_
      show own_Go p e below _ T0 (mkF m 6 #[oR a, oD x, .second, oI (3 : Int32), oI (4 : Int32), oI (4 : Int32)] [])
      refine own_by (fun t_ k_ => XS.iloadN X0.here hx rfl (hb hby d2_6) rfl  k_) ?_
      show own_Go p e below _ T0 (mkF m 7 #[oR a, oD x, .second, oI (3 : Int32), oI (4 : Int32), oI (4 : Int32)] [(.int (3 : Int32))])
      refine own_by (fun t_ k_ => XS.iload X0.here hx rfl (hb hby d2_7) rfl  k_) ?_
      show own_Go p e below _ T0 (mkF m 9 #[oR a, oD x, .second, oI (3 : Int32), oI (4 : Int32), oI (4 : Int32)] [(.int (4 : Int32)), (.int (3 : Int32))])
      refine own_by (fun t_ k_ => XS.icmpNo X0.here hx rfl (hb hby d2_9) rfl (XT.ii_ge_f (by decide)) k_) ?_
      show own_Go p e below _ T0 (mkF m 12 #[oR a, oD x, .second, oI (3 : Int32), oI (4 : Int32), oI (4 : Int32)] [])
      refine own_by (fun t_ k_ => XS.iloadN X0.here hx rfl (hb hby d2_12) rfl  k_) ?_
      show own_Go p e below _ T0 (mkF m 13 #[oR a, oD x, .second, oI (3 : Int32), oI (4 : Int32), oI (4 : Int32)] [(.int (3 : Int32))])
      refine own_by (fun t_ k_ => XS.iload X0.here hx rfl (hb hby d2_13) rfl  k_) ?_
      show own_Go p e below _ T0 (mkF m 15 #[oR a, oD x, .second, oI (3 : Int32), oI (4 : Int32), oI (4 : Int32)] [(.int (4 : Int32)), (.int (3 : Int32))])
      refine own_by (fun t_ k_ => XS.iadd X0.here hx rfl (hb hby d2_15) rfl k_) ?_
      show own_Go p e below _ T0 (mkF m 16 #[oR a, oD x, .second, oI (3 : Int32), oI (4 : Int32), oI (4 : Int32)] [(.int ((3 : Int32) + (4 : Int32)))])
      rw [show ((3 : Int32) + (4 : Int32)) = (7 : Int32) by decide]
      show own_Go p e below _ T0 (mkF m 16 #[oR a, oD x, .second, oI (3 : Int32), oI (4 : Int32), oI (4 : Int32)] [(.int (7 : Int32))])
      refine own_by (fun t_ k_ => XT.iconstV X0.here hx rfl (1 : Int32) (hb hby d2_16) (by decide) k_) ?_
      show own_Go p e below _ T0 (mkF m 17 #[oR a, oD x, .second, oI (3 : Int32), oI (4 : Int32), oI (4 : Int32)] [(.int (1 : Int32)), (.int (7 : Int32))])
      refine own_by (fun t_ k_ => XT.iushr X0.here hx rfl (hb hby d2_17) rfl k_) ?_
      show own_Go p e below _ T0 (mkF m 18 #[oR a, oD x, .second, oI (3 : Int32), oI (4 : Int32), oI (4 : Int32)] [(.int (((7 : Int32).toUInt32 >>> ((1 : Int32) &&& 31).toUInt32).toInt32))])
      rw [show (((7 : Int32).toUInt32 >>> ((1 : Int32) &&& 31).toUInt32).toInt32) = (3 : Int32) by decide]
      show own_Go p e below _ T0 (mkF m 18 #[oR a, oD x, .second, oI (3 : Int32), oI (4 : Int32), oI (4 : Int32)] [(.int (3 : Int32))])
      refine own_by (fun t_ k_ => XS.istore X0.here hx rfl (hb hby d2_18) rfl (l' := #[oR a, oD x, .second, oI (3 : Int32), oI (4 : Int32), oI (3 : Int32)]) rfl k_) ?_
      show own_Go p e below _ T0 (mkF m 20 #[oR a, oD x, .second, oI (3 : Int32), oI (4 : Int32), oI (3 : Int32)] [])
      refine own_by (fun t_ k_ => XS.aloadN X0.here hx rfl (hb hby d2_20) rfl rfl  k_) ?_
      show own_Go p e below _ T0 (mkF m 21 #[oR a, oD x, .second, oI (3 : Int32), oI (4 : Int32), oI (3 : Int32)] [(.ref a)])
      refine own_by (fun t_ k_ => XS.iload X0.here hx rfl (hb hby d2_21) rfl  k_) ?_
      show own_Go p e below _ T0 (mkF m 23 #[oR a, oD x, .second, oI (3 : Int32), oI (4 : Int32), oI (3 : Int32)] [(.int (3 : Int32)), (.ref a)])
      refine own_ldD X0 hx hZ e0 V 3 (by decide) (by decide) (v := (.double d3)) rfl (hb hby d2_23) ?_
      show own_Go p e below _ T0 (mkF m 24 #[oR a, oD x, .second, oI (3 : Int32), oI (4 : Int32), oI (3 : Int32)] [(.double d3)])
      refine own_by (fun t_ k_ => XS.dloadN X0.here hx rfl (hb hby d2_24) rfl  k_) ?_
      show own_Go p e below _ T0 (mkF m 25 #[oR a, oD x, .second, oI (3 : Int32), oI (4 : Int32), oI (3 : Int32)] [(.double x), (.double d3)])
      refine own_by (fun t_ k_ => XS.dcmpS X0.here hx rfl (hb hby d2_25) rfl rfl k_) ?_
      show own_Go p e below _ T0 (mkF m 26 #[oR a, oD x, .second, oI (3 : Int32), oI (4 : Int32), oI (3 : Int32)] [(.int (cmpValue (FP.dcmp d3 x) .g))])
      by_cases c26_4 : (0 : Int32) < (cmpValue (FP.dcmp d3 x) .g)
      · refine own_by (fun t_ k_ => XS.ifYes X0.here hx rfl (pc0 := 26) (pc' := 37) rfl (hb hby d2_26) rfl (XT.i0_gt_t c26_4) (by decide) (by decide) k_) ?_
        show own_Go p e below _ T0 (mkF m 37 #[oR a, oD x, .second, oI (3 : Int32), oI (4 : Int32), oI (3 : Int32)] [])
        refine own_by (fun t_ k_ => XS.iload X0.here hx rfl (hb hby d2_37) rfl  k_) ?_
        show own_Go p e below _ T0 (mkF m 39 #[oR a, oD x, .second, oI (3 : Int32), oI (4 : Int32), oI (3 : Int32)] [(.int (3 : Int32))])
        refine own_by (fun t_ k_ => XS.istore X0.here hx rfl (hb hby d2_39) rfl (l' := #[oR a, oD x, .second, oI (3 : Int32), oI (3 : Int32), oI (3 : Int32)]) rfl k_) ?_
        show own_Go p e below _ T0 (mkF m 41 #[oR a, oD x, .second, oI (3 : Int32), oI (3 : Int32), oI (3 : Int32)] [])
        refine own_by (fun t_ k_ => XS.goto X0.here hx rfl (pc0 := 41) (pc' := 6) rfl (hb hby d2_41) (by decide) (by decide) k_) ?_
        show own_Go p e below _ T0 (mkF m 6 #[oR a, oD x, .second, oI (3 : Int32), oI (3 : Int32), oI (3 : Int32)] [])
        refine own_by (fun t_ k_ => XS.iloadN X0.here hx rfl (hb hby d2_6) rfl  k_) ?_
        show own_Go p e below _ T0 (mkF m 7 #[oR a, oD x, .second, oI (3 : Int32), oI (3 : Int32), oI (3 : Int32)] [(.int (3 : Int32))])
        refine own_by (fun t_ k_ => XS.iload X0.here hx rfl (hb hby d2_7) rfl  k_) ?_
        show own_Go p e below _ T0 (mkF m 9 #[oR a, oD x, .second, oI (3 : Int32), oI (3 : Int32), oI (3 : Int32)] [(.int (3 : Int32)), (.int (3 : Int32))])
        refine own_by (fun t_ k_ => XS.icmpYes X0.here hx rfl (pc0 := 9) (pc' := 44) rfl (hb hby d2_9) rfl (XT.ii_ge_t (by decide)) (by decide) (by decide) k_) ?_
        show own_Go p e below _ T0 (mkF m 44 #[oR a, oD x, .second, oI (3 : Int32), oI (3 : Int32), oI (3 : Int32)] [])
        refine own_by (fun t_ k_ => XS.iloadN X0.here hx rfl (hb hby d2_44) rfl  k_) ?_
        show own_Go p e below _ T0 (mkF m 45 #[oR a, oD x, .second, oI (3 : Int32), oI (3 : Int32), oI (3 : Int32)] [(.int (3 : Int32))])
        exact own_retI X0 hx hlk hret (hb hby d2_45) (by decide) (by decide) (⟨by rw [own_cb5, if_neg c26_0, if_pos c26_3, if_pos c26_4], e0, rfl⟩)
      · refine own_by (fun t_ k_ => XS.ifNo X0.here hx rfl (hb hby d2_26) rfl (XT.i0_gt_f c26_4) k_) ?_
        show own_Go p e below _ T0 (mkF m 29 #[oR a, oD x, .second, oI (3 : Int32), oI (4 : Int32), oI (3 : Int32)] [])
        refine own_by (fun t_ k_ => XS.iload X0.here hx rfl (hb hby d2_29) rfl  k_) ?_
        show own_Go p e below _ T0 (mkF m 31 #[oR a, oD x, .second, oI (3 : Int32), oI (4 : Int32), oI (3 : Int32)] [(.int (3 : Int32))])
        refine own_by (fun t_ k_ => XT.iconstV X0.here hx rfl (1 : Int32) (hb hby d2_31) (by decide) k_) ?_
        show own_Go p e below _ T0 (mkF m 32 #[oR a, oD x, .second, oI (3 : Int32), oI (4 : Int32), oI (3 : Int32)] [(.int (1 : Int32)), (.int (3 : Int32))])
        refine own_by (fun t_ k_ => XS.iadd X0.here hx rfl (hb hby d2_32) rfl k_) ?_
        show own_Go p e below _ T0 (mkF m 33 #[oR a, oD x, .second, oI (3 : Int32), oI (4 : Int32), oI (3 : Int32)] [(.int ((3 : Int32) + (1 : Int32)))])
        rw [show ((3 : Int32) + (1 : Int32)) = (4 : Int32) by decide]
        show own_Go p e below _ T0 (mkF m 33 #[oR a, oD x, .second, oI (3 : Int32), oI (4 : Int32), oI (3 : Int32)] [(.int (4 : Int32))])
        refine own_by (fun t_ k_ => XS.istoreN X0.here hx rfl (hb hby d2_33) rfl (l' := #[oR a, oD x, .second, oI (4 : Int32), oI (4 : Int32), oI (3 : Int32)]) rfl k_) ?_
        show own_Go p e below _ T0 (mkF m 34 #[oR a, oD x, .second, oI (4 : Int32), oI (4 : Int32), oI (3 : Int32)] [])
        refine own_by (fun t_ k_ => XS.goto X0.here hx rfl (pc0 := 34) (pc' := 41) rfl (hb hby d2_34) (by decide) (by decide) k_) ?_
        show own_Go p e below _ T0 (mkF m 41 #[oR a, oD x, .second, oI (4 : Int32), oI (4 : Int32), oI (3 : Int32)] [])
        refine own_by (fun t_ k_ => XS.goto X0.here hx rfl (pc0 := 41) (pc' := 6) rfl (hb hby d2_41) (by decide) (by decide) k_) ?_
        show own_Go p e below _ T0 (mkF m 6 #[oR a, oD x, .second, oI (4 : Int32), oI (4 : Int32), oI (3 : Int32)] [])
        refine own_by (fun t_ k_ => XS.iloadN X0.here hx rfl (hb hby d2_6) rfl  k_) ?_
        show own_Go p e below _ T0 (mkF m 7 #[oR a, oD x, .second, oI (4 : Int32), oI (4 : Int32), oI (3 : Int32)] [(.int (4 : Int32))])
        refine own_by (fun t_ k_ => XS.iload X0.here hx rfl (hb hby d2_7) rfl  k_) ?_
        show own_Go p e below _ T0 (mkF m 9 #[oR a, oD x, .second, oI (4 : Int32), oI (4 : Int32), oI (3 : Int32)] [(.int (4 : Int32)), (.int (4 : Int32))])
        refine own_by (fun t_ k_ => XS.icmpYes X0.here hx rfl (pc0 := 9) (pc' := 44) rfl (hb hby d2_9) rfl (XT.ii_ge_t (by decide)) (by decide) (by decide) k_) ?_
        show own_Go p e below _ T0 (mkF m 44 #[oR a, oD x, .second, oI (4 : Int32), oI (4 : Int32), oI (3 : Int32)] [])
        refine own_by (fun t_ k_ => XS.iloadN X0.here hx rfl (hb hby d2_44) rfl  k_) ?_
        show own_Go p e below _ T0 (mkF m 45 #[oR a, oD x, .second, oI (4 : Int32), oI (4 : Int32), oI (3 : Int32)] [(.int (4 : Int32))])
        exact own_retI X0 hx hlk hret (hb hby d2_45) (by decide) (by decide) (⟨by rw [own_cb5, if_neg c26_0, if_pos c26_3, if_neg c26_4], e0, rfl⟩)
    · refine own_by (fun t_ k_ => XS.ifNo X0.here hx rfl (hb hby d2_26) rfl (XT.i0_gt_f c26_3) k_) ?_
      show own_Go p e below _ T0 (mkF m 29 #[oR a, oD x, .second, oI (3 : Int32), oI (5 : Int32), oI (4 : Int32)] [])
      refine own_by (fun t_ k_ => XS.iload X0.here hx rfl (hb hby d2_29) rfl  k_) ?_
      show own_Go p e below _ T0 (mkF m 31 #[oR a, oD x, .second, oI (3 : Int32), oI (5 : Int32), oI (4 : Int32)] [(.int (4 : Int32))])
      refine own_by (fun t_ k_ => XT.iconstV X0.here hx rfl (1 : Int32) (hb hby d2_31) (by decide) k_) ?_
      show own_Go p e below _ T0 (mkF m 32 #[oR a, oD x, .second, oI (3 : Int32), oI (5 : Int32), oI (4 : Int32)] [(.int (1 : Int32)), (.int (4 : Int32))])
      refine own_by (fun t_ k_ => XS.iadd X0.here hx rfl (hb hby d2_32) rfl k_) ?_
      show own_Go p e below _ T0 (mkF m 33 #[oR a, oD x, .second, oI (3 : Int32), oI (5 : Int32), oI (4 : Int32)] [(.int ((4 : Int32) + (1 : Int32)))])
      rw [show ((4 : Int32) + (1 : Int32)) = (5 : Int32) by decide]
      show own_Go p e below _ T0 (mkF m 33 #[oR a, oD x, .second, oI (3 : Int32), oI (5 : Int32), oI (4 : Int32)] [(.int (5 : Int32))])
      refine own_by (fun t_ k_ => XS.istoreN X0.here hx rfl (hb hby d2_33) rfl (l' := #[oR a, oD x, .second, oI (5 : Int32), oI (5 : Int32), oI (4 : Int32)]) rfl k_) ?_
      show own_Go p e below _ T0 (mkF m 34 #[oR a, oD x, .second, oI (5 : Int32), oI (5 : Int32), oI (4 : Int32)] [])
      refine own_by (fun t_ k_ => XS.goto X0.here hx rfl (pc0 := 34) (pc' := 41) rfl (hb hby d2_34) (by decide) (by decide) k_) ?_
      show own_Go p e below _ T0 (mkF m 41 #[oR a, oD x, .second, oI (5 : Int32), oI (5 : Int32), oI (4 : Int32)] [])
      refine own_by (fun t_ k_ => XS.goto X0.here hx rfl (pc0 := 41) (pc' := 6) rfl (hb hby d2_41) (by decide) (by decide) k_) ?_
      show own_Go p e below _ T0 (mkF m 6 #[oR a, oD x, .second, oI (5 : Int32), oI (5 : Int32), oI (4 : Int32)] [])
      refine own_by (fun t_ k_ => XS.iloadN X0.here hx rfl (hb hby d2_6) rfl  k_) ?_
      show own_Go p e below _ T0 (mkF m 7 #[oR a, oD x, .second, oI (5 : Int32), oI (5 : Int32), oI (4 : Int32)] [(.int (5 : Int32))])
      refine own_by (fun t_ k_ => XS.iload X0.here hx rfl (hb hby d2_7) rfl  k_) ?_
      show own_Go p e below _ T0 (mkF m 9 #[oR a, oD x, .second, oI (5 : Int32), oI (5 : Int32), oI (4 : Int32)] [(.int (5 : Int32)), (.int (5 : Int32))])
      refine own_by (fun t_ k_ => XS.icmpYes X0.here hx rfl (pc0 := 9) (pc' := 44) rfl (hb hby d2_9) rfl (XT.ii_ge_t (by decide)) (by decide) (by decide) k_) ?_
      show own_Go p e below _ T0 (mkF m 44 #[oR a, oD x, .second, oI (5 : Int32), oI (5 : Int32), oI (4 : Int32)] [])
      refine own_by (fun t_ k_ => XS.iloadN X0.here hx rfl (hb hby d2_44) rfl  k_) ?_
      show own_Go p e below _ T0 (mkF m 45 #[oR a, oD x, .second, oI (5 : Int32), oI (5 : Int32), oI (4 : Int32)] [(.int (5 : Int32))])
      exact own_retI X0 hx hlk hret (hb hby d2_45) (by decide) (by decide) (⟨by rw [own_cb5, if_neg c26_0, if_neg c26_3], e0, rfl⟩)
def own_cb6 (a : Addr) (x : UInt64) (kA : ClassId) (d0 d1 d2 d3 d4 d5 : UInt64) : Int32 := (if (0 : Int32) < (cmpValue (FP.dcmp d3 x) .g) then (if (0 : Int32) < (cmpValue (FP.dcmp d1 x) .g) then (if (0 : Int32) < (cmpValue (FP.dcmp d0 x) .g) then (0 : Int32) else (1 : Int32)) else (if (0 : Int32) < (cmpValue (FP.dcmp d2 x) .g) then (2 : Int32) else (3 : Int32))) else (if (0 : Int32) < (cmpValue (FP.dcmp d5 x) .g) then (if (0 : Int32) < (cmpValue (FP.dcmp d4 x) .g) then (4 : Int32) else (5 : Int32)) else (6 : Int32)))
set_option maxRecDepth 65536 in
set_option maxHeartbeats 40000000 in
theorem own_cb6_met (l : Launch) (Z : State) (a0 : Array Value) (hw : ∀ d ∈ tables_1, d.before a0 Z = true) (a : Addr) (x : UInt64) (kA : ClassId) (d0 d1 d2 d3 d4 d5 : UInt64) (h0 : Heap) (V : own_A Z h0 a .double kA [(.double d0), (.double d1), (.double d2), (.double d3), (.double d4), (.double d5)]) :
    own_Met l (⟨"com/example/biclique/biclique/draw/Ascending", "countAtMost", "([DD)I"⟩ : MethodName) prog_41_method_3_code 6 (some .int) [] ({ frames := 0, cells := 0, slots := 0, locals := 0 } : Room) Z #[(.ref a), (.double x)] h0 (fun rv rh rL => rv = some (.int (own_cb6 a x kA d0 d1 d2 d3 d4 d5)) ∧ rh = h0 ∧ rL = []) := by
  refine own_enter (plainFor_of_name pn_1) ?_
  intro p e s m below meth c T0 hx hby hml hret hlk hown hnm hZ X0 e0
  refine own_at (g' := (mkF m 0 #[oR a, oD x, .second, .unset, .unset, .unset] [])) (by first | (simp [entryFrame, mkF, argsToLocals, Value.category]; done) | rfl) ?_
  show own_Go p e below _ T0 (mkF m 0 #[oR a, oD x, .second, .unset, .unset, .unset] [])
  refine own_by (fun t_ k_ => XT.iconstV X0.here hx rfl (0 : Int32) (hb hby d2_0) (by decide) k_) ?_
  show own_Go p e below _ T0 (mkF m 1 #[oR a, oD x, .second, .unset, .unset, .unset] [(.int (0 : Int32))])
  refine own_by (fun t_ k_ => XS.istoreN X0.here hx rfl (hb hby d2_1) rfl (l' := #[oR a, oD x, .second, oI (0 : Int32), .unset, .unset]) rfl k_) ?_
  show own_Go p e below _ T0 (mkF m 2 #[oR a, oD x, .second, oI (0 : Int32), .unset, .unset] [])
  refine own_by (fun t_ k_ => XS.aloadN X0.here hx rfl (hb hby d2_2) rfl rfl  k_) ?_
  show own_Go p e below _ T0 (mkF m 3 #[oR a, oD x, .second, oI (0 : Int32), .unset, .unset] [(.ref a)])
  refine own_len X0 hx hZ e0 V (6 : Int32) rfl (hb hby d2_3) ?_
  show own_Go p e below _ T0 (mkF m 4 #[oR a, oD x, .second, oI (0 : Int32), .unset, .unset] [(.int (6 : Int32))])
  refine own_by (fun t_ k_ => XS.istore X0.here hx rfl (hb hby d2_4) rfl (l' := #[oR a, oD x, .second, oI (0 : Int32), oI (6 : Int32), .unset]) rfl k_) ?_
  show own_Go p e below _ T0 (mkF m 6 #[oR a, oD x, .second, oI (0 : Int32), oI (6 : Int32), .unset] [])
  refine own_by (fun t_ k_ => XS.iloadN X0.here hx rfl (hb hby d2_6) rfl  k_) ?_
  show own_Go p e below _ T0 (mkF m 7 #[oR a, oD x, .second, oI (0 : Int32), oI (6 : Int32), .unset] [(.int (0 : Int32))])
  refine own_by (fun t_ k_ => XS.iload X0.here hx rfl (hb hby d2_7) rfl  k_) ?_
  show own_Go p e below _ T0 (mkF m 9 #[oR a, oD x, .second, oI (0 : Int32), oI (6 : Int32), .unset] [(.int (6 : Int32)), (.int (0 : Int32))])
  refine own_by (fun t_ k_ => XS.icmpNo X0.here hx rfl (hb hby d2_9) rfl (XT.ii_ge_f (by decide)) k_) ?_
  show own_Go p e below _ T0 (mkF m 12 #[oR a, oD x, .second, oI (0 : Int32), oI (6 : Int32), .unset] [])
  refine own_by (fun t_ k_ => XS.iloadN X0.here hx rfl (hb hby d2_12) rfl  k_) ?_
  show own_Go p e below _ T0 (mkF m 13 #[oR a, oD x, .second, oI (0 : Int32), oI (6 : Int32), .unset] [(.int (0 : Int32))])
  refine own_by (fun t_ k_ => XS.iload X0.here hx rfl (hb hby d2_13) rfl  k_) ?_
  show own_Go p e below _ T0 (mkF m 15 #[oR a, oD x, .second, oI (0 : Int32), oI (6 : Int32), .unset] [(.int (6 : Int32)), (.int (0 : Int32))])
  refine own_by (fun t_ k_ => XS.iadd X0.here hx rfl (hb hby d2_15) rfl k_) ?_
  show own_Go p e below _ T0 (mkF m 16 #[oR a, oD x, .second, oI (0 : Int32), oI (6 : Int32), .unset] [(.int ((0 : Int32) + (6 : Int32)))])
  rw [show ((0 : Int32) + (6 : Int32)) = (6 : Int32) by decide]
  show own_Go p e below _ T0 (mkF m 16 #[oR a, oD x, .second, oI (0 : Int32), oI (6 : Int32), .unset] [(.int (6 : Int32))])
  refine own_by (fun t_ k_ => XT.iconstV X0.here hx rfl (1 : Int32) (hb hby d2_16) (by decide) k_) ?_
  show own_Go p e below _ T0 (mkF m 17 #[oR a, oD x, .second, oI (0 : Int32), oI (6 : Int32), .unset] [(.int (1 : Int32)), (.int (6 : Int32))])
  refine own_by (fun t_ k_ => XT.iushr X0.here hx rfl (hb hby d2_17) rfl k_) ?_
  show own_Go p e below _ T0 (mkF m 18 #[oR a, oD x, .second, oI (0 : Int32), oI (6 : Int32), .unset] [(.int (((6 : Int32).toUInt32 >>> ((1 : Int32) &&& 31).toUInt32).toInt32))])
  rw [show (((6 : Int32).toUInt32 >>> ((1 : Int32) &&& 31).toUInt32).toInt32) = (3 : Int32) by decide]
  show own_Go p e below _ T0 (mkF m 18 #[oR a, oD x, .second, oI (0 : Int32), oI (6 : Int32), .unset] [(.int (3 : Int32))])
  refine own_by (fun t_ k_ => XS.istore X0.here hx rfl (hb hby d2_18) rfl (l' := #[oR a, oD x, .second, oI (0 : Int32), oI (6 : Int32), oI (3 : Int32)]) rfl k_) ?_
  show own_Go p e below _ T0 (mkF m 20 #[oR a, oD x, .second, oI (0 : Int32), oI (6 : Int32), oI (3 : Int32)] [])
  refine own_by (fun t_ k_ => XS.aloadN X0.here hx rfl (hb hby d2_20) rfl rfl  k_) ?_
  show own_Go p e below _ T0 (mkF m 21 #[oR a, oD x, .second, oI (0 : Int32), oI (6 : Int32), oI (3 : Int32)] [(.ref a)])
  refine own_by (fun t_ k_ => XS.iload X0.here hx rfl (hb hby d2_21) rfl  k_) ?_
  show own_Go p e below _ T0 (mkF m 23 #[oR a, oD x, .second, oI (0 : Int32), oI (6 : Int32), oI (3 : Int32)] [(.int (3 : Int32)), (.ref a)])
  refine own_ldD X0 hx hZ e0 V 3 (by decide) (by decide) (v := (.double d3)) rfl (hb hby d2_23) ?_
  show own_Go p e below _ T0 (mkF m 24 #[oR a, oD x, .second, oI (0 : Int32), oI (6 : Int32), oI (3 : Int32)] [(.double d3)])
  refine own_by (fun t_ k_ => XS.dloadN X0.here hx rfl (hb hby d2_24) rfl  k_) ?_
  show own_Go p e below _ T0 (mkF m 25 #[oR a, oD x, .second, oI (0 : Int32), oI (6 : Int32), oI (3 : Int32)] [(.double x), (.double d3)])
  refine own_by (fun t_ k_ => XS.dcmpS X0.here hx rfl (hb hby d2_25) rfl rfl k_) ?_
  show own_Go p e below _ T0 (mkF m 26 #[oR a, oD x, .second, oI (0 : Int32), oI (6 : Int32), oI (3 : Int32)] [(.int (cmpValue (FP.dcmp d3 x) .g))])
  by_cases c26_0 : (0 : Int32) < (cmpValue (FP.dcmp d3 x) .g)
  · refine own_by (fun t_ k_ => XS.ifYes X0.here hx rfl (pc0 := 26) (pc' := 37) rfl (hb hby d2_26) rfl (XT.i0_gt_t c26_0) (by decide) (by decide) k_) ?_
    show own_Go p e below _ T0 (mkF m 37 #[oR a, oD x, .second, oI (0 : Int32), oI (6 : Int32), oI (3 : Int32)] [])
    refine own_by (fun t_ k_ => XS.iload X0.here hx rfl (hb hby d2_37) rfl  k_) ?_
    show own_Go p e below _ T0 (mkF m 39 #[oR a, oD x, .second, oI (0 : Int32), oI (6 : Int32), oI (3 : Int32)] [(.int (3 : Int32))])
    refine own_by (fun t_ k_ => XS.istore X0.here hx rfl (hb hby d2_39) rfl (l' := #[oR a, oD x, .second, oI (0 : Int32), oI (3 : Int32), oI (3 : Int32)]) rfl k_) ?_
    show own_Go p e below _ T0 (mkF m 41 #[oR a, oD x, .second, oI (0 : Int32), oI (3 : Int32), oI (3 : Int32)] [])
    refine own_by (fun t_ k_ => XS.goto X0.here hx rfl (pc0 := 41) (pc' := 6) rfl (hb hby d2_41) (by decide) (by decide) k_) ?_
    show own_Go p e below _ T0 (mkF m 6 #[oR a, oD x, .second, oI (0 : Int32), oI (3 : Int32), oI (3 : Int32)] [])
    refine own_by (fun t_ k_ => XS.iloadN X0.here hx rfl (hb hby d2_6) rfl  k_) ?_
    show own_Go p e below _ T0 (mkF m 7 #[oR a, oD x, .second, oI (0 : Int32), oI (3 : Int32), oI (3 : Int32)] [(.int (0 : Int32))])
    refine own_by (fun t_ k_ => XS.iload X0.here hx rfl (hb hby d2_7) rfl  k_) ?_
    show own_Go p e below _ T0 (mkF m 9 #[oR a, oD x, .second, oI (0 : Int32), oI (3 : Int32), oI (3 : Int32)] [(.int (3 : Int32)), (.int (0 : Int32))])
    refine own_by (fun t_ k_ => XS.icmpNo X0.here hx rfl (hb hby d2_9) rfl (XT.ii_ge_f (by decide)) k_) ?_
    show own_Go p e below _ T0 (mkF m 12 #[oR a, oD x, .second, oI (0 : Int32), oI (3 : Int32), oI (3 : Int32)] [])
    refine own_by (fun t_ k_ => XS.iloadN X0.here hx rfl (hb hby d2_12) rfl  k_) ?_
    show own_Go p e below _ T0 (mkF m 13 #[oR a, oD x, .second, oI (0 : Int32), oI (3 : Int32), oI (3 : Int32)] [(.int (0 : Int32))])
    refine own_by (fun t_ k_ => XS.iload X0.here hx rfl (hb hby d2_13) rfl  k_) ?_
    show own_Go p e below _ T0 (mkF m 15 #[oR a, oD x, .second, oI (0 : Int32), oI (3 : Int32), oI (3 : Int32)] [(.int (3 : Int32)), (.int (0 : Int32))])
    refine own_by (fun t_ k_ => XS.iadd X0.here hx rfl (hb hby d2_15) rfl k_) ?_
    show own_Go p e below _ T0 (mkF m 16 #[oR a, oD x, .second, oI (0 : Int32), oI (3 : Int32), oI (3 : Int32)] [(.int ((0 : Int32) + (3 : Int32)))])
    rw [show ((0 : Int32) + (3 : Int32)) = (3 : Int32) by decide]
    show own_Go p e below _ T0 (mkF m 16 #[oR a, oD x, .second, oI (0 : Int32), oI (3 : Int32), oI (3 : Int32)] [(.int (3 : Int32))])
    refine own_by (fun t_ k_ => XT.iconstV X0.here hx rfl (1 : Int32) (hb hby d2_16) (by decide) k_) ?_
    show own_Go p e below _ T0 (mkF m 17 #[oR a, oD x, .second, oI (0 : Int32), oI (3 : Int32), oI (3 : Int32)] [(.int (1 : Int32)), (.int (3 : Int32))])
    refine own_by (fun t_ k_ => XT.iushr X0.here hx rfl (hb hby d2_17) rfl k_) ?_
    show own_Go p e below _ T0 (mkF m 18 #[oR a, oD x, .second, oI (0 : Int32), oI (3 : Int32), oI (3 : Int32)] [(.int (((3 : Int32).toUInt32 >>> ((1 : Int32) &&& 31).toUInt32).toInt32))])
    rw [show (((3 : Int32).toUInt32 >>> ((1 : Int32) &&& 31).toUInt32).toInt32) = (1 : Int32) by decide]
    show own_Go p e below _ T0 (mkF m 18 #[oR a, oD x, .second, oI (0 : Int32), oI (3 : Int32), oI (3 : Int32)] [(.int (1 : Int32))])
    refine own_by (fun t_ k_ => XS.istore X0.here hx rfl (hb hby d2_18) rfl (l' := #[oR a, oD x, .second, oI (0 : Int32), oI (3 : Int32), oI (1 : Int32)]) rfl k_) ?_
    show own_Go p e below _ T0 (mkF m 20 #[oR a, oD x, .second, oI (0 : Int32), oI (3 : Int32), oI (1 : Int32)] [])
    refine own_by (fun t_ k_ => XS.aloadN X0.here hx rfl (hb hby d2_20) rfl rfl  k_) ?_
    show own_Go p e below _ T0 (mkF m 21 #[oR a, oD x, .second, oI (0 : Int32), oI (3 : Int32), oI (1 : Int32)] [(.ref a)])
    refine own_by (fun t_ k_ => XS.iload X0.here hx rfl (hb hby d2_21) rfl  k_) ?_
    show own_Go p e below _ T0 (mkF m 23 #[oR a, oD x, .second, oI (0 : Int32), oI (3 : Int32), oI (1 : Int32)] [(.int (1 : Int32)), (.ref a)])
    refine own_ldD X0 hx hZ e0 V 1 (by decide) (by decide) (v := (.double d1)) rfl (hb hby d2_23) ?_
    show own_Go p e below _ T0 (mkF m 24 #[oR a, oD x, .second, oI (0 : Int32), oI (3 : Int32), oI (1 : Int32)] [(.double d1)])
    refine own_by (fun t_ k_ => XS.dloadN X0.here hx rfl (hb hby d2_24) rfl  k_) ?_
    show own_Go p e below _ T0 (mkF m 25 #[oR a, oD x, .second, oI (0 : Int32), oI (3 : Int32), oI (1 : Int32)] [(.double x), (.double d1)])
    refine own_by (fun t_ k_ => XS.dcmpS X0.here hx rfl (hb hby d2_25) rfl rfl k_) ?_
    show own_Go p e below _ T0 (mkF m 26 #[oR a, oD x, .second, oI (0 : Int32), oI (3 : Int32), oI (1 : Int32)] [(.int (cmpValue (FP.dcmp d1 x) .g))])
    by_cases c26_1 : (0 : Int32) < (cmpValue (FP.dcmp d1 x) .g)
    · refine own_by (fun t_ k_ => XS.ifYes X0.here hx rfl (pc0 := 26) (pc' := 37) rfl (hb hby d2_26) rfl (XT.i0_gt_t c26_1) (by decide) (by decide) k_) ?_
      show own_Go p e below _ T0 (mkF m 37 #[oR a, oD x, .second, oI (0 : Int32), oI (3 : Int32), oI (1 : Int32)] [])
      refine own_by (fun t_ k_ => XS.iload X0.here hx rfl (hb hby d2_37) rfl  k_) ?_
      show own_Go p e below _ T0 (mkF m 39 #[oR a, oD x, .second, oI (0 : Int32), oI (3 : Int32), oI (1 : Int32)] [(.int (1 : Int32))])
      refine own_by (fun t_ k_ => XS.istore X0.here hx rfl (hb hby d2_39) rfl (l' := #[oR a, oD x, .second, oI (0 : Int32), oI (1 : Int32), oI (1 : Int32)]) rfl k_) ?_
      show own_Go p e below _ T0 (mkF m 41 #[oR a, oD x, .second, oI (0 : Int32), oI (1 : Int32), oI (1 : Int32)] [])
      refine own_by (fun t_ k_ => XS.goto X0.here hx rfl (pc0 := 41) (pc' := 6) rfl (hb hby d2_41) (by decide) (by decide) k_) ?_
      show own_Go p e below _ T0 (mkF m 6 #[oR a, oD x, .second, oI (0 : Int32), oI (1 : Int32), oI (1 : Int32)] [])
      refine own_by (fun t_ k_ => XS.iloadN X0.here hx rfl (hb hby d2_6) rfl  k_) ?_
      show own_Go p e below _ T0 (mkF m 7 #[oR a, oD x, .second, oI (0 : Int32), oI (1 : Int32), oI (1 : Int32)] [(.int (0 : Int32))])
      refine own_by (fun t_ k_ => XS.iload X0.here hx rfl (hb hby d2_7) rfl  k_) ?_
      show own_Go p e below _ T0 (mkF m 9 #[oR a, oD x, .second, oI (0 : Int32), oI (1 : Int32), oI (1 : Int32)] [(.int (1 : Int32)), (.int (0 : Int32))])
      refine own_by (fun t_ k_ => XS.icmpNo X0.here hx rfl (hb hby d2_9) rfl (XT.ii_ge_f (by decide)) k_) ?_
      show own_Go p e below _ T0 (mkF m 12 #[oR a, oD x, .second, oI (0 : Int32), oI (1 : Int32), oI (1 : Int32)] [])
      refine own_by (fun t_ k_ => XS.iloadN X0.here hx rfl (hb hby d2_12) rfl  k_) ?_
      show own_Go p e below _ T0 (mkF m 13 #[oR a, oD x, .second, oI (0 : Int32), oI (1 : Int32), oI (1 : Int32)] [(.int (0 : Int32))])
      refine own_by (fun t_ k_ => XS.iload X0.here hx rfl (hb hby d2_13) rfl  k_) ?_
      show own_Go p e below _ T0 (mkF m 15 #[oR a, oD x, .second, oI (0 : Int32), oI (1 : Int32), oI (1 : Int32)] [(.int (1 : Int32)), (.int (0 : Int32))])
      refine own_by (fun t_ k_ => XS.iadd X0.here hx rfl (hb hby d2_15) rfl k_) ?_
      show own_Go p e below _ T0 (mkF m 16 #[oR a, oD x, .second, oI (0 : Int32), oI (1 : Int32), oI (1 : Int32)] [(.int ((0 : Int32) + (1 : Int32)))])
      rw [show ((0 : Int32) + (1 : Int32)) = (1 : Int32) by decide]
      show own_Go p e below _ T0 (mkF m 16 #[oR a, oD x, .second, oI (0 : Int32), oI (1 : Int32), oI (1 : Int32)] [(.int (1 : Int32))])
      refine own_by (fun t_ k_ => XT.iconstV X0.here hx rfl (1 : Int32) (hb hby d2_16) (by decide) k_) ?_
      show own_Go p e below _ T0 (mkF m 17 #[oR a, oD x, .second, oI (0 : Int32), oI (1 : Int32), oI (1 : Int32)] [(.int (1 : Int32)), (.int (1 : Int32))])
      refine own_by (fun t_ k_ => XT.iushr X0.here hx rfl (hb hby d2_17) rfl k_) ?_
      show own_Go p e below _ T0 (mkF m 18 #[oR a, oD x, .second, oI (0 : Int32), oI (1 : Int32), oI (1 : Int32)] [(.int (((1 : Int32).toUInt32 >>> ((1 : Int32) &&& 31).toUInt32).toInt32))])
      rw [show (((1 : Int32).toUInt32 >>> ((1 : Int32) &&& 31).toUInt32).toInt32) = (0 : Int32) by decide]
      show own_Go p e below _ T0 (mkF m 18 #[oR a, oD x, .second, oI (0 : Int32), oI (1 : Int32), oI (1 : Int32)] [(.int (0 : Int32))])
      refine own_by (fun t_ k_ => XS.istore X0.here hx rfl (hb hby d2_18) rfl (l' := #[oR a, oD x, .second, oI (0 : Int32), oI (1 : Int32), oI (0 : Int32)]) rfl k_) ?_
      show own_Go p e below _ T0 (mkF m 20 #[oR a, oD x, .second, oI (0 : Int32), oI (1 : Int32), oI (0 : Int32)] [])
      refine own_by (fun t_ k_ => XS.aloadN X0.here hx rfl (hb hby d2_20) rfl rfl  k_) ?_
      show own_Go p e below _ T0 (mkF m 21 #[oR a, oD x, .second, oI (0 : Int32), oI (1 : Int32), oI (0 : Int32)] [(.ref a)])
      refine own_by (fun t_ k_ => XS.iload X0.here hx rfl (hb hby d2_21) rfl  k_) ?_
      show own_Go p e below _ T0 (mkF m 23 #[oR a, oD x, .second, oI (0 : Int32), oI (1 : Int32), oI (0 : Int32)] [(.int (0 : Int32)), (.ref a)])
      refine own_ldD X0 hx hZ e0 V 0 (by decide) (by decide) (v := (.double d0)) rfl (hb hby d2_23) ?_
      show own_Go p e below _ T0 (mkF m 24 #[oR a, oD x, .second, oI (0 : Int32), oI (1 : Int32), oI (0 : Int32)] [(.double d0)])
      refine own_by (fun t_ k_ => XS.dloadN X0.here hx rfl (hb hby d2_24) rfl  k_) ?_
      show own_Go p e below _ T0 (mkF m 25 #[oR a, oD x, .second, oI (0 : Int32), oI (1 : Int32), oI (0 : Int32)] [(.double x), (.double d0)])
      refine own_by (fun t_ k_ => XS.dcmpS X0.here hx rfl (hb hby d2_25) rfl rfl k_) ?_
      show own_Go p e below _ T0 (mkF m 26 #[oR a, oD x, .second, oI (0 : Int32), oI (1 : Int32), oI (0 : Int32)] [(.int (cmpValue (FP.dcmp d0 x) .g))])
      by_cases c26_2 : (0 : Int32) < (cmpValue (FP.dcmp d0 x) .g)
      · refine own_by (fun t_ k_ => XS.ifYes X0.here hx rfl (pc0 := 26) (pc' := 37) rfl (hb hby d2_26) rfl (XT.i0_gt_t c26_2) (by decide) (by decide) k_) ?_
        show own_Go p e below _ T0 (mkF m 37 #[oR a, oD x, .second, oI (0 : Int32), oI (1 : Int32), oI (0 : Int32)] [])
        refine own_by (fun t_ k_ => XS.iload X0.here hx rfl (hb hby d2_37) rfl  k_) ?_
        show own_Go p e below _ T0 (mkF m 39 #[oR a, oD x, .second, oI (0 : Int32), oI (1 : Int32), oI (0 : Int32)] [(.int (0 : Int32))])
        refine own_by (fun t_ k_ => XS.istore X0.here hx rfl (hb hby d2_39) rfl (l' := #[oR a, oD x, .second, oI (0 : Int32), oI (0 : Int32), oI (0 : Int32)]) rfl k_) ?_
        show own_Go p e below _ T0 (mkF m 41 #[oR a, oD x, .second, oI (0 : Int32), oI (0 : Int32), oI (0 : Int32)] [])
        refine own_by (fun t_ k_ => XS.goto X0.here hx rfl (pc0 := 41) (pc' := 6) rfl (hb hby d2_41) (by decide) (by decide) k_) ?_
        show own_Go p e below _ T0 (mkF m 6 #[oR a, oD x, .second, oI (0 : Int32), oI (0 : Int32), oI (0 : Int32)] [])
        refine own_by (fun t_ k_ => XS.iloadN X0.here hx rfl (hb hby d2_6) rfl  k_) ?_
        show own_Go p e below _ T0 (mkF m 7 #[oR a, oD x, .second, oI (0 : Int32), oI (0 : Int32), oI (0 : Int32)] [(.int (0 : Int32))])
        refine own_by (fun t_ k_ => XS.iload X0.here hx rfl (hb hby d2_7) rfl  k_) ?_
        show own_Go p e below _ T0 (mkF m 9 #[oR a, oD x, .second, oI (0 : Int32), oI (0 : Int32), oI (0 : Int32)] [(.int (0 : Int32)), (.int (0 : Int32))])
        refine own_by (fun t_ k_ => XS.icmpYes X0.here hx rfl (pc0 := 9) (pc' := 44) rfl (hb hby d2_9) rfl (XT.ii_ge_t (by decide)) (by decide) (by decide) k_) ?_
        show own_Go p e below _ T0 (mkF m 44 #[oR a, oD x, .second, oI (0 : Int32), oI (0 : Int32), oI (0 : Int32)] [])
        refine own_by (fun t_ k_ => XS.iloadN X0.here hx rfl (hb hby d2_44) rfl  k_) ?_
        show own_Go p e below _ T0 (mkF m 45 #[oR a, oD x, .second, oI (0 : Int32), oI (0 : Int32), oI (0 : Int32)] [(.int (0 : Int32))])
        exact own_retI X0 hx hlk hret (hb hby d2_45) (by decide) (by decide) (⟨by rw [own_cb6, if_pos c26_0, if_pos c26_1, if_pos c26_2], e0, rfl⟩)
      · refine own_by (fun t_ k_ => XS.ifNo X0.here hx rfl (hb hby d2_26) rfl (XT.i0_gt_f c26_2) k_) ?_
        show own_Go p e below _ T0 (mkF m 29 #[oR a, oD x, .second, oI (0 : Int32), oI (1 : Int32), oI (0 : Int32)] [])
        refine own_by (fun t_ k_ => XS.iload X0.here hx rfl (hb hby d2_29) rfl  k_) ?_
        show own_Go p e below _ T0 (mkF m 31 #[oR a, oD x, .second, oI (0 : Int32), oI (1 : Int32), oI (0 : Int32)] [(.int (0 : Int32))])
        refine own_by (fun t_ k_ => XT.iconstV X0.here hx rfl (1 : Int32) (hb hby d2_31) (by decide) k_) ?_
        show own_Go p e below _ T0 (mkF m 32 #[oR a, oD x, .second, oI (0 : Int32), oI (1 : Int32), oI (0 : Int32)] [(.int (1 : Int32)), (.int (0 : Int32))])
        refine own_by (fun t_ k_ => XS.iadd X0.here hx rfl (hb hby d2_32) rfl k_) ?_
        show own_Go p e below _ T0 (mkF m 33 #[oR a, oD x, .second, oI (0 : Int32), oI (1 : Int32), oI (0 : Int32)] [(.int ((0 : Int32) + (1 : Int32)))])
        rw [show ((0 : Int32) + (1 : Int32)) = (1 : Int32) by decide]
        show own_Go p e below _ T0 (mkF m 33 #[oR a, oD x, .second, oI (0 : Int32), oI (1 : Int32), oI (0 : Int32)] [(.int (1 : Int32))])
        refine own_by (fun t_ k_ => XS.istoreN X0.here hx rfl (hb hby d2_33) rfl (l' := #[oR a, oD x, .second, oI (1 : Int32), oI (1 : Int32), oI (0 : Int32)]) rfl k_) ?_
        show own_Go p e below _ T0 (mkF m 34 #[oR a, oD x, .second, oI (1 : Int32), oI (1 : Int32), oI (0 : Int32)] [])
        refine own_by (fun t_ k_ => XS.goto X0.here hx rfl (pc0 := 34) (pc' := 41) rfl (hb hby d2_34) (by decide) (by decide) k_) ?_
        show own_Go p e below _ T0 (mkF m 41 #[oR a, oD x, .second, oI (1 : Int32), oI (1 : Int32), oI (0 : Int32)] [])
        refine own_by (fun t_ k_ => XS.goto X0.here hx rfl (pc0 := 41) (pc' := 6) rfl (hb hby d2_41) (by decide) (by decide) k_) ?_
        show own_Go p e below _ T0 (mkF m 6 #[oR a, oD x, .second, oI (1 : Int32), oI (1 : Int32), oI (0 : Int32)] [])
        refine own_by (fun t_ k_ => XS.iloadN X0.here hx rfl (hb hby d2_6) rfl  k_) ?_
        show own_Go p e below _ T0 (mkF m 7 #[oR a, oD x, .second, oI (1 : Int32), oI (1 : Int32), oI (0 : Int32)] [(.int (1 : Int32))])
        refine own_by (fun t_ k_ => XS.iload X0.here hx rfl (hb hby d2_7) rfl  k_) ?_
        show own_Go p e below _ T0 (mkF m 9 #[oR a, oD x, .second, oI (1 : Int32), oI (1 : Int32), oI (0 : Int32)] [(.int (1 : Int32)), (.int (1 : Int32))])
        refine own_by (fun t_ k_ => XS.icmpYes X0.here hx rfl (pc0 := 9) (pc' := 44) rfl (hb hby d2_9) rfl (XT.ii_ge_t (by decide)) (by decide) (by decide) k_) ?_
        show own_Go p e below _ T0 (mkF m 44 #[oR a, oD x, .second, oI (1 : Int32), oI (1 : Int32), oI (0 : Int32)] [])
        refine own_by (fun t_ k_ => XS.iloadN X0.here hx rfl (hb hby d2_44) rfl  k_) ?_
        show own_Go p e below _ T0 (mkF m 45 #[oR a, oD x, .second, oI (1 : Int32), oI (1 : Int32), oI (0 : Int32)] [(.int (1 : Int32))])
        exact own_retI X0 hx hlk hret (hb hby d2_45) (by decide) (by decide) (⟨by rw [own_cb6, if_pos c26_0, if_pos c26_1, if_neg c26_2], e0, rfl⟩)
    · refine own_by (fun t_ k_ => XS.ifNo X0.here hx rfl (hb hby d2_26) rfl (XT.i0_gt_f c26_1) k_) ?_
      show own_Go p e below _ T0 (mkF m 29 #[oR a, oD x, .second, oI (0 : Int32), oI (3 : Int32), oI (1 : Int32)] [])
      refine own_by (fun t_ k_ => XS.iload X0.here hx rfl (hb hby d2_29) rfl  k_) ?_
      show own_Go p e below _ T0 (mkF m 31 #[oR a, oD x, .second, oI (0 : Int32), oI (3 : Int32), oI (1 : Int32)] [(.int (1 : Int32))])
      refine own_by (fun t_ k_ => XT.iconstV X0.here hx rfl (1 : Int32) (hb hby d2_31) (by decide) k_) ?_
      show own_Go p e below _ T0 (mkF m 32 #[oR a, oD x, .second, oI (0 : Int32), oI (3 : Int32), oI (1 : Int32)] [(.int (1 : Int32)), (.int (1 : Int32))])
      refine own_by (fun t_ k_ => XS.iadd X0.here hx rfl (hb hby d2_32) rfl k_) ?_
      show own_Go p e below _ T0 (mkF m 33 #[oR a, oD x, .second, oI (0 : Int32), oI (3 : Int32), oI (1 : Int32)] [(.int ((1 : Int32) + (1 : Int32)))])
      rw [show ((1 : Int32) + (1 : Int32)) = (2 : Int32) by decide]
      show own_Go p e below _ T0 (mkF m 33 #[oR a, oD x, .second, oI (0 : Int32), oI (3 : Int32), oI (1 : Int32)] [(.int (2 : Int32))])
      refine own_by (fun t_ k_ => XS.istoreN X0.here hx rfl (hb hby d2_33) rfl (l' := #[oR a, oD x, .second, oI (2 : Int32), oI (3 : Int32), oI (1 : Int32)]) rfl k_) ?_
      show own_Go p e below _ T0 (mkF m 34 #[oR a, oD x, .second, oI (2 : Int32), oI (3 : Int32), oI (1 : Int32)] [])
      refine own_by (fun t_ k_ => XS.goto X0.here hx rfl (pc0 := 34) (pc' := 41) rfl (hb hby d2_34) (by decide) (by decide) k_) ?_
      show own_Go p e below _ T0 (mkF m 41 #[oR a, oD x, .second, oI (2 : Int32), oI (3 : Int32), oI (1 : Int32)] [])
      refine own_by (fun t_ k_ => XS.goto X0.here hx rfl (pc0 := 41) (pc' := 6) rfl (hb hby d2_41) (by decide) (by decide) k_) ?_
      show own_Go p e below _ T0 (mkF m 6 #[oR a, oD x, .second, oI (2 : Int32), oI (3 : Int32), oI (1 : Int32)] [])
      refine own_by (fun t_ k_ => XS.iloadN X0.here hx rfl (hb hby d2_6) rfl  k_) ?_
      show own_Go p e below _ T0 (mkF m 7 #[oR a, oD x, .second, oI (2 : Int32), oI (3 : Int32), oI (1 : Int32)] [(.int (2 : Int32))])
      refine own_by (fun t_ k_ => XS.iload X0.here hx rfl (hb hby d2_7) rfl  k_) ?_
      show own_Go p e below _ T0 (mkF m 9 #[oR a, oD x, .second, oI (2 : Int32), oI (3 : Int32), oI (1 : Int32)] [(.int (3 : Int32)), (.int (2 : Int32))])
      refine own_by (fun t_ k_ => XS.icmpNo X0.here hx rfl (hb hby d2_9) rfl (XT.ii_ge_f (by decide)) k_) ?_
      show own_Go p e below _ T0 (mkF m 12 #[oR a, oD x, .second, oI (2 : Int32), oI (3 : Int32), oI (1 : Int32)] [])
      refine own_by (fun t_ k_ => XS.iloadN X0.here hx rfl (hb hby d2_12) rfl  k_) ?_
      show own_Go p e below _ T0 (mkF m 13 #[oR a, oD x, .second, oI (2 : Int32), oI (3 : Int32), oI (1 : Int32)] [(.int (2 : Int32))])
      refine own_by (fun t_ k_ => XS.iload X0.here hx rfl (hb hby d2_13) rfl  k_) ?_
      show own_Go p e below _ T0 (mkF m 15 #[oR a, oD x, .second, oI (2 : Int32), oI (3 : Int32), oI (1 : Int32)] [(.int (3 : Int32)), (.int (2 : Int32))])
      refine own_by (fun t_ k_ => XS.iadd X0.here hx rfl (hb hby d2_15) rfl k_) ?_
      show own_Go p e below _ T0 (mkF m 16 #[oR a, oD x, .second, oI (2 : Int32), oI (3 : Int32), oI (1 : Int32)] [(.int ((2 : Int32) + (3 : Int32)))])
      rw [show ((2 : Int32) + (3 : Int32)) = (5 : Int32) by decide]
      show own_Go p e below _ T0 (mkF m 16 #[oR a, oD x, .second, oI (2 : Int32), oI (3 : Int32), oI (1 : Int32)] [(.int (5 : Int32))])
      refine own_by (fun t_ k_ => XT.iconstV X0.here hx rfl (1 : Int32) (hb hby d2_16) (by decide) k_) ?_
      show own_Go p e below _ T0 (mkF m 17 #[oR a, oD x, .second, oI (2 : Int32), oI (3 : Int32), oI (1 : Int32)] [(.int (1 : Int32)), (.int (5 : Int32))])
      refine own_by (fun t_ k_ => XT.iushr X0.here hx rfl (hb hby d2_17) rfl k_) ?_
      show own_Go p e below _ T0 (mkF m 18 #[oR a, oD x, .second, oI (2 : Int32), oI (3 : Int32), oI (1 : Int32)] [(.int (((5 : Int32).toUInt32 >>> ((1 : Int32) &&& 31).toUInt32).toInt32))])
      rw [show (((5 : Int32).toUInt32 >>> ((1 : Int32) &&& 31).toUInt32).toInt32) = (2 : Int32) by decide]
      show own_Go p e below _ T0 (mkF m 18 #[oR a, oD x, .second, oI (2 : Int32), oI (3 : Int32), oI (1 : Int32)] [(.int (2 : Int32))])
      refine own_by (fun t_ k_ => XS.istore X0.here hx rfl (hb hby d2_18) rfl (l' := #[oR a, oD x, .second, oI (2 : Int32), oI (3 : Int32), oI (2 : Int32)]) rfl k_) ?_
      show own_Go p e below _ T0 (mkF m 20 #[oR a, oD x, .second, oI (2 : Int32), oI (3 : Int32), oI (2 : Int32)] [])
      refine own_by (fun t_ k_ => XS.aloadN X0.here hx rfl (hb hby d2_20) rfl rfl  k_) ?_
      show own_Go p e below _ T0 (mkF m 21 #[oR a, oD x, .second, oI (2 : Int32), oI (3 : Int32), oI (2 : Int32)] [(.ref a)])
      refine own_by (fun t_ k_ => XS.iload X0.here hx rfl (hb hby d2_21) rfl  k_) ?_
      show own_Go p e below _ T0 (mkF m 23 #[oR a, oD x, .second, oI (2 : Int32), oI (3 : Int32), oI (2 : Int32)] [(.int (2 : Int32)), (.ref a)])
      refine own_ldD X0 hx hZ e0 V 2 (by decide) (by decide) (v := (.double d2)) rfl (hb hby d2_23) ?_
      show own_Go p e below _ T0 (mkF m 24 #[oR a, oD x, .second, oI (2 : Int32), oI (3 : Int32), oI (2 : Int32)] [(.double d2)])
      refine own_by (fun t_ k_ => XS.dloadN X0.here hx rfl (hb hby d2_24) rfl  k_) ?_
      show own_Go p e below _ T0 (mkF m 25 #[oR a, oD x, .second, oI (2 : Int32), oI (3 : Int32), oI (2 : Int32)] [(.double x), (.double d2)])
      refine own_by (fun t_ k_ => XS.dcmpS X0.here hx rfl (hb hby d2_25) rfl rfl k_) ?_
      show own_Go p e below _ T0 (mkF m 26 #[oR a, oD x, .second, oI (2 : Int32), oI (3 : Int32), oI (2 : Int32)] [(.int (cmpValue (FP.dcmp d2 x) .g))])
      by_cases c26_3 : (0 : Int32) < (cmpValue (FP.dcmp d2 x) .g)
      · refine own_by (fun t_ k_ => XS.ifYes X0.here hx rfl (pc0 := 26) (pc' := 37) rfl (hb hby d2_26) rfl (XT.i0_gt_t c26_3) (by decide) (by decide) k_) ?_
        show own_Go p e below _ T0 (mkF m 37 #[oR a, oD x, .second, oI (2 : Int32), oI (3 : Int32), oI (2 : Int32)] [])
        refine own_by (fun t_ k_ => XS.iload X0.here hx rfl (hb hby d2_37) rfl  k_) ?_
        show own_Go p e below _ T0 (mkF m 39 #[oR a, oD x, .second, oI (2 : Int32), oI (3 : Int32), oI (2 : Int32)] [(.int (2 : Int32))])
        refine own_by (fun t_ k_ => XS.istore X0.here hx rfl (hb hby d2_39) rfl (l' := #[oR a, oD x, .second, oI (2 : Int32), oI (2 : Int32), oI (2 : Int32)]) rfl k_) ?_
        show own_Go p e below _ T0 (mkF m 41 #[oR a, oD x, .second, oI (2 : Int32), oI (2 : Int32), oI (2 : Int32)] [])
        refine own_by (fun t_ k_ => XS.goto X0.here hx rfl (pc0 := 41) (pc' := 6) rfl (hb hby d2_41) (by decide) (by decide) k_) ?_
        show own_Go p e below _ T0 (mkF m 6 #[oR a, oD x, .second, oI (2 : Int32), oI (2 : Int32), oI (2 : Int32)] [])
        refine own_by (fun t_ k_ => XS.iloadN X0.here hx rfl (hb hby d2_6) rfl  k_) ?_
        show own_Go p e below _ T0 (mkF m 7 #[oR a, oD x, .second, oI (2 : Int32), oI (2 : Int32), oI (2 : Int32)] [(.int (2 : Int32))])
        refine own_by (fun t_ k_ => XS.iload X0.here hx rfl (hb hby d2_7) rfl  k_) ?_
        show own_Go p e below _ T0 (mkF m 9 #[oR a, oD x, .second, oI (2 : Int32), oI (2 : Int32), oI (2 : Int32)] [(.int (2 : Int32)), (.int (2 : Int32))])
        refine own_by (fun t_ k_ => XS.icmpYes X0.here hx rfl (pc0 := 9) (pc' := 44) rfl (hb hby d2_9) rfl (XT.ii_ge_t (by decide)) (by decide) (by decide) k_) ?_
        show own_Go p e below _ T0 (mkF m 44 #[oR a, oD x, .second, oI (2 : Int32), oI (2 : Int32), oI (2 : Int32)] [])
        refine own_by (fun t_ k_ => XS.iloadN X0.here hx rfl (hb hby d2_44) rfl  k_) ?_
        show own_Go p e below _ T0 (mkF m 45 #[oR a, oD x, .second, oI (2 : Int32), oI (2 : Int32), oI (2 : Int32)] [(.int (2 : Int32))])
        exact own_retI X0 hx hlk hret (hb hby d2_45) (by decide) (by decide) (⟨by rw [own_cb6, if_pos c26_0, if_neg c26_1, if_pos c26_3], e0, rfl⟩)
      · refine own_by (fun t_ k_ => XS.ifNo X0.here hx rfl (hb hby d2_26) rfl (XT.i0_gt_f c26_3) k_) ?_
        show own_Go p e below _ T0 (mkF m 29 #[oR a, oD x, .second, oI (2 : Int32), oI (3 : Int32), oI (2 : Int32)] [])
        refine own_by (fun t_ k_ => XS.iload X0.here hx rfl (hb hby d2_29) rfl  k_) ?_
        show own_Go p e below _ T0 (mkF m 31 #[oR a, oD x, .second, oI (2 : Int32), oI (3 : Int32), oI (2 : Int32)] [(.int (2 : Int32))])
        refine own_by (fun t_ k_ => XT.iconstV X0.here hx rfl (1 : Int32) (hb hby d2_31) (by decide) k_) ?_
        show own_Go p e below _ T0 (mkF m 32 #[oR a, oD x, .second, oI (2 : Int32), oI (3 : Int32), oI (2 : Int32)] [(.int (1 : Int32)), (.int (2 : Int32))])
        refine own_by (fun t_ k_ => XS.iadd X0.here hx rfl (hb hby d2_32) rfl k_) ?_
        show own_Go p e below _ T0 (mkF m 33 #[oR a, oD x, .second, oI (2 : Int32), oI (3 : Int32), oI (2 : Int32)] [(.int ((2 : Int32) + (1 : Int32)))])
        rw [show ((2 : Int32) + (1 : Int32)) = (3 : Int32) by decide]
        show own_Go p e below _ T0 (mkF m 33 #[oR a, oD x, .second, oI (2 : Int32), oI (3 : Int32), oI (2 : Int32)] [(.int (3 : Int32))])
        refine own_by (fun t_ k_ => XS.istoreN X0.here hx rfl (hb hby d2_33) rfl (l' := #[oR a, oD x, .second, oI (3 : Int32), oI (3 : Int32), oI (2 : Int32)]) rfl k_) ?_
        show own_Go p e below _ T0 (mkF m 34 #[oR a, oD x, .second, oI (3 : Int32), oI (3 : Int32), oI (2 : Int32)] [])
        refine own_by (fun t_ k_ => XS.goto X0.here hx rfl (pc0 := 34) (pc' := 41) rfl (hb hby d2_34) (by decide) (by decide) k_) ?_
        show own_Go p e below _ T0 (mkF m 41 #[oR a, oD x, .second, oI (3 : Int32), oI (3 : Int32), oI (2 : Int32)] [])
        refine own_by (fun t_ k_ => XS.goto X0.here hx rfl (pc0 := 41) (pc' := 6) rfl (hb hby d2_41) (by decide) (by decide) k_) ?_
        show own_Go p e below _ T0 (mkF m 6 #[oR a, oD x, .second, oI (3 : Int32), oI (3 : Int32), oI (2 : Int32)] [])
        refine own_by (fun t_ k_ => XS.iloadN X0.here hx rfl (hb hby d2_6) rfl  k_) ?_
        show own_Go p e below _ T0 (mkF m 7 #[oR a, oD x, .second, oI (3 : Int32), oI (3 : Int32), oI (2 : Int32)] [(.int (3 : Int32))])
        refine own_by (fun t_ k_ => XS.iload X0.here hx rfl (hb hby d2_7) rfl  k_) ?_
        show own_Go p e below _ T0 (mkF m 9 #[oR a, oD x, .second, oI (3 : Int32), oI (3 : Int32), oI (2 : Int32)] [(.int (3 : Int32)), (.int (3 : Int32))])
        refine own_by (fun t_ k_ => XS.icmpYes X0.here hx rfl (pc0 := 9) (pc' := 44) rfl (hb hby d2_9) rfl (XT.ii_ge_t (by decide)) (by decide) (by decide) k_) ?_
        show own_Go p e below _ T0 (mkF m 44 #[oR a, oD x, .second, oI (3 : Int32), oI (3 : Int32), oI (2 : Int32)] [])
        refine own_by (fun t_ k_ => XS.iloadN X0.here hx rfl (hb hby d2_44) rfl  k_) ?_
        show own_Go p e below _ T0 (mkF m 45 #[oR a, oD x, .second, oI (3 : Int32), oI (3 : Int32), oI (2 : Int32)] [(.int (3 : Int32))])
        exact own_retI X0 hx hlk hret (hb hby d2_45) (by decide) (by decide) (⟨by rw [own_cb6, if_pos c26_0, if_neg c26_1, if_neg c26_3], e0, rfl⟩)
  · refine own_by (fun t_ k_ => XS.ifNo X0.here hx rfl (hb hby d2_26) rfl (XT.i0_gt_f c26_0) k_) ?_
    show own_Go p e below _ T0 (mkF m 29 #[oR a, oD x, .second, oI (0 : Int32), oI (6 : Int32), oI (3 : Int32)] [])
    refine own_by (fun t_ k_ => XS.iload X0.here hx rfl (hb hby d2_29) rfl  k_) ?_
    show own_Go p e below _ T0 (mkF m 31 #[oR a, oD x, .second, oI (0 : Int32), oI (6 : Int32), oI (3 : Int32)] [(.int (3 : Int32))])
    refine own_by (fun t_ k_ => XT.iconstV X0.here hx rfl (1 : Int32) (hb hby d2_31) (by decide) k_) ?_
    show own_Go p e below _ T0 (mkF m 32 #[oR a, oD x, .second, oI (0 : Int32), oI (6 : Int32), oI (3 : Int32)] [(.int (1 : Int32)), (.int (3 : Int32))])
    refine own_by (fun t_ k_ => XS.iadd X0.here hx rfl (hb hby d2_32) rfl k_) ?_
    show own_Go p e below _ T0 (mkF m 33 #[oR a, oD x, .second, oI (0 : Int32), oI (6 : Int32), oI (3 : Int32)] [(.int ((3 : Int32) + (1 : Int32)))])
    rw [show ((3 : Int32) + (1 : Int32)) = (4 : Int32) by decide]
    show own_Go p e below _ T0 (mkF m 33 #[oR a, oD x, .second, oI (0 : Int32), oI (6 : Int32), oI (3 : Int32)] [(.int (4 : Int32))])
    refine own_by (fun t_ k_ => XS.istoreN X0.here hx rfl (hb hby d2_33) rfl (l' := #[oR a, oD x, .second, oI (4 : Int32), oI (6 : Int32), oI (3 : Int32)]) rfl k_) ?_
    show own_Go p e below _ T0 (mkF m 34 #[oR a, oD x, .second, oI (4 : Int32), oI (6 : Int32), oI (3 : Int32)] [])
    refine own_by (fun t_ k_ => XS.goto X0.here hx rfl (pc0 := 34) (pc' := 41) rfl (hb hby d2_34) (by decide) (by decide) k_) ?_
    show own_Go p e below _ T0 (mkF m 41 #[oR a, oD x, .second, oI (4 : Int32), oI (6 : Int32), oI (3 : Int32)] [])
    refine own_by (fun t_ k_ => XS.goto X0.here hx rfl (pc0 := 41) (pc' := 6) rfl (hb hby d2_41) (by decide) (by decide) k_) ?_
    show own_Go p e below _ T0 (mkF m 6 #[oR a, oD x, .second, oI (4 : Int32), oI (6 : Int32), oI (3 : Int32)] [])
    refine own_by (fun t_ k_ => XS.iloadN X0.here hx rfl (hb hby d2_6) rfl  k_) ?_
    show own_Go p e below _ T0 (mkF m 7 #[oR a, oD x, .second, oI (4 : Int32), oI (6 : Int32), oI (3 : Int32)] [(.int (4 : Int32))])
    refine own_by (fun t_ k_ => XS.iload X0.here hx rfl (hb hby d2_7) rfl  k_) ?_
    show own_Go p e below _ T0 (mkF m 9 #[oR a, oD x, .second, oI (4 : Int32), oI (6 : Int32), oI (3 : Int32)] [(.int (6 : Int32)), (.int (4 : Int32))])
    refine own_by (fun t_ k_ => XS.icmpNo X0.here hx rfl (hb hby d2_9) rfl (XT.ii_ge_f (by decide)) k_) ?_
    show own_Go p e below _ T0 (mkF m 12 #[oR a, oD x, .second, oI (4 : Int32), oI (6 : Int32), oI (3 : Int32)] [])
    refine own_by (fun t_ k_ => XS.iloadN X0.here hx rfl (hb hby d2_12) rfl  k_) ?_
    show own_Go p e below _ T0 (mkF m 13 #[oR a, oD x, .second, oI (4 : Int32), oI (6 : Int32), oI (3 : Int32)] [(.int (4 : Int32))])
    refine own_by (fun t_ k_ => XS.iload X0.here hx rfl (hb hby d2_13) rfl  k_) ?_
    show own_Go p e below _ T0 (mkF m 15 #[oR a, oD x, .second, oI (4 : Int32), oI (6 : Int32), oI (3 : Int32)] [(.int (6 : Int32)), (.int (4 : Int32))])
    refine own_by (fun t_ k_ => XS.iadd X0.here hx rfl (hb hby d2_15) rfl k_) ?_
    show own_Go p e below _ T0 (mkF m 16 #[oR a, oD x, .second, oI (4 : Int32), oI (6 : Int32), oI (3 : Int32)] [(.int ((4 : Int32) + (6 : Int32)))])
    rw [show ((4 : Int32) + (6 : Int32)) = (10 : Int32) by decide]
    show own_Go p e below _ T0 (mkF m 16 #[oR a, oD x, .second, oI (4 : Int32), oI (6 : Int32), oI (3 : Int32)] [(.int (10 : Int32))])
    refine own_by (fun t_ k_ => XT.iconstV X0.here hx rfl (1 : Int32) (hb hby d2_16) (by decide) k_) ?_
    show own_Go p e below _ T0 (mkF m 17 #[oR a, oD x, .second, oI (4 : Int32), oI (6 : Int32), oI (3 : Int32)] [(.int (1 : Int32)), (.int (10 : Int32))])
    refine own_by (fun t_ k_ => XT.iushr X0.here hx rfl (hb hby d2_17) rfl k_) ?_
    show own_Go p e below _ T0 (mkF m 18 #[oR a, oD x, .second, oI (4 : Int32), oI (6 : Int32), oI (3 : Int32)] [(.int (((10 : Int32).toUInt32 >>> ((1 : Int32) &&& 31).toUInt32).toInt32))])
    rw [show (((10 : Int32).toUInt32 >>> ((1 : Int32) &&& 31).toUInt32).toInt32) = (5 : Int32) by decide]
    show own_Go p e below _ T0 (mkF m 18 #[oR a, oD x, .second, oI (4 : Int32), oI (6 : Int32), oI (3 : Int32)] [(.int (5 : Int32))])
    refine own_by (fun t_ k_ => XS.istore X0.here hx rfl (hb hby d2_18) rfl (l' := #[oR a, oD x, .second, oI (4 : Int32), oI (6 : Int32), oI (5 : Int32)]) rfl k_) ?_
    show own_Go p e below _ T0 (mkF m 20 #[oR a, oD x, .second, oI (4 : Int32), oI (6 : Int32), oI (5 : Int32)] [])
    refine own_by (fun t_ k_ => XS.aloadN X0.here hx rfl (hb hby d2_20) rfl rfl  k_) ?_
    show own_Go p e below _ T0 (mkF m 21 #[oR a, oD x, .second, oI (4 : Int32), oI (6 : Int32), oI (5 : Int32)] [(.ref a)])
    refine own_by (fun t_ k_ => XS.iload X0.here hx rfl (hb hby d2_21) rfl  k_) ?_
    show own_Go p e below _ T0 (mkF m 23 #[oR a, oD x, .second, oI (4 : Int32), oI (6 : Int32), oI (5 : Int32)] [(.int (5 : Int32)), (.ref a)])
    refine own_ldD X0 hx hZ e0 V 5 (by decide) (by decide) (v := (.double d5)) rfl (hb hby d2_23) ?_
    show own_Go p e below _ T0 (mkF m 24 #[oR a, oD x, .second, oI (4 : Int32), oI (6 : Int32), oI (5 : Int32)] [(.double d5)])
    refine own_by (fun t_ k_ => XS.dloadN X0.here hx rfl (hb hby d2_24) rfl  k_) ?_
    show own_Go p e below _ T0 (mkF m 25 #[oR a, oD x, .second, oI (4 : Int32), oI (6 : Int32), oI (5 : Int32)] [(.double x), (.double d5)])
    refine own_by (fun t_ k_ => XS.dcmpS X0.here hx rfl (hb hby d2_25) rfl rfl k_) ?_
    show own_Go p e below _ T0 (mkF m 26 #[oR a, oD x, .second, oI (4 : Int32), oI (6 : Int32), oI (5 : Int32)] [(.int (cmpValue (FP.dcmp d5 x) .g))])
    by_cases c26_4 : (0 : Int32) < (cmpValue (FP.dcmp d5 x) .g)
    · refine own_by (fun t_ k_ => XS.ifYes X0.here hx rfl (pc0 := 26) (pc' := 37) rfl (hb hby d2_26) rfl (XT.i0_gt_t c26_4) (by decide) (by decide) k_) ?_
      show own_Go p e below _ T0 (mkF m 37 #[oR a, oD x, .second, oI (4 : Int32), oI (6 : Int32), oI (5 : Int32)] [])
      refine own_by (fun t_ k_ => XS.iload X0.here hx rfl (hb hby d2_37) rfl  k_) ?_
      show own_Go p e below _ T0 (mkF m 39 #[oR a, oD x, .second, oI (4 : Int32), oI (6 : Int32), oI (5 : Int32)] [(.int (5 : Int32))])
      refine own_by (fun t_ k_ => XS.istore X0.here hx rfl (hb hby d2_39) rfl (l' := #[oR a, oD x, .second, oI (4 : Int32), oI (5 : Int32), oI (5 : Int32)]) rfl k_) ?_
      show own_Go p e below _ T0 (mkF m 41 #[oR a, oD x, .second, oI (4 : Int32), oI (5 : Int32), oI (5 : Int32)] [])
      refine own_by (fun t_ k_ => XS.goto X0.here hx rfl (pc0 := 41) (pc' := 6) rfl (hb hby d2_41) (by decide) (by decide) k_) ?_
      show own_Go p e below _ T0 (mkF m 6 #[oR a, oD x, .second, oI (4 : Int32), oI (5 : Int32), oI (5 : Int32)] [])
      refine own_by (fun t_ k_ => XS.iloadN X0.here hx rfl (hb hby d2_6) rfl  k_) ?_
      show own_Go p e below _ T0 (mkF m 7 #[oR a, oD x, .second, oI (4 : Int32), oI (5 : Int32), oI (5 : Int32)] [(.int (4 : Int32))])
      refine own_by (fun t_ k_ => XS.iload X0.here hx rfl (hb hby d2_7) rfl  k_) ?_
      show own_Go p e below _ T0 (mkF m 9 #[oR a, oD x, .second, oI (4 : Int32), oI (5 : Int32), oI (5 : Int32)] [(.int (5 : Int32)), (.int (4 : Int32))])
      refine own_by (fun t_ k_ => XS.icmpNo X0.here hx rfl (hb hby d2_9) rfl (XT.ii_ge_f (by decide)) k_) ?_
      show own_Go p e below _ T0 (mkF m 12 #[oR a, oD x, .second, oI (4 : Int32), oI (5 : Int32), oI (5 : Int32)] [])
      refine own_by (fun t_ k_ => XS.iloadN X0.here hx rfl (hb hby d2_12) rfl  k_) ?_
      show own_Go p e below _ T0 (mkF m 13 #[oR a, oD x, .second, oI (4 : Int32), oI (5 : Int32), oI (5 : Int32)] [(.int (4 : Int32))])
      refine own_by (fun t_ k_ => XS.iload X0.here hx rfl (hb hby d2_13) rfl  k_) ?_
      show own_Go p e below _ T0 (mkF m 15 #[oR a, oD x, .second, oI (4 : Int32), oI (5 : Int32), oI (5 : Int32)] [(.int (5 : Int32)), (.int (4 : Int32))])
      refine own_by (fun t_ k_ => XS.iadd X0.here hx rfl (hb hby d2_15) rfl k_) ?_
      show own_Go p e below _ T0 (mkF m 16 #[oR a, oD x, .second, oI (4 : Int32), oI (5 : Int32), oI (5 : Int32)] [(.int ((4 : Int32) + (5 : Int32)))])
      rw [show ((4 : Int32) + (5 : Int32)) = (9 : Int32) by decide]
      show own_Go p e below _ T0 (mkF m 16 #[oR a, oD x, .second, oI (4 : Int32), oI (5 : Int32), oI (5 : Int32)] [(.int (9 : Int32))])
      refine own_by (fun t_ k_ => XT.iconstV X0.here hx rfl (1 : Int32) (hb hby d2_16) (by decide) k_) ?_
      show own_Go p e below _ T0 (mkF m 17 #[oR a, oD x, .second, oI (4 : Int32), oI (5 : Int32), oI (5 : Int32)] [(.int (1 : Int32)), (.int (9 : Int32))])
      refine own_by (fun t_ k_ => XT.iushr X0.here hx rfl (hb hby d2_17) rfl k_) ?_
      show own_Go p e below _ T0 (mkF m 18 #[oR a, oD x, .second, oI (4 : Int32), oI (5 : Int32), oI (5 : Int32)] [(.int (((9 : Int32).toUInt32 >>> ((1 : Int32) &&& 31).toUInt32).toInt32))])
      rw [show (((9 : Int32).toUInt32 >>> ((1 : Int32) &&& 31).toUInt32).toInt32) = (4 : Int32) by decide]
      show own_Go p e below _ T0 (mkF m 18 #[oR a, oD x, .second, oI (4 : Int32), oI (5 : Int32), oI (5 : Int32)] [(.int (4 : Int32))])
      refine own_by (fun t_ k_ => XS.istore X0.here hx rfl (hb hby d2_18) rfl (l' := #[oR a, oD x, .second, oI (4 : Int32), oI (5 : Int32), oI (4 : Int32)]) rfl k_) ?_
      show own_Go p e below _ T0 (mkF m 20 #[oR a, oD x, .second, oI (4 : Int32), oI (5 : Int32), oI (4 : Int32)] [])
      refine own_by (fun t_ k_ => XS.aloadN X0.here hx rfl (hb hby d2_20) rfl rfl  k_) ?_
      show own_Go p e below _ T0 (mkF m 21 #[oR a, oD x, .second, oI (4 : Int32), oI (5 : Int32), oI (4 : Int32)] [(.ref a)])
      refine own_by (fun t_ k_ => XS.iload X0.here hx rfl (hb hby d2_21) rfl  k_) ?_
      show own_Go p e below _ T0 (mkF m 23 #[oR a, oD x, .second, oI (4 : Int32), oI (5 : Int32), oI (4 : Int32)] [(.int (4 : Int32)), (.ref a)])
      refine own_ldD X0 hx hZ e0 V 4 (by decide) (by decide) (v := (.double d4)) rfl (hb hby d2_23) ?_
      show own_Go p e below _ T0 (mkF m 24 #[oR a, oD x, .second, oI (4 : Int32), oI (5 : Int32), oI (4 : Int32)] [(.double d4)])
      refine own_by (fun t_ k_ => XS.dloadN X0.here hx rfl (hb hby d2_24) rfl  k_) ?_
      show own_Go p e below _ T0 (mkF m 25 #[oR a, oD x, .second, oI (4 : Int32), oI (5 : Int32), oI (4 : Int32)] [(.double x), (.double d4)])
      refine own_by (fun t_ k_ => XS.dcmpS X0.here hx rfl (hb hby d2_25) rfl rfl k_) ?_
      show own_Go p e below _ T0 (mkF m 26 #[oR a, oD x, .second, oI (4 : Int32), oI (5 : Int32), oI (4 : Int32)] [(.int (cmpValue (FP.dcmp d4 x) .g))])
      by_cases c26_5 : (0 : Int32) < (cmpValue (FP.dcmp d4 x) .g)
      · refine own_by (fun t_ k_ => XS.ifYes X0.here hx rfl (pc0 := 26) (pc' := 37) rfl (hb hby d2_26) rfl (XT.i0_gt_t c26_5) (by decide) (by decide) k_) ?_
        show own_Go p e below _ T0 (mkF m 37 #[oR a, oD x, .second, oI (4 : Int32), oI (5 : Int32), oI (4 : Int32)] [])
        refine own_by (fun t_ k_ => XS.iload X0.here hx rfl (hb hby d2_37) rfl  k_) ?_
        show own_Go p e below _ T0 (mkF m 39 #[oR a, oD x, .second, oI (4 : Int32), oI (5 : Int32), oI (4 : Int32)] [(.int (4 : Int32))])
        refine own_by (fun t_ k_ => XS.istore X0.here hx rfl (hb hby d2_39) rfl (l' := #[oR a, oD x, .second, oI (4 : Int32), oI (4 : Int32), oI (4 : Int32)]) rfl k_) ?_
        show own_Go p e below _ T0 (mkF m 41 #[oR a, oD x, .second, oI (4 : Int32), oI (4 : Int32), oI (4 : Int32)] [])
        refine own_by (fun t_ k_ => XS.goto X0.here hx rfl (pc0 := 41) (pc' := 6) rfl (hb hby d2_41) (by decide) (by decide) k_) ?_
        show own_Go p e below _ T0 (mkF m 6 #[oR a, oD x, .second, oI (4 : Int32), oI (4 : Int32), oI (4 : Int32)] [])
        refine own_by (fun t_ k_ => XS.iloadN X0.here hx rfl (hb hby d2_6) rfl  k_) ?_
        show own_Go p e below _ T0 (mkF m 7 #[oR a, oD x, .second, oI (4 : Int32), oI (4 : Int32), oI (4 : Int32)] [(.int (4 : Int32))])
        refine own_by (fun t_ k_ => XS.iload X0.here hx rfl (hb hby d2_7) rfl  k_) ?_
        show own_Go p e below _ T0 (mkF m 9 #[oR a, oD x, .second, oI (4 : Int32), oI (4 : Int32), oI (4 : Int32)] [(.int (4 : Int32)), (.int (4 : Int32))])
        refine own_by (fun t_ k_ => XS.icmpYes X0.here hx rfl (pc0 := 9) (pc' := 44) rfl (hb hby d2_9) rfl (XT.ii_ge_t (by decide)) (by decide) (by decide) k_) ?_
        show own_Go p e below _ T0 (mkF m 44 #[oR a, oD x, .second, oI (4 : Int32), oI (4 : Int32), oI (4 : Int32)] [])
        refine own_by (fun t_ k_ => XS.iloadN X0.here hx rfl (hb hby d2_44) rfl  k_) ?_
        show own_Go p e below _ T0 (mkF m 45 #[oR a, oD x, .second, oI (4 : Int32), oI (4 : Int32), oI (4 : Int32)] [(.int (4 : Int32))])
        exact own_retI X0 hx hlk hret (hb hby d2_45) (by decide) (by decide) (⟨by rw [own_cb6, if_neg c26_0, if_pos c26_4, if_pos c26_5], e0, rfl⟩)
      · refine own_by (fun t_ k_ => XS.ifNo X0.here hx rfl (hb hby d2_26) rfl (XT.i0_gt_f c26_5) k_) ?_
        show own_Go p e below _ T0 (mkF m 29 #[oR a, oD x, .second, oI (4 : Int32), oI (5 : Int32), oI (4 : Int32)] [])
        refine own_by (fun t_ k_ => XS.iload X0.here hx rfl (hb hby d2_29) rfl  k_) ?_
        show own_Go p e below _ T0 (mkF m 31 #[oR a, oD x, .second, oI (4 : Int32), oI (5 : Int32), oI (4 : Int32)] [(.int (4 : Int32))])
        refine own_by (fun t_ k_ => XT.iconstV X0.here hx rfl (1 : Int32) (hb hby d2_31) (by decide) k_) ?_
        show own_Go p e below _ T0 (mkF m 32 #[oR a, oD x, .second, oI (4 : Int32), oI (5 : Int32), oI (4 : Int32)] [(.int (1 : Int32)), (.int (4 : Int32))])
        refine own_by (fun t_ k_ => XS.iadd X0.here hx rfl (hb hby d2_32) rfl k_) ?_
        show own_Go p e below _ T0 (mkF m 33 #[oR a, oD x, .second, oI (4 : Int32), oI (5 : Int32), oI (4 : Int32)] [(.int ((4 : Int32) + (1 : Int32)))])
        rw [show ((4 : Int32) + (1 : Int32)) = (5 : Int32) by decide]
        show own_Go p e below _ T0 (mkF m 33 #[oR a, oD x, .second, oI (4 : Int32), oI (5 : Int32), oI (4 : Int32)] [(.int (5 : Int32))])
        refine own_by (fun t_ k_ => XS.istoreN X0.here hx rfl (hb hby d2_33) rfl (l' := #[oR a, oD x, .second, oI (5 : Int32), oI (5 : Int32), oI (4 : Int32)]) rfl k_) ?_
        show own_Go p e below _ T0 (mkF m 34 #[oR a, oD x, .second, oI (5 : Int32), oI (5 : Int32), oI (4 : Int32)] [])
        refine own_by (fun t_ k_ => XS.goto X0.here hx rfl (pc0 := 34) (pc' := 41) rfl (hb hby d2_34) (by decide) (by decide) k_) ?_
        show own_Go p e below _ T0 (mkF m 41 #[oR a, oD x, .second, oI (5 : Int32), oI (5 : Int32), oI (4 : Int32)] [])
        refine own_by (fun t_ k_ => XS.goto X0.here hx rfl (pc0 := 41) (pc' := 6) rfl (hb hby d2_41) (by decide) (by decide) k_) ?_
        show own_Go p e below _ T0 (mkF m 6 #[oR a, oD x, .second, oI (5 : Int32), oI (5 : Int32), oI (4 : Int32)] [])
        refine own_by (fun t_ k_ => XS.iloadN X0.here hx rfl (hb hby d2_6) rfl  k_) ?_
        show own_Go p e below _ T0 (mkF m 7 #[oR a, oD x, .second, oI (5 : Int32), oI (5 : Int32), oI (4 : Int32)] [(.int (5 : Int32))])
        refine own_by (fun t_ k_ => XS.iload X0.here hx rfl (hb hby d2_7) rfl  k_) ?_
        show own_Go p e below _ T0 (mkF m 9 #[oR a, oD x, .second, oI (5 : Int32), oI (5 : Int32), oI (4 : Int32)] [(.int (5 : Int32)), (.int (5 : Int32))])
        refine own_by (fun t_ k_ => XS.icmpYes X0.here hx rfl (pc0 := 9) (pc' := 44) rfl (hb hby d2_9) rfl (XT.ii_ge_t (by decide)) (by decide) (by decide) k_) ?_
        show own_Go p e below _ T0 (mkF m 44 #[oR a, oD x, .second, oI (5 : Int32), oI (5 : Int32), oI (4 : Int32)] [])
        refine own_by (fun t_ k_ => XS.iloadN X0.here hx rfl (hb hby d2_44) rfl  k_) ?_
        show own_Go p e below _ T0 (mkF m 45 #[oR a, oD x, .second, oI (5 : Int32), oI (5 : Int32), oI (4 : Int32)] [(.int (5 : Int32))])
        exact own_retI X0 hx hlk hret (hb hby d2_45) (by decide) (by decide) (⟨by rw [own_cb6, if_neg c26_0, if_pos c26_4, if_neg c26_5], e0, rfl⟩)
    · refine own_by (fun t_ k_ => XS.ifNo X0.here hx rfl (hb hby d2_26) rfl (XT.i0_gt_f c26_4) k_) ?_
      show own_Go p e below _ T0 (mkF m 29 #[oR a, oD x, .second, oI (4 : Int32), oI (6 : Int32), oI (5 : Int32)] [])
      refine own_by (fun t_ k_ => XS.iload X0.here hx rfl (hb hby d2_29) rfl  k_) ?_
      show own_Go p e below _ T0 (mkF m 31 #[oR a, oD x, .second, oI (4 : Int32), oI (6 : Int32), oI (5 : Int32)] [(.int (5 : Int32))])
      refine own_by (fun t_ k_ => XT.iconstV X0.here hx rfl (1 : Int32) (hb hby d2_31) (by decide) k_) ?_
      show own_Go p e below _ T0 (mkF m 32 #[oR a, oD x, .second, oI (4 : Int32), oI (6 : Int32), oI (5 : Int32)] [(.int (1 : Int32)), (.int (5 : Int32))])
      refine own_by (fun t_ k_ => XS.iadd X0.here hx rfl (hb hby d2_32) rfl k_) ?_
      show own_Go p e below _ T0 (mkF m 33 #[oR a, oD x, .second, oI (4 : Int32), oI (6 : Int32), oI (5 : Int32)] [(.int ((5 : Int32) + (1 : Int32)))])
      rw [show ((5 : Int32) + (1 : Int32)) = (6 : Int32) by decide]
      show own_Go p e below _ T0 (mkF m 33 #[oR a, oD x, .second, oI (4 : Int32), oI (6 : Int32), oI (5 : Int32)] [(.int (6 : Int32))])
      refine own_by (fun t_ k_ => XS.istoreN X0.here hx rfl (hb hby d2_33) rfl (l' := #[oR a, oD x, .second, oI (6 : Int32), oI (6 : Int32), oI (5 : Int32)]) rfl k_) ?_
      show own_Go p e below _ T0 (mkF m 34 #[oR a, oD x, .second, oI (6 : Int32), oI (6 : Int32), oI (5 : Int32)] [])
      refine own_by (fun t_ k_ => XS.goto X0.here hx rfl (pc0 := 34) (pc' := 41) rfl (hb hby d2_34) (by decide) (by decide) k_) ?_
      show own_Go p e below _ T0 (mkF m 41 #[oR a, oD x, .second, oI (6 : Int32), oI (6 : Int32), oI (5 : Int32)] [])
      refine own_by (fun t_ k_ => XS.goto X0.here hx rfl (pc0 := 41) (pc' := 6) rfl (hb hby d2_41) (by decide) (by decide) k_) ?_
      show own_Go p e below _ T0 (mkF m 6 #[oR a, oD x, .second, oI (6 : Int32), oI (6 : Int32), oI (5 : Int32)] [])
      refine own_by (fun t_ k_ => XS.iloadN X0.here hx rfl (hb hby d2_6) rfl  k_) ?_
      show own_Go p e below _ T0 (mkF m 7 #[oR a, oD x, .second, oI (6 : Int32), oI (6 : Int32), oI (5 : Int32)] [(.int (6 : Int32))])
      refine own_by (fun t_ k_ => XS.iload X0.here hx rfl (hb hby d2_7) rfl  k_) ?_
      show own_Go p e below _ T0 (mkF m 9 #[oR a, oD x, .second, oI (6 : Int32), oI (6 : Int32), oI (5 : Int32)] [(.int (6 : Int32)), (.int (6 : Int32))])
      refine own_by (fun t_ k_ => XS.icmpYes X0.here hx rfl (pc0 := 9) (pc' := 44) rfl (hb hby d2_9) rfl (XT.ii_ge_t (by decide)) (by decide) (by decide) k_) ?_
      show own_Go p e below _ T0 (mkF m 44 #[oR a, oD x, .second, oI (6 : Int32), oI (6 : Int32), oI (5 : Int32)] [])
      refine own_by (fun t_ k_ => XS.iloadN X0.here hx rfl (hb hby d2_44) rfl  k_) ?_
      show own_Go p e below _ T0 (mkF m 45 #[oR a, oD x, .second, oI (6 : Int32), oI (6 : Int32), oI (5 : Int32)] [(.int (6 : Int32))])
      exact own_retI X0 hx hlk hret (hb hby d2_45) (by decide) (by decide) (⟨by rw [own_cb6, if_neg c26_0, if_neg c26_4], e0, rfl⟩)
def own_cb7 (a : Addr) (x : UInt64) (kA : ClassId) (d0 d1 d2 d3 d4 d5 d6 : UInt64) : Int32 := (if (0 : Int32) < (cmpValue (FP.dcmp d3 x) .g) then (if (0 : Int32) < (cmpValue (FP.dcmp d1 x) .g) then (if (0 : Int32) < (cmpValue (FP.dcmp d0 x) .g) then (0 : Int32) else (1 : Int32)) else (if (0 : Int32) < (cmpValue (FP.dcmp d2 x) .g) then (2 : Int32) else (3 : Int32))) else (if (0 : Int32) < (cmpValue (FP.dcmp d5 x) .g) then (if (0 : Int32) < (cmpValue (FP.dcmp d4 x) .g) then (4 : Int32) else (5 : Int32)) else (if (0 : Int32) < (cmpValue (FP.dcmp d6 x) .g) then (6 : Int32) else (7 : Int32))))
set_option maxRecDepth 65536 in
set_option maxHeartbeats 40000000 in
theorem own_cb7_met (l : Launch) (Z : State) (a0 : Array Value) (hw : ∀ d ∈ tables_1, d.before a0 Z = true) (a : Addr) (x : UInt64) (kA : ClassId) (d0 d1 d2 d3 d4 d5 d6 : UInt64) (h0 : Heap) (V : own_A Z h0 a .double kA [(.double d0), (.double d1), (.double d2), (.double d3), (.double d4), (.double d5), (.double d6)]) :
    own_Met l (⟨"com/example/biclique/biclique/draw/Ascending", "countAtMost", "([DD)I"⟩ : MethodName) prog_41_method_3_code 6 (some .int) [] ({ frames := 0, cells := 0, slots := 0, locals := 0 } : Room) Z #[(.ref a), (.double x)] h0 (fun rv rh rL => rv = some (.int (own_cb7 a x kA d0 d1 d2 d3 d4 d5 d6)) ∧ rh = h0 ∧ rL = []) := by
  refine own_enter (plainFor_of_name pn_1) ?_
  intro p e s m below meth c T0 hx hby hml hret hlk hown hnm hZ X0 e0
  refine own_at (g' := (mkF m 0 #[oR a, oD x, .second, .unset, .unset, .unset] [])) (by first | (simp [entryFrame, mkF, argsToLocals, Value.category]; done) | rfl) ?_
  show own_Go p e below _ T0 (mkF m 0 #[oR a, oD x, .second, .unset, .unset, .unset] [])
  refine own_by (fun t_ k_ => XT.iconstV X0.here hx rfl (0 : Int32) (hb hby d2_0) (by decide) k_) ?_
  show own_Go p e below _ T0 (mkF m 1 #[oR a, oD x, .second, .unset, .unset, .unset] [(.int (0 : Int32))])
  refine own_by (fun t_ k_ => XS.istoreN X0.here hx rfl (hb hby d2_1) rfl (l' := #[oR a, oD x, .second, oI (0 : Int32), .unset, .unset]) rfl k_) ?_
  show own_Go p e below _ T0 (mkF m 2 #[oR a, oD x, .second, oI (0 : Int32), .unset, .unset] [])
  refine own_by (fun t_ k_ => XS.aloadN X0.here hx rfl (hb hby d2_2) rfl rfl  k_) ?_
  show own_Go p e below _ T0 (mkF m 3 #[oR a, oD x, .second, oI (0 : Int32), .unset, .unset] [(.ref a)])
  refine own_len X0 hx hZ e0 V (7 : Int32) rfl (hb hby d2_3) ?_
  show own_Go p e below _ T0 (mkF m 4 #[oR a, oD x, .second, oI (0 : Int32), .unset, .unset] [(.int (7 : Int32))])
  refine own_by (fun t_ k_ => XS.istore X0.here hx rfl (hb hby d2_4) rfl (l' := #[oR a, oD x, .second, oI (0 : Int32), oI (7 : Int32), .unset]) rfl k_) ?_
  show own_Go p e below _ T0 (mkF m 6 #[oR a, oD x, .second, oI (0 : Int32), oI (7 : Int32), .unset] [])
  refine own_by (fun t_ k_ => XS.iloadN X0.here hx rfl (hb hby d2_6) rfl  k_) ?_
  show own_Go p e below _ T0 (mkF m 7 #[oR a, oD x, .second, oI (0 : Int32), oI (7 : Int32), .unset] [(.int (0 : Int32))])
  refine own_by (fun t_ k_ => XS.iload X0.here hx rfl (hb hby d2_7) rfl  k_) ?_
  show own_Go p e below _ T0 (mkF m 9 #[oR a, oD x, .second, oI (0 : Int32), oI (7 : Int32), .unset] [(.int (7 : Int32)), (.int (0 : Int32))])
  refine own_by (fun t_ k_ => XS.icmpNo X0.here hx rfl (hb hby d2_9) rfl (XT.ii_ge_f (by decide)) k_) ?_
  show own_Go p e below _ T0 (mkF m 12 #[oR a, oD x, .second, oI (0 : Int32), oI (7 : Int32), .unset] [])
  refine own_by (fun t_ k_ => XS.iloadN X0.here hx rfl (hb hby d2_12) rfl  k_) ?_
  show own_Go p e below _ T0 (mkF m 13 #[oR a, oD x, .second, oI (0 : Int32), oI (7 : Int32), .unset] [(.int (0 : Int32))])
  refine own_by (fun t_ k_ => XS.iload X0.here hx rfl (hb hby d2_13) rfl  k_) ?_
  show own_Go p e below _ T0 (mkF m 15 #[oR a, oD x, .second, oI (0 : Int32), oI (7 : Int32), .unset] [(.int (7 : Int32)), (.int (0 : Int32))])
  refine own_by (fun t_ k_ => XS.iadd X0.here hx rfl (hb hby d2_15) rfl k_) ?_
  show own_Go p e below _ T0 (mkF m 16 #[oR a, oD x, .second, oI (0 : Int32), oI (7 : Int32), .unset] [(.int ((0 : Int32) + (7 : Int32)))])
  rw [show ((0 : Int32) + (7 : Int32)) = (7 : Int32) by decide]
  show own_Go p e below _ T0 (mkF m 16 #[oR a, oD x, .second, oI (0 : Int32), oI (7 : Int32), .unset] [(.int (7 : Int32))])
  refine own_by (fun t_ k_ => XT.iconstV X0.here hx rfl (1 : Int32) (hb hby d2_16) (by decide) k_) ?_
  show own_Go p e below _ T0 (mkF m 17 #[oR a, oD x, .second, oI (0 : Int32), oI (7 : Int32), .unset] [(.int (1 : Int32)), (.int (7 : Int32))])
  refine own_by (fun t_ k_ => XT.iushr X0.here hx rfl (hb hby d2_17) rfl k_) ?_
  show own_Go p e below _ T0 (mkF m 18 #[oR a, oD x, .second, oI (0 : Int32), oI (7 : Int32), .unset] [(.int (((7 : Int32).toUInt32 >>> ((1 : Int32) &&& 31).toUInt32).toInt32))])
  rw [show (((7 : Int32).toUInt32 >>> ((1 : Int32) &&& 31).toUInt32).toInt32) = (3 : Int32) by decide]
  show own_Go p e below _ T0 (mkF m 18 #[oR a, oD x, .second, oI (0 : Int32), oI (7 : Int32), .unset] [(.int (3 : Int32))])
  refine own_by (fun t_ k_ => XS.istore X0.here hx rfl (hb hby d2_18) rfl (l' := #[oR a, oD x, .second, oI (0 : Int32), oI (7 : Int32), oI (3 : Int32)]) rfl k_) ?_
  show own_Go p e below _ T0 (mkF m 20 #[oR a, oD x, .second, oI (0 : Int32), oI (7 : Int32), oI (3 : Int32)] [])
  refine own_by (fun t_ k_ => XS.aloadN X0.here hx rfl (hb hby d2_20) rfl rfl  k_) ?_
  show own_Go p e below _ T0 (mkF m 21 #[oR a, oD x, .second, oI (0 : Int32), oI (7 : Int32), oI (3 : Int32)] [(.ref a)])
  refine own_by (fun t_ k_ => XS.iload X0.here hx rfl (hb hby d2_21) rfl  k_) ?_
  show own_Go p e below _ T0 (mkF m 23 #[oR a, oD x, .second, oI (0 : Int32), oI (7 : Int32), oI (3 : Int32)] [(.int (3 : Int32)), (.ref a)])
  refine own_ldD X0 hx hZ e0 V 3 (by decide) (by decide) (v := (.double d3)) rfl (hb hby d2_23) ?_
  show own_Go p e below _ T0 (mkF m 24 #[oR a, oD x, .second, oI (0 : Int32), oI (7 : Int32), oI (3 : Int32)] [(.double d3)])
  refine own_by (fun t_ k_ => XS.dloadN X0.here hx rfl (hb hby d2_24) rfl  k_) ?_
  show own_Go p e below _ T0 (mkF m 25 #[oR a, oD x, .second, oI (0 : Int32), oI (7 : Int32), oI (3 : Int32)] [(.double x), (.double d3)])
  refine own_by (fun t_ k_ => XS.dcmpS X0.here hx rfl (hb hby d2_25) rfl rfl k_) ?_
  show own_Go p e below _ T0 (mkF m 26 #[oR a, oD x, .second, oI (0 : Int32), oI (7 : Int32), oI (3 : Int32)] [(.int (cmpValue (FP.dcmp d3 x) .g))])
  by_cases c26_0 : (0 : Int32) < (cmpValue (FP.dcmp d3 x) .g)
  · refine own_by (fun t_ k_ => XS.ifYes X0.here hx rfl (pc0 := 26) (pc' := 37) rfl (hb hby d2_26) rfl (XT.i0_gt_t c26_0) (by decide) (by decide) k_) ?_
    show own_Go p e below _ T0 (mkF m 37 #[oR a, oD x, .second, oI (0 : Int32), oI (7 : Int32), oI (3 : Int32)] [])
    refine own_by (fun t_ k_ => XS.iload X0.here hx rfl (hb hby d2_37) rfl  k_) ?_
    show own_Go p e below _ T0 (mkF m 39 #[oR a, oD x, .second, oI (0 : Int32), oI (7 : Int32), oI (3 : Int32)] [(.int (3 : Int32))])
    refine own_by (fun t_ k_ => XS.istore X0.here hx rfl (hb hby d2_39) rfl (l' := #[oR a, oD x, .second, oI (0 : Int32), oI (3 : Int32), oI (3 : Int32)]) rfl k_) ?_
    show own_Go p e below _ T0 (mkF m 41 #[oR a, oD x, .second, oI (0 : Int32), oI (3 : Int32), oI (3 : Int32)] [])
    refine own_by (fun t_ k_ => XS.goto X0.here hx rfl (pc0 := 41) (pc' := 6) rfl (hb hby d2_41) (by decide) (by decide) k_) ?_
    show own_Go p e below _ T0 (mkF m 6 #[oR a, oD x, .second, oI (0 : Int32), oI (3 : Int32), oI (3 : Int32)] [])
    refine own_by (fun t_ k_ => XS.iloadN X0.here hx rfl (hb hby d2_6) rfl  k_) ?_
    show own_Go p e below _ T0 (mkF m 7 #[oR a, oD x, .second, oI (0 : Int32), oI (3 : Int32), oI (3 : Int32)] [(.int (0 : Int32))])
    refine own_by (fun t_ k_ => XS.iload X0.here hx rfl (hb hby d2_7) rfl  k_) ?_
    show own_Go p e below _ T0 (mkF m 9 #[oR a, oD x, .second, oI (0 : Int32), oI (3 : Int32), oI (3 : Int32)] [(.int (3 : Int32)), (.int (0 : Int32))])
    refine own_by (fun t_ k_ => XS.icmpNo X0.here hx rfl (hb hby d2_9) rfl (XT.ii_ge_f (by decide)) k_) ?_
    show own_Go p e below _ T0 (mkF m 12 #[oR a, oD x, .second, oI (0 : Int32), oI (3 : Int32), oI (3 : Int32)] [])
    refine own_by (fun t_ k_ => XS.iloadN X0.here hx rfl (hb hby d2_12) rfl  k_) ?_
    show own_Go p e below _ T0 (mkF m 13 #[oR a, oD x, .second, oI (0 : Int32), oI (3 : Int32), oI (3 : Int32)] [(.int (0 : Int32))])
    refine own_by (fun t_ k_ => XS.iload X0.here hx rfl (hb hby d2_13) rfl  k_) ?_
    show own_Go p e below _ T0 (mkF m 15 #[oR a, oD x, .second, oI (0 : Int32), oI (3 : Int32), oI (3 : Int32)] [(.int (3 : Int32)), (.int (0 : Int32))])
    refine own_by (fun t_ k_ => XS.iadd X0.here hx rfl (hb hby d2_15) rfl k_) ?_
    show own_Go p e below _ T0 (mkF m 16 #[oR a, oD x, .second, oI (0 : Int32), oI (3 : Int32), oI (3 : Int32)] [(.int ((0 : Int32) + (3 : Int32)))])
    rw [show ((0 : Int32) + (3 : Int32)) = (3 : Int32) by decide]
    show own_Go p e below _ T0 (mkF m 16 #[oR a, oD x, .second, oI (0 : Int32), oI (3 : Int32), oI (3 : Int32)] [(.int (3 : Int32))])
    refine own_by (fun t_ k_ => XT.iconstV X0.here hx rfl (1 : Int32) (hb hby d2_16) (by decide) k_) ?_
    show own_Go p e below _ T0 (mkF m 17 #[oR a, oD x, .second, oI (0 : Int32), oI (3 : Int32), oI (3 : Int32)] [(.int (1 : Int32)), (.int (3 : Int32))])
    refine own_by (fun t_ k_ => XT.iushr X0.here hx rfl (hb hby d2_17) rfl k_) ?_
    show own_Go p e below _ T0 (mkF m 18 #[oR a, oD x, .second, oI (0 : Int32), oI (3 : Int32), oI (3 : Int32)] [(.int (((3 : Int32).toUInt32 >>> ((1 : Int32) &&& 31).toUInt32).toInt32))])
    rw [show (((3 : Int32).toUInt32 >>> ((1 : Int32) &&& 31).toUInt32).toInt32) = (1 : Int32) by decide]
    show own_Go p e below _ T0 (mkF m 18 #[oR a, oD x, .second, oI (0 : Int32), oI (3 : Int32), oI (3 : Int32)] [(.int (1 : Int32))])
    refine own_by (fun t_ k_ => XS.istore X0.here hx rfl (hb hby d2_18) rfl (l' := #[oR a, oD x, .second, oI (0 : Int32), oI (3 : Int32), oI (1 : Int32)]) rfl k_) ?_
    show own_Go p e below _ T0 (mkF m 20 #[oR a, oD x, .second, oI (0 : Int32), oI (3 : Int32), oI (1 : Int32)] [])
    refine own_by (fun t_ k_ => XS.aloadN X0.here hx rfl (hb hby d2_20) rfl rfl  k_) ?_
    show own_Go p e below _ T0 (mkF m 21 #[oR a, oD x, .second, oI (0 : Int32), oI (3 : Int32), oI (1 : Int32)] [(.ref a)])
    refine own_by (fun t_ k_ => XS.iload X0.here hx rfl (hb hby d2_21) rfl  k_) ?_
    show own_Go p e below _ T0 (mkF m 23 #[oR a, oD x, .second, oI (0 : Int32), oI (3 : Int32), oI (1 : Int32)] [(.int (1 : Int32)), (.ref a)])
    refine own_ldD X0 hx hZ e0 V 1 (by decide) (by decide) (v := (.double d1)) rfl (hb hby d2_23) ?_
    show own_Go p e below _ T0 (mkF m 24 #[oR a, oD x, .second, oI (0 : Int32), oI (3 : Int32), oI (1 : Int32)] [(.double d1)])
    refine own_by (fun t_ k_ => XS.dloadN X0.here hx rfl (hb hby d2_24) rfl  k_) ?_
    show own_Go p e below _ T0 (mkF m 25 #[oR a, oD x, .second, oI (0 : Int32), oI (3 : Int32), oI (1 : Int32)] [(.double x), (.double d1)])
    refine own_by (fun t_ k_ => XS.dcmpS X0.here hx rfl (hb hby d2_25) rfl rfl k_) ?_
    show own_Go p e below _ T0 (mkF m 26 #[oR a, oD x, .second, oI (0 : Int32), oI (3 : Int32), oI (1 : Int32)] [(.int (cmpValue (FP.dcmp d1 x) .g))])
    by_cases c26_1 : (0 : Int32) < (cmpValue (FP.dcmp d1 x) .g)
    · refine own_by (fun t_ k_ => XS.ifYes X0.here hx rfl (pc0 := 26) (pc' := 37) rfl (hb hby d2_26) rfl (XT.i0_gt_t c26_1) (by decide) (by decide) k_) ?_
      show own_Go p e below _ T0 (mkF m 37 #[oR a, oD x, .second, oI (0 : Int32), oI (3 : Int32), oI (1 : Int32)] [])
      refine own_by (fun t_ k_ => XS.iload X0.here hx rfl (hb hby d2_37) rfl  k_) ?_
      show own_Go p e below _ T0 (mkF m 39 #[oR a, oD x, .second, oI (0 : Int32), oI (3 : Int32), oI (1 : Int32)] [(.int (1 : Int32))])
      refine own_by (fun t_ k_ => XS.istore X0.here hx rfl (hb hby d2_39) rfl (l' := #[oR a, oD x, .second, oI (0 : Int32), oI (1 : Int32), oI (1 : Int32)]) rfl k_) ?_
      show own_Go p e below _ T0 (mkF m 41 #[oR a, oD x, .second, oI (0 : Int32), oI (1 : Int32), oI (1 : Int32)] [])
      refine own_by (fun t_ k_ => XS.goto X0.here hx rfl (pc0 := 41) (pc' := 6) rfl (hb hby d2_41) (by decide) (by decide) k_) ?_
      show own_Go p e below _ T0 (mkF m 6 #[oR a, oD x, .second, oI (0 : Int32), oI (1 : Int32), oI (1 : Int32)] [])
      refine own_by (fun t_ k_ => XS.iloadN X0.here hx rfl (hb hby d2_6) rfl  k_) ?_
      show own_Go p e below _ T0 (mkF m 7 #[oR a, oD x, .second, oI (0 : Int32), oI (1 : Int32), oI (1 : Int32)] [(.int (0 : Int32))])
      refine own_by (fun t_ k_ => XS.iload X0.here hx rfl (hb hby d2_7) rfl  k_) ?_
      show own_Go p e below _ T0 (mkF m 9 #[oR a, oD x, .second, oI (0 : Int32), oI (1 : Int32), oI (1 : Int32)] [(.int (1 : Int32)), (.int (0 : Int32))])
      refine own_by (fun t_ k_ => XS.icmpNo X0.here hx rfl (hb hby d2_9) rfl (XT.ii_ge_f (by decide)) k_) ?_
      show own_Go p e below _ T0 (mkF m 12 #[oR a, oD x, .second, oI (0 : Int32), oI (1 : Int32), oI (1 : Int32)] [])
      refine own_by (fun t_ k_ => XS.iloadN X0.here hx rfl (hb hby d2_12) rfl  k_) ?_
      show own_Go p e below _ T0 (mkF m 13 #[oR a, oD x, .second, oI (0 : Int32), oI (1 : Int32), oI (1 : Int32)] [(.int (0 : Int32))])
      refine own_by (fun t_ k_ => XS.iload X0.here hx rfl (hb hby d2_13) rfl  k_) ?_
      show own_Go p e below _ T0 (mkF m 15 #[oR a, oD x, .second, oI (0 : Int32), oI (1 : Int32), oI (1 : Int32)] [(.int (1 : Int32)), (.int (0 : Int32))])
      refine own_by (fun t_ k_ => XS.iadd X0.here hx rfl (hb hby d2_15) rfl k_) ?_
      show own_Go p e below _ T0 (mkF m 16 #[oR a, oD x, .second, oI (0 : Int32), oI (1 : Int32), oI (1 : Int32)] [(.int ((0 : Int32) + (1 : Int32)))])
      rw [show ((0 : Int32) + (1 : Int32)) = (1 : Int32) by decide]
      show own_Go p e below _ T0 (mkF m 16 #[oR a, oD x, .second, oI (0 : Int32), oI (1 : Int32), oI (1 : Int32)] [(.int (1 : Int32))])
      refine own_by (fun t_ k_ => XT.iconstV X0.here hx rfl (1 : Int32) (hb hby d2_16) (by decide) k_) ?_
      show own_Go p e below _ T0 (mkF m 17 #[oR a, oD x, .second, oI (0 : Int32), oI (1 : Int32), oI (1 : Int32)] [(.int (1 : Int32)), (.int (1 : Int32))])
      refine own_by (fun t_ k_ => XT.iushr X0.here hx rfl (hb hby d2_17) rfl k_) ?_
      show own_Go p e below _ T0 (mkF m 18 #[oR a, oD x, .second, oI (0 : Int32), oI (1 : Int32), oI (1 : Int32)] [(.int (((1 : Int32).toUInt32 >>> ((1 : Int32) &&& 31).toUInt32).toInt32))])
      rw [show (((1 : Int32).toUInt32 >>> ((1 : Int32) &&& 31).toUInt32).toInt32) = (0 : Int32) by decide]
      show own_Go p e below _ T0 (mkF m 18 #[oR a, oD x, .second, oI (0 : Int32), oI (1 : Int32), oI (1 : Int32)] [(.int (0 : Int32))])
      refine own_by (fun t_ k_ => XS.istore X0.here hx rfl (hb hby d2_18) rfl (l' := #[oR a, oD x, .second, oI (0 : Int32), oI (1 : Int32), oI (0 : Int32)]) rfl k_) ?_
      show own_Go p e below _ T0 (mkF m 20 #[oR a, oD x, .second, oI (0 : Int32), oI (1 : Int32), oI (0 : Int32)] [])
      refine own_by (fun t_ k_ => XS.aloadN X0.here hx rfl (hb hby d2_20) rfl rfl  k_) ?_
      show own_Go p e below _ T0 (mkF m 21 #[oR a, oD x, .second, oI (0 : Int32), oI (1 : Int32), oI (0 : Int32)] [(.ref a)])
      refine own_by (fun t_ k_ => XS.iload X0.here hx rfl (hb hby d2_21) rfl  k_) ?_
      show own_Go p e below _ T0 (mkF m 23 #[oR a, oD x, .second, oI (0 : Int32), oI (1 : Int32), oI (0 : Int32)] [(.int (0 : Int32)), (.ref a)])
      refine own_ldD X0 hx hZ e0 V 0 (by decide) (by decide) (v := (.double d0)) rfl (hb hby d2_23) ?_
      show own_Go p e below _ T0 (mkF m 24 #[oR a, oD x, .second, oI (0 : Int32), oI (1 : Int32), oI (0 : Int32)] [(.double d0)])
      refine own_by (fun t_ k_ => XS.dloadN X0.here hx rfl (hb hby d2_24) rfl  k_) ?_
      show own_Go p e below _ T0 (mkF m 25 #[oR a, oD x, .second, oI (0 : Int32), oI (1 : Int32), oI (0 : Int32)] [(.double x), (.double d0)])
      refine own_by (fun t_ k_ => XS.dcmpS X0.here hx rfl (hb hby d2_25) rfl rfl k_) ?_
      show own_Go p e below _ T0 (mkF m 26 #[oR a, oD x, .second, oI (0 : Int32), oI (1 : Int32), oI (0 : Int32)] [(.int (cmpValue (FP.dcmp d0 x) .g))])
      by_cases c26_2 : (0 : Int32) < (cmpValue (FP.dcmp d0 x) .g)
      · refine own_by (fun t_ k_ => XS.ifYes X0.here hx rfl (pc0 := 26) (pc' := 37) rfl (hb hby d2_26) rfl (XT.i0_gt_t c26_2) (by decide) (by decide) k_) ?_
        show own_Go p e below _ T0 (mkF m 37 #[oR a, oD x, .second, oI (0 : Int32), oI (1 : Int32), oI (0 : Int32)] [])
        refine own_by (fun t_ k_ => XS.iload X0.here hx rfl (hb hby d2_37) rfl  k_) ?_
        show own_Go p e below _ T0 (mkF m 39 #[oR a, oD x, .second, oI (0 : Int32), oI (1 : Int32), oI (0 : Int32)] [(.int (0 : Int32))])
        refine own_by (fun t_ k_ => XS.istore X0.here hx rfl (hb hby d2_39) rfl (l' := #[oR a, oD x, .second, oI (0 : Int32), oI (0 : Int32), oI (0 : Int32)]) rfl k_) ?_
        show own_Go p e below _ T0 (mkF m 41 #[oR a, oD x, .second, oI (0 : Int32), oI (0 : Int32), oI (0 : Int32)] [])
        refine own_by (fun t_ k_ => XS.goto X0.here hx rfl (pc0 := 41) (pc' := 6) rfl (hb hby d2_41) (by decide) (by decide) k_) ?_
        show own_Go p e below _ T0 (mkF m 6 #[oR a, oD x, .second, oI (0 : Int32), oI (0 : Int32), oI (0 : Int32)] [])
        refine own_by (fun t_ k_ => XS.iloadN X0.here hx rfl (hb hby d2_6) rfl  k_) ?_
        show own_Go p e below _ T0 (mkF m 7 #[oR a, oD x, .second, oI (0 : Int32), oI (0 : Int32), oI (0 : Int32)] [(.int (0 : Int32))])
        refine own_by (fun t_ k_ => XS.iload X0.here hx rfl (hb hby d2_7) rfl  k_) ?_
        show own_Go p e below _ T0 (mkF m 9 #[oR a, oD x, .second, oI (0 : Int32), oI (0 : Int32), oI (0 : Int32)] [(.int (0 : Int32)), (.int (0 : Int32))])
        refine own_by (fun t_ k_ => XS.icmpYes X0.here hx rfl (pc0 := 9) (pc' := 44) rfl (hb hby d2_9) rfl (XT.ii_ge_t (by decide)) (by decide) (by decide) k_) ?_
        show own_Go p e below _ T0 (mkF m 44 #[oR a, oD x, .second, oI (0 : Int32), oI (0 : Int32), oI (0 : Int32)] [])
        refine own_by (fun t_ k_ => XS.iloadN X0.here hx rfl (hb hby d2_44) rfl  k_) ?_
        show own_Go p e below _ T0 (mkF m 45 #[oR a, oD x, .second, oI (0 : Int32), oI (0 : Int32), oI (0 : Int32)] [(.int (0 : Int32))])
        exact own_retI X0 hx hlk hret (hb hby d2_45) (by decide) (by decide) (⟨by rw [own_cb7, if_pos c26_0, if_pos c26_1, if_pos c26_2], e0, rfl⟩)
      · refine own_by (fun t_ k_ => XS.ifNo X0.here hx rfl (hb hby d2_26) rfl (XT.i0_gt_f c26_2) k_) ?_
        show own_Go p e below _ T0 (mkF m 29 #[oR a, oD x, .second, oI (0 : Int32), oI (1 : Int32), oI (0 : Int32)] [])
        refine own_by (fun t_ k_ => XS.iload X0.here hx rfl (hb hby d2_29) rfl  k_) ?_
        show own_Go p e below _ T0 (mkF m 31 #[oR a, oD x, .second, oI (0 : Int32), oI (1 : Int32), oI (0 : Int32)] [(.int (0 : Int32))])
        refine own_by (fun t_ k_ => XT.iconstV X0.here hx rfl (1 : Int32) (hb hby d2_31) (by decide) k_) ?_
        show own_Go p e below _ T0 (mkF m 32 #[oR a, oD x, .second, oI (0 : Int32), oI (1 : Int32), oI (0 : Int32)] [(.int (1 : Int32)), (.int (0 : Int32))])
        refine own_by (fun t_ k_ => XS.iadd X0.here hx rfl (hb hby d2_32) rfl k_) ?_
        show own_Go p e below _ T0 (mkF m 33 #[oR a, oD x, .second, oI (0 : Int32), oI (1 : Int32), oI (0 : Int32)] [(.int ((0 : Int32) + (1 : Int32)))])
        rw [show ((0 : Int32) + (1 : Int32)) = (1 : Int32) by decide]
        show own_Go p e below _ T0 (mkF m 33 #[oR a, oD x, .second, oI (0 : Int32), oI (1 : Int32), oI (0 : Int32)] [(.int (1 : Int32))])
        refine own_by (fun t_ k_ => XS.istoreN X0.here hx rfl (hb hby d2_33) rfl (l' := #[oR a, oD x, .second, oI (1 : Int32), oI (1 : Int32), oI (0 : Int32)]) rfl k_) ?_
        show own_Go p e below _ T0 (mkF m 34 #[oR a, oD x, .second, oI (1 : Int32), oI (1 : Int32), oI (0 : Int32)] [])
        refine own_by (fun t_ k_ => XS.goto X0.here hx rfl (pc0 := 34) (pc' := 41) rfl (hb hby d2_34) (by decide) (by decide) k_) ?_
        show own_Go p e below _ T0 (mkF m 41 #[oR a, oD x, .second, oI (1 : Int32), oI (1 : Int32), oI (0 : Int32)] [])
        refine own_by (fun t_ k_ => XS.goto X0.here hx rfl (pc0 := 41) (pc' := 6) rfl (hb hby d2_41) (by decide) (by decide) k_) ?_
        show own_Go p e below _ T0 (mkF m 6 #[oR a, oD x, .second, oI (1 : Int32), oI (1 : Int32), oI (0 : Int32)] [])
        refine own_by (fun t_ k_ => XS.iloadN X0.here hx rfl (hb hby d2_6) rfl  k_) ?_
        show own_Go p e below _ T0 (mkF m 7 #[oR a, oD x, .second, oI (1 : Int32), oI (1 : Int32), oI (0 : Int32)] [(.int (1 : Int32))])
        refine own_by (fun t_ k_ => XS.iload X0.here hx rfl (hb hby d2_7) rfl  k_) ?_
        show own_Go p e below _ T0 (mkF m 9 #[oR a, oD x, .second, oI (1 : Int32), oI (1 : Int32), oI (0 : Int32)] [(.int (1 : Int32)), (.int (1 : Int32))])
        refine own_by (fun t_ k_ => XS.icmpYes X0.here hx rfl (pc0 := 9) (pc' := 44) rfl (hb hby d2_9) rfl (XT.ii_ge_t (by decide)) (by decide) (by decide) k_) ?_
        show own_Go p e below _ T0 (mkF m 44 #[oR a, oD x, .second, oI (1 : Int32), oI (1 : Int32), oI (0 : Int32)] [])
        refine own_by (fun t_ k_ => XS.iloadN X0.here hx rfl (hb hby d2_44) rfl  k_) ?_
        show own_Go p e below _ T0 (mkF m 45 #[oR a, oD x, .second, oI (1 : Int32), oI (1 : Int32), oI (0 : Int32)] [(.int (1 : Int32))])
        exact own_retI X0 hx hlk hret (hb hby d2_45) (by decide) (by decide) (⟨by rw [own_cb7, if_pos c26_0, if_pos c26_1, if_neg c26_2], e0, rfl⟩)
    · refine own_by (fun t_ k_ => XS.ifNo X0.here hx rfl (hb hby d2_26) rfl (XT.i0_gt_f c26_1) k_) ?_
      show own_Go p e below _ T0 (mkF m 29 #[oR a, oD x, .second, oI (0 : Int32), oI (3 : Int32), oI (1 : Int32)] [])
      refine own_by (fun t_ k_ => XS.iload X0.here hx rfl (hb hby d2_29) rfl  k_) ?_
      show own_Go p e below _ T0 (mkF m 31 #[oR a, oD x, .second, oI (0 : Int32), oI (3 : Int32), oI (1 : Int32)] [(.int (1 : Int32))])
      refine own_by (fun t_ k_ => XT.iconstV X0.here hx rfl (1 : Int32) (hb hby d2_31) (by decide) k_) ?_
      show own_Go p e below _ T0 (mkF m 32 #[oR a, oD x, .second, oI (0 : Int32), oI (3 : Int32), oI (1 : Int32)] [(.int (1 : Int32)), (.int (1 : Int32))])
      refine own_by (fun t_ k_ => XS.iadd X0.here hx rfl (hb hby d2_32) rfl k_) ?_
      show own_Go p e below _ T0 (mkF m 33 #[oR a, oD x, .second, oI (0 : Int32), oI (3 : Int32), oI (1 : Int32)] [(.int ((1 : Int32) + (1 : Int32)))])
      rw [show ((1 : Int32) + (1 : Int32)) = (2 : Int32) by decide]
      show own_Go p e below _ T0 (mkF m 33 #[oR a, oD x, .second, oI (0 : Int32), oI (3 : Int32), oI (1 : Int32)] [(.int (2 : Int32))])
      refine own_by (fun t_ k_ => XS.istoreN X0.here hx rfl (hb hby d2_33) rfl (l' := #[oR a, oD x, .second, oI (2 : Int32), oI (3 : Int32), oI (1 : Int32)]) rfl k_) ?_
      show own_Go p e below _ T0 (mkF m 34 #[oR a, oD x, .second, oI (2 : Int32), oI (3 : Int32), oI (1 : Int32)] [])
      refine own_by (fun t_ k_ => XS.goto X0.here hx rfl (pc0 := 34) (pc' := 41) rfl (hb hby d2_34) (by decide) (by decide) k_) ?_
      show own_Go p e below _ T0 (mkF m 41 #[oR a, oD x, .second, oI (2 : Int32), oI (3 : Int32), oI (1 : Int32)] [])
      refine own_by (fun t_ k_ => XS.goto X0.here hx rfl (pc0 := 41) (pc' := 6) rfl (hb hby d2_41) (by decide) (by decide) k_) ?_
      show own_Go p e below _ T0 (mkF m 6 #[oR a, oD x, .second, oI (2 : Int32), oI (3 : Int32), oI (1 : Int32)] [])
      refine own_by (fun t_ k_ => XS.iloadN X0.here hx rfl (hb hby d2_6) rfl  k_) ?_
      show own_Go p e below _ T0 (mkF m 7 #[oR a, oD x, .second, oI (2 : Int32), oI (3 : Int32), oI (1 : Int32)] [(.int (2 : Int32))])
      refine own_by (fun t_ k_ => XS.iload X0.here hx rfl (hb hby d2_7) rfl  k_) ?_
      show own_Go p e below _ T0 (mkF m 9 #[oR a, oD x, .second, oI (2 : Int32), oI (3 : Int32), oI (1 : Int32)] [(.int (3 : Int32)), (.int (2 : Int32))])
      refine own_by (fun t_ k_ => XS.icmpNo X0.here hx rfl (hb hby d2_9) rfl (XT.ii_ge_f (by decide)) k_) ?_
      show own_Go p e below _ T0 (mkF m 12 #[oR a, oD x, .second, oI (2 : Int32), oI (3 : Int32), oI (1 : Int32)] [])
      refine own_by (fun t_ k_ => XS.iloadN X0.here hx rfl (hb hby d2_12) rfl  k_) ?_
      show own_Go p e below _ T0 (mkF m 13 #[oR a, oD x, .second, oI (2 : Int32), oI (3 : Int32), oI (1 : Int32)] [(.int (2 : Int32))])
      refine own_by (fun t_ k_ => XS.iload X0.here hx rfl (hb hby d2_13) rfl  k_) ?_
      show own_Go p e below _ T0 (mkF m 15 #[oR a, oD x, .second, oI (2 : Int32), oI (3 : Int32), oI (1 : Int32)] [(.int (3 : Int32)), (.int (2 : Int32))])
      refine own_by (fun t_ k_ => XS.iadd X0.here hx rfl (hb hby d2_15) rfl k_) ?_
      show own_Go p e below _ T0 (mkF m 16 #[oR a, oD x, .second, oI (2 : Int32), oI (3 : Int32), oI (1 : Int32)] [(.int ((2 : Int32) + (3 : Int32)))])
      rw [show ((2 : Int32) + (3 : Int32)) = (5 : Int32) by decide]
      show own_Go p e below _ T0 (mkF m 16 #[oR a, oD x, .second, oI (2 : Int32), oI (3 : Int32), oI (1 : Int32)] [(.int (5 : Int32))])
      refine own_by (fun t_ k_ => XT.iconstV X0.here hx rfl (1 : Int32) (hb hby d2_16) (by decide) k_) ?_
      show own_Go p e below _ T0 (mkF m 17 #[oR a, oD x, .second, oI (2 : Int32), oI (3 : Int32), oI (1 : Int32)] [(.int (1 : Int32)), (.int (5 : Int32))])
      refine own_by (fun t_ k_ => XT.iushr X0.here hx rfl (hb hby d2_17) rfl k_) ?_
      show own_Go p e below _ T0 (mkF m 18 #[oR a, oD x, .second, oI (2 : Int32), oI (3 : Int32), oI (1 : Int32)] [(.int (((5 : Int32).toUInt32 >>> ((1 : Int32) &&& 31).toUInt32).toInt32))])
      rw [show (((5 : Int32).toUInt32 >>> ((1 : Int32) &&& 31).toUInt32).toInt32) = (2 : Int32) by decide]
      show own_Go p e below _ T0 (mkF m 18 #[oR a, oD x, .second, oI (2 : Int32), oI (3 : Int32), oI (1 : Int32)] [(.int (2 : Int32))])
      refine own_by (fun t_ k_ => XS.istore X0.here hx rfl (hb hby d2_18) rfl (l' := #[oR a, oD x, .second, oI (2 : Int32), oI (3 : Int32), oI (2 : Int32)]) rfl k_) ?_
      show own_Go p e below _ T0 (mkF m 20 #[oR a, oD x, .second, oI (2 : Int32), oI (3 : Int32), oI (2 : Int32)] [])
      refine own_by (fun t_ k_ => XS.aloadN X0.here hx rfl (hb hby d2_20) rfl rfl  k_) ?_
      show own_Go p e below _ T0 (mkF m 21 #[oR a, oD x, .second, oI (2 : Int32), oI (3 : Int32), oI (2 : Int32)] [(.ref a)])
      refine own_by (fun t_ k_ => XS.iload X0.here hx rfl (hb hby d2_21) rfl  k_) ?_
      show own_Go p e below _ T0 (mkF m 23 #[oR a, oD x, .second, oI (2 : Int32), oI (3 : Int32), oI (2 : Int32)] [(.int (2 : Int32)), (.ref a)])
      refine own_ldD X0 hx hZ e0 V 2 (by decide) (by decide) (v := (.double d2)) rfl (hb hby d2_23) ?_
      show own_Go p e below _ T0 (mkF m 24 #[oR a, oD x, .second, oI (2 : Int32), oI (3 : Int32), oI (2 : Int32)] [(.double d2)])
      refine own_by (fun t_ k_ => XS.dloadN X0.here hx rfl (hb hby d2_24) rfl  k_) ?_
      show own_Go p e below _ T0 (mkF m 25 #[oR a, oD x, .second, oI (2 : Int32), oI (3 : Int32), oI (2 : Int32)] [(.double x), (.double d2)])
      refine own_by (fun t_ k_ => XS.dcmpS X0.here hx rfl (hb hby d2_25) rfl rfl k_) ?_
      show own_Go p e below _ T0 (mkF m 26 #[oR a, oD x, .second, oI (2 : Int32), oI (3 : Int32), oI (2 : Int32)] [(.int (cmpValue (FP.dcmp d2 x) .g))])
      by_cases c26_3 : (0 : Int32) < (cmpValue (FP.dcmp d2 x) .g)
      · refine own_by (fun t_ k_ => XS.ifYes X0.here hx rfl (pc0 := 26) (pc' := 37) rfl (hb hby d2_26) rfl (XT.i0_gt_t c26_3) (by decide) (by decide) k_) ?_
        show own_Go p e below _ T0 (mkF m 37 #[oR a, oD x, .second, oI (2 : Int32), oI (3 : Int32), oI (2 : Int32)] [])
        refine own_by (fun t_ k_ => XS.iload X0.here hx rfl (hb hby d2_37) rfl  k_) ?_
        show own_Go p e below _ T0 (mkF m 39 #[oR a, oD x, .second, oI (2 : Int32), oI (3 : Int32), oI (2 : Int32)] [(.int (2 : Int32))])
        refine own_by (fun t_ k_ => XS.istore X0.here hx rfl (hb hby d2_39) rfl (l' := #[oR a, oD x, .second, oI (2 : Int32), oI (2 : Int32), oI (2 : Int32)]) rfl k_) ?_
        show own_Go p e below _ T0 (mkF m 41 #[oR a, oD x, .second, oI (2 : Int32), oI (2 : Int32), oI (2 : Int32)] [])
        refine own_by (fun t_ k_ => XS.goto X0.here hx rfl (pc0 := 41) (pc' := 6) rfl (hb hby d2_41) (by decide) (by decide) k_) ?_
        show own_Go p e below _ T0 (mkF m 6 #[oR a, oD x, .second, oI (2 : Int32), oI (2 : Int32), oI (2 : Int32)] [])
        refine own_by (fun t_ k_ => XS.iloadN X0.here hx rfl (hb hby d2_6) rfl  k_) ?_
        show own_Go p e below _ T0 (mkF m 7 #[oR a, oD x, .second, oI (2 : Int32), oI (2 : Int32), oI (2 : Int32)] [(.int (2 : Int32))])
        refine own_by (fun t_ k_ => XS.iload X0.here hx rfl (hb hby d2_7) rfl  k_) ?_
        show own_Go p e below _ T0 (mkF m 9 #[oR a, oD x, .second, oI (2 : Int32), oI (2 : Int32), oI (2 : Int32)] [(.int (2 : Int32)), (.int (2 : Int32))])
        refine own_by (fun t_ k_ => XS.icmpYes X0.here hx rfl (pc0 := 9) (pc' := 44) rfl (hb hby d2_9) rfl (XT.ii_ge_t (by decide)) (by decide) (by decide) k_) ?_
        show own_Go p e below _ T0 (mkF m 44 #[oR a, oD x, .second, oI (2 : Int32), oI (2 : Int32), oI (2 : Int32)] [])
        refine own_by (fun t_ k_ => XS.iloadN X0.here hx rfl (hb hby d2_44) rfl  k_) ?_
        show own_Go p e below _ T0 (mkF m 45 #[oR a, oD x, .second, oI (2 : Int32), oI (2 : Int32), oI (2 : Int32)] [(.int (2 : Int32))])
        exact own_retI X0 hx hlk hret (hb hby d2_45) (by decide) (by decide) (⟨by rw [own_cb7, if_pos c26_0, if_neg c26_1, if_pos c26_3], e0, rfl⟩)
      · refine own_by (fun t_ k_ => XS.ifNo X0.here hx rfl (hb hby d2_26) rfl (XT.i0_gt_f c26_3) k_) ?_
        show own_Go p e below _ T0 (mkF m 29 #[oR a, oD x, .second, oI (2 : Int32), oI (3 : Int32), oI (2 : Int32)] [])
        refine own_by (fun t_ k_ => XS.iload X0.here hx rfl (hb hby d2_29) rfl  k_) ?_
        show own_Go p e below _ T0 (mkF m 31 #[oR a, oD x, .second, oI (2 : Int32), oI (3 : Int32), oI (2 : Int32)] [(.int (2 : Int32))])
        refine own_by (fun t_ k_ => XT.iconstV X0.here hx rfl (1 : Int32) (hb hby d2_31) (by decide) k_) ?_
        show own_Go p e below _ T0 (mkF m 32 #[oR a, oD x, .second, oI (2 : Int32), oI (3 : Int32), oI (2 : Int32)] [(.int (1 : Int32)), (.int (2 : Int32))])
        refine own_by (fun t_ k_ => XS.iadd X0.here hx rfl (hb hby d2_32) rfl k_) ?_
        show own_Go p e below _ T0 (mkF m 33 #[oR a, oD x, .second, oI (2 : Int32), oI (3 : Int32), oI (2 : Int32)] [(.int ((2 : Int32) + (1 : Int32)))])
        rw [show ((2 : Int32) + (1 : Int32)) = (3 : Int32) by decide]
        show own_Go p e below _ T0 (mkF m 33 #[oR a, oD x, .second, oI (2 : Int32), oI (3 : Int32), oI (2 : Int32)] [(.int (3 : Int32))])
        refine own_by (fun t_ k_ => XS.istoreN X0.here hx rfl (hb hby d2_33) rfl (l' := #[oR a, oD x, .second, oI (3 : Int32), oI (3 : Int32), oI (2 : Int32)]) rfl k_) ?_
        show own_Go p e below _ T0 (mkF m 34 #[oR a, oD x, .second, oI (3 : Int32), oI (3 : Int32), oI (2 : Int32)] [])
        refine own_by (fun t_ k_ => XS.goto X0.here hx rfl (pc0 := 34) (pc' := 41) rfl (hb hby d2_34) (by decide) (by decide) k_) ?_
        show own_Go p e below _ T0 (mkF m 41 #[oR a, oD x, .second, oI (3 : Int32), oI (3 : Int32), oI (2 : Int32)] [])
        refine own_by (fun t_ k_ => XS.goto X0.here hx rfl (pc0 := 41) (pc' := 6) rfl (hb hby d2_41) (by decide) (by decide) k_) ?_
        show own_Go p e below _ T0 (mkF m 6 #[oR a, oD x, .second, oI (3 : Int32), oI (3 : Int32), oI (2 : Int32)] [])
        refine own_by (fun t_ k_ => XS.iloadN X0.here hx rfl (hb hby d2_6) rfl  k_) ?_
        show own_Go p e below _ T0 (mkF m 7 #[oR a, oD x, .second, oI (3 : Int32), oI (3 : Int32), oI (2 : Int32)] [(.int (3 : Int32))])
        refine own_by (fun t_ k_ => XS.iload X0.here hx rfl (hb hby d2_7) rfl  k_) ?_
        show own_Go p e below _ T0 (mkF m 9 #[oR a, oD x, .second, oI (3 : Int32), oI (3 : Int32), oI (2 : Int32)] [(.int (3 : Int32)), (.int (3 : Int32))])
        refine own_by (fun t_ k_ => XS.icmpYes X0.here hx rfl (pc0 := 9) (pc' := 44) rfl (hb hby d2_9) rfl (XT.ii_ge_t (by decide)) (by decide) (by decide) k_) ?_
        show own_Go p e below _ T0 (mkF m 44 #[oR a, oD x, .second, oI (3 : Int32), oI (3 : Int32), oI (2 : Int32)] [])
        refine own_by (fun t_ k_ => XS.iloadN X0.here hx rfl (hb hby d2_44) rfl  k_) ?_
        show own_Go p e below _ T0 (mkF m 45 #[oR a, oD x, .second, oI (3 : Int32), oI (3 : Int32), oI (2 : Int32)] [(.int (3 : Int32))])
        exact own_retI X0 hx hlk hret (hb hby d2_45) (by decide) (by decide) (⟨by rw [own_cb7, if_pos c26_0, if_neg c26_1, if_neg c26_3], e0, rfl⟩)
  · refine own_by (fun t_ k_ => XS.ifNo X0.here hx rfl (hb hby d2_26) rfl (XT.i0_gt_f c26_0) k_) ?_
    show own_Go p e below _ T0 (mkF m 29 #[oR a, oD x, .second, oI (0 : Int32), oI (7 : Int32), oI (3 : Int32)] [])
    refine own_by (fun t_ k_ => XS.iload X0.here hx rfl (hb hby d2_29) rfl  k_) ?_
    show own_Go p e below _ T0 (mkF m 31 #[oR a, oD x, .second, oI (0 : Int32), oI (7 : Int32), oI (3 : Int32)] [(.int (3 : Int32))])
    refine own_by (fun t_ k_ => XT.iconstV X0.here hx rfl (1 : Int32) (hb hby d2_31) (by decide) k_) ?_
    show own_Go p e below _ T0 (mkF m 32 #[oR a, oD x, .second, oI (0 : Int32), oI (7 : Int32), oI (3 : Int32)] [(.int (1 : Int32)), (.int (3 : Int32))])
    refine own_by (fun t_ k_ => XS.iadd X0.here hx rfl (hb hby d2_32) rfl k_) ?_
    show own_Go p e below _ T0 (mkF m 33 #[oR a, oD x, .second, oI (0 : Int32), oI (7 : Int32), oI (3 : Int32)] [(.int ((3 : Int32) + (1 : Int32)))])
    rw [show ((3 : Int32) + (1 : Int32)) = (4 : Int32) by decide]
    show own_Go p e below _ T0 (mkF m 33 #[oR a, oD x, .second, oI (0 : Int32), oI (7 : Int32), oI (3 : Int32)] [(.int (4 : Int32))])
    refine own_by (fun t_ k_ => XS.istoreN X0.here hx rfl (hb hby d2_33) rfl (l' := #[oR a, oD x, .second, oI (4 : Int32), oI (7 : Int32), oI (3 : Int32)]) rfl k_) ?_
    show own_Go p e below _ T0 (mkF m 34 #[oR a, oD x, .second, oI (4 : Int32), oI (7 : Int32), oI (3 : Int32)] [])
    refine own_by (fun t_ k_ => XS.goto X0.here hx rfl (pc0 := 34) (pc' := 41) rfl (hb hby d2_34) (by decide) (by decide) k_) ?_
    show own_Go p e below _ T0 (mkF m 41 #[oR a, oD x, .second, oI (4 : Int32), oI (7 : Int32), oI (3 : Int32)] [])
    refine own_by (fun t_ k_ => XS.goto X0.here hx rfl (pc0 := 41) (pc' := 6) rfl (hb hby d2_41) (by decide) (by decide) k_) ?_
    show own_Go p e below _ T0 (mkF m 6 #[oR a, oD x, .second, oI (4 : Int32), oI (7 : Int32), oI (3 : Int32)] [])
    refine own_by (fun t_ k_ => XS.iloadN X0.here hx rfl (hb hby d2_6) rfl  k_) ?_
    show own_Go p e below _ T0 (mkF m 7 #[oR a, oD x, .second, oI (4 : Int32), oI (7 : Int32), oI (3 : Int32)] [(.int (4 : Int32))])
    refine own_by (fun t_ k_ => XS.iload X0.here hx rfl (hb hby d2_7) rfl  k_) ?_
    show own_Go p e below _ T0 (mkF m 9 #[oR a, oD x, .second, oI (4 : Int32), oI (7 : Int32), oI (3 : Int32)] [(.int (7 : Int32)), (.int (4 : Int32))])
    refine own_by (fun t_ k_ => XS.icmpNo X0.here hx rfl (hb hby d2_9) rfl (XT.ii_ge_f (by decide)) k_) ?_
    show own_Go p e below _ T0 (mkF m 12 #[oR a, oD x, .second, oI (4 : Int32), oI (7 : Int32), oI (3 : Int32)] [])
    refine own_by (fun t_ k_ => XS.iloadN X0.here hx rfl (hb hby d2_12) rfl  k_) ?_
    show own_Go p e below _ T0 (mkF m 13 #[oR a, oD x, .second, oI (4 : Int32), oI (7 : Int32), oI (3 : Int32)] [(.int (4 : Int32))])
    refine own_by (fun t_ k_ => XS.iload X0.here hx rfl (hb hby d2_13) rfl  k_) ?_
    show own_Go p e below _ T0 (mkF m 15 #[oR a, oD x, .second, oI (4 : Int32), oI (7 : Int32), oI (3 : Int32)] [(.int (7 : Int32)), (.int (4 : Int32))])
    refine own_by (fun t_ k_ => XS.iadd X0.here hx rfl (hb hby d2_15) rfl k_) ?_
    show own_Go p e below _ T0 (mkF m 16 #[oR a, oD x, .second, oI (4 : Int32), oI (7 : Int32), oI (3 : Int32)] [(.int ((4 : Int32) + (7 : Int32)))])
    rw [show ((4 : Int32) + (7 : Int32)) = (11 : Int32) by decide]
    show own_Go p e below _ T0 (mkF m 16 #[oR a, oD x, .second, oI (4 : Int32), oI (7 : Int32), oI (3 : Int32)] [(.int (11 : Int32))])
    refine own_by (fun t_ k_ => XT.iconstV X0.here hx rfl (1 : Int32) (hb hby d2_16) (by decide) k_) ?_
    show own_Go p e below _ T0 (mkF m 17 #[oR a, oD x, .second, oI (4 : Int32), oI (7 : Int32), oI (3 : Int32)] [(.int (1 : Int32)), (.int (11 : Int32))])
    refine own_by (fun t_ k_ => XT.iushr X0.here hx rfl (hb hby d2_17) rfl k_) ?_
    show own_Go p e below _ T0 (mkF m 18 #[oR a, oD x, .second, oI (4 : Int32), oI (7 : Int32), oI (3 : Int32)] [(.int (((11 : Int32).toUInt32 >>> ((1 : Int32) &&& 31).toUInt32).toInt32))])
    rw [show (((11 : Int32).toUInt32 >>> ((1 : Int32) &&& 31).toUInt32).toInt32) = (5 : Int32) by decide]
    show own_Go p e below _ T0 (mkF m 18 #[oR a, oD x, .second, oI (4 : Int32), oI (7 : Int32), oI (3 : Int32)] [(.int (5 : Int32))])
    refine own_by (fun t_ k_ => XS.istore X0.here hx rfl (hb hby d2_18) rfl (l' := #[oR a, oD x, .second, oI (4 : Int32), oI (7 : Int32), oI (5 : Int32)]) rfl k_) ?_
    show own_Go p e below _ T0 (mkF m 20 #[oR a, oD x, .second, oI (4 : Int32), oI (7 : Int32), oI (5 : Int32)] [])
    refine own_by (fun t_ k_ => XS.aloadN X0.here hx rfl (hb hby d2_20) rfl rfl  k_) ?_
    show own_Go p e below _ T0 (mkF m 21 #[oR a, oD x, .second, oI (4 : Int32), oI (7 : Int32), oI (5 : Int32)] [(.ref a)])
    refine own_by (fun t_ k_ => XS.iload X0.here hx rfl (hb hby d2_21) rfl  k_) ?_
    show own_Go p e below _ T0 (mkF m 23 #[oR a, oD x, .second, oI (4 : Int32), oI (7 : Int32), oI (5 : Int32)] [(.int (5 : Int32)), (.ref a)])
    refine own_ldD X0 hx hZ e0 V 5 (by decide) (by decide) (v := (.double d5)) rfl (hb hby d2_23) ?_
    show own_Go p e below _ T0 (mkF m 24 #[oR a, oD x, .second, oI (4 : Int32), oI (7 : Int32), oI (5 : Int32)] [(.double d5)])
    refine own_by (fun t_ k_ => XS.dloadN X0.here hx rfl (hb hby d2_24) rfl  k_) ?_
    show own_Go p e below _ T0 (mkF m 25 #[oR a, oD x, .second, oI (4 : Int32), oI (7 : Int32), oI (5 : Int32)] [(.double x), (.double d5)])
    refine own_by (fun t_ k_ => XS.dcmpS X0.here hx rfl (hb hby d2_25) rfl rfl k_) ?_
    show own_Go p e below _ T0 (mkF m 26 #[oR a, oD x, .second, oI (4 : Int32), oI (7 : Int32), oI (5 : Int32)] [(.int (cmpValue (FP.dcmp d5 x) .g))])
    by_cases c26_4 : (0 : Int32) < (cmpValue (FP.dcmp d5 x) .g)
    · refine own_by (fun t_ k_ => XS.ifYes X0.here hx rfl (pc0 := 26) (pc' := 37) rfl (hb hby d2_26) rfl (XT.i0_gt_t c26_4) (by decide) (by decide) k_) ?_
      show own_Go p e below _ T0 (mkF m 37 #[oR a, oD x, .second, oI (4 : Int32), oI (7 : Int32), oI (5 : Int32)] [])
      refine own_by (fun t_ k_ => XS.iload X0.here hx rfl (hb hby d2_37) rfl  k_) ?_
      show own_Go p e below _ T0 (mkF m 39 #[oR a, oD x, .second, oI (4 : Int32), oI (7 : Int32), oI (5 : Int32)] [(.int (5 : Int32))])
      refine own_by (fun t_ k_ => XS.istore X0.here hx rfl (hb hby d2_39) rfl (l' := #[oR a, oD x, .second, oI (4 : Int32), oI (5 : Int32), oI (5 : Int32)]) rfl k_) ?_
      show own_Go p e below _ T0 (mkF m 41 #[oR a, oD x, .second, oI (4 : Int32), oI (5 : Int32), oI (5 : Int32)] [])
      refine own_by (fun t_ k_ => XS.goto X0.here hx rfl (pc0 := 41) (pc' := 6) rfl (hb hby d2_41) (by decide) (by decide) k_) ?_
      show own_Go p e below _ T0 (mkF m 6 #[oR a, oD x, .second, oI (4 : Int32), oI (5 : Int32), oI (5 : Int32)] [])
      refine own_by (fun t_ k_ => XS.iloadN X0.here hx rfl (hb hby d2_6) rfl  k_) ?_
      show own_Go p e below _ T0 (mkF m 7 #[oR a, oD x, .second, oI (4 : Int32), oI (5 : Int32), oI (5 : Int32)] [(.int (4 : Int32))])
      refine own_by (fun t_ k_ => XS.iload X0.here hx rfl (hb hby d2_7) rfl  k_) ?_
      show own_Go p e below _ T0 (mkF m 9 #[oR a, oD x, .second, oI (4 : Int32), oI (5 : Int32), oI (5 : Int32)] [(.int (5 : Int32)), (.int (4 : Int32))])
      refine own_by (fun t_ k_ => XS.icmpNo X0.here hx rfl (hb hby d2_9) rfl (XT.ii_ge_f (by decide)) k_) ?_
      show own_Go p e below _ T0 (mkF m 12 #[oR a, oD x, .second, oI (4 : Int32), oI (5 : Int32), oI (5 : Int32)] [])
      refine own_by (fun t_ k_ => XS.iloadN X0.here hx rfl (hb hby d2_12) rfl  k_) ?_
      show own_Go p e below _ T0 (mkF m 13 #[oR a, oD x, .second, oI (4 : Int32), oI (5 : Int32), oI (5 : Int32)] [(.int (4 : Int32))])
      refine own_by (fun t_ k_ => XS.iload X0.here hx rfl (hb hby d2_13) rfl  k_) ?_
      show own_Go p e below _ T0 (mkF m 15 #[oR a, oD x, .second, oI (4 : Int32), oI (5 : Int32), oI (5 : Int32)] [(.int (5 : Int32)), (.int (4 : Int32))])
      refine own_by (fun t_ k_ => XS.iadd X0.here hx rfl (hb hby d2_15) rfl k_) ?_
      show own_Go p e below _ T0 (mkF m 16 #[oR a, oD x, .second, oI (4 : Int32), oI (5 : Int32), oI (5 : Int32)] [(.int ((4 : Int32) + (5 : Int32)))])
      rw [show ((4 : Int32) + (5 : Int32)) = (9 : Int32) by decide]
      show own_Go p e below _ T0 (mkF m 16 #[oR a, oD x, .second, oI (4 : Int32), oI (5 : Int32), oI (5 : Int32)] [(.int (9 : Int32))])
      refine own_by (fun t_ k_ => XT.iconstV X0.here hx rfl (1 : Int32) (hb hby d2_16) (by decide) k_) ?_
      show own_Go p e below _ T0 (mkF m 17 #[oR a, oD x, .second, oI (4 : Int32), oI (5 : Int32), oI (5 : Int32)] [(.int (1 : Int32)), (.int (9 : Int32))])
      refine own_by (fun t_ k_ => XT.iushr X0.here hx rfl (hb hby d2_17) rfl k_) ?_
      show own_Go p e below _ T0 (mkF m 18 #[oR a, oD x, .second, oI (4 : Int32), oI (5 : Int32), oI (5 : Int32)] [(.int (((9 : Int32).toUInt32 >>> ((1 : Int32) &&& 31).toUInt32).toInt32))])
      rw [show (((9 : Int32).toUInt32 >>> ((1 : Int32) &&& 31).toUInt32).toInt32) = (4 : Int32) by decide]
      show own_Go p e below _ T0 (mkF m 18 #[oR a, oD x, .second, oI (4 : Int32), oI (5 : Int32), oI (5 : Int32)] [(.int (4 : Int32))])
      refine own_by (fun t_ k_ => XS.istore X0.here hx rfl (hb hby d2_18) rfl (l' := #[oR a, oD x, .second, oI (4 : Int32), oI (5 : Int32), oI (4 : Int32)]) rfl k_) ?_
      show own_Go p e below _ T0 (mkF m 20 #[oR a, oD x, .second, oI (4 : Int32), oI (5 : Int32), oI (4 : Int32)] [])
      refine own_by (fun t_ k_ => XS.aloadN X0.here hx rfl (hb hby d2_20) rfl rfl  k_) ?_
      show own_Go p e below _ T0 (mkF m 21 #[oR a, oD x, .second, oI (4 : Int32), oI (5 : Int32), oI (4 : Int32)] [(.ref a)])
      refine own_by (fun t_ k_ => XS.iload X0.here hx rfl (hb hby d2_21) rfl  k_) ?_
      show own_Go p e below _ T0 (mkF m 23 #[oR a, oD x, .second, oI (4 : Int32), oI (5 : Int32), oI (4 : Int32)] [(.int (4 : Int32)), (.ref a)])
      refine own_ldD X0 hx hZ e0 V 4 (by decide) (by decide) (v := (.double d4)) rfl (hb hby d2_23) ?_
      show own_Go p e below _ T0 (mkF m 24 #[oR a, oD x, .second, oI (4 : Int32), oI (5 : Int32), oI (4 : Int32)] [(.double d4)])
      refine own_by (fun t_ k_ => XS.dloadN X0.here hx rfl (hb hby d2_24) rfl  k_) ?_
      show own_Go p e below _ T0 (mkF m 25 #[oR a, oD x, .second, oI (4 : Int32), oI (5 : Int32), oI (4 : Int32)] [(.double x), (.double d4)])
      refine own_by (fun t_ k_ => XS.dcmpS X0.here hx rfl (hb hby d2_25) rfl rfl k_) ?_
      show own_Go p e below _ T0 (mkF m 26 #[oR a, oD x, .second, oI (4 : Int32), oI (5 : Int32), oI (4 : Int32)] [(.int (cmpValue (FP.dcmp d4 x) .g))])
      by_cases c26_5 : (0 : Int32) < (cmpValue (FP.dcmp d4 x) .g)
      · refine own_by (fun t_ k_ => XS.ifYes X0.here hx rfl (pc0 := 26) (pc' := 37) rfl (hb hby d2_26) rfl (XT.i0_gt_t c26_5) (by decide) (by decide) k_) ?_
        show own_Go p e below _ T0 (mkF m 37 #[oR a, oD x, .second, oI (4 : Int32), oI (5 : Int32), oI (4 : Int32)] [])
        refine own_by (fun t_ k_ => XS.iload X0.here hx rfl (hb hby d2_37) rfl  k_) ?_
        show own_Go p e below _ T0 (mkF m 39 #[oR a, oD x, .second, oI (4 : Int32), oI (5 : Int32), oI (4 : Int32)] [(.int (4 : Int32))])
        refine own_by (fun t_ k_ => XS.istore X0.here hx rfl (hb hby d2_39) rfl (l' := #[oR a, oD x, .second, oI (4 : Int32), oI (4 : Int32), oI (4 : Int32)]) rfl k_) ?_
        show own_Go p e below _ T0 (mkF m 41 #[oR a, oD x, .second, oI (4 : Int32), oI (4 : Int32), oI (4 : Int32)] [])
        refine own_by (fun t_ k_ => XS.goto X0.here hx rfl (pc0 := 41) (pc' := 6) rfl (hb hby d2_41) (by decide) (by decide) k_) ?_
        show own_Go p e below _ T0 (mkF m 6 #[oR a, oD x, .second, oI (4 : Int32), oI (4 : Int32), oI (4 : Int32)] [])
        refine own_by (fun t_ k_ => XS.iloadN X0.here hx rfl (hb hby d2_6) rfl  k_) ?_
        show own_Go p e below _ T0 (mkF m 7 #[oR a, oD x, .second, oI (4 : Int32), oI (4 : Int32), oI (4 : Int32)] [(.int (4 : Int32))])
        refine own_by (fun t_ k_ => XS.iload X0.here hx rfl (hb hby d2_7) rfl  k_) ?_
        show own_Go p e below _ T0 (mkF m 9 #[oR a, oD x, .second, oI (4 : Int32), oI (4 : Int32), oI (4 : Int32)] [(.int (4 : Int32)), (.int (4 : Int32))])
        refine own_by (fun t_ k_ => XS.icmpYes X0.here hx rfl (pc0 := 9) (pc' := 44) rfl (hb hby d2_9) rfl (XT.ii_ge_t (by decide)) (by decide) (by decide) k_) ?_
        show own_Go p e below _ T0 (mkF m 44 #[oR a, oD x, .second, oI (4 : Int32), oI (4 : Int32), oI (4 : Int32)] [])
        refine own_by (fun t_ k_ => XS.iloadN X0.here hx rfl (hb hby d2_44) rfl  k_) ?_
        show own_Go p e below _ T0 (mkF m 45 #[oR a, oD x, .second, oI (4 : Int32), oI (4 : Int32), oI (4 : Int32)] [(.int (4 : Int32))])
        exact own_retI X0 hx hlk hret (hb hby d2_45) (by decide) (by decide) (⟨by rw [own_cb7, if_neg c26_0, if_pos c26_4, if_pos c26_5], e0, rfl⟩)
      · refine own_by (fun t_ k_ => XS.ifNo X0.here hx rfl (hb hby d2_26) rfl (XT.i0_gt_f c26_5) k_) ?_
        show own_Go p e below _ T0 (mkF m 29 #[oR a, oD x, .second, oI (4 : Int32), oI (5 : Int32), oI (4 : Int32)] [])
        refine own_by (fun t_ k_ => XS.iload X0.here hx rfl (hb hby d2_29) rfl  k_) ?_
        show own_Go p e below _ T0 (mkF m 31 #[oR a, oD x, .second, oI (4 : Int32), oI (5 : Int32), oI (4 : Int32)] [(.int (4 : Int32))])
        refine own_by (fun t_ k_ => XT.iconstV X0.here hx rfl (1 : Int32) (hb hby d2_31) (by decide) k_) ?_
        show own_Go p e below _ T0 (mkF m 32 #[oR a, oD x, .second, oI (4 : Int32), oI (5 : Int32), oI (4 : Int32)] [(.int (1 : Int32)), (.int (4 : Int32))])
        refine own_by (fun t_ k_ => XS.iadd X0.here hx rfl (hb hby d2_32) rfl k_) ?_
        show own_Go p e below _ T0 (mkF m 33 #[oR a, oD x, .second, oI (4 : Int32), oI (5 : Int32), oI (4 : Int32)] [(.int ((4 : Int32) + (1 : Int32)))])
        rw [show ((4 : Int32) + (1 : Int32)) = (5 : Int32) by decide]
        show own_Go p e below _ T0 (mkF m 33 #[oR a, oD x, .second, oI (4 : Int32), oI (5 : Int32), oI (4 : Int32)] [(.int (5 : Int32))])
        refine own_by (fun t_ k_ => XS.istoreN X0.here hx rfl (hb hby d2_33) rfl (l' := #[oR a, oD x, .second, oI (5 : Int32), oI (5 : Int32), oI (4 : Int32)]) rfl k_) ?_
        show own_Go p e below _ T0 (mkF m 34 #[oR a, oD x, .second, oI (5 : Int32), oI (5 : Int32), oI (4 : Int32)] [])
        refine own_by (fun t_ k_ => XS.goto X0.here hx rfl (pc0 := 34) (pc' := 41) rfl (hb hby d2_34) (by decide) (by decide) k_) ?_
        show own_Go p e below _ T0 (mkF m 41 #[oR a, oD x, .second, oI (5 : Int32), oI (5 : Int32), oI (4 : Int32)] [])
        refine own_by (fun t_ k_ => XS.goto X0.here hx rfl (pc0 := 41) (pc' := 6) rfl (hb hby d2_41) (by decide) (by decide) k_) ?_
        show own_Go p e below _ T0 (mkF m 6 #[oR a, oD x, .second, oI (5 : Int32), oI (5 : Int32), oI (4 : Int32)] [])
        refine own_by (fun t_ k_ => XS.iloadN X0.here hx rfl (hb hby d2_6) rfl  k_) ?_
        show own_Go p e below _ T0 (mkF m 7 #[oR a, oD x, .second, oI (5 : Int32), oI (5 : Int32), oI (4 : Int32)] [(.int (5 : Int32))])
        refine own_by (fun t_ k_ => XS.iload X0.here hx rfl (hb hby d2_7) rfl  k_) ?_
        show own_Go p e below _ T0 (mkF m 9 #[oR a, oD x, .second, oI (5 : Int32), oI (5 : Int32), oI (4 : Int32)] [(.int (5 : Int32)), (.int (5 : Int32))])
        refine own_by (fun t_ k_ => XS.icmpYes X0.here hx rfl (pc0 := 9) (pc' := 44) rfl (hb hby d2_9) rfl (XT.ii_ge_t (by decide)) (by decide) (by decide) k_) ?_
        show own_Go p e below _ T0 (mkF m 44 #[oR a, oD x, .second, oI (5 : Int32), oI (5 : Int32), oI (4 : Int32)] [])
        refine own_by (fun t_ k_ => XS.iloadN X0.here hx rfl (hb hby d2_44) rfl  k_) ?_
        show own_Go p e below _ T0 (mkF m 45 #[oR a, oD x, .second, oI (5 : Int32), oI (5 : Int32), oI (4 : Int32)] [(.int (5 : Int32))])
        exact own_retI X0 hx hlk hret (hb hby d2_45) (by decide) (by decide) (⟨by rw [own_cb7, if_neg c26_0, if_pos c26_4, if_neg c26_5], e0, rfl⟩)
    · refine own_by (fun t_ k_ => XS.ifNo X0.here hx rfl (hb hby d2_26) rfl (XT.i0_gt_f c26_4) k_) ?_
      show own_Go p e below _ T0 (mkF m 29 #[oR a, oD x, .second, oI (4 : Int32), oI (7 : Int32), oI (5 : Int32)] [])
      refine own_by (fun t_ k_ => XS.iload X0.here hx rfl (hb hby d2_29) rfl  k_) ?_
      show own_Go p e below _ T0 (mkF m 31 #[oR a, oD x, .second, oI (4 : Int32), oI (7 : Int32), oI (5 : Int32)] [(.int (5 : Int32))])
      refine own_by (fun t_ k_ => XT.iconstV X0.here hx rfl (1 : Int32) (hb hby d2_31) (by decide) k_) ?_
      show own_Go p e below _ T0 (mkF m 32 #[oR a, oD x, .second, oI (4 : Int32), oI (7 : Int32), oI (5 : Int32)] [(.int (1 : Int32)), (.int (5 : Int32))])
      refine own_by (fun t_ k_ => XS.iadd X0.here hx rfl (hb hby d2_32) rfl k_) ?_
      show own_Go p e below _ T0 (mkF m 33 #[oR a, oD x, .second, oI (4 : Int32), oI (7 : Int32), oI (5 : Int32)] [(.int ((5 : Int32) + (1 : Int32)))])
      rw [show ((5 : Int32) + (1 : Int32)) = (6 : Int32) by decide]
      show own_Go p e below _ T0 (mkF m 33 #[oR a, oD x, .second, oI (4 : Int32), oI (7 : Int32), oI (5 : Int32)] [(.int (6 : Int32))])
      refine own_by (fun t_ k_ => XS.istoreN X0.here hx rfl (hb hby d2_33) rfl (l' := #[oR a, oD x, .second, oI (6 : Int32), oI (7 : Int32), oI (5 : Int32)]) rfl k_) ?_
      show own_Go p e below _ T0 (mkF m 34 #[oR a, oD x, .second, oI (6 : Int32), oI (7 : Int32), oI (5 : Int32)] [])
      refine own_by (fun t_ k_ => XS.goto X0.here hx rfl (pc0 := 34) (pc' := 41) rfl (hb hby d2_34) (by decide) (by decide) k_) ?_
      show own_Go p e below _ T0 (mkF m 41 #[oR a, oD x, .second, oI (6 : Int32), oI (7 : Int32), oI (5 : Int32)] [])
      refine own_by (fun t_ k_ => XS.goto X0.here hx rfl (pc0 := 41) (pc' := 6) rfl (hb hby d2_41) (by decide) (by decide) k_) ?_
      show own_Go p e below _ T0 (mkF m 6 #[oR a, oD x, .second, oI (6 : Int32), oI (7 : Int32), oI (5 : Int32)] [])
      refine own_by (fun t_ k_ => XS.iloadN X0.here hx rfl (hb hby d2_6) rfl  k_) ?_
      show own_Go p e below _ T0 (mkF m 7 #[oR a, oD x, .second, oI (6 : Int32), oI (7 : Int32), oI (5 : Int32)] [(.int (6 : Int32))])
      refine own_by (fun t_ k_ => XS.iload X0.here hx rfl (hb hby d2_7) rfl  k_) ?_
      show own_Go p e below _ T0 (mkF m 9 #[oR a, oD x, .second, oI (6 : Int32), oI (7 : Int32), oI (5 : Int32)] [(.int (7 : Int32)), (.int (6 : Int32))])
      refine own_by (fun t_ k_ => XS.icmpNo X0.here hx rfl (hb hby d2_9) rfl (XT.ii_ge_f (by decide)) k_) ?_
      show own_Go p e below _ T0 (mkF m 12 #[oR a, oD x, .second, oI (6 : Int32), oI (7 : Int32), oI (5 : Int32)] [])
      refine own_by (fun t_ k_ => XS.iloadN X0.here hx rfl (hb hby d2_12) rfl  k_) ?_
      show own_Go p e below _ T0 (mkF m 13 #[oR a, oD x, .second, oI (6 : Int32), oI (7 : Int32), oI (5 : Int32)] [(.int (6 : Int32))])
      refine own_by (fun t_ k_ => XS.iload X0.here hx rfl (hb hby d2_13) rfl  k_) ?_
      show own_Go p e below _ T0 (mkF m 15 #[oR a, oD x, .second, oI (6 : Int32), oI (7 : Int32), oI (5 : Int32)] [(.int (7 : Int32)), (.int (6 : Int32))])
      refine own_by (fun t_ k_ => XS.iadd X0.here hx rfl (hb hby d2_15) rfl k_) ?_
      show own_Go p e below _ T0 (mkF m 16 #[oR a, oD x, .second, oI (6 : Int32), oI (7 : Int32), oI (5 : Int32)] [(.int ((6 : Int32) + (7 : Int32)))])
      rw [show ((6 : Int32) + (7 : Int32)) = (13 : Int32) by decide]
      show own_Go p e below _ T0 (mkF m 16 #[oR a, oD x, .second, oI (6 : Int32), oI (7 : Int32), oI (5 : Int32)] [(.int (13 : Int32))])
      refine own_by (fun t_ k_ => XT.iconstV X0.here hx rfl (1 : Int32) (hb hby d2_16) (by decide) k_) ?_
      show own_Go p e below _ T0 (mkF m 17 #[oR a, oD x, .second, oI (6 : Int32), oI (7 : Int32), oI (5 : Int32)] [(.int (1 : Int32)), (.int (13 : Int32))])
      refine own_by (fun t_ k_ => XT.iushr X0.here hx rfl (hb hby d2_17) rfl k_) ?_
      show own_Go p e below _ T0 (mkF m 18 #[oR a, oD x, .second, oI (6 : Int32), oI (7 : Int32), oI (5 : Int32)] [(.int (((13 : Int32).toUInt32 >>> ((1 : Int32) &&& 31).toUInt32).toInt32))])
      rw [show (((13 : Int32).toUInt32 >>> ((1 : Int32) &&& 31).toUInt32).toInt32) = (6 : Int32) by decide]
      show own_Go p e below _ T0 (mkF m 18 #[oR a, oD x, .second, oI (6 : Int32), oI (7 : Int32), oI (5 : Int32)] [(.int (6 : Int32))])
      refine own_by (fun t_ k_ => XS.istore X0.here hx rfl (hb hby d2_18) rfl (l' := #[oR a, oD x, .second, oI (6 : Int32), oI (7 : Int32), oI (6 : Int32)]) rfl k_) ?_
      show own_Go p e below _ T0 (mkF m 20 #[oR a, oD x, .second, oI (6 : Int32), oI (7 : Int32), oI (6 : Int32)] [])
      refine own_by (fun t_ k_ => XS.aloadN X0.here hx rfl (hb hby d2_20) rfl rfl  k_) ?_
      show own_Go p e below _ T0 (mkF m 21 #[oR a, oD x, .second, oI (6 : Int32), oI (7 : Int32), oI (6 : Int32)] [(.ref a)])
      refine own_by (fun t_ k_ => XS.iload X0.here hx rfl (hb hby d2_21) rfl  k_) ?_
      show own_Go p e below _ T0 (mkF m 23 #[oR a, oD x, .second, oI (6 : Int32), oI (7 : Int32), oI (6 : Int32)] [(.int (6 : Int32)), (.ref a)])
      refine own_ldD X0 hx hZ e0 V 6 (by decide) (by decide) (v := (.double d6)) rfl (hb hby d2_23) ?_
      show own_Go p e below _ T0 (mkF m 24 #[oR a, oD x, .second, oI (6 : Int32), oI (7 : Int32), oI (6 : Int32)] [(.double d6)])
      refine own_by (fun t_ k_ => XS.dloadN X0.here hx rfl (hb hby d2_24) rfl  k_) ?_
      show own_Go p e below _ T0 (mkF m 25 #[oR a, oD x, .second, oI (6 : Int32), oI (7 : Int32), oI (6 : Int32)] [(.double x), (.double d6)])
      refine own_by (fun t_ k_ => XS.dcmpS X0.here hx rfl (hb hby d2_25) rfl rfl k_) ?_
      show own_Go p e below _ T0 (mkF m 26 #[oR a, oD x, .second, oI (6 : Int32), oI (7 : Int32), oI (6 : Int32)] [(.int (cmpValue (FP.dcmp d6 x) .g))])
      by_cases c26_6 : (0 : Int32) < (cmpValue (FP.dcmp d6 x) .g)
      · refine own_by (fun t_ k_ => XS.ifYes X0.here hx rfl (pc0 := 26) (pc' := 37) rfl (hb hby d2_26) rfl (XT.i0_gt_t c26_6) (by decide) (by decide) k_) ?_
        show own_Go p e below _ T0 (mkF m 37 #[oR a, oD x, .second, oI (6 : Int32), oI (7 : Int32), oI (6 : Int32)] [])
        refine own_by (fun t_ k_ => XS.iload X0.here hx rfl (hb hby d2_37) rfl  k_) ?_
        show own_Go p e below _ T0 (mkF m 39 #[oR a, oD x, .second, oI (6 : Int32), oI (7 : Int32), oI (6 : Int32)] [(.int (6 : Int32))])
        refine own_by (fun t_ k_ => XS.istore X0.here hx rfl (hb hby d2_39) rfl (l' := #[oR a, oD x, .second, oI (6 : Int32), oI (6 : Int32), oI (6 : Int32)]) rfl k_) ?_
        show own_Go p e below _ T0 (mkF m 41 #[oR a, oD x, .second, oI (6 : Int32), oI (6 : Int32), oI (6 : Int32)] [])
        refine own_by (fun t_ k_ => XS.goto X0.here hx rfl (pc0 := 41) (pc' := 6) rfl (hb hby d2_41) (by decide) (by decide) k_) ?_
        show own_Go p e below _ T0 (mkF m 6 #[oR a, oD x, .second, oI (6 : Int32), oI (6 : Int32), oI (6 : Int32)] [])
        refine own_by (fun t_ k_ => XS.iloadN X0.here hx rfl (hb hby d2_6) rfl  k_) ?_
        show own_Go p e below _ T0 (mkF m 7 #[oR a, oD x, .second, oI (6 : Int32), oI (6 : Int32), oI (6 : Int32)] [(.int (6 : Int32))])
        refine own_by (fun t_ k_ => XS.iload X0.here hx rfl (hb hby d2_7) rfl  k_) ?_
        show own_Go p e below _ T0 (mkF m 9 #[oR a, oD x, .second, oI (6 : Int32), oI (6 : Int32), oI (6 : Int32)] [(.int (6 : Int32)), (.int (6 : Int32))])
        refine own_by (fun t_ k_ => XS.icmpYes X0.here hx rfl (pc0 := 9) (pc' := 44) rfl (hb hby d2_9) rfl (XT.ii_ge_t (by decide)) (by decide) (by decide) k_) ?_
        show own_Go p e below _ T0 (mkF m 44 #[oR a, oD x, .second, oI (6 : Int32), oI (6 : Int32), oI (6 : Int32)] [])
        refine own_by (fun t_ k_ => XS.iloadN X0.here hx rfl (hb hby d2_44) rfl  k_) ?_
        show own_Go p e below _ T0 (mkF m 45 #[oR a, oD x, .second, oI (6 : Int32), oI (6 : Int32), oI (6 : Int32)] [(.int (6 : Int32))])
        exact own_retI X0 hx hlk hret (hb hby d2_45) (by decide) (by decide) (⟨by rw [own_cb7, if_neg c26_0, if_neg c26_4, if_pos c26_6], e0, rfl⟩)
      · refine own_by (fun t_ k_ => XS.ifNo X0.here hx rfl (hb hby d2_26) rfl (XT.i0_gt_f c26_6) k_) ?_
        show own_Go p e below _ T0 (mkF m 29 #[oR a, oD x, .second, oI (6 : Int32), oI (7 : Int32), oI (6 : Int32)] [])
        refine own_by (fun t_ k_ => XS.iload X0.here hx rfl (hb hby d2_29) rfl  k_) ?_
        show own_Go p e below _ T0 (mkF m 31 #[oR a, oD x, .second, oI (6 : Int32), oI (7 : Int32), oI (6 : Int32)] [(.int (6 : Int32))])
        refine own_by (fun t_ k_ => XT.iconstV X0.here hx rfl (1 : Int32) (hb hby d2_31) (by decide) k_) ?_
        show own_Go p e below _ T0 (mkF m 32 #[oR a, oD x, .second, oI (6 : Int32), oI (7 : Int32), oI (6 : Int32)] [(.int (1 : Int32)), (.int (6 : Int32))])
        refine own_by (fun t_ k_ => XS.iadd X0.here hx rfl (hb hby d2_32) rfl k_) ?_
        show own_Go p e below _ T0 (mkF m 33 #[oR a, oD x, .second, oI (6 : Int32), oI (7 : Int32), oI (6 : Int32)] [(.int ((6 : Int32) + (1 : Int32)))])
        rw [show ((6 : Int32) + (1 : Int32)) = (7 : Int32) by decide]
        show own_Go p e below _ T0 (mkF m 33 #[oR a, oD x, .second, oI (6 : Int32), oI (7 : Int32), oI (6 : Int32)] [(.int (7 : Int32))])
        refine own_by (fun t_ k_ => XS.istoreN X0.here hx rfl (hb hby d2_33) rfl (l' := #[oR a, oD x, .second, oI (7 : Int32), oI (7 : Int32), oI (6 : Int32)]) rfl k_) ?_
        show own_Go p e below _ T0 (mkF m 34 #[oR a, oD x, .second, oI (7 : Int32), oI (7 : Int32), oI (6 : Int32)] [])
        refine own_by (fun t_ k_ => XS.goto X0.here hx rfl (pc0 := 34) (pc' := 41) rfl (hb hby d2_34) (by decide) (by decide) k_) ?_
        show own_Go p e below _ T0 (mkF m 41 #[oR a, oD x, .second, oI (7 : Int32), oI (7 : Int32), oI (6 : Int32)] [])
        refine own_by (fun t_ k_ => XS.goto X0.here hx rfl (pc0 := 41) (pc' := 6) rfl (hb hby d2_41) (by decide) (by decide) k_) ?_
        show own_Go p e below _ T0 (mkF m 6 #[oR a, oD x, .second, oI (7 : Int32), oI (7 : Int32), oI (6 : Int32)] [])
        refine own_by (fun t_ k_ => XS.iloadN X0.here hx rfl (hb hby d2_6) rfl  k_) ?_
        show own_Go p e below _ T0 (mkF m 7 #[oR a, oD x, .second, oI (7 : Int32), oI (7 : Int32), oI (6 : Int32)] [(.int (7 : Int32))])
        refine own_by (fun t_ k_ => XS.iload X0.here hx rfl (hb hby d2_7) rfl  k_) ?_
        show own_Go p e below _ T0 (mkF m 9 #[oR a, oD x, .second, oI (7 : Int32), oI (7 : Int32), oI (6 : Int32)] [(.int (7 : Int32)), (.int (7 : Int32))])
        refine own_by (fun t_ k_ => XS.icmpYes X0.here hx rfl (pc0 := 9) (pc' := 44) rfl (hb hby d2_9) rfl (XT.ii_ge_t (by decide)) (by decide) (by decide) k_) ?_
        show own_Go p e below _ T0 (mkF m 44 #[oR a, oD x, .second, oI (7 : Int32), oI (7 : Int32), oI (6 : Int32)] [])
        refine own_by (fun t_ k_ => XS.iloadN X0.here hx rfl (hb hby d2_44) rfl  k_) ?_
        show own_Go p e below _ T0 (mkF m 45 #[oR a, oD x, .second, oI (7 : Int32), oI (7 : Int32), oI (6 : Int32)] [(.int (7 : Int32))])
        exact own_retI X0 hx hlk hret (hb hby d2_45) (by decide) (by decide) (⟨by rw [own_cb7, if_neg c26_0, if_neg c26_4, if_neg c26_6], e0, rfl⟩)
theorem own_fr0 {k : Nat} {L : List Loc} (N : Fr k L) : Fr k (L ++ [] ++ [] ++ [] ++ [] ++ [] ++ [] ++ [] ++ []) := by simpa using N
theorem pd_0 : parseMethodDescriptor "(IIDD)I" = some ⟨[.int, .int, .double, .double], some .int⟩ := by decide +kernel
theorem pd_1 : parseMethodDescriptor "([DD)I" = some ⟨[(.array .double), .double], some .int⟩ := by decide +kernel
set_option maxRecDepth 65536 in
set_option maxHeartbeats 40000000 in
theorem own_law (l : Launch) (Z : State) (a0 : Array Value) (hw : ∀ d ∈ tables_1, d.before a0 Z = true) (i0 i1 i2 i3 : Int32) (h0 : Heap)  :
    own_Met l x code maxLocals ret tables_1 room_1 Z #[(.int i0), (.int i1), (.int i2), (.int i3)] h0 (fun v h L => v = some (.int (1 : Int32)) ∧ Fr h0.size L) := by
  refine own_enter (plainFor_of_name pn_0) ?_
  intro p e s m below meth c T0 hx hby hml hret hlk hown hnm hZ X0 e0
  refine own_at (g' := (mkF m 0 #[oI i0, oI i1, oI i2, oI i3, .unset, .unset, .unset, .unset, .unset, .unset, .unset, .unset, .unset, .unset, .unset, .unset, .unset, .unset, .unset, .unset, .unset, .unset, .unset, .unset] [])) (by first | (simp [entryFrame, mkF, argsToLocals, Value.category, maxLocals]; done) | rfl) ?_
  show own_Go p e below _ T0 (mkF m 0 #[oI i0, oI i1, oI i2, oI i3, .unset, .unset, .unset, .unset, .unset, .unset, .unset, .unset, .unset, .unset, .unset, .unset, .unset, .unset, .unset, .unset, .unset, .unset, .unset, .unset] [])
  refine own_by (fun t_ k_ => XS.iloadN X0.here hx rfl (hb hby at_0) rfl  k_) ?_
  show own_Go p e below _ T0 (mkF m 1 #[oI i0, oI i1, oI i2, oI i3, .unset, .unset, .unset, .unset, .unset, .unset, .unset, .unset, .unset, .unset, .unset, .unset, .unset, .unset, .unset, .unset, .unset, .unset, .unset, .unset] [(.int i3)])
  refine own_by (fun t_ k_ => XT.bipushV X0.here hx rfl (7 : Int32) (hb hby at_1) (by decide) k_) ?_
  show own_Go p e below _ T0 (mkF m 3 #[oI i0, oI i1, oI i2, oI i3, .unset, .unset, .unset, .unset, .unset, .unset, .unset, .unset, .unset, .unset, .unset, .unset, .unset, .unset, .unset, .unset, .unset, .unset, .unset, .unset] [(.int (7 : Int32)), (.int i3)])
  refine own_by (fun t_ k_ => XS.iand X0.here hx rfl (hb hby at_3) rfl k_) ?_
  show own_Go p e below _ T0 (mkF m 4 #[oI i0, oI i1, oI i2, oI i3, .unset, .unset, .unset, .unset, .unset, .unset, .unset, .unset, .unset, .unset, .unset, .unset, .unset, .unset, .unset, .unset, .unset, .unset, .unset, .unset] [(.int (i3 &&& (7 : Int32)))])
  refine own_by (fun t_ k_ => XS.istore X0.here hx rfl (hb hby at_4) rfl (l' := #[oI i0, oI i1, oI i2, oI i3, oI (i3 &&& (7 : Int32)), .unset, .unset, .unset, .unset, .unset, .unset, .unset, .unset, .unset, .unset, .unset, .unset, .unset, .unset, .unset, .unset, .unset, .unset, .unset]) rfl k_) ?_
  show own_Go p e below _ T0 (mkF m 6 #[oI i0, oI i1, oI i2, oI i3, oI (i3 &&& (7 : Int32)), .unset, .unset, .unset, .unset, .unset, .unset, .unset, .unset, .unset, .unset, .unset, .unset, .unset, .unset, .unset, .unset, .unset, .unset, .unset] [])
  refine own_by (fun t_ k_ => XS.iloadN X0.here hx rfl (hb hby at_6) rfl  k_) ?_
  show own_Go p e below _ T0 (mkF m 7 #[oI i0, oI i1, oI i2, oI i3, oI (i3 &&& (7 : Int32)), .unset, .unset, .unset, .unset, .unset, .unset, .unset, .unset, .unset, .unset, .unset, .unset, .unset, .unset, .unset, .unset, .unset, .unset, .unset] [(.int i0)])
  refine own_by (fun t_ k_ => XS.i2dS X0.here hx rfl (hb hby at_7) rfl rfl k_) ?_
  show own_Go p e below _ T0 (mkF m 8 #[oI i0, oI i1, oI i2, oI i3, oI (i3 &&& (7 : Int32)), .unset, .unset, .unset, .unset, .unset, .unset, .unset, .unset, .unset, .unset, .unset, .unset, .unset, .unset, .unset, .unset, .unset, .unset, .unset] [(.double (FP.i2d i0))])
  have Dy1 := own_D_i2d i0
  have By1 := rng32 i0
  generalize i0.toInt = V1 at Dy1 By1
  generalize (FP.i2d i0) = y1 at Dy1 ⊢
  show own_Go p e below _ T0 (mkF m 8 #[oI i0, oI i1, oI i2, oI i3, oI (i3 &&& (7 : Int32)), .unset, .unset, .unset, .unset, .unset, .unset, .unset, .unset, .unset, .unset, .unset, .unset, .unset, .unset, .unset, .unset, .unset, .unset, .unset] [(.double y1)])
  refine own_by (fun t_ k_ => XS.dstore X0.here hx rfl (hb hby at_8) rfl (l' := #[oI i0, oI i1, oI i2, oI i3, oI (i3 &&& (7 : Int32)), oD y1, .second, .unset, .unset, .unset, .unset, .unset, .unset, .unset, .unset, .unset, .unset, .unset, .unset, .unset, .unset, .unset, .unset, .unset]) rfl k_) ?_
  show own_Go p e below _ T0 (mkF m 10 #[oI i0, oI i1, oI i2, oI i3, oI (i3 &&& (7 : Int32)), oD y1, .second, .unset, .unset, .unset, .unset, .unset, .unset, .unset, .unset, .unset, .unset, .unset, .unset, .unset, .unset, .unset, .unset, .unset] [])
  refine own_by (fun t_ k_ => XS.dload X0.here hx rfl (hb hby at_10) rfl  k_) ?_
  show own_Go p e below _ T0 (mkF m 12 #[oI i0, oI i1, oI i2, oI i3, oI (i3 &&& (7 : Int32)), oD y1, .second, .unset, .unset, .unset, .unset, .unset, .unset, .unset, .unset, .unset, .unset, .unset, .unset, .unset, .unset, .unset, .unset, .unset] [(.double y1)])
  refine own_by (fun t_ k_ => XS.iloadN X0.here hx rfl (hb hby at_12) rfl  k_) ?_
  show own_Go p e below _ T0 (mkF m 13 #[oI i0, oI i1, oI i2, oI i3, oI (i3 &&& (7 : Int32)), oD y1, .second, .unset, .unset, .unset, .unset, .unset, .unset, .unset, .unset, .unset, .unset, .unset, .unset, .unset, .unset, .unset, .unset, .unset] [(.int i1), (.double y1)])
  refine own_by (fun t_ k_ => XT.iconstV X0.here hx rfl (3 : Int32) (hb hby at_13) (by decide) k_) ?_
  show own_Go p e below _ T0 (mkF m 14 #[oI i0, oI i1, oI i2, oI i3, oI (i3 &&& (7 : Int32)), oD y1, .second, .unset, .unset, .unset, .unset, .unset, .unset, .unset, .unset, .unset, .unset, .unset, .unset, .unset, .unset, .unset, .unset, .unset] [(.int (3 : Int32)), (.int i1), (.double y1)])
  refine own_by (fun t_ k_ => XS.iand X0.here hx rfl (hb hby at_14) rfl k_) ?_
  show own_Go p e below _ T0 (mkF m 15 #[oI i0, oI i1, oI i2, oI i3, oI (i3 &&& (7 : Int32)), oD y1, .second, .unset, .unset, .unset, .unset, .unset, .unset, .unset, .unset, .unset, .unset, .unset, .unset, .unset, .unset, .unset, .unset, .unset] [(.int (i1 &&& (3 : Int32))), (.double y1)])
  refine own_by (fun t_ k_ => XS.i2dS X0.here hx rfl (hb hby at_15) rfl rfl k_) ?_
  show own_Go p e below _ T0 (mkF m 16 #[oI i0, oI i1, oI i2, oI i3, oI (i3 &&& (7 : Int32)), oD y1, .second, .unset, .unset, .unset, .unset, .unset, .unset, .unset, .unset, .unset, .unset, .unset, .unset, .unset, .unset, .unset, .unset, .unset] [(.double (FP.i2d (i1 &&& (3 : Int32)))), (.double y1)])
  have Dy2 := own_D_i2d (i1 &&& (3 : Int32))
  have By2 := own_b3 i1
  generalize (i1 &&& (3 : Int32)).toInt = V2 at Dy2 By2
  generalize (FP.i2d (i1 &&& (3 : Int32))) = y2 at Dy2 ⊢
  show own_Go p e below _ T0 (mkF m 16 #[oI i0, oI i1, oI i2, oI i3, oI (i3 &&& (7 : Int32)), oD y1, .second, .unset, .unset, .unset, .unset, .unset, .unset, .unset, .unset, .unset, .unset, .unset, .unset, .unset, .unset, .unset, .unset, .unset] [(.double y2), (.double y1)])
  have D1 := own_D_add Dy1 Dy2 (by omega) (by decide) (by decide)
  refine own_by (fun t_ k_ => XS.daddS X0.here hx rfl (hb hby at_16) rfl (own_D_no D1) rfl k_) ?_
  show own_Go p e below _ T0 (mkF m 17 #[oI i0, oI i1, oI i2, oI i3, oI (i3 &&& (7 : Int32)), oD y1, .second, .unset, .unset, .unset, .unset, .unset, .unset, .unset, .unset, .unset, .unset, .unset, .unset, .unset, .unset, .unset, .unset, .unset] [(.double (FP.dadd y1 y2))])
  generalize (FP.dadd y1 y2) = x3 at D1 ⊢
  show own_Go p e below _ T0 (mkF m 17 #[oI i0, oI i1, oI i2, oI i3, oI (i3 &&& (7 : Int32)), oD y1, .second, .unset, .unset, .unset, .unset, .unset, .unset, .unset, .unset, .unset, .unset, .unset, .unset, .unset, .unset, .unset, .unset, .unset] [(.double x3)])
  refine own_by (fun t_ k_ => XS.dstore X0.here hx rfl (hb hby at_17) rfl (l' := #[oI i0, oI i1, oI i2, oI i3, oI (i3 &&& (7 : Int32)), oD y1, .second, oD x3, .second, .unset, .unset, .unset, .unset, .unset, .unset, .unset, .unset, .unset, .unset, .unset, .unset, .unset, .unset, .unset]) rfl k_) ?_
  show own_Go p e below _ T0 (mkF m 19 #[oI i0, oI i1, oI i2, oI i3, oI (i3 &&& (7 : Int32)), oD y1, .second, oD x3, .second, .unset, .unset, .unset, .unset, .unset, .unset, .unset, .unset, .unset, .unset, .unset, .unset, .unset, .unset, .unset] [])
  refine own_by (fun t_ k_ => XS.dload X0.here hx rfl (hb hby at_19) rfl  k_) ?_
  show own_Go p e below _ T0 (mkF m 21 #[oI i0, oI i1, oI i2, oI i3, oI (i3 &&& (7 : Int32)), oD y1, .second, oD x3, .second, .unset, .unset, .unset, .unset, .unset, .unset, .unset, .unset, .unset, .unset, .unset, .unset, .unset, .unset, .unset] [(.double x3)])
  refine own_by (fun t_ k_ => XS.iloadN X0.here hx rfl (hb hby at_21) rfl  k_) ?_
  show own_Go p e below _ T0 (mkF m 22 #[oI i0, oI i1, oI i2, oI i3, oI (i3 &&& (7 : Int32)), oD y1, .second, oD x3, .second, .unset, .unset, .unset, .unset, .unset, .unset, .unset, .unset, .unset, .unset, .unset, .unset, .unset, .unset, .unset] [(.int i1), (.double x3)])
  refine own_by (fun t_ k_ => XT.iconstV X0.here hx rfl (2 : Int32) (hb hby at_22) (by decide) k_) ?_
  show own_Go p e below _ T0 (mkF m 23 #[oI i0, oI i1, oI i2, oI i3, oI (i3 &&& (7 : Int32)), oD y1, .second, oD x3, .second, .unset, .unset, .unset, .unset, .unset, .unset, .unset, .unset, .unset, .unset, .unset, .unset, .unset, .unset, .unset] [(.int (2 : Int32)), (.int i1), (.double x3)])
  refine own_by (fun t_ k_ => XT.iushr X0.here hx rfl (hb hby at_23) rfl k_) ?_
  show own_Go p e below _ T0 (mkF m 24 #[oI i0, oI i1, oI i2, oI i3, oI (i3 &&& (7 : Int32)), oD y1, .second, oD x3, .second, .unset, .unset, .unset, .unset, .unset, .unset, .unset, .unset, .unset, .unset, .unset, .unset, .unset, .unset, .unset] [(.int ((i1.toUInt32 >>> ((2 : Int32) &&& 31).toUInt32).toInt32)), (.double x3)])
  refine own_by (fun t_ k_ => XT.iconstV X0.here hx rfl (3 : Int32) (hb hby at_24) (by decide) k_) ?_
  show own_Go p e below _ T0 (mkF m 25 #[oI i0, oI i1, oI i2, oI i3, oI (i3 &&& (7 : Int32)), oD y1, .second, oD x3, .second, .unset, .unset, .unset, .unset, .unset, .unset, .unset, .unset, .unset, .unset, .unset, .unset, .unset, .unset, .unset] [(.int (3 : Int32)), (.int ((i1.toUInt32 >>> ((2 : Int32) &&& 31).toUInt32).toInt32)), (.double x3)])
  refine own_by (fun t_ k_ => XS.iand X0.here hx rfl (hb hby at_25) rfl k_) ?_
  show own_Go p e below _ T0 (mkF m 26 #[oI i0, oI i1, oI i2, oI i3, oI (i3 &&& (7 : Int32)), oD y1, .second, oD x3, .second, .unset, .unset, .unset, .unset, .unset, .unset, .unset, .unset, .unset, .unset, .unset, .unset, .unset, .unset, .unset] [(.int (((i1.toUInt32 >>> ((2 : Int32) &&& 31).toUInt32).toInt32) &&& (3 : Int32))), (.double x3)])
  refine own_by (fun t_ k_ => XS.i2dS X0.here hx rfl (hb hby at_26) rfl rfl k_) ?_
  show own_Go p e below _ T0 (mkF m 27 #[oI i0, oI i1, oI i2, oI i3, oI (i3 &&& (7 : Int32)), oD y1, .second, oD x3, .second, .unset, .unset, .unset, .unset, .unset, .unset, .unset, .unset, .unset, .unset, .unset, .unset, .unset, .unset, .unset] [(.double (FP.i2d (((i1.toUInt32 >>> ((2 : Int32) &&& 31).toUInt32).toInt32) &&& (3 : Int32)))), (.double x3)])
  have Dy4 := own_D_i2d (((i1.toUInt32 >>> ((2 : Int32) &&& 31).toUInt32).toInt32) &&& (3 : Int32))
  have By4 := own_b3 ((i1.toUInt32 >>> ((2 : Int32) &&& 31).toUInt32).toInt32)
  generalize (((i1.toUInt32 >>> ((2 : Int32) &&& 31).toUInt32).toInt32) &&& (3 : Int32)).toInt = V4 at Dy4 By4
  generalize (FP.i2d (((i1.toUInt32 >>> ((2 : Int32) &&& 31).toUInt32).toInt32) &&& (3 : Int32))) = y4 at Dy4 ⊢
  show own_Go p e below _ T0 (mkF m 27 #[oI i0, oI i1, oI i2, oI i3, oI (i3 &&& (7 : Int32)), oD y1, .second, oD x3, .second, .unset, .unset, .unset, .unset, .unset, .unset, .unset, .unset, .unset, .unset, .unset, .unset, .unset, .unset, .unset] [(.double y4), (.double x3)])
  have D2 := own_D_add D1 Dy4 (by omega) (by decide) (by decide)
  refine own_by (fun t_ k_ => XS.daddS X0.here hx rfl (hb hby at_27) rfl (own_D_no D2) rfl k_) ?_
  show own_Go p e below _ T0 (mkF m 28 #[oI i0, oI i1, oI i2, oI i3, oI (i3 &&& (7 : Int32)), oD y1, .second, oD x3, .second, .unset, .unset, .unset, .unset, .unset, .unset, .unset, .unset, .unset, .unset, .unset, .unset, .unset, .unset, .unset] [(.double (FP.dadd x3 y4))])
  generalize (FP.dadd x3 y4) = x5 at D2 ⊢
  show own_Go p e below _ T0 (mkF m 28 #[oI i0, oI i1, oI i2, oI i3, oI (i3 &&& (7 : Int32)), oD y1, .second, oD x3, .second, .unset, .unset, .unset, .unset, .unset, .unset, .unset, .unset, .unset, .unset, .unset, .unset, .unset, .unset, .unset] [(.double x5)])
  refine own_by (fun t_ k_ => XS.dstore X0.here hx rfl (hb hby at_28) rfl (l' := #[oI i0, oI i1, oI i2, oI i3, oI (i3 &&& (7 : Int32)), oD y1, .second, oD x3, .second, oD x5, .second, .unset, .unset, .unset, .unset, .unset, .unset, .unset, .unset, .unset, .unset, .unset, .unset, .unset]) rfl k_) ?_
  show own_Go p e below _ T0 (mkF m 30 #[oI i0, oI i1, oI i2, oI i3, oI (i3 &&& (7 : Int32)), oD y1, .second, oD x3, .second, oD x5, .second, .unset, .unset, .unset, .unset, .unset, .unset, .unset, .unset, .unset, .unset, .unset, .unset, .unset] [])
  refine own_by (fun t_ k_ => XS.dload X0.here hx rfl (hb hby at_30) rfl  k_) ?_
  show own_Go p e below _ T0 (mkF m 32 #[oI i0, oI i1, oI i2, oI i3, oI (i3 &&& (7 : Int32)), oD y1, .second, oD x3, .second, oD x5, .second, .unset, .unset, .unset, .unset, .unset, .unset, .unset, .unset, .unset, .unset, .unset, .unset, .unset] [(.double x5)])
  refine own_by (fun t_ k_ => XS.iloadN X0.here hx rfl (hb hby at_32) rfl  k_) ?_
  show own_Go p e below _ T0 (mkF m 33 #[oI i0, oI i1, oI i2, oI i3, oI (i3 &&& (7 : Int32)), oD y1, .second, oD x3, .second, oD x5, .second, .unset, .unset, .unset, .unset, .unset, .unset, .unset, .unset, .unset, .unset, .unset, .unset, .unset] [(.int i1), (.double x5)])
  refine own_by (fun t_ k_ => XT.iconstV X0.here hx rfl (4 : Int32) (hb hby at_33) (by decide) k_) ?_
  show own_Go p e below _ T0 (mkF m 34 #[oI i0, oI i1, oI i2, oI i3, oI (i3 &&& (7 : Int32)), oD y1, .second, oD x3, .second, oD x5, .second, .unset, .unset, .unset, .unset, .unset, .unset, .unset, .unset, .unset, .unset, .unset, .unset, .unset] [(.int (4 : Int32)), (.int i1), (.double x5)])
  refine own_by (fun t_ k_ => XT.iushr X0.here hx rfl (hb hby at_34) rfl k_) ?_
  show own_Go p e below _ T0 (mkF m 35 #[oI i0, oI i1, oI i2, oI i3, oI (i3 &&& (7 : Int32)), oD y1, .second, oD x3, .second, oD x5, .second, .unset, .unset, .unset, .unset, .unset, .unset, .unset, .unset, .unset, .unset, .unset, .unset, .unset] [(.int ((i1.toUInt32 >>> ((4 : Int32) &&& 31).toUInt32).toInt32)), (.double x5)])
  refine own_by (fun t_ k_ => XT.iconstV X0.here hx rfl (3 : Int32) (hb hby at_35) (by decide) k_) ?_
  show own_Go p e below _ T0 (mkF m 36 #[oI i0, oI i1, oI i2, oI i3, oI (i3 &&& (7 : Int32)), oD y1, .second, oD x3, .second, oD x5, .second, .unset, .unset, .unset, .unset, .unset, .unset, .unset, .unset, .unset, .unset, .unset, .unset, .unset] [(.int (3 : Int32)), (.int ((i1.toUInt32 >>> ((4 : Int32) &&& 31).toUInt32).toInt32)), (.double x5)])
  refine own_by (fun t_ k_ => XS.iand X0.here hx rfl (hb hby at_36) rfl k_) ?_
  show own_Go p e below _ T0 (mkF m 37 #[oI i0, oI i1, oI i2, oI i3, oI (i3 &&& (7 : Int32)), oD y1, .second, oD x3, .second, oD x5, .second, .unset, .unset, .unset, .unset, .unset, .unset, .unset, .unset, .unset, .unset, .unset, .unset, .unset] [(.int (((i1.toUInt32 >>> ((4 : Int32) &&& 31).toUInt32).toInt32) &&& (3 : Int32))), (.double x5)])
  refine own_by (fun t_ k_ => XS.i2dS X0.here hx rfl (hb hby at_37) rfl rfl k_) ?_
  show own_Go p e below _ T0 (mkF m 38 #[oI i0, oI i1, oI i2, oI i3, oI (i3 &&& (7 : Int32)), oD y1, .second, oD x3, .second, oD x5, .second, .unset, .unset, .unset, .unset, .unset, .unset, .unset, .unset, .unset, .unset, .unset, .unset, .unset] [(.double (FP.i2d (((i1.toUInt32 >>> ((4 : Int32) &&& 31).toUInt32).toInt32) &&& (3 : Int32)))), (.double x5)])
  have Dy6 := own_D_i2d (((i1.toUInt32 >>> ((4 : Int32) &&& 31).toUInt32).toInt32) &&& (3 : Int32))
  have By6 := own_b3 ((i1.toUInt32 >>> ((4 : Int32) &&& 31).toUInt32).toInt32)
  generalize (((i1.toUInt32 >>> ((4 : Int32) &&& 31).toUInt32).toInt32) &&& (3 : Int32)).toInt = V6 at Dy6 By6
  generalize (FP.i2d (((i1.toUInt32 >>> ((4 : Int32) &&& 31).toUInt32).toInt32) &&& (3 : Int32))) = y6 at Dy6 ⊢
  show own_Go p e below _ T0 (mkF m 38 #[oI i0, oI i1, oI i2, oI i3, oI (i3 &&& (7 : Int32)), oD y1, .second, oD x3, .second, oD x5, .second, .unset, .unset, .unset, .unset, .unset, .unset, .unset, .unset, .unset, .unset, .unset, .unset, .unset] [(.double y6), (.double x5)])
  have D3 := own_D_add D2 Dy6 (by omega) (by decide) (by decide)
  refine own_by (fun t_ k_ => XS.daddS X0.here hx rfl (hb hby at_38) rfl (own_D_no D3) rfl k_) ?_
  show own_Go p e below _ T0 (mkF m 39 #[oI i0, oI i1, oI i2, oI i3, oI (i3 &&& (7 : Int32)), oD y1, .second, oD x3, .second, oD x5, .second, .unset, .unset, .unset, .unset, .unset, .unset, .unset, .unset, .unset, .unset, .unset, .unset, .unset] [(.double (FP.dadd x5 y6))])
  generalize (FP.dadd x5 y6) = x7 at D3 ⊢
  show own_Go p e below _ T0 (mkF m 39 #[oI i0, oI i1, oI i2, oI i3, oI (i3 &&& (7 : Int32)), oD y1, .second, oD x3, .second, oD x5, .second, .unset, .unset, .unset, .unset, .unset, .unset, .unset, .unset, .unset, .unset, .unset, .unset, .unset] [(.double x7)])
  refine own_by (fun t_ k_ => XS.dstore X0.here hx rfl (hb hby at_39) rfl (l' := #[oI i0, oI i1, oI i2, oI i3, oI (i3 &&& (7 : Int32)), oD y1, .second, oD x3, .second, oD x5, .second, oD x7, .second, .unset, .unset, .unset, .unset, .unset, .unset, .unset, .unset, .unset, .unset, .unset]) rfl k_) ?_
  show own_Go p e below _ T0 (mkF m 41 #[oI i0, oI i1, oI i2, oI i3, oI (i3 &&& (7 : Int32)), oD y1, .second, oD x3, .second, oD x5, .second, oD x7, .second, .unset, .unset, .unset, .unset, .unset, .unset, .unset, .unset, .unset, .unset, .unset] [])
  refine own_by (fun t_ k_ => XS.dload X0.here hx rfl (hb hby at_41) rfl  k_) ?_
  show own_Go p e below _ T0 (mkF m 43 #[oI i0, oI i1, oI i2, oI i3, oI (i3 &&& (7 : Int32)), oD y1, .second, oD x3, .second, oD x5, .second, oD x7, .second, .unset, .unset, .unset, .unset, .unset, .unset, .unset, .unset, .unset, .unset, .unset] [(.double x7)])
  refine own_by (fun t_ k_ => XS.iloadN X0.here hx rfl (hb hby at_43) rfl  k_) ?_
  show own_Go p e below _ T0 (mkF m 44 #[oI i0, oI i1, oI i2, oI i3, oI (i3 &&& (7 : Int32)), oD y1, .second, oD x3, .second, oD x5, .second, oD x7, .second, .unset, .unset, .unset, .unset, .unset, .unset, .unset, .unset, .unset, .unset, .unset] [(.int i1), (.double x7)])
  refine own_by (fun t_ k_ => XT.bipushV X0.here hx rfl (6 : Int32) (hb hby at_44) (by decide) k_) ?_
  show own_Go p e below _ T0 (mkF m 46 #[oI i0, oI i1, oI i2, oI i3, oI (i3 &&& (7 : Int32)), oD y1, .second, oD x3, .second, oD x5, .second, oD x7, .second, .unset, .unset, .unset, .unset, .unset, .unset, .unset, .unset, .unset, .unset, .unset] [(.int (6 : Int32)), (.int i1), (.double x7)])
  refine own_by (fun t_ k_ => XT.iushr X0.here hx rfl (hb hby at_46) rfl k_) ?_
  show own_Go p e below _ T0 (mkF m 47 #[oI i0, oI i1, oI i2, oI i3, oI (i3 &&& (7 : Int32)), oD y1, .second, oD x3, .second, oD x5, .second, oD x7, .second, .unset, .unset, .unset, .unset, .unset, .unset, .unset, .unset, .unset, .unset, .unset] [(.int ((i1.toUInt32 >>> ((6 : Int32) &&& 31).toUInt32).toInt32)), (.double x7)])
  refine own_by (fun t_ k_ => XT.iconstV X0.here hx rfl (3 : Int32) (hb hby at_47) (by decide) k_) ?_
  show own_Go p e below _ T0 (mkF m 48 #[oI i0, oI i1, oI i2, oI i3, oI (i3 &&& (7 : Int32)), oD y1, .second, oD x3, .second, oD x5, .second, oD x7, .second, .unset, .unset, .unset, .unset, .unset, .unset, .unset, .unset, .unset, .unset, .unset] [(.int (3 : Int32)), (.int ((i1.toUInt32 >>> ((6 : Int32) &&& 31).toUInt32).toInt32)), (.double x7)])
  refine own_by (fun t_ k_ => XS.iand X0.here hx rfl (hb hby at_48) rfl k_) ?_
  show own_Go p e below _ T0 (mkF m 49 #[oI i0, oI i1, oI i2, oI i3, oI (i3 &&& (7 : Int32)), oD y1, .second, oD x3, .second, oD x5, .second, oD x7, .second, .unset, .unset, .unset, .unset, .unset, .unset, .unset, .unset, .unset, .unset, .unset] [(.int (((i1.toUInt32 >>> ((6 : Int32) &&& 31).toUInt32).toInt32) &&& (3 : Int32))), (.double x7)])
  refine own_by (fun t_ k_ => XS.i2dS X0.here hx rfl (hb hby at_49) rfl rfl k_) ?_
  show own_Go p e below _ T0 (mkF m 50 #[oI i0, oI i1, oI i2, oI i3, oI (i3 &&& (7 : Int32)), oD y1, .second, oD x3, .second, oD x5, .second, oD x7, .second, .unset, .unset, .unset, .unset, .unset, .unset, .unset, .unset, .unset, .unset, .unset] [(.double (FP.i2d (((i1.toUInt32 >>> ((6 : Int32) &&& 31).toUInt32).toInt32) &&& (3 : Int32)))), (.double x7)])
  have Dy8 := own_D_i2d (((i1.toUInt32 >>> ((6 : Int32) &&& 31).toUInt32).toInt32) &&& (3 : Int32))
  have By8 := own_b3 ((i1.toUInt32 >>> ((6 : Int32) &&& 31).toUInt32).toInt32)
  generalize (((i1.toUInt32 >>> ((6 : Int32) &&& 31).toUInt32).toInt32) &&& (3 : Int32)).toInt = V8 at Dy8 By8
  generalize (FP.i2d (((i1.toUInt32 >>> ((6 : Int32) &&& 31).toUInt32).toInt32) &&& (3 : Int32))) = y8 at Dy8 ⊢
  show own_Go p e below _ T0 (mkF m 50 #[oI i0, oI i1, oI i2, oI i3, oI (i3 &&& (7 : Int32)), oD y1, .second, oD x3, .second, oD x5, .second, oD x7, .second, .unset, .unset, .unset, .unset, .unset, .unset, .unset, .unset, .unset, .unset, .unset] [(.double y8), (.double x7)])
  have D4 := own_D_add D3 Dy8 (by omega) (by decide) (by decide)
  refine own_by (fun t_ k_ => XS.daddS X0.here hx rfl (hb hby at_50) rfl (own_D_no D4) rfl k_) ?_
  show own_Go p e below _ T0 (mkF m 51 #[oI i0, oI i1, oI i2, oI i3, oI (i3 &&& (7 : Int32)), oD y1, .second, oD x3, .second, oD x5, .second, oD x7, .second, .unset, .unset, .unset, .unset, .unset, .unset, .unset, .unset, .unset, .unset, .unset] [(.double (FP.dadd x7 y8))])
  generalize (FP.dadd x7 y8) = x9 at D4 ⊢
  show own_Go p e below _ T0 (mkF m 51 #[oI i0, oI i1, oI i2, oI i3, oI (i3 &&& (7 : Int32)), oD y1, .second, oD x3, .second, oD x5, .second, oD x7, .second, .unset, .unset, .unset, .unset, .unset, .unset, .unset, .unset, .unset, .unset, .unset] [(.double x9)])
  refine own_by (fun t_ k_ => XS.dstore X0.here hx rfl (hb hby at_51) rfl (l' := #[oI i0, oI i1, oI i2, oI i3, oI (i3 &&& (7 : Int32)), oD y1, .second, oD x3, .second, oD x5, .second, oD x7, .second, oD x9, .second, .unset, .unset, .unset, .unset, .unset, .unset, .unset, .unset, .unset]) rfl k_) ?_
  show own_Go p e below _ T0 (mkF m 53 #[oI i0, oI i1, oI i2, oI i3, oI (i3 &&& (7 : Int32)), oD y1, .second, oD x3, .second, oD x5, .second, oD x7, .second, oD x9, .second, .unset, .unset, .unset, .unset, .unset, .unset, .unset, .unset, .unset] [])
  refine own_by (fun t_ k_ => XS.dload X0.here hx rfl (hb hby at_53) rfl  k_) ?_
  show own_Go p e below _ T0 (mkF m 55 #[oI i0, oI i1, oI i2, oI i3, oI (i3 &&& (7 : Int32)), oD y1, .second, oD x3, .second, oD x5, .second, oD x7, .second, oD x9, .second, .unset, .unset, .unset, .unset, .unset, .unset, .unset, .unset, .unset] [(.double x9)])
  refine own_by (fun t_ k_ => XS.iloadN X0.here hx rfl (hb hby at_55) rfl  k_) ?_
  show own_Go p e below _ T0 (mkF m 56 #[oI i0, oI i1, oI i2, oI i3, oI (i3 &&& (7 : Int32)), oD y1, .second, oD x3, .second, oD x5, .second, oD x7, .second, oD x9, .second, .unset, .unset, .unset, .unset, .unset, .unset, .unset, .unset, .unset] [(.int i1), (.double x9)])
  refine own_by (fun t_ k_ => XT.bipushV X0.here hx rfl (8 : Int32) (hb hby at_56) (by decide) k_) ?_
  show own_Go p e below _ T0 (mkF m 58 #[oI i0, oI i1, oI i2, oI i3, oI (i3 &&& (7 : Int32)), oD y1, .second, oD x3, .second, oD x5, .second, oD x7, .second, oD x9, .second, .unset, .unset, .unset, .unset, .unset, .unset, .unset, .unset, .unset] [(.int (8 : Int32)), (.int i1), (.double x9)])
  refine own_by (fun t_ k_ => XT.iushr X0.here hx rfl (hb hby at_58) rfl k_) ?_
  show own_Go p e below _ T0 (mkF m 59 #[oI i0, oI i1, oI i2, oI i3, oI (i3 &&& (7 : Int32)), oD y1, .second, oD x3, .second, oD x5, .second, oD x7, .second, oD x9, .second, .unset, .unset, .unset, .unset, .unset, .unset, .unset, .unset, .unset] [(.int ((i1.toUInt32 >>> ((8 : Int32) &&& 31).toUInt32).toInt32)), (.double x9)])
  refine own_by (fun t_ k_ => XT.iconstV X0.here hx rfl (3 : Int32) (hb hby at_59) (by decide) k_) ?_
  show own_Go p e below _ T0 (mkF m 60 #[oI i0, oI i1, oI i2, oI i3, oI (i3 &&& (7 : Int32)), oD y1, .second, oD x3, .second, oD x5, .second, oD x7, .second, oD x9, .second, .unset, .unset, .unset, .unset, .unset, .unset, .unset, .unset, .unset] [(.int (3 : Int32)), (.int ((i1.toUInt32 >>> ((8 : Int32) &&& 31).toUInt32).toInt32)), (.double x9)])
  refine own_by (fun t_ k_ => XS.iand X0.here hx rfl (hb hby at_60) rfl k_) ?_
  show own_Go p e below _ T0 (mkF m 61 #[oI i0, oI i1, oI i2, oI i3, oI (i3 &&& (7 : Int32)), oD y1, .second, oD x3, .second, oD x5, .second, oD x7, .second, oD x9, .second, .unset, .unset, .unset, .unset, .unset, .unset, .unset, .unset, .unset] [(.int (((i1.toUInt32 >>> ((8 : Int32) &&& 31).toUInt32).toInt32) &&& (3 : Int32))), (.double x9)])
  refine own_by (fun t_ k_ => XS.i2dS X0.here hx rfl (hb hby at_61) rfl rfl k_) ?_
  show own_Go p e below _ T0 (mkF m 62 #[oI i0, oI i1, oI i2, oI i3, oI (i3 &&& (7 : Int32)), oD y1, .second, oD x3, .second, oD x5, .second, oD x7, .second, oD x9, .second, .unset, .unset, .unset, .unset, .unset, .unset, .unset, .unset, .unset] [(.double (FP.i2d (((i1.toUInt32 >>> ((8 : Int32) &&& 31).toUInt32).toInt32) &&& (3 : Int32)))), (.double x9)])
  have Dy10 := own_D_i2d (((i1.toUInt32 >>> ((8 : Int32) &&& 31).toUInt32).toInt32) &&& (3 : Int32))
  have By10 := own_b3 ((i1.toUInt32 >>> ((8 : Int32) &&& 31).toUInt32).toInt32)
  generalize (((i1.toUInt32 >>> ((8 : Int32) &&& 31).toUInt32).toInt32) &&& (3 : Int32)).toInt = V10 at Dy10 By10
  generalize (FP.i2d (((i1.toUInt32 >>> ((8 : Int32) &&& 31).toUInt32).toInt32) &&& (3 : Int32))) = y10 at Dy10 ⊢
  show own_Go p e below _ T0 (mkF m 62 #[oI i0, oI i1, oI i2, oI i3, oI (i3 &&& (7 : Int32)), oD y1, .second, oD x3, .second, oD x5, .second, oD x7, .second, oD x9, .second, .unset, .unset, .unset, .unset, .unset, .unset, .unset, .unset, .unset] [(.double y10), (.double x9)])
  have D5 := own_D_add D4 Dy10 (by omega) (by decide) (by decide)
  refine own_by (fun t_ k_ => XS.daddS X0.here hx rfl (hb hby at_62) rfl (own_D_no D5) rfl k_) ?_
  show own_Go p e below _ T0 (mkF m 63 #[oI i0, oI i1, oI i2, oI i3, oI (i3 &&& (7 : Int32)), oD y1, .second, oD x3, .second, oD x5, .second, oD x7, .second, oD x9, .second, .unset, .unset, .unset, .unset, .unset, .unset, .unset, .unset, .unset] [(.double (FP.dadd x9 y10))])
  generalize (FP.dadd x9 y10) = x11 at D5 ⊢
  show own_Go p e below _ T0 (mkF m 63 #[oI i0, oI i1, oI i2, oI i3, oI (i3 &&& (7 : Int32)), oD y1, .second, oD x3, .second, oD x5, .second, oD x7, .second, oD x9, .second, .unset, .unset, .unset, .unset, .unset, .unset, .unset, .unset, .unset] [(.double x11)])
  refine own_by (fun t_ k_ => XS.dstore X0.here hx rfl (hb hby at_63) rfl (l' := #[oI i0, oI i1, oI i2, oI i3, oI (i3 &&& (7 : Int32)), oD y1, .second, oD x3, .second, oD x5, .second, oD x7, .second, oD x9, .second, oD x11, .second, .unset, .unset, .unset, .unset, .unset, .unset, .unset]) rfl k_) ?_
  show own_Go p e below _ T0 (mkF m 65 #[oI i0, oI i1, oI i2, oI i3, oI (i3 &&& (7 : Int32)), oD y1, .second, oD x3, .second, oD x5, .second, oD x7, .second, oD x9, .second, oD x11, .second, .unset, .unset, .unset, .unset, .unset, .unset, .unset] [])
  refine own_by (fun t_ k_ => XS.dload X0.here hx rfl (hb hby at_65) rfl  k_) ?_
  show own_Go p e below _ T0 (mkF m 67 #[oI i0, oI i1, oI i2, oI i3, oI (i3 &&& (7 : Int32)), oD y1, .second, oD x3, .second, oD x5, .second, oD x7, .second, oD x9, .second, oD x11, .second, .unset, .unset, .unset, .unset, .unset, .unset, .unset] [(.double x11)])
  refine own_by (fun t_ k_ => XS.iloadN X0.here hx rfl (hb hby at_67) rfl  k_) ?_
  show own_Go p e below _ T0 (mkF m 68 #[oI i0, oI i1, oI i2, oI i3, oI (i3 &&& (7 : Int32)), oD y1, .second, oD x3, .second, oD x5, .second, oD x7, .second, oD x9, .second, oD x11, .second, .unset, .unset, .unset, .unset, .unset, .unset, .unset] [(.int i1), (.double x11)])
  refine own_by (fun t_ k_ => XT.bipushV X0.here hx rfl (10 : Int32) (hb hby at_68) (by decide) k_) ?_
  show own_Go p e below _ T0 (mkF m 70 #[oI i0, oI i1, oI i2, oI i3, oI (i3 &&& (7 : Int32)), oD y1, .second, oD x3, .second, oD x5, .second, oD x7, .second, oD x9, .second, oD x11, .second, .unset, .unset, .unset, .unset, .unset, .unset, .unset] [(.int (10 : Int32)), (.int i1), (.double x11)])
  refine own_by (fun t_ k_ => XT.iushr X0.here hx rfl (hb hby at_70) rfl k_) ?_
  show own_Go p e below _ T0 (mkF m 71 #[oI i0, oI i1, oI i2, oI i3, oI (i3 &&& (7 : Int32)), oD y1, .second, oD x3, .second, oD x5, .second, oD x7, .second, oD x9, .second, oD x11, .second, .unset, .unset, .unset, .unset, .unset, .unset, .unset] [(.int ((i1.toUInt32 >>> ((10 : Int32) &&& 31).toUInt32).toInt32)), (.double x11)])
  refine own_by (fun t_ k_ => XT.iconstV X0.here hx rfl (3 : Int32) (hb hby at_71) (by decide) k_) ?_
  show own_Go p e below _ T0 (mkF m 72 #[oI i0, oI i1, oI i2, oI i3, oI (i3 &&& (7 : Int32)), oD y1, .second, oD x3, .second, oD x5, .second, oD x7, .second, oD x9, .second, oD x11, .second, .unset, .unset, .unset, .unset, .unset, .unset, .unset] [(.int (3 : Int32)), (.int ((i1.toUInt32 >>> ((10 : Int32) &&& 31).toUInt32).toInt32)), (.double x11)])
  refine own_by (fun t_ k_ => XS.iand X0.here hx rfl (hb hby at_72) rfl k_) ?_
  show own_Go p e below _ T0 (mkF m 73 #[oI i0, oI i1, oI i2, oI i3, oI (i3 &&& (7 : Int32)), oD y1, .second, oD x3, .second, oD x5, .second, oD x7, .second, oD x9, .second, oD x11, .second, .unset, .unset, .unset, .unset, .unset, .unset, .unset] [(.int (((i1.toUInt32 >>> ((10 : Int32) &&& 31).toUInt32).toInt32) &&& (3 : Int32))), (.double x11)])
  refine own_by (fun t_ k_ => XS.i2dS X0.here hx rfl (hb hby at_73) rfl rfl k_) ?_
  show own_Go p e below _ T0 (mkF m 74 #[oI i0, oI i1, oI i2, oI i3, oI (i3 &&& (7 : Int32)), oD y1, .second, oD x3, .second, oD x5, .second, oD x7, .second, oD x9, .second, oD x11, .second, .unset, .unset, .unset, .unset, .unset, .unset, .unset] [(.double (FP.i2d (((i1.toUInt32 >>> ((10 : Int32) &&& 31).toUInt32).toInt32) &&& (3 : Int32)))), (.double x11)])
  have Dy12 := own_D_i2d (((i1.toUInt32 >>> ((10 : Int32) &&& 31).toUInt32).toInt32) &&& (3 : Int32))
  have By12 := own_b3 ((i1.toUInt32 >>> ((10 : Int32) &&& 31).toUInt32).toInt32)
  generalize (((i1.toUInt32 >>> ((10 : Int32) &&& 31).toUInt32).toInt32) &&& (3 : Int32)).toInt = V12 at Dy12 By12
  generalize (FP.i2d (((i1.toUInt32 >>> ((10 : Int32) &&& 31).toUInt32).toInt32) &&& (3 : Int32))) = y12 at Dy12 ⊢
  show own_Go p e below _ T0 (mkF m 74 #[oI i0, oI i1, oI i2, oI i3, oI (i3 &&& (7 : Int32)), oD y1, .second, oD x3, .second, oD x5, .second, oD x7, .second, oD x9, .second, oD x11, .second, .unset, .unset, .unset, .unset, .unset, .unset, .unset] [(.double y12), (.double x11)])
  have D6 := own_D_add D5 Dy12 (by omega) (by decide) (by decide)
  refine own_by (fun t_ k_ => XS.daddS X0.here hx rfl (hb hby at_74) rfl (own_D_no D6) rfl k_) ?_
  show own_Go p e below _ T0 (mkF m 75 #[oI i0, oI i1, oI i2, oI i3, oI (i3 &&& (7 : Int32)), oD y1, .second, oD x3, .second, oD x5, .second, oD x7, .second, oD x9, .second, oD x11, .second, .unset, .unset, .unset, .unset, .unset, .unset, .unset] [(.double (FP.dadd x11 y12))])
  generalize (FP.dadd x11 y12) = x13 at D6 ⊢
  show own_Go p e below _ T0 (mkF m 75 #[oI i0, oI i1, oI i2, oI i3, oI (i3 &&& (7 : Int32)), oD y1, .second, oD x3, .second, oD x5, .second, oD x7, .second, oD x9, .second, oD x11, .second, .unset, .unset, .unset, .unset, .unset, .unset, .unset] [(.double x13)])
  refine own_by (fun t_ k_ => XS.dstore X0.here hx rfl (hb hby at_75) rfl (l' := #[oI i0, oI i1, oI i2, oI i3, oI (i3 &&& (7 : Int32)), oD y1, .second, oD x3, .second, oD x5, .second, oD x7, .second, oD x9, .second, oD x11, .second, oD x13, .second, .unset, .unset, .unset, .unset, .unset]) rfl k_) ?_
  show own_Go p e below _ T0 (mkF m 77 #[oI i0, oI i1, oI i2, oI i3, oI (i3 &&& (7 : Int32)), oD y1, .second, oD x3, .second, oD x5, .second, oD x7, .second, oD x9, .second, oD x11, .second, oD x13, .second, .unset, .unset, .unset, .unset, .unset] [])
  refine own_by (fun t_ k_ => XS.dload X0.here hx rfl (hb hby at_77) rfl  k_) ?_
  show own_Go p e below _ T0 (mkF m 79 #[oI i0, oI i1, oI i2, oI i3, oI (i3 &&& (7 : Int32)), oD y1, .second, oD x3, .second, oD x5, .second, oD x7, .second, oD x9, .second, oD x11, .second, oD x13, .second, .unset, .unset, .unset, .unset, .unset] [(.double y1)])
  refine own_by (fun t_ k_ => XS.iloadN X0.here hx rfl (hb hby at_79) rfl  k_) ?_
  show own_Go p e below _ T0 (mkF m 80 #[oI i0, oI i1, oI i2, oI i3, oI (i3 &&& (7 : Int32)), oD y1, .second, oD x3, .second, oD x5, .second, oD x7, .second, oD x9, .second, oD x11, .second, oD x13, .second, .unset, .unset, .unset, .unset, .unset] [(.int i2), (.double y1)])
  refine own_by (fun t_ k_ => XT.bipushV X0.here hx rfl (63 : Int32) (hb hby at_80) (by decide) k_) ?_
  show own_Go p e below _ T0 (mkF m 82 #[oI i0, oI i1, oI i2, oI i3, oI (i3 &&& (7 : Int32)), oD y1, .second, oD x3, .second, oD x5, .second, oD x7, .second, oD x9, .second, oD x11, .second, oD x13, .second, .unset, .unset, .unset, .unset, .unset] [(.int (63 : Int32)), (.int i2), (.double y1)])
  refine own_by (fun t_ k_ => XS.iand X0.here hx rfl (hb hby at_82) rfl k_) ?_
  show own_Go p e below _ T0 (mkF m 83 #[oI i0, oI i1, oI i2, oI i3, oI (i3 &&& (7 : Int32)), oD y1, .second, oD x3, .second, oD x5, .second, oD x7, .second, oD x9, .second, oD x11, .second, oD x13, .second, .unset, .unset, .unset, .unset, .unset] [(.int (i2 &&& (63 : Int32))), (.double y1)])
  refine own_by (fun t_ k_ => XT.bipushV X0.here hx rfl (16 : Int32) (hb hby at_83) (by decide) k_) ?_
  show own_Go p e below _ T0 (mkF m 85 #[oI i0, oI i1, oI i2, oI i3, oI (i3 &&& (7 : Int32)), oD y1, .second, oD x3, .second, oD x5, .second, oD x7, .second, oD x9, .second, oD x11, .second, oD x13, .second, .unset, .unset, .unset, .unset, .unset] [(.int (16 : Int32)), (.int (i2 &&& (63 : Int32))), (.double y1)])
  refine own_by (fun t_ k_ => XS.isub X0.here hx rfl (hb hby at_85) rfl k_) ?_
  show own_Go p e below _ T0 (mkF m 86 #[oI i0, oI i1, oI i2, oI i3, oI (i3 &&& (7 : Int32)), oD y1, .second, oD x3, .second, oD x5, .second, oD x7, .second, oD x9, .second, oD x11, .second, oD x13, .second, .unset, .unset, .unset, .unset, .unset] [(.int ((i2 &&& (63 : Int32)) - (16 : Int32))), (.double y1)])
  refine own_by (fun t_ k_ => XS.i2dS X0.here hx rfl (hb hby at_86) rfl rfl k_) ?_
  show own_Go p e below _ T0 (mkF m 87 #[oI i0, oI i1, oI i2, oI i3, oI (i3 &&& (7 : Int32)), oD y1, .second, oD x3, .second, oD x5, .second, oD x7, .second, oD x9, .second, oD x11, .second, oD x13, .second, .unset, .unset, .unset, .unset, .unset] [(.double (FP.i2d ((i2 &&& (63 : Int32)) - (16 : Int32)))), (.double y1)])
  have Dy14 := own_D_i2d ((i2 &&& (63 : Int32)) - (16 : Int32))
  have By14 := own_b63 i2
  generalize ((i2 &&& (63 : Int32)) - (16 : Int32)).toInt = V14 at Dy14 By14
  generalize (FP.i2d ((i2 &&& (63 : Int32)) - (16 : Int32))) = y14 at Dy14 ⊢
  show own_Go p e below _ T0 (mkF m 87 #[oI i0, oI i1, oI i2, oI i3, oI (i3 &&& (7 : Int32)), oD y1, .second, oD x3, .second, oD x5, .second, oD x7, .second, oD x9, .second, oD x11, .second, oD x13, .second, .unset, .unset, .unset, .unset, .unset] [(.double y14), (.double y1)])
  refine own_by (fun t_ k_ => X0.ldc2DoubleC hx hown (mvT hZ (hw _ (List.mem_of_getElem? (i := 0) rfl))) (g := (mkF m 87 #[oI i0, oI i1, oI i2, oI i3, oI (i3 &&& (7 : Int32)), oD y1, .second, oD x3, .second, oD x5, .second, oD x7, .second, oD x9, .second, oD x11, .second, oD x13, .second, .unset, .unset, .unset, .unset, .unset] [(.double y14), (.double y1)])) rfl (hb hby at_87) t_ k_) ?_
  show own_Go p e below _ T0 (mkF m 90 #[oI i0, oI i1, oI i2, oI i3, oI (i3 &&& (7 : Int32)), oD y1, .second, oD x3, .second, oD x5, .second, oD x7, .second, oD x9, .second, oD x11, .second, oD x13, .second, .unset, .unset, .unset, .unset, .unset] [(.double (4611686018427387904 : UInt64)), (.double y14), (.double y1)])
  have D7 := own_D_div (k := 1) (l := 0) (i := 2) (j := V14) (show own_D 1 (V14 * 2) _ from own_D_up Dy14 1) own_two (by decide) (by omega) (by decide) (by decide)
  refine own_by (fun t_ k_ => XS.ddivS X0.here hx rfl (hb hby at_90) rfl (own_D_no D7) rfl k_) ?_
  show own_Go p e below _ T0 (mkF m 91 #[oI i0, oI i1, oI i2, oI i3, oI (i3 &&& (7 : Int32)), oD y1, .second, oD x3, .second, oD x5, .second, oD x7, .second, oD x9, .second, oD x11, .second, oD x13, .second, .unset, .unset, .unset, .unset, .unset] [(.double (FP.ddiv y14 (4611686018427387904 : UInt64))), (.double y1)])
  generalize (FP.ddiv y14 (4611686018427387904 : UInt64)) = x15 at D7 ⊢
  show own_Go p e below _ T0 (mkF m 91 #[oI i0, oI i1, oI i2, oI i3, oI (i3 &&& (7 : Int32)), oD y1, .second, oD x3, .second, oD x5, .second, oD x7, .second, oD x9, .second, oD x11, .second, oD x13, .second, .unset, .unset, .unset, .unset, .unset] [(.double x15), (.double y1)])
  have D8 := own_D_add (own_D_up Dy1 1) D7 (by simp only [show ((2 ^ 1 : Nat) : Int) = 2 from rfl]; omega) (by decide) (by decide)
  refine own_by (fun t_ k_ => XS.daddS X0.here hx rfl (hb hby at_91) rfl (own_D_no D8) rfl k_) ?_
  show own_Go p e below _ T0 (mkF m 92 #[oI i0, oI i1, oI i2, oI i3, oI (i3 &&& (7 : Int32)), oD y1, .second, oD x3, .second, oD x5, .second, oD x7, .second, oD x9, .second, oD x11, .second, oD x13, .second, .unset, .unset, .unset, .unset, .unset] [(.double (FP.dadd y1 x15))])
  generalize (FP.dadd y1 x15) = x16 at D8 ⊢
  show own_Go p e below _ T0 (mkF m 92 #[oI i0, oI i1, oI i2, oI i3, oI (i3 &&& (7 : Int32)), oD y1, .second, oD x3, .second, oD x5, .second, oD x7, .second, oD x9, .second, oD x11, .second, oD x13, .second, .unset, .unset, .unset, .unset, .unset] [(.double x16)])
  refine own_by (fun t_ k_ => XS.dstore X0.here hx rfl (hb hby at_92) rfl (l' := #[oI i0, oI i1, oI i2, oI i3, oI (i3 &&& (7 : Int32)), oD y1, .second, oD x3, .second, oD x5, .second, oD x7, .second, oD x9, .second, oD x11, .second, oD x13, .second, oD x16, .second, .unset, .unset, .unset]) rfl k_) ?_
  show own_Go p e below _ T0 (mkF m 94 #[oI i0, oI i1, oI i2, oI i3, oI (i3 &&& (7 : Int32)), oD y1, .second, oD x3, .second, oD x5, .second, oD x7, .second, oD x9, .second, oD x11, .second, oD x13, .second, oD x16, .second, .unset, .unset, .unset] [])
  rcases own_n i3 with hk | hk | hk | hk | hk | hk | hk | hk
  · rw [hk]
    show own_Go p e below _ T0 (mkF m 94 #[oI i0, oI i1, oI i2, oI i3, oI (0 : Int32), oD y1, .second, oD x3, .second, oD x5, .second, oD x7, .second, oD x9, .second, oD x11, .second, oD x13, .second, oD x16, .second, .unset, .unset, .unset] [])
    refine own_by (fun t_ k_ => XS.iload X0.here hx rfl (hb hby at_94) rfl  k_) ?_
    show own_Go p e below _ T0 (mkF m 96 #[oI i0, oI i1, oI i2, oI i3, oI (0 : Int32), oD y1, .second, oD x3, .second, oD x5, .second, oD x7, .second, oD x9, .second, oD x11, .second, oD x13, .second, oD x16, .second, .unset, .unset, .unset] [(.int (0 : Int32))])
    refine own_newP X0 hx hZ (aty := .double) (hw _ (List.mem_of_getElem? (i := 1) rfl)) e0 (hb hby at_96) 0 0 (by decide) (by decide) (by decide) (by decide) (by decide) (by decide) ?_
    intro T9 hT9 kA XT9 eT9 ET9 YT9
    have VT9 : own_A Z hT9 h0.size .double kA [] := YT9
    have NT9 := Fr.nil h0.size
    clear YT9
    show own_Go p e below _ T9 (mkF m 98 #[oI i0, oI i1, oI i2, oI i3, oI (0 : Int32), oD y1, .second, oD x3, .second, oD x5, .second, oD x7, .second, oD x9, .second, oD x11, .second, oD x13, .second, oD x16, .second, .unset, .unset, .unset] [(.ref h0.size)])
    refine own_by (fun t_ k_ => XS.astore XT9.here hx rfl (hb hby at_98) rfl rfl (l' := #[oI i0, oI i1, oI i2, oI i3, oI (0 : Int32), oD y1, .second, oD x3, .second, oD x5, .second, oD x7, .second, oD x9, .second, oD x11, .second, oD x13, .second, oD x16, .second, oR h0.size, .unset, .unset]) rfl k_) ?_
    show own_Go p e below _ T9 (mkF m 100 #[oI i0, oI i1, oI i2, oI i3, oI (0 : Int32), oD y1, .second, oD x3, .second, oD x5, .second, oD x7, .second, oD x9, .second, oD x11, .second, oD x13, .second, oD x16, .second, oR h0.size, .unset, .unset] [])
    refine own_by (fun t_ k_ => XS.iload XT9.here hx rfl (hb hby at_100) rfl  k_) ?_
    show own_Go p e below _ T9 (mkF m 102 #[oI i0, oI i1, oI i2, oI i3, oI (0 : Int32), oD y1, .second, oD x3, .second, oD x5, .second, oD x7, .second, oD x9, .second, oD x11, .second, oD x13, .second, oD x16, .second, oR h0.size, .unset, .unset] [(.int (0 : Int32))])
    refine own_by (fun t_ k_ => XS.ifYes XT9.here hx rfl (pc0 := 102) (pc' := 111) rfl (hb hby at_102) rfl (XT.i0_le_t (by decide)) (by decide) (by decide) k_) ?_
    show own_Go p e below _ T9 (mkF m 111 #[oI i0, oI i1, oI i2, oI i3, oI (0 : Int32), oD y1, .second, oD x3, .second, oD x5, .second, oD x7, .second, oD x9, .second, oD x11, .second, oD x13, .second, oD x16, .second, oR h0.size, .unset, .unset] [])
    refine own_by (fun t_ k_ => XS.iload XT9.here hx rfl (hb hby at_111) rfl  k_) ?_
    show own_Go p e below _ T9 (mkF m 113 #[oI i0, oI i1, oI i2, oI i3, oI (0 : Int32), oD y1, .second, oD x3, .second, oD x5, .second, oD x7, .second, oD x9, .second, oD x11, .second, oD x13, .second, oD x16, .second, oR h0.size, .unset, .unset] [(.int (0 : Int32))])
    refine own_by (fun t_ k_ => XT.iconstV XT9.here hx rfl (1 : Int32) (hb hby at_113) (by decide) k_) ?_
    show own_Go p e below _ T9 (mkF m 114 #[oI i0, oI i1, oI i2, oI i3, oI (0 : Int32), oD y1, .second, oD x3, .second, oD x5, .second, oD x7, .second, oD x9, .second, oD x11, .second, oD x13, .second, oD x16, .second, oR h0.size, .unset, .unset] [(.int (1 : Int32)), (.int (0 : Int32))])
    refine own_by (fun t_ k_ => XS.icmpYes XT9.here hx rfl (pc0 := 114) (pc' := 123) rfl (hb hby at_114) rfl (XT.ii_le_t (by decide)) (by decide) (by decide) k_) ?_
    show own_Go p e below _ T9 (mkF m 123 #[oI i0, oI i1, oI i2, oI i3, oI (0 : Int32), oD y1, .second, oD x3, .second, oD x5, .second, oD x7, .second, oD x9, .second, oD x11, .second, oD x13, .second, oD x16, .second, oR h0.size, .unset, .unset] [])
    refine own_by (fun t_ k_ => XS.iload XT9.here hx rfl (hb hby at_123) rfl  k_) ?_
    show own_Go p e below _ T9 (mkF m 125 #[oI i0, oI i1, oI i2, oI i3, oI (0 : Int32), oD y1, .second, oD x3, .second, oD x5, .second, oD x7, .second, oD x9, .second, oD x11, .second, oD x13, .second, oD x16, .second, oR h0.size, .unset, .unset] [(.int (0 : Int32))])
    refine own_by (fun t_ k_ => XT.iconstV XT9.here hx rfl (2 : Int32) (hb hby at_125) (by decide) k_) ?_
    show own_Go p e below _ T9 (mkF m 126 #[oI i0, oI i1, oI i2, oI i3, oI (0 : Int32), oD y1, .second, oD x3, .second, oD x5, .second, oD x7, .second, oD x9, .second, oD x11, .second, oD x13, .second, oD x16, .second, oR h0.size, .unset, .unset] [(.int (2 : Int32)), (.int (0 : Int32))])
    refine own_by (fun t_ k_ => XS.icmpYes XT9.here hx rfl (pc0 := 126) (pc' := 135) rfl (hb hby at_126) rfl (XT.ii_le_t (by decide)) (by decide) (by decide) k_) ?_
    show own_Go p e below _ T9 (mkF m 135 #[oI i0, oI i1, oI i2, oI i3, oI (0 : Int32), oD y1, .second, oD x3, .second, oD x5, .second, oD x7, .second, oD x9, .second, oD x11, .second, oD x13, .second, oD x16, .second, oR h0.size, .unset, .unset] [])
    refine own_by (fun t_ k_ => XS.iload XT9.here hx rfl (hb hby at_135) rfl  k_) ?_
    show own_Go p e below _ T9 (mkF m 137 #[oI i0, oI i1, oI i2, oI i3, oI (0 : Int32), oD y1, .second, oD x3, .second, oD x5, .second, oD x7, .second, oD x9, .second, oD x11, .second, oD x13, .second, oD x16, .second, oR h0.size, .unset, .unset] [(.int (0 : Int32))])
    refine own_by (fun t_ k_ => XT.iconstV XT9.here hx rfl (3 : Int32) (hb hby at_137) (by decide) k_) ?_
    show own_Go p e below _ T9 (mkF m 138 #[oI i0, oI i1, oI i2, oI i3, oI (0 : Int32), oD y1, .second, oD x3, .second, oD x5, .second, oD x7, .second, oD x9, .second, oD x11, .second, oD x13, .second, oD x16, .second, oR h0.size, .unset, .unset] [(.int (3 : Int32)), (.int (0 : Int32))])
    refine own_by (fun t_ k_ => XS.icmpYes XT9.here hx rfl (pc0 := 138) (pc' := 147) rfl (hb hby at_138) rfl (XT.ii_le_t (by decide)) (by decide) (by decide) k_) ?_
    show own_Go p e below _ T9 (mkF m 147 #[oI i0, oI i1, oI i2, oI i3, oI (0 : Int32), oD y1, .second, oD x3, .second, oD x5, .second, oD x7, .second, oD x9, .second, oD x11, .second, oD x13, .second, oD x16, .second, oR h0.size, .unset, .unset] [])
    refine own_by (fun t_ k_ => XS.iload XT9.here hx rfl (hb hby at_147) rfl  k_) ?_
    show own_Go p e below _ T9 (mkF m 149 #[oI i0, oI i1, oI i2, oI i3, oI (0 : Int32), oD y1, .second, oD x3, .second, oD x5, .second, oD x7, .second, oD x9, .second, oD x11, .second, oD x13, .second, oD x16, .second, oR h0.size, .unset, .unset] [(.int (0 : Int32))])
    refine own_by (fun t_ k_ => XT.iconstV XT9.here hx rfl (4 : Int32) (hb hby at_149) (by decide) k_) ?_
    show own_Go p e below _ T9 (mkF m 150 #[oI i0, oI i1, oI i2, oI i3, oI (0 : Int32), oD y1, .second, oD x3, .second, oD x5, .second, oD x7, .second, oD x9, .second, oD x11, .second, oD x13, .second, oD x16, .second, oR h0.size, .unset, .unset] [(.int (4 : Int32)), (.int (0 : Int32))])
    refine own_by (fun t_ k_ => XS.icmpYes XT9.here hx rfl (pc0 := 150) (pc' := 159) rfl (hb hby at_150) rfl (XT.ii_le_t (by decide)) (by decide) (by decide) k_) ?_
    show own_Go p e below _ T9 (mkF m 159 #[oI i0, oI i1, oI i2, oI i3, oI (0 : Int32), oD y1, .second, oD x3, .second, oD x5, .second, oD x7, .second, oD x9, .second, oD x11, .second, oD x13, .second, oD x16, .second, oR h0.size, .unset, .unset] [])
    refine own_by (fun t_ k_ => XS.iload XT9.here hx rfl (hb hby at_159) rfl  k_) ?_
    show own_Go p e below _ T9 (mkF m 161 #[oI i0, oI i1, oI i2, oI i3, oI (0 : Int32), oD y1, .second, oD x3, .second, oD x5, .second, oD x7, .second, oD x9, .second, oD x11, .second, oD x13, .second, oD x16, .second, oR h0.size, .unset, .unset] [(.int (0 : Int32))])
    refine own_by (fun t_ k_ => XT.iconstV XT9.here hx rfl (5 : Int32) (hb hby at_161) (by decide) k_) ?_
    show own_Go p e below _ T9 (mkF m 162 #[oI i0, oI i1, oI i2, oI i3, oI (0 : Int32), oD y1, .second, oD x3, .second, oD x5, .second, oD x7, .second, oD x9, .second, oD x11, .second, oD x13, .second, oD x16, .second, oR h0.size, .unset, .unset] [(.int (5 : Int32)), (.int (0 : Int32))])
    refine own_by (fun t_ k_ => XS.icmpYes XT9.here hx rfl (pc0 := 162) (pc' := 171) rfl (hb hby at_162) rfl (XT.ii_le_t (by decide)) (by decide) (by decide) k_) ?_
    show own_Go p e below _ T9 (mkF m 171 #[oI i0, oI i1, oI i2, oI i3, oI (0 : Int32), oD y1, .second, oD x3, .second, oD x5, .second, oD x7, .second, oD x9, .second, oD x11, .second, oD x13, .second, oD x16, .second, oR h0.size, .unset, .unset] [])
    refine own_by (fun t_ k_ => XS.iload XT9.here hx rfl (hb hby at_171) rfl  k_) ?_
    show own_Go p e below _ T9 (mkF m 173 #[oI i0, oI i1, oI i2, oI i3, oI (0 : Int32), oD y1, .second, oD x3, .second, oD x5, .second, oD x7, .second, oD x9, .second, oD x11, .second, oD x13, .second, oD x16, .second, oR h0.size, .unset, .unset] [(.int (0 : Int32))])
    refine own_by (fun t_ k_ => XT.bipushV XT9.here hx rfl (6 : Int32) (hb hby at_173) (by decide) k_) ?_
    show own_Go p e below _ T9 (mkF m 175 #[oI i0, oI i1, oI i2, oI i3, oI (0 : Int32), oD y1, .second, oD x3, .second, oD x5, .second, oD x7, .second, oD x9, .second, oD x11, .second, oD x13, .second, oD x16, .second, oR h0.size, .unset, .unset] [(.int (6 : Int32)), (.int (0 : Int32))])
    refine own_by (fun t_ k_ => XS.icmpYes XT9.here hx rfl (pc0 := 175) (pc' := 185) rfl (hb hby at_175) rfl (XT.ii_le_t (by decide)) (by decide) (by decide) k_) ?_
    show own_Go p e below _ T9 (mkF m 185 #[oI i0, oI i1, oI i2, oI i3, oI (0 : Int32), oD y1, .second, oD x3, .second, oD x5, .second, oD x7, .second, oD x9, .second, oD x11, .second, oD x13, .second, oD x16, .second, oR h0.size, .unset, .unset] [])
    refine own_by (fun t_ k_ => XS.iload XT9.here hx rfl (hb hby at_185) rfl  k_) ?_
    show own_Go p e below _ T9 (mkF m 187 #[oI i0, oI i1, oI i2, oI i3, oI (0 : Int32), oD y1, .second, oD x3, .second, oD x5, .second, oD x7, .second, oD x9, .second, oD x11, .second, oD x13, .second, oD x16, .second, oR h0.size, .unset, .unset] [(.int (0 : Int32))])
    refine own_by (fun t_ k_ => XT.iconstV XT9.here hx rfl (0 : Int32) (hb hby at_187) (by decide) k_) ?_
    show own_Go p e below _ T9 (mkF m 188 #[oI i0, oI i1, oI i2, oI i3, oI (0 : Int32), oD y1, .second, oD x3, .second, oD x5, .second, oD x7, .second, oD x9, .second, oD x11, .second, oD x13, .second, oD x16, .second, oR h0.size, .unset, .unset] [(.int (0 : Int32)), (.int (0 : Int32))])
    refine own_by (fun t_ k_ => XS.dload XT9.here hx rfl (hb hby at_188) rfl  k_) ?_
    show own_Go p e below _ T9 (mkF m 190 #[oI i0, oI i1, oI i2, oI i3, oI (0 : Int32), oD y1, .second, oD x3, .second, oD x5, .second, oD x7, .second, oD x9, .second, oD x11, .second, oD x13, .second, oD x16, .second, oR h0.size, .unset, .unset] [(.double y1), (.int (0 : Int32)), (.int (0 : Int32))])
    refine own_by (fun t_ k_ => XS.dload XT9.here hx rfl (hb hby at_190) rfl  k_) ?_
    show own_Go p e below _ T9 (mkF m 192 #[oI i0, oI i1, oI i2, oI i3, oI (0 : Int32), oD y1, .second, oD x3, .second, oD x5, .second, oD x7, .second, oD x9, .second, oD x11, .second, oD x13, .second, oD x16, .second, oR h0.size, .unset, .unset] [(.double x16), (.double y1), (.int (0 : Int32)), (.int (0 : Int32))])
    refine own_callS XT9 hx hZ hown (hw _ (List.mem_of_getElem? (i := 2) rfl)) (hw _ (List.mem_of_getElem? (i := 3) rfl)) (hw _ (List.mem_of_getElem? (i := 4) rfl)) (hw _ (List.mem_of_getElem? (i := 5) rfl)) (by decide) eT9 (argsL := [(.int (0 : Int32)), (.int (0 : Int32)), (.double y1), (.double x16)]) (rest := []) (own_one_met l Z a0 hw (0 : Int32) (0 : Int32) y1 x16 hT9) 0 (by decide) (by decide) (by rw [hml]; rfl) (lenOf pd_0 rfl) (Nat.le_of_eq rfl) (hb hby at_192) (by decide) (by decide) (st := [(.double x16), (.double y1), (.int (0 : Int32)), (.int (0 : Int32))]) rfl ?_
    intro T10 LT10 vT10 XT10 hQT10
    obtain ⟨rfl, eT10, rfl⟩ := hQT10
    show own_Go p e below _ T10 (mkF m 195 #[oI i0, oI i1, oI i2, oI i3, oI (0 : Int32), oD y1, .second, oD x3, .second, oD x5, .second, oD x7, .second, oD x9, .second, oD x11, .second, oD x13, .second, oD x16, .second, oR h0.size, .unset, .unset] [(.int (own_one (0 : Int32) (0 : Int32) y1 x16))])
    refine own_by (fun t_ k_ => XS.iload XT10.here hx rfl (hb hby at_195) rfl  k_) ?_
    show own_Go p e below _ T10 (mkF m 197 #[oI i0, oI i1, oI i2, oI i3, oI (0 : Int32), oD y1, .second, oD x3, .second, oD x5, .second, oD x7, .second, oD x9, .second, oD x11, .second, oD x13, .second, oD x16, .second, oR h0.size, .unset, .unset] [(.int (0 : Int32)), (.int (own_one (0 : Int32) (0 : Int32) y1 x16))])
    refine own_by (fun t_ k_ => XT.iconstV XT10.here hx rfl (1 : Int32) (hb hby at_197) (by decide) k_) ?_
    show own_Go p e below _ T10 (mkF m 198 #[oI i0, oI i1, oI i2, oI i3, oI (0 : Int32), oD y1, .second, oD x3, .second, oD x5, .second, oD x7, .second, oD x9, .second, oD x11, .second, oD x13, .second, oD x16, .second, oR h0.size, .unset, .unset] [(.int (1 : Int32)), (.int (0 : Int32)), (.int (own_one (0 : Int32) (0 : Int32) y1 x16))])
    refine own_by (fun t_ k_ => XS.dload XT10.here hx rfl (hb hby at_198) rfl  k_) ?_
    show own_Go p e below _ T10 (mkF m 200 #[oI i0, oI i1, oI i2, oI i3, oI (0 : Int32), oD y1, .second, oD x3, .second, oD x5, .second, oD x7, .second, oD x9, .second, oD x11, .second, oD x13, .second, oD x16, .second, oR h0.size, .unset, .unset] [(.double x3), (.int (1 : Int32)), (.int (0 : Int32)), (.int (own_one (0 : Int32) (0 : Int32) y1 x16))])
    refine own_by (fun t_ k_ => XS.dload XT10.here hx rfl (hb hby at_200) rfl  k_) ?_
    show own_Go p e below _ T10 (mkF m 202 #[oI i0, oI i1, oI i2, oI i3, oI (0 : Int32), oD y1, .second, oD x3, .second, oD x5, .second, oD x7, .second, oD x9, .second, oD x11, .second, oD x13, .second, oD x16, .second, oR h0.size, .unset, .unset] [(.double x16), (.double x3), (.int (1 : Int32)), (.int (0 : Int32)), (.int (own_one (0 : Int32) (0 : Int32) y1 x16))])
    refine own_callS XT10 hx hZ hown (hw _ (List.mem_of_getElem? (i := 2) rfl)) (hw _ (List.mem_of_getElem? (i := 3) rfl)) (hw _ (List.mem_of_getElem? (i := 4) rfl)) (hw _ (List.mem_of_getElem? (i := 5) rfl)) (by decide) eT10 (argsL := [(.int (0 : Int32)), (.int (1 : Int32)), (.double x3), (.double x16)]) (rest := [(.int (own_one (0 : Int32) (0 : Int32) y1 x16))]) (own_one_met l Z a0 hw (0 : Int32) (1 : Int32) x3 x16 hT9) 1 (by decide) (by decide) (by rw [hml]; rfl) (lenOf pd_0 rfl) (Nat.le_of_eq rfl) (hb hby at_202) (by decide) (by decide) (st := [(.double x16), (.double x3), (.int (1 : Int32)), (.int (0 : Int32)), (.int (own_one (0 : Int32) (0 : Int32) y1 x16))]) rfl ?_
    intro T11 LT11 vT11 XT11 hQT11
    obtain ⟨rfl, eT11, rfl⟩ := hQT11
    show own_Go p e below _ T11 (mkF m 205 #[oI i0, oI i1, oI i2, oI i3, oI (0 : Int32), oD y1, .second, oD x3, .second, oD x5, .second, oD x7, .second, oD x9, .second, oD x11, .second, oD x13, .second, oD x16, .second, oR h0.size, .unset, .unset] [(.int (own_one (0 : Int32) (1 : Int32) x3 x16)), (.int (own_one (0 : Int32) (0 : Int32) y1 x16))])
    refine own_by (fun t_ k_ => XS.iadd XT11.here hx rfl (hb hby at_205) rfl k_) ?_
    show own_Go p e below _ T11 (mkF m 206 #[oI i0, oI i1, oI i2, oI i3, oI (0 : Int32), oD y1, .second, oD x3, .second, oD x5, .second, oD x7, .second, oD x9, .second, oD x11, .second, oD x13, .second, oD x16, .second, oR h0.size, .unset, .unset] [(.int ((own_one (0 : Int32) (0 : Int32) y1 x16) + (own_one (0 : Int32) (1 : Int32) x3 x16)))])
    refine own_by (fun t_ k_ => XS.iload XT11.here hx rfl (hb hby at_206) rfl  k_) ?_
    show own_Go p e below _ T11 (mkF m 208 #[oI i0, oI i1, oI i2, oI i3, oI (0 : Int32), oD y1, .second, oD x3, .second, oD x5, .second, oD x7, .second, oD x9, .second, oD x11, .second, oD x13, .second, oD x16, .second, oR h0.size, .unset, .unset] [(.int (0 : Int32)), (.int ((own_one (0 : Int32) (0 : Int32) y1 x16) + (own_one (0 : Int32) (1 : Int32) x3 x16)))])
    refine own_by (fun t_ k_ => XT.iconstV XT11.here hx rfl (2 : Int32) (hb hby at_208) (by decide) k_) ?_
    show own_Go p e below _ T11 (mkF m 209 #[oI i0, oI i1, oI i2, oI i3, oI (0 : Int32), oD y1, .second, oD x3, .second, oD x5, .second, oD x7, .second, oD x9, .second, oD x11, .second, oD x13, .second, oD x16, .second, oR h0.size, .unset, .unset] [(.int (2 : Int32)), (.int (0 : Int32)), (.int ((own_one (0 : Int32) (0 : Int32) y1 x16) + (own_one (0 : Int32) (1 : Int32) x3 x16)))])
    refine own_by (fun t_ k_ => XS.dload XT11.here hx rfl (hb hby at_209) rfl  k_) ?_
    show own_Go p e below _ T11 (mkF m 211 #[oI i0, oI i1, oI i2, oI i3, oI (0 : Int32), oD y1, .second, oD x3, .second, oD x5, .second, oD x7, .second, oD x9, .second, oD x11, .second, oD x13, .second, oD x16, .second, oR h0.size, .unset, .unset] [(.double x5), (.int (2 : Int32)), (.int (0 : Int32)), (.int ((own_one (0 : Int32) (0 : Int32) y1 x16) + (own_one (0 : Int32) (1 : Int32) x3 x16)))])
    refine own_by (fun t_ k_ => XS.dload XT11.here hx rfl (hb hby at_211) rfl  k_) ?_
    show own_Go p e below _ T11 (mkF m 213 #[oI i0, oI i1, oI i2, oI i3, oI (0 : Int32), oD y1, .second, oD x3, .second, oD x5, .second, oD x7, .second, oD x9, .second, oD x11, .second, oD x13, .second, oD x16, .second, oR h0.size, .unset, .unset] [(.double x16), (.double x5), (.int (2 : Int32)), (.int (0 : Int32)), (.int ((own_one (0 : Int32) (0 : Int32) y1 x16) + (own_one (0 : Int32) (1 : Int32) x3 x16)))])
    refine own_callS XT11 hx hZ hown (hw _ (List.mem_of_getElem? (i := 2) rfl)) (hw _ (List.mem_of_getElem? (i := 3) rfl)) (hw _ (List.mem_of_getElem? (i := 4) rfl)) (hw _ (List.mem_of_getElem? (i := 5) rfl)) (by decide) eT11 (argsL := [(.int (0 : Int32)), (.int (2 : Int32)), (.double x5), (.double x16)]) (rest := [(.int ((own_one (0 : Int32) (0 : Int32) y1 x16) + (own_one (0 : Int32) (1 : Int32) x3 x16)))]) (own_one_met l Z a0 hw (0 : Int32) (2 : Int32) x5 x16 hT9) 1 (by decide) (by decide) (by rw [hml]; rfl) (lenOf pd_0 rfl) (Nat.le_of_eq rfl) (hb hby at_213) (by decide) (by decide) (st := [(.double x16), (.double x5), (.int (2 : Int32)), (.int (0 : Int32)), (.int ((own_one (0 : Int32) (0 : Int32) y1 x16) + (own_one (0 : Int32) (1 : Int32) x3 x16)))]) rfl ?_
    intro T12 LT12 vT12 XT12 hQT12
    obtain ⟨rfl, eT12, rfl⟩ := hQT12
    show own_Go p e below _ T12 (mkF m 216 #[oI i0, oI i1, oI i2, oI i3, oI (0 : Int32), oD y1, .second, oD x3, .second, oD x5, .second, oD x7, .second, oD x9, .second, oD x11, .second, oD x13, .second, oD x16, .second, oR h0.size, .unset, .unset] [(.int (own_one (0 : Int32) (2 : Int32) x5 x16)), (.int ((own_one (0 : Int32) (0 : Int32) y1 x16) + (own_one (0 : Int32) (1 : Int32) x3 x16)))])
    refine own_by (fun t_ k_ => XS.iadd XT12.here hx rfl (hb hby at_216) rfl k_) ?_
    show own_Go p e below _ T12 (mkF m 217 #[oI i0, oI i1, oI i2, oI i3, oI (0 : Int32), oD y1, .second, oD x3, .second, oD x5, .second, oD x7, .second, oD x9, .second, oD x11, .second, oD x13, .second, oD x16, .second, oR h0.size, .unset, .unset] [(.int (((own_one (0 : Int32) (0 : Int32) y1 x16) + (own_one (0 : Int32) (1 : Int32) x3 x16)) + (own_one (0 : Int32) (2 : Int32) x5 x16)))])
    refine own_by (fun t_ k_ => XS.iload XT12.here hx rfl (hb hby at_217) rfl  k_) ?_
    show own_Go p e below _ T12 (mkF m 219 #[oI i0, oI i1, oI i2, oI i3, oI (0 : Int32), oD y1, .second, oD x3, .second, oD x5, .second, oD x7, .second, oD x9, .second, oD x11, .second, oD x13, .second, oD x16, .second, oR h0.size, .unset, .unset] [(.int (0 : Int32)), (.int (((own_one (0 : Int32) (0 : Int32) y1 x16) + (own_one (0 : Int32) (1 : Int32) x3 x16)) + (own_one (0 : Int32) (2 : Int32) x5 x16)))])
    refine own_by (fun t_ k_ => XT.iconstV XT12.here hx rfl (3 : Int32) (hb hby at_219) (by decide) k_) ?_
    show own_Go p e below _ T12 (mkF m 220 #[oI i0, oI i1, oI i2, oI i3, oI (0 : Int32), oD y1, .second, oD x3, .second, oD x5, .second, oD x7, .second, oD x9, .second, oD x11, .second, oD x13, .second, oD x16, .second, oR h0.size, .unset, .unset] [(.int (3 : Int32)), (.int (0 : Int32)), (.int (((own_one (0 : Int32) (0 : Int32) y1 x16) + (own_one (0 : Int32) (1 : Int32) x3 x16)) + (own_one (0 : Int32) (2 : Int32) x5 x16)))])
    refine own_by (fun t_ k_ => XS.dload XT12.here hx rfl (hb hby at_220) rfl  k_) ?_
    show own_Go p e below _ T12 (mkF m 222 #[oI i0, oI i1, oI i2, oI i3, oI (0 : Int32), oD y1, .second, oD x3, .second, oD x5, .second, oD x7, .second, oD x9, .second, oD x11, .second, oD x13, .second, oD x16, .second, oR h0.size, .unset, .unset] [(.double x7), (.int (3 : Int32)), (.int (0 : Int32)), (.int (((own_one (0 : Int32) (0 : Int32) y1 x16) + (own_one (0 : Int32) (1 : Int32) x3 x16)) + (own_one (0 : Int32) (2 : Int32) x5 x16)))])
    refine own_by (fun t_ k_ => XS.dload XT12.here hx rfl (hb hby at_222) rfl  k_) ?_
    show own_Go p e below _ T12 (mkF m 224 #[oI i0, oI i1, oI i2, oI i3, oI (0 : Int32), oD y1, .second, oD x3, .second, oD x5, .second, oD x7, .second, oD x9, .second, oD x11, .second, oD x13, .second, oD x16, .second, oR h0.size, .unset, .unset] [(.double x16), (.double x7), (.int (3 : Int32)), (.int (0 : Int32)), (.int (((own_one (0 : Int32) (0 : Int32) y1 x16) + (own_one (0 : Int32) (1 : Int32) x3 x16)) + (own_one (0 : Int32) (2 : Int32) x5 x16)))])
    refine own_callS XT12 hx hZ hown (hw _ (List.mem_of_getElem? (i := 2) rfl)) (hw _ (List.mem_of_getElem? (i := 3) rfl)) (hw _ (List.mem_of_getElem? (i := 4) rfl)) (hw _ (List.mem_of_getElem? (i := 5) rfl)) (by decide) eT12 (argsL := [(.int (0 : Int32)), (.int (3 : Int32)), (.double x7), (.double x16)]) (rest := [(.int (((own_one (0 : Int32) (0 : Int32) y1 x16) + (own_one (0 : Int32) (1 : Int32) x3 x16)) + (own_one (0 : Int32) (2 : Int32) x5 x16)))]) (own_one_met l Z a0 hw (0 : Int32) (3 : Int32) x7 x16 hT9) 1 (by decide) (by decide) (by rw [hml]; rfl) (lenOf pd_0 rfl) (Nat.le_of_eq rfl) (hb hby at_224) (by decide) (by decide) (st := [(.double x16), (.double x7), (.int (3 : Int32)), (.int (0 : Int32)), (.int (((own_one (0 : Int32) (0 : Int32) y1 x16) + (own_one (0 : Int32) (1 : Int32) x3 x16)) + (own_one (0 : Int32) (2 : Int32) x5 x16)))]) rfl ?_
    intro T13 LT13 vT13 XT13 hQT13
    obtain ⟨rfl, eT13, rfl⟩ := hQT13
    show own_Go p e below _ T13 (mkF m 227 #[oI i0, oI i1, oI i2, oI i3, oI (0 : Int32), oD y1, .second, oD x3, .second, oD x5, .second, oD x7, .second, oD x9, .second, oD x11, .second, oD x13, .second, oD x16, .second, oR h0.size, .unset, .unset] [(.int (own_one (0 : Int32) (3 : Int32) x7 x16)), (.int (((own_one (0 : Int32) (0 : Int32) y1 x16) + (own_one (0 : Int32) (1 : Int32) x3 x16)) + (own_one (0 : Int32) (2 : Int32) x5 x16)))])
    refine own_by (fun t_ k_ => XS.iadd XT13.here hx rfl (hb hby at_227) rfl k_) ?_
    show own_Go p e below _ T13 (mkF m 228 #[oI i0, oI i1, oI i2, oI i3, oI (0 : Int32), oD y1, .second, oD x3, .second, oD x5, .second, oD x7, .second, oD x9, .second, oD x11, .second, oD x13, .second, oD x16, .second, oR h0.size, .unset, .unset] [(.int ((((own_one (0 : Int32) (0 : Int32) y1 x16) + (own_one (0 : Int32) (1 : Int32) x3 x16)) + (own_one (0 : Int32) (2 : Int32) x5 x16)) + (own_one (0 : Int32) (3 : Int32) x7 x16)))])
    refine own_by (fun t_ k_ => XS.iload XT13.here hx rfl (hb hby at_228) rfl  k_) ?_
    show own_Go p e below _ T13 (mkF m 230 #[oI i0, oI i1, oI i2, oI i3, oI (0 : Int32), oD y1, .second, oD x3, .second, oD x5, .second, oD x7, .second, oD x9, .second, oD x11, .second, oD x13, .second, oD x16, .second, oR h0.size, .unset, .unset] [(.int (0 : Int32)), (.int ((((own_one (0 : Int32) (0 : Int32) y1 x16) + (own_one (0 : Int32) (1 : Int32) x3 x16)) + (own_one (0 : Int32) (2 : Int32) x5 x16)) + (own_one (0 : Int32) (3 : Int32) x7 x16)))])
    refine own_by (fun t_ k_ => XT.iconstV XT13.here hx rfl (4 : Int32) (hb hby at_230) (by decide) k_) ?_
    show own_Go p e below _ T13 (mkF m 231 #[oI i0, oI i1, oI i2, oI i3, oI (0 : Int32), oD y1, .second, oD x3, .second, oD x5, .second, oD x7, .second, oD x9, .second, oD x11, .second, oD x13, .second, oD x16, .second, oR h0.size, .unset, .unset] [(.int (4 : Int32)), (.int (0 : Int32)), (.int ((((own_one (0 : Int32) (0 : Int32) y1 x16) + (own_one (0 : Int32) (1 : Int32) x3 x16)) + (own_one (0 : Int32) (2 : Int32) x5 x16)) + (own_one (0 : Int32) (3 : Int32) x7 x16)))])
    refine own_by (fun t_ k_ => XS.dload XT13.here hx rfl (hb hby at_231) rfl  k_) ?_
    show own_Go p e below _ T13 (mkF m 233 #[oI i0, oI i1, oI i2, oI i3, oI (0 : Int32), oD y1, .second, oD x3, .second, oD x5, .second, oD x7, .second, oD x9, .second, oD x11, .second, oD x13, .second, oD x16, .second, oR h0.size, .unset, .unset] [(.double x9), (.int (4 : Int32)), (.int (0 : Int32)), (.int ((((own_one (0 : Int32) (0 : Int32) y1 x16) + (own_one (0 : Int32) (1 : Int32) x3 x16)) + (own_one (0 : Int32) (2 : Int32) x5 x16)) + (own_one (0 : Int32) (3 : Int32) x7 x16)))])
    refine own_by (fun t_ k_ => XS.dload XT13.here hx rfl (hb hby at_233) rfl  k_) ?_
    show own_Go p e below _ T13 (mkF m 235 #[oI i0, oI i1, oI i2, oI i3, oI (0 : Int32), oD y1, .second, oD x3, .second, oD x5, .second, oD x7, .second, oD x9, .second, oD x11, .second, oD x13, .second, oD x16, .second, oR h0.size, .unset, .unset] [(.double x16), (.double x9), (.int (4 : Int32)), (.int (0 : Int32)), (.int ((((own_one (0 : Int32) (0 : Int32) y1 x16) + (own_one (0 : Int32) (1 : Int32) x3 x16)) + (own_one (0 : Int32) (2 : Int32) x5 x16)) + (own_one (0 : Int32) (3 : Int32) x7 x16)))])
    refine own_callS XT13 hx hZ hown (hw _ (List.mem_of_getElem? (i := 2) rfl)) (hw _ (List.mem_of_getElem? (i := 3) rfl)) (hw _ (List.mem_of_getElem? (i := 4) rfl)) (hw _ (List.mem_of_getElem? (i := 5) rfl)) (by decide) eT13 (argsL := [(.int (0 : Int32)), (.int (4 : Int32)), (.double x9), (.double x16)]) (rest := [(.int ((((own_one (0 : Int32) (0 : Int32) y1 x16) + (own_one (0 : Int32) (1 : Int32) x3 x16)) + (own_one (0 : Int32) (2 : Int32) x5 x16)) + (own_one (0 : Int32) (3 : Int32) x7 x16)))]) (own_one_met l Z a0 hw (0 : Int32) (4 : Int32) x9 x16 hT9) 1 (by decide) (by decide) (by rw [hml]; rfl) (lenOf pd_0 rfl) (Nat.le_of_eq rfl) (hb hby at_235) (by decide) (by decide) (st := [(.double x16), (.double x9), (.int (4 : Int32)), (.int (0 : Int32)), (.int ((((own_one (0 : Int32) (0 : Int32) y1 x16) + (own_one (0 : Int32) (1 : Int32) x3 x16)) + (own_one (0 : Int32) (2 : Int32) x5 x16)) + (own_one (0 : Int32) (3 : Int32) x7 x16)))]) rfl ?_
    intro T14 LT14 vT14 XT14 hQT14
    obtain ⟨rfl, eT14, rfl⟩ := hQT14
    show own_Go p e below _ T14 (mkF m 238 #[oI i0, oI i1, oI i2, oI i3, oI (0 : Int32), oD y1, .second, oD x3, .second, oD x5, .second, oD x7, .second, oD x9, .second, oD x11, .second, oD x13, .second, oD x16, .second, oR h0.size, .unset, .unset] [(.int (own_one (0 : Int32) (4 : Int32) x9 x16)), (.int ((((own_one (0 : Int32) (0 : Int32) y1 x16) + (own_one (0 : Int32) (1 : Int32) x3 x16)) + (own_one (0 : Int32) (2 : Int32) x5 x16)) + (own_one (0 : Int32) (3 : Int32) x7 x16)))])
    refine own_by (fun t_ k_ => XS.iadd XT14.here hx rfl (hb hby at_238) rfl k_) ?_
    show own_Go p e below _ T14 (mkF m 239 #[oI i0, oI i1, oI i2, oI i3, oI (0 : Int32), oD y1, .second, oD x3, .second, oD x5, .second, oD x7, .second, oD x9, .second, oD x11, .second, oD x13, .second, oD x16, .second, oR h0.size, .unset, .unset] [(.int (((((own_one (0 : Int32) (0 : Int32) y1 x16) + (own_one (0 : Int32) (1 : Int32) x3 x16)) + (own_one (0 : Int32) (2 : Int32) x5 x16)) + (own_one (0 : Int32) (3 : Int32) x7 x16)) + (own_one (0 : Int32) (4 : Int32) x9 x16)))])
    refine own_by (fun t_ k_ => XS.iload XT14.here hx rfl (hb hby at_239) rfl  k_) ?_
    show own_Go p e below _ T14 (mkF m 241 #[oI i0, oI i1, oI i2, oI i3, oI (0 : Int32), oD y1, .second, oD x3, .second, oD x5, .second, oD x7, .second, oD x9, .second, oD x11, .second, oD x13, .second, oD x16, .second, oR h0.size, .unset, .unset] [(.int (0 : Int32)), (.int (((((own_one (0 : Int32) (0 : Int32) y1 x16) + (own_one (0 : Int32) (1 : Int32) x3 x16)) + (own_one (0 : Int32) (2 : Int32) x5 x16)) + (own_one (0 : Int32) (3 : Int32) x7 x16)) + (own_one (0 : Int32) (4 : Int32) x9 x16)))])
    refine own_by (fun t_ k_ => XT.iconstV XT14.here hx rfl (5 : Int32) (hb hby at_241) (by decide) k_) ?_
    show own_Go p e below _ T14 (mkF m 242 #[oI i0, oI i1, oI i2, oI i3, oI (0 : Int32), oD y1, .second, oD x3, .second, oD x5, .second, oD x7, .second, oD x9, .second, oD x11, .second, oD x13, .second, oD x16, .second, oR h0.size, .unset, .unset] [(.int (5 : Int32)), (.int (0 : Int32)), (.int (((((own_one (0 : Int32) (0 : Int32) y1 x16) + (own_one (0 : Int32) (1 : Int32) x3 x16)) + (own_one (0 : Int32) (2 : Int32) x5 x16)) + (own_one (0 : Int32) (3 : Int32) x7 x16)) + (own_one (0 : Int32) (4 : Int32) x9 x16)))])
    refine own_by (fun t_ k_ => XS.dload XT14.here hx rfl (hb hby at_242) rfl  k_) ?_
    show own_Go p e below _ T14 (mkF m 244 #[oI i0, oI i1, oI i2, oI i3, oI (0 : Int32), oD y1, .second, oD x3, .second, oD x5, .second, oD x7, .second, oD x9, .second, oD x11, .second, oD x13, .second, oD x16, .second, oR h0.size, .unset, .unset] [(.double x11), (.int (5 : Int32)), (.int (0 : Int32)), (.int (((((own_one (0 : Int32) (0 : Int32) y1 x16) + (own_one (0 : Int32) (1 : Int32) x3 x16)) + (own_one (0 : Int32) (2 : Int32) x5 x16)) + (own_one (0 : Int32) (3 : Int32) x7 x16)) + (own_one (0 : Int32) (4 : Int32) x9 x16)))])
    refine own_by (fun t_ k_ => XS.dload XT14.here hx rfl (hb hby at_244) rfl  k_) ?_
    show own_Go p e below _ T14 (mkF m 246 #[oI i0, oI i1, oI i2, oI i3, oI (0 : Int32), oD y1, .second, oD x3, .second, oD x5, .second, oD x7, .second, oD x9, .second, oD x11, .second, oD x13, .second, oD x16, .second, oR h0.size, .unset, .unset] [(.double x16), (.double x11), (.int (5 : Int32)), (.int (0 : Int32)), (.int (((((own_one (0 : Int32) (0 : Int32) y1 x16) + (own_one (0 : Int32) (1 : Int32) x3 x16)) + (own_one (0 : Int32) (2 : Int32) x5 x16)) + (own_one (0 : Int32) (3 : Int32) x7 x16)) + (own_one (0 : Int32) (4 : Int32) x9 x16)))])
    refine own_callS XT14 hx hZ hown (hw _ (List.mem_of_getElem? (i := 2) rfl)) (hw _ (List.mem_of_getElem? (i := 3) rfl)) (hw _ (List.mem_of_getElem? (i := 4) rfl)) (hw _ (List.mem_of_getElem? (i := 5) rfl)) (by decide) eT14 (argsL := [(.int (0 : Int32)), (.int (5 : Int32)), (.double x11), (.double x16)]) (rest := [(.int (((((own_one (0 : Int32) (0 : Int32) y1 x16) + (own_one (0 : Int32) (1 : Int32) x3 x16)) + (own_one (0 : Int32) (2 : Int32) x5 x16)) + (own_one (0 : Int32) (3 : Int32) x7 x16)) + (own_one (0 : Int32) (4 : Int32) x9 x16)))]) (own_one_met l Z a0 hw (0 : Int32) (5 : Int32) x11 x16 hT9) 1 (by decide) (by decide) (by rw [hml]; rfl) (lenOf pd_0 rfl) (Nat.le_of_eq rfl) (hb hby at_246) (by decide) (by decide) (st := [(.double x16), (.double x11), (.int (5 : Int32)), (.int (0 : Int32)), (.int (((((own_one (0 : Int32) (0 : Int32) y1 x16) + (own_one (0 : Int32) (1 : Int32) x3 x16)) + (own_one (0 : Int32) (2 : Int32) x5 x16)) + (own_one (0 : Int32) (3 : Int32) x7 x16)) + (own_one (0 : Int32) (4 : Int32) x9 x16)))]) rfl ?_
    intro T15 LT15 vT15 XT15 hQT15
    obtain ⟨rfl, eT15, rfl⟩ := hQT15
    show own_Go p e below _ T15 (mkF m 249 #[oI i0, oI i1, oI i2, oI i3, oI (0 : Int32), oD y1, .second, oD x3, .second, oD x5, .second, oD x7, .second, oD x9, .second, oD x11, .second, oD x13, .second, oD x16, .second, oR h0.size, .unset, .unset] [(.int (own_one (0 : Int32) (5 : Int32) x11 x16)), (.int (((((own_one (0 : Int32) (0 : Int32) y1 x16) + (own_one (0 : Int32) (1 : Int32) x3 x16)) + (own_one (0 : Int32) (2 : Int32) x5 x16)) + (own_one (0 : Int32) (3 : Int32) x7 x16)) + (own_one (0 : Int32) (4 : Int32) x9 x16)))])
    refine own_by (fun t_ k_ => XS.iadd XT15.here hx rfl (hb hby at_249) rfl k_) ?_
    show own_Go p e below _ T15 (mkF m 250 #[oI i0, oI i1, oI i2, oI i3, oI (0 : Int32), oD y1, .second, oD x3, .second, oD x5, .second, oD x7, .second, oD x9, .second, oD x11, .second, oD x13, .second, oD x16, .second, oR h0.size, .unset, .unset] [(.int ((((((own_one (0 : Int32) (0 : Int32) y1 x16) + (own_one (0 : Int32) (1 : Int32) x3 x16)) + (own_one (0 : Int32) (2 : Int32) x5 x16)) + (own_one (0 : Int32) (3 : Int32) x7 x16)) + (own_one (0 : Int32) (4 : Int32) x9 x16)) + (own_one (0 : Int32) (5 : Int32) x11 x16)))])
    refine own_by (fun t_ k_ => XS.iload XT15.here hx rfl (hb hby at_250) rfl  k_) ?_
    show own_Go p e below _ T15 (mkF m 252 #[oI i0, oI i1, oI i2, oI i3, oI (0 : Int32), oD y1, .second, oD x3, .second, oD x5, .second, oD x7, .second, oD x9, .second, oD x11, .second, oD x13, .second, oD x16, .second, oR h0.size, .unset, .unset] [(.int (0 : Int32)), (.int ((((((own_one (0 : Int32) (0 : Int32) y1 x16) + (own_one (0 : Int32) (1 : Int32) x3 x16)) + (own_one (0 : Int32) (2 : Int32) x5 x16)) + (own_one (0 : Int32) (3 : Int32) x7 x16)) + (own_one (0 : Int32) (4 : Int32) x9 x16)) + (own_one (0 : Int32) (5 : Int32) x11 x16)))])
    refine own_by (fun t_ k_ => XT.bipushV XT15.here hx rfl (6 : Int32) (hb hby at_252) (by decide) k_) ?_
    show own_Go p e below _ T15 (mkF m 254 #[oI i0, oI i1, oI i2, oI i3, oI (0 : Int32), oD y1, .second, oD x3, .second, oD x5, .second, oD x7, .second, oD x9, .second, oD x11, .second, oD x13, .second, oD x16, .second, oR h0.size, .unset, .unset] [(.int (6 : Int32)), (.int (0 : Int32)), (.int ((((((own_one (0 : Int32) (0 : Int32) y1 x16) + (own_one (0 : Int32) (1 : Int32) x3 x16)) + (own_one (0 : Int32) (2 : Int32) x5 x16)) + (own_one (0 : Int32) (3 : Int32) x7 x16)) + (own_one (0 : Int32) (4 : Int32) x9 x16)) + (own_one (0 : Int32) (5 : Int32) x11 x16)))])
    refine own_by (fun t_ k_ => XS.dload XT15.here hx rfl (hb hby at_254) rfl  k_) ?_
    show own_Go p e below _ T15 (mkF m 256 #[oI i0, oI i1, oI i2, oI i3, oI (0 : Int32), oD y1, .second, oD x3, .second, oD x5, .second, oD x7, .second, oD x9, .second, oD x11, .second, oD x13, .second, oD x16, .second, oR h0.size, .unset, .unset] [(.double x13), (.int (6 : Int32)), (.int (0 : Int32)), (.int ((((((own_one (0 : Int32) (0 : Int32) y1 x16) + (own_one (0 : Int32) (1 : Int32) x3 x16)) + (own_one (0 : Int32) (2 : Int32) x5 x16)) + (own_one (0 : Int32) (3 : Int32) x7 x16)) + (own_one (0 : Int32) (4 : Int32) x9 x16)) + (own_one (0 : Int32) (5 : Int32) x11 x16)))])
    refine own_by (fun t_ k_ => XS.dload XT15.here hx rfl (hb hby at_256) rfl  k_) ?_
    show own_Go p e below _ T15 (mkF m 258 #[oI i0, oI i1, oI i2, oI i3, oI (0 : Int32), oD y1, .second, oD x3, .second, oD x5, .second, oD x7, .second, oD x9, .second, oD x11, .second, oD x13, .second, oD x16, .second, oR h0.size, .unset, .unset] [(.double x16), (.double x13), (.int (6 : Int32)), (.int (0 : Int32)), (.int ((((((own_one (0 : Int32) (0 : Int32) y1 x16) + (own_one (0 : Int32) (1 : Int32) x3 x16)) + (own_one (0 : Int32) (2 : Int32) x5 x16)) + (own_one (0 : Int32) (3 : Int32) x7 x16)) + (own_one (0 : Int32) (4 : Int32) x9 x16)) + (own_one (0 : Int32) (5 : Int32) x11 x16)))])
    refine own_callS XT15 hx hZ hown (hw _ (List.mem_of_getElem? (i := 2) rfl)) (hw _ (List.mem_of_getElem? (i := 3) rfl)) (hw _ (List.mem_of_getElem? (i := 4) rfl)) (hw _ (List.mem_of_getElem? (i := 5) rfl)) (by decide) eT15 (argsL := [(.int (0 : Int32)), (.int (6 : Int32)), (.double x13), (.double x16)]) (rest := [(.int ((((((own_one (0 : Int32) (0 : Int32) y1 x16) + (own_one (0 : Int32) (1 : Int32) x3 x16)) + (own_one (0 : Int32) (2 : Int32) x5 x16)) + (own_one (0 : Int32) (3 : Int32) x7 x16)) + (own_one (0 : Int32) (4 : Int32) x9 x16)) + (own_one (0 : Int32) (5 : Int32) x11 x16)))]) (own_one_met l Z a0 hw (0 : Int32) (6 : Int32) x13 x16 hT9) 1 (by decide) (by decide) (by rw [hml]; rfl) (lenOf pd_0 rfl) (Nat.le_of_eq rfl) (hb hby at_258) (by decide) (by decide) (st := [(.double x16), (.double x13), (.int (6 : Int32)), (.int (0 : Int32)), (.int ((((((own_one (0 : Int32) (0 : Int32) y1 x16) + (own_one (0 : Int32) (1 : Int32) x3 x16)) + (own_one (0 : Int32) (2 : Int32) x5 x16)) + (own_one (0 : Int32) (3 : Int32) x7 x16)) + (own_one (0 : Int32) (4 : Int32) x9 x16)) + (own_one (0 : Int32) (5 : Int32) x11 x16)))]) rfl ?_
    intro T16 LT16 vT16 XT16 hQT16
    obtain ⟨rfl, eT16, rfl⟩ := hQT16
    show own_Go p e below _ T16 (mkF m 261 #[oI i0, oI i1, oI i2, oI i3, oI (0 : Int32), oD y1, .second, oD x3, .second, oD x5, .second, oD x7, .second, oD x9, .second, oD x11, .second, oD x13, .second, oD x16, .second, oR h0.size, .unset, .unset] [(.int (own_one (0 : Int32) (6 : Int32) x13 x16)), (.int ((((((own_one (0 : Int32) (0 : Int32) y1 x16) + (own_one (0 : Int32) (1 : Int32) x3 x16)) + (own_one (0 : Int32) (2 : Int32) x5 x16)) + (own_one (0 : Int32) (3 : Int32) x7 x16)) + (own_one (0 : Int32) (4 : Int32) x9 x16)) + (own_one (0 : Int32) (5 : Int32) x11 x16)))])
    refine own_by (fun t_ k_ => XS.iadd XT16.here hx rfl (hb hby at_261) rfl k_) ?_
    show own_Go p e below _ T16 (mkF m 262 #[oI i0, oI i1, oI i2, oI i3, oI (0 : Int32), oD y1, .second, oD x3, .second, oD x5, .second, oD x7, .second, oD x9, .second, oD x11, .second, oD x13, .second, oD x16, .second, oR h0.size, .unset, .unset] [(.int (((((((own_one (0 : Int32) (0 : Int32) y1 x16) + (own_one (0 : Int32) (1 : Int32) x3 x16)) + (own_one (0 : Int32) (2 : Int32) x5 x16)) + (own_one (0 : Int32) (3 : Int32) x7 x16)) + (own_one (0 : Int32) (4 : Int32) x9 x16)) + (own_one (0 : Int32) (5 : Int32) x11 x16)) + (own_one (0 : Int32) (6 : Int32) x13 x16)))])
    refine own_by (fun t_ k_ => XS.istore XT16.here hx rfl (hb hby at_262) rfl (l' := #[oI i0, oI i1, oI i2, oI i3, oI (0 : Int32), oD y1, .second, oD x3, .second, oD x5, .second, oD x7, .second, oD x9, .second, oD x11, .second, oD x13, .second, oD x16, .second, oR h0.size, oI (((((((own_one (0 : Int32) (0 : Int32) y1 x16) + (own_one (0 : Int32) (1 : Int32) x3 x16)) + (own_one (0 : Int32) (2 : Int32) x5 x16)) + (own_one (0 : Int32) (3 : Int32) x7 x16)) + (own_one (0 : Int32) (4 : Int32) x9 x16)) + (own_one (0 : Int32) (5 : Int32) x11 x16)) + (own_one (0 : Int32) (6 : Int32) x13 x16)), .unset]) rfl k_) ?_
    show own_Go p e below _ T16 (mkF m 264 #[oI i0, oI i1, oI i2, oI i3, oI (0 : Int32), oD y1, .second, oD x3, .second, oD x5, .second, oD x7, .second, oD x9, .second, oD x11, .second, oD x13, .second, oD x16, .second, oR h0.size, oI (((((((own_one (0 : Int32) (0 : Int32) y1 x16) + (own_one (0 : Int32) (1 : Int32) x3 x16)) + (own_one (0 : Int32) (2 : Int32) x5 x16)) + (own_one (0 : Int32) (3 : Int32) x7 x16)) + (own_one (0 : Int32) (4 : Int32) x9 x16)) + (own_one (0 : Int32) (5 : Int32) x11 x16)) + (own_one (0 : Int32) (6 : Int32) x13 x16)), .unset] [])
    refine own_by (fun t_ k_ => XS.aload XT16.here hx rfl (hb hby at_264) rfl rfl  k_) ?_
    show own_Go p e below _ T16 (mkF m 266 #[oI i0, oI i1, oI i2, oI i3, oI (0 : Int32), oD y1, .second, oD x3, .second, oD x5, .second, oD x7, .second, oD x9, .second, oD x11, .second, oD x13, .second, oD x16, .second, oR h0.size, oI (((((((own_one (0 : Int32) (0 : Int32) y1 x16) + (own_one (0 : Int32) (1 : Int32) x3 x16)) + (own_one (0 : Int32) (2 : Int32) x5 x16)) + (own_one (0 : Int32) (3 : Int32) x7 x16)) + (own_one (0 : Int32) (4 : Int32) x9 x16)) + (own_one (0 : Int32) (5 : Int32) x11 x16)) + (own_one (0 : Int32) (6 : Int32) x13 x16)), .unset] [(.ref h0.size)])
    refine own_by (fun t_ k_ => XS.dload XT16.here hx rfl (hb hby at_266) rfl  k_) ?_
    show own_Go p e below _ T16 (mkF m 268 #[oI i0, oI i1, oI i2, oI i3, oI (0 : Int32), oD y1, .second, oD x3, .second, oD x5, .second, oD x7, .second, oD x9, .second, oD x11, .second, oD x13, .second, oD x16, .second, oR h0.size, oI (((((((own_one (0 : Int32) (0 : Int32) y1 x16) + (own_one (0 : Int32) (1 : Int32) x3 x16)) + (own_one (0 : Int32) (2 : Int32) x5 x16)) + (own_one (0 : Int32) (3 : Int32) x7 x16)) + (own_one (0 : Int32) (4 : Int32) x9 x16)) + (own_one (0 : Int32) (5 : Int32) x11 x16)) + (own_one (0 : Int32) (6 : Int32) x13 x16)), .unset] [(.double x16), (.ref h0.size)])
    refine own_callS XT16 hx hZ hown (hw _ (List.mem_of_getElem? (i := 6) rfl)) (hw _ (List.mem_of_getElem? (i := 7) rfl)) (hw _ (List.mem_of_getElem? (i := 8) rfl)) (hw _ (List.mem_of_getElem? (i := 9) rfl)) (by decide) eT16 (argsL := [(.ref h0.size), (.double x16)]) (rest := []) (own_cb0_met l Z a0 hw h0.size x16 kA  hT9 VT9) 0 (by decide) (by decide) (by rw [hml]; rfl) (lenOf pd_1 rfl) (Nat.le_of_eq rfl) (hb hby at_268) (by decide) (by decide) (st := [(.double x16), (.ref h0.size)]) rfl ?_
    intro T17 LT17 vT17 XT17 hQT17
    obtain ⟨rfl, eT17, rfl⟩ := hQT17
    show own_Go p e below _ T17 (mkF m 271 #[oI i0, oI i1, oI i2, oI i3, oI (0 : Int32), oD y1, .second, oD x3, .second, oD x5, .second, oD x7, .second, oD x9, .second, oD x11, .second, oD x13, .second, oD x16, .second, oR h0.size, oI (((((((own_one (0 : Int32) (0 : Int32) y1 x16) + (own_one (0 : Int32) (1 : Int32) x3 x16)) + (own_one (0 : Int32) (2 : Int32) x5 x16)) + (own_one (0 : Int32) (3 : Int32) x7 x16)) + (own_one (0 : Int32) (4 : Int32) x9 x16)) + (own_one (0 : Int32) (5 : Int32) x11 x16)) + (own_one (0 : Int32) (6 : Int32) x13 x16)), .unset] [(.int (own_cb0 h0.size x16 kA ))])
    refine own_by (fun t_ k_ => XS.istore XT17.here hx rfl (hb hby at_271) rfl (l' := #[oI i0, oI i1, oI i2, oI i3, oI (0 : Int32), oD y1, .second, oD x3, .second, oD x5, .second, oD x7, .second, oD x9, .second, oD x11, .second, oD x13, .second, oD x16, .second, oR h0.size, oI (((((((own_one (0 : Int32) (0 : Int32) y1 x16) + (own_one (0 : Int32) (1 : Int32) x3 x16)) + (own_one (0 : Int32) (2 : Int32) x5 x16)) + (own_one (0 : Int32) (3 : Int32) x7 x16)) + (own_one (0 : Int32) (4 : Int32) x9 x16)) + (own_one (0 : Int32) (5 : Int32) x11 x16)) + (own_one (0 : Int32) (6 : Int32) x13 x16)), oI (own_cb0 h0.size x16 kA )]) rfl k_) ?_
    show own_Go p e below _ T17 (mkF m 273 #[oI i0, oI i1, oI i2, oI i3, oI (0 : Int32), oD y1, .second, oD x3, .second, oD x5, .second, oD x7, .second, oD x9, .second, oD x11, .second, oD x13, .second, oD x16, .second, oR h0.size, oI (((((((own_one (0 : Int32) (0 : Int32) y1 x16) + (own_one (0 : Int32) (1 : Int32) x3 x16)) + (own_one (0 : Int32) (2 : Int32) x5 x16)) + (own_one (0 : Int32) (3 : Int32) x7 x16)) + (own_one (0 : Int32) (4 : Int32) x9 x16)) + (own_one (0 : Int32) (5 : Int32) x11 x16)) + (own_one (0 : Int32) (6 : Int32) x13 x16)), oI (own_cb0 h0.size x16 kA )] [])
    refine own_by (fun t_ k_ => XS.iload XT17.here hx rfl (hb hby at_273) rfl  k_) ?_
    show own_Go p e below _ T17 (mkF m 275 #[oI i0, oI i1, oI i2, oI i3, oI (0 : Int32), oD y1, .second, oD x3, .second, oD x5, .second, oD x7, .second, oD x9, .second, oD x11, .second, oD x13, .second, oD x16, .second, oR h0.size, oI (((((((own_one (0 : Int32) (0 : Int32) y1 x16) + (own_one (0 : Int32) (1 : Int32) x3 x16)) + (own_one (0 : Int32) (2 : Int32) x5 x16)) + (own_one (0 : Int32) (3 : Int32) x7 x16)) + (own_one (0 : Int32) (4 : Int32) x9 x16)) + (own_one (0 : Int32) (5 : Int32) x11 x16)) + (own_one (0 : Int32) (6 : Int32) x13 x16)), oI (own_cb0 h0.size x16 kA )] [(.int (own_cb0 h0.size x16 kA ))])
    refine own_by (fun t_ k_ => XS.iload XT17.here hx rfl (hb hby at_275) rfl  k_) ?_
    show own_Go p e below _ T17 (mkF m 277 #[oI i0, oI i1, oI i2, oI i3, oI (0 : Int32), oD y1, .second, oD x3, .second, oD x5, .second, oD x7, .second, oD x9, .second, oD x11, .second, oD x13, .second, oD x16, .second, oR h0.size, oI (((((((own_one (0 : Int32) (0 : Int32) y1 x16) + (own_one (0 : Int32) (1 : Int32) x3 x16)) + (own_one (0 : Int32) (2 : Int32) x5 x16)) + (own_one (0 : Int32) (3 : Int32) x7 x16)) + (own_one (0 : Int32) (4 : Int32) x9 x16)) + (own_one (0 : Int32) (5 : Int32) x11 x16)) + (own_one (0 : Int32) (6 : Int32) x13 x16)), oI (own_cb0 h0.size x16 kA )] [(.int (((((((own_one (0 : Int32) (0 : Int32) y1 x16) + (own_one (0 : Int32) (1 : Int32) x3 x16)) + (own_one (0 : Int32) (2 : Int32) x5 x16)) + (own_one (0 : Int32) (3 : Int32) x7 x16)) + (own_one (0 : Int32) (4 : Int32) x9 x16)) + (own_one (0 : Int32) (5 : Int32) x11 x16)) + (own_one (0 : Int32) (6 : Int32) x13 x16))), (.int (own_cb0 h0.size x16 kA ))])
    have hfin : (own_cb0 h0.size x16 kA ) = (((((((own_one (0 : Int32) (0 : Int32) y1 x16) + (own_one (0 : Int32) (1 : Int32) x3 x16)) + (own_one (0 : Int32) (2 : Int32) x5 x16)) + (own_one (0 : Int32) (3 : Int32) x7 x16)) + (own_one (0 : Int32) (4 : Int32) x9 x16)) + (own_one (0 : Int32) (5 : Int32) x11 x16)) + (own_one (0 : Int32) (6 : Int32) x13 x16)) := by
      rw [show own_cb0 h0.size x16 kA  = (0 : Int32) by rw [own_cb0], show own_one (0 : Int32) (0 : Int32) y1 x16 = (0 : Int32) by rw [own_one, if_neg (by decide)], show own_one (0 : Int32) (1 : Int32) x3 x16 = (0 : Int32) by rw [own_one, if_neg (by decide)], show own_one (0 : Int32) (2 : Int32) x5 x16 = (0 : Int32) by rw [own_one, if_neg (by decide)], show own_one (0 : Int32) (3 : Int32) x7 x16 = (0 : Int32) by rw [own_one, if_neg (by decide)], show own_one (0 : Int32) (4 : Int32) x9 x16 = (0 : Int32) by rw [own_one, if_neg (by decide)], show own_one (0 : Int32) (5 : Int32) x11 x16 = (0 : Int32) by rw [own_one, if_neg (by decide)], show own_one (0 : Int32) (6 : Int32) x13 x16 = (0 : Int32) by rw [own_one, if_neg (by decide)]]
      decide
    refine own_by (fun t_ k_ => XS.icmpNo XT17.here hx rfl (hb hby at_277) rfl (XT.ii_ne_f hfin) k_) ?_
    show own_Go p e below _ T17 (mkF m 280 #[oI i0, oI i1, oI i2, oI i3, oI (0 : Int32), oD y1, .second, oD x3, .second, oD x5, .second, oD x7, .second, oD x9, .second, oD x11, .second, oD x13, .second, oD x16, .second, oR h0.size, oI (((((((own_one (0 : Int32) (0 : Int32) y1 x16) + (own_one (0 : Int32) (1 : Int32) x3 x16)) + (own_one (0 : Int32) (2 : Int32) x5 x16)) + (own_one (0 : Int32) (3 : Int32) x7 x16)) + (own_one (0 : Int32) (4 : Int32) x9 x16)) + (own_one (0 : Int32) (5 : Int32) x11 x16)) + (own_one (0 : Int32) (6 : Int32) x13 x16)), oI (own_cb0 h0.size x16 kA )] [])
    refine own_by (fun t_ k_ => XT.iconstV XT17.here hx rfl (1 : Int32) (hb hby at_280) (by decide) k_) ?_
    show own_Go p e below _ T17 (mkF m 281 #[oI i0, oI i1, oI i2, oI i3, oI (0 : Int32), oD y1, .second, oD x3, .second, oD x5, .second, oD x7, .second, oD x9, .second, oD x11, .second, oD x13, .second, oD x16, .second, oR h0.size, oI (((((((own_one (0 : Int32) (0 : Int32) y1 x16) + (own_one (0 : Int32) (1 : Int32) x3 x16)) + (own_one (0 : Int32) (2 : Int32) x5 x16)) + (own_one (0 : Int32) (3 : Int32) x7 x16)) + (own_one (0 : Int32) (4 : Int32) x9 x16)) + (own_one (0 : Int32) (5 : Int32) x11 x16)) + (own_one (0 : Int32) (6 : Int32) x13 x16)), oI (own_cb0 h0.size x16 kA )] [(.int (1 : Int32))])
    refine own_by (fun t_ k_ => XS.goto XT17.here hx rfl (pc0 := 281) (pc' := 285) rfl (hb hby at_281) (by decide) (by decide) k_) ?_
    show own_Go p e below _ T17 (mkF m 285 #[oI i0, oI i1, oI i2, oI i3, oI (0 : Int32), oD y1, .second, oD x3, .second, oD x5, .second, oD x7, .second, oD x9, .second, oD x11, .second, oD x13, .second, oD x16, .second, oR h0.size, oI (((((((own_one (0 : Int32) (0 : Int32) y1 x16) + (own_one (0 : Int32) (1 : Int32) x3 x16)) + (own_one (0 : Int32) (2 : Int32) x5 x16)) + (own_one (0 : Int32) (3 : Int32) x7 x16)) + (own_one (0 : Int32) (4 : Int32) x9 x16)) + (own_one (0 : Int32) (5 : Int32) x11 x16)) + (own_one (0 : Int32) (6 : Int32) x13 x16)), oI (own_cb0 h0.size x16 kA )] [(.int (1 : Int32))])
    exact own_retN XT17 hx hlk hret (by simp) (w := (1 : Int32)) (hb hby at_285) (by decide) (by decide) (by decide) (⟨rfl, own_fr0 NT9⟩)
  · rw [hk]
    show own_Go p e below _ T0 (mkF m 94 #[oI i0, oI i1, oI i2, oI i3, oI (1 : Int32), oD y1, .second, oD x3, .second, oD x5, .second, oD x7, .second, oD x9, .second, oD x11, .second, oD x13, .second, oD x16, .second, .unset, .unset, .unset] [])
    refine own_by (fun t_ k_ => XS.iload X0.here hx rfl (hb hby at_94) rfl  k_) ?_
    show own_Go p e below _ T0 (mkF m 96 #[oI i0, oI i1, oI i2, oI i3, oI (1 : Int32), oD y1, .second, oD x3, .second, oD x5, .second, oD x7, .second, oD x9, .second, oD x11, .second, oD x13, .second, oD x16, .second, .unset, .unset, .unset] [(.int (1 : Int32))])
    refine own_newP X0 hx hZ (aty := .double) (hw _ (List.mem_of_getElem? (i := 1) rfl)) e0 (hb hby at_96) 1 1 (by decide) (by decide) (by decide) (by decide) (by decide) (by decide) ?_
    intro T18 hT18 kA XT18 eT18 ET18 YT18
    have VT18 : own_A Z hT18 h0.size .double kA [(.double 0)] := YT18
    have NT18 := Fr.nil h0.size
    clear YT18
    show own_Go p e below _ T18 (mkF m 98 #[oI i0, oI i1, oI i2, oI i3, oI (1 : Int32), oD y1, .second, oD x3, .second, oD x5, .second, oD x7, .second, oD x9, .second, oD x11, .second, oD x13, .second, oD x16, .second, .unset, .unset, .unset] [(.ref h0.size)])
    refine own_by (fun t_ k_ => XS.astore XT18.here hx rfl (hb hby at_98) rfl rfl (l' := #[oI i0, oI i1, oI i2, oI i3, oI (1 : Int32), oD y1, .second, oD x3, .second, oD x5, .second, oD x7, .second, oD x9, .second, oD x11, .second, oD x13, .second, oD x16, .second, oR h0.size, .unset, .unset]) rfl k_) ?_
    show own_Go p e below _ T18 (mkF m 100 #[oI i0, oI i1, oI i2, oI i3, oI (1 : Int32), oD y1, .second, oD x3, .second, oD x5, .second, oD x7, .second, oD x9, .second, oD x11, .second, oD x13, .second, oD x16, .second, oR h0.size, .unset, .unset] [])
    refine own_by (fun t_ k_ => XS.iload XT18.here hx rfl (hb hby at_100) rfl  k_) ?_
    show own_Go p e below _ T18 (mkF m 102 #[oI i0, oI i1, oI i2, oI i3, oI (1 : Int32), oD y1, .second, oD x3, .second, oD x5, .second, oD x7, .second, oD x9, .second, oD x11, .second, oD x13, .second, oD x16, .second, oR h0.size, .unset, .unset] [(.int (1 : Int32))])
    refine own_by (fun t_ k_ => XS.ifNo XT18.here hx rfl (hb hby at_102) rfl (XT.i0_le_f (by decide)) k_) ?_
    show own_Go p e below _ T18 (mkF m 105 #[oI i0, oI i1, oI i2, oI i3, oI (1 : Int32), oD y1, .second, oD x3, .second, oD x5, .second, oD x7, .second, oD x9, .second, oD x11, .second, oD x13, .second, oD x16, .second, oR h0.size, .unset, .unset] [])
    refine own_by (fun t_ k_ => XS.aload XT18.here hx rfl (hb hby at_105) rfl rfl  k_) ?_
    show own_Go p e below _ T18 (mkF m 107 #[oI i0, oI i1, oI i2, oI i3, oI (1 : Int32), oD y1, .second, oD x3, .second, oD x5, .second, oD x7, .second, oD x9, .second, oD x11, .second, oD x13, .second, oD x16, .second, oR h0.size, .unset, .unset] [(.ref h0.size)])
    refine own_by (fun t_ k_ => XT.iconstV XT18.here hx rfl (0 : Int32) (hb hby at_107) (by decide) k_) ?_
    show own_Go p e below _ T18 (mkF m 108 #[oI i0, oI i1, oI i2, oI i3, oI (1 : Int32), oD y1, .second, oD x3, .second, oD x5, .second, oD x7, .second, oD x9, .second, oD x11, .second, oD x13, .second, oD x16, .second, oR h0.size, .unset, .unset] [(.int (0 : Int32)), (.ref h0.size)])
    refine own_by (fun t_ k_ => XS.dload XT18.here hx rfl (hb hby at_108) rfl  k_) ?_
    show own_Go p e below _ T18 (mkF m 110 #[oI i0, oI i1, oI i2, oI i3, oI (1 : Int32), oD y1, .second, oD x3, .second, oD x5, .second, oD x7, .second, oD x9, .second, oD x11, .second, oD x13, .second, oD x16, .second, oR h0.size, .unset, .unset] [(.double y1), (.int (0 : Int32)), (.ref h0.size)])
    refine own_stD XT18 hx hZ eT18 VT18 0 (by decide) (by decide) (by simp) (hb hby at_110) ?_
    intro T19 hT19 XT19 eT19 WT19 YT19
    have VT19 : own_A Z hT19 h0.size .double kA [(.double y1)] := YT19
    have NT19 := own_frs (i := 0) NT18 (Nat.le_refl h0.size)
    clear YT19
    show own_Go p e below _ T19 (mkF m 111 #[oI i0, oI i1, oI i2, oI i3, oI (1 : Int32), oD y1, .second, oD x3, .second, oD x5, .second, oD x7, .second, oD x9, .second, oD x11, .second, oD x13, .second, oD x16, .second, oR h0.size, .unset, .unset] [])
    refine own_by (fun t_ k_ => XS.iload XT19.here hx rfl (hb hby at_111) rfl  k_) ?_
    show own_Go p e below _ T19 (mkF m 113 #[oI i0, oI i1, oI i2, oI i3, oI (1 : Int32), oD y1, .second, oD x3, .second, oD x5, .second, oD x7, .second, oD x9, .second, oD x11, .second, oD x13, .second, oD x16, .second, oR h0.size, .unset, .unset] [(.int (1 : Int32))])
    refine own_by (fun t_ k_ => XT.iconstV XT19.here hx rfl (1 : Int32) (hb hby at_113) (by decide) k_) ?_
    show own_Go p e below _ T19 (mkF m 114 #[oI i0, oI i1, oI i2, oI i3, oI (1 : Int32), oD y1, .second, oD x3, .second, oD x5, .second, oD x7, .second, oD x9, .second, oD x11, .second, oD x13, .second, oD x16, .second, oR h0.size, .unset, .unset] [(.int (1 : Int32)), (.int (1 : Int32))])
    refine own_by (fun t_ k_ => XS.icmpYes XT19.here hx rfl (pc0 := 114) (pc' := 123) rfl (hb hby at_114) rfl (XT.ii_le_t (by decide)) (by decide) (by decide) k_) ?_
    show own_Go p e below _ T19 (mkF m 123 #[oI i0, oI i1, oI i2, oI i3, oI (1 : Int32), oD y1, .second, oD x3, .second, oD x5, .second, oD x7, .second, oD x9, .second, oD x11, .second, oD x13, .second, oD x16, .second, oR h0.size, .unset, .unset] [])
    refine own_by (fun t_ k_ => XS.iload XT19.here hx rfl (hb hby at_123) rfl  k_) ?_
    show own_Go p e below _ T19 (mkF m 125 #[oI i0, oI i1, oI i2, oI i3, oI (1 : Int32), oD y1, .second, oD x3, .second, oD x5, .second, oD x7, .second, oD x9, .second, oD x11, .second, oD x13, .second, oD x16, .second, oR h0.size, .unset, .unset] [(.int (1 : Int32))])
    refine own_by (fun t_ k_ => XT.iconstV XT19.here hx rfl (2 : Int32) (hb hby at_125) (by decide) k_) ?_
    show own_Go p e below _ T19 (mkF m 126 #[oI i0, oI i1, oI i2, oI i3, oI (1 : Int32), oD y1, .second, oD x3, .second, oD x5, .second, oD x7, .second, oD x9, .second, oD x11, .second, oD x13, .second, oD x16, .second, oR h0.size, .unset, .unset] [(.int (2 : Int32)), (.int (1 : Int32))])
    refine own_by (fun t_ k_ => XS.icmpYes XT19.here hx rfl (pc0 := 126) (pc' := 135) rfl (hb hby at_126) rfl (XT.ii_le_t (by decide)) (by decide) (by decide) k_) ?_
    show own_Go p e below _ T19 (mkF m 135 #[oI i0, oI i1, oI i2, oI i3, oI (1 : Int32), oD y1, .second, oD x3, .second, oD x5, .second, oD x7, .second, oD x9, .second, oD x11, .second, oD x13, .second, oD x16, .second, oR h0.size, .unset, .unset] [])
    refine own_by (fun t_ k_ => XS.iload XT19.here hx rfl (hb hby at_135) rfl  k_) ?_
    show own_Go p e below _ T19 (mkF m 137 #[oI i0, oI i1, oI i2, oI i3, oI (1 : Int32), oD y1, .second, oD x3, .second, oD x5, .second, oD x7, .second, oD x9, .second, oD x11, .second, oD x13, .second, oD x16, .second, oR h0.size, .unset, .unset] [(.int (1 : Int32))])
    refine own_by (fun t_ k_ => XT.iconstV XT19.here hx rfl (3 : Int32) (hb hby at_137) (by decide) k_) ?_
    show own_Go p e below _ T19 (mkF m 138 #[oI i0, oI i1, oI i2, oI i3, oI (1 : Int32), oD y1, .second, oD x3, .second, oD x5, .second, oD x7, .second, oD x9, .second, oD x11, .second, oD x13, .second, oD x16, .second, oR h0.size, .unset, .unset] [(.int (3 : Int32)), (.int (1 : Int32))])
    refine own_by (fun t_ k_ => XS.icmpYes XT19.here hx rfl (pc0 := 138) (pc' := 147) rfl (hb hby at_138) rfl (XT.ii_le_t (by decide)) (by decide) (by decide) k_) ?_
    show own_Go p e below _ T19 (mkF m 147 #[oI i0, oI i1, oI i2, oI i3, oI (1 : Int32), oD y1, .second, oD x3, .second, oD x5, .second, oD x7, .second, oD x9, .second, oD x11, .second, oD x13, .second, oD x16, .second, oR h0.size, .unset, .unset] [])
    refine own_by (fun t_ k_ => XS.iload XT19.here hx rfl (hb hby at_147) rfl  k_) ?_
    show own_Go p e below _ T19 (mkF m 149 #[oI i0, oI i1, oI i2, oI i3, oI (1 : Int32), oD y1, .second, oD x3, .second, oD x5, .second, oD x7, .second, oD x9, .second, oD x11, .second, oD x13, .second, oD x16, .second, oR h0.size, .unset, .unset] [(.int (1 : Int32))])
    refine own_by (fun t_ k_ => XT.iconstV XT19.here hx rfl (4 : Int32) (hb hby at_149) (by decide) k_) ?_
    show own_Go p e below _ T19 (mkF m 150 #[oI i0, oI i1, oI i2, oI i3, oI (1 : Int32), oD y1, .second, oD x3, .second, oD x5, .second, oD x7, .second, oD x9, .second, oD x11, .second, oD x13, .second, oD x16, .second, oR h0.size, .unset, .unset] [(.int (4 : Int32)), (.int (1 : Int32))])
    refine own_by (fun t_ k_ => XS.icmpYes XT19.here hx rfl (pc0 := 150) (pc' := 159) rfl (hb hby at_150) rfl (XT.ii_le_t (by decide)) (by decide) (by decide) k_) ?_
    show own_Go p e below _ T19 (mkF m 159 #[oI i0, oI i1, oI i2, oI i3, oI (1 : Int32), oD y1, .second, oD x3, .second, oD x5, .second, oD x7, .second, oD x9, .second, oD x11, .second, oD x13, .second, oD x16, .second, oR h0.size, .unset, .unset] [])
    refine own_by (fun t_ k_ => XS.iload XT19.here hx rfl (hb hby at_159) rfl  k_) ?_
    show own_Go p e below _ T19 (mkF m 161 #[oI i0, oI i1, oI i2, oI i3, oI (1 : Int32), oD y1, .second, oD x3, .second, oD x5, .second, oD x7, .second, oD x9, .second, oD x11, .second, oD x13, .second, oD x16, .second, oR h0.size, .unset, .unset] [(.int (1 : Int32))])
    refine own_by (fun t_ k_ => XT.iconstV XT19.here hx rfl (5 : Int32) (hb hby at_161) (by decide) k_) ?_
    show own_Go p e below _ T19 (mkF m 162 #[oI i0, oI i1, oI i2, oI i3, oI (1 : Int32), oD y1, .second, oD x3, .second, oD x5, .second, oD x7, .second, oD x9, .second, oD x11, .second, oD x13, .second, oD x16, .second, oR h0.size, .unset, .unset] [(.int (5 : Int32)), (.int (1 : Int32))])
    refine own_by (fun t_ k_ => XS.icmpYes XT19.here hx rfl (pc0 := 162) (pc' := 171) rfl (hb hby at_162) rfl (XT.ii_le_t (by decide)) (by decide) (by decide) k_) ?_
    show own_Go p e below _ T19 (mkF m 171 #[oI i0, oI i1, oI i2, oI i3, oI (1 : Int32), oD y1, .second, oD x3, .second, oD x5, .second, oD x7, .second, oD x9, .second, oD x11, .second, oD x13, .second, oD x16, .second, oR h0.size, .unset, .unset] [])
    refine own_by (fun t_ k_ => XS.iload XT19.here hx rfl (hb hby at_171) rfl  k_) ?_
    show own_Go p e below _ T19 (mkF m 173 #[oI i0, oI i1, oI i2, oI i3, oI (1 : Int32), oD y1, .second, oD x3, .second, oD x5, .second, oD x7, .second, oD x9, .second, oD x11, .second, oD x13, .second, oD x16, .second, oR h0.size, .unset, .unset] [(.int (1 : Int32))])
    refine own_by (fun t_ k_ => XT.bipushV XT19.here hx rfl (6 : Int32) (hb hby at_173) (by decide) k_) ?_
    show own_Go p e below _ T19 (mkF m 175 #[oI i0, oI i1, oI i2, oI i3, oI (1 : Int32), oD y1, .second, oD x3, .second, oD x5, .second, oD x7, .second, oD x9, .second, oD x11, .second, oD x13, .second, oD x16, .second, oR h0.size, .unset, .unset] [(.int (6 : Int32)), (.int (1 : Int32))])
    refine own_by (fun t_ k_ => XS.icmpYes XT19.here hx rfl (pc0 := 175) (pc' := 185) rfl (hb hby at_175) rfl (XT.ii_le_t (by decide)) (by decide) (by decide) k_) ?_
    show own_Go p e below _ T19 (mkF m 185 #[oI i0, oI i1, oI i2, oI i3, oI (1 : Int32), oD y1, .second, oD x3, .second, oD x5, .second, oD x7, .second, oD x9, .second, oD x11, .second, oD x13, .second, oD x16, .second, oR h0.size, .unset, .unset] [])
    refine own_by (fun t_ k_ => XS.iload XT19.here hx rfl (hb hby at_185) rfl  k_) ?_
    show own_Go p e below _ T19 (mkF m 187 #[oI i0, oI i1, oI i2, oI i3, oI (1 : Int32), oD y1, .second, oD x3, .second, oD x5, .second, oD x7, .second, oD x9, .second, oD x11, .second, oD x13, .second, oD x16, .second, oR h0.size, .unset, .unset] [(.int (1 : Int32))])
    refine own_by (fun t_ k_ => XT.iconstV XT19.here hx rfl (0 : Int32) (hb hby at_187) (by decide) k_) ?_
    show own_Go p e below _ T19 (mkF m 188 #[oI i0, oI i1, oI i2, oI i3, oI (1 : Int32), oD y1, .second, oD x3, .second, oD x5, .second, oD x7, .second, oD x9, .second, oD x11, .second, oD x13, .second, oD x16, .second, oR h0.size, .unset, .unset] [(.int (0 : Int32)), (.int (1 : Int32))])
    refine own_by (fun t_ k_ => XS.dload XT19.here hx rfl (hb hby at_188) rfl  k_) ?_
    show own_Go p e below _ T19 (mkF m 190 #[oI i0, oI i1, oI i2, oI i3, oI (1 : Int32), oD y1, .second, oD x3, .second, oD x5, .second, oD x7, .second, oD x9, .second, oD x11, .second, oD x13, .second, oD x16, .second, oR h0.size, .unset, .unset] [(.double y1), (.int (0 : Int32)), (.int (1 : Int32))])
    refine own_by (fun t_ k_ => XS.dload XT19.here hx rfl (hb hby at_190) rfl  k_) ?_
    show own_Go p e below _ T19 (mkF m 192 #[oI i0, oI i1, oI i2, oI i3, oI (1 : Int32), oD y1, .second, oD x3, .second, oD x5, .second, oD x7, .second, oD x9, .second, oD x11, .second, oD x13, .second, oD x16, .second, oR h0.size, .unset, .unset] [(.double x16), (.double y1), (.int (0 : Int32)), (.int (1 : Int32))])
    refine own_callS XT19 hx hZ hown (hw _ (List.mem_of_getElem? (i := 2) rfl)) (hw _ (List.mem_of_getElem? (i := 3) rfl)) (hw _ (List.mem_of_getElem? (i := 4) rfl)) (hw _ (List.mem_of_getElem? (i := 5) rfl)) (by decide) eT19 (argsL := [(.int (1 : Int32)), (.int (0 : Int32)), (.double y1), (.double x16)]) (rest := []) (own_one_met l Z a0 hw (1 : Int32) (0 : Int32) y1 x16 hT19) 0 (by decide) (by decide) (by rw [hml]; rfl) (lenOf pd_0 rfl) (Nat.le_of_eq rfl) (hb hby at_192) (by decide) (by decide) (st := [(.double x16), (.double y1), (.int (0 : Int32)), (.int (1 : Int32))]) rfl ?_
    intro T20 LT20 vT20 XT20 hQT20
    obtain ⟨rfl, eT20, rfl⟩ := hQT20
    show own_Go p e below _ T20 (mkF m 195 #[oI i0, oI i1, oI i2, oI i3, oI (1 : Int32), oD y1, .second, oD x3, .second, oD x5, .second, oD x7, .second, oD x9, .second, oD x11, .second, oD x13, .second, oD x16, .second, oR h0.size, .unset, .unset] [(.int (own_one (1 : Int32) (0 : Int32) y1 x16))])
    refine own_by (fun t_ k_ => XS.iload XT20.here hx rfl (hb hby at_195) rfl  k_) ?_
    show own_Go p e below _ T20 (mkF m 197 #[oI i0, oI i1, oI i2, oI i3, oI (1 : Int32), oD y1, .second, oD x3, .second, oD x5, .second, oD x7, .second, oD x9, .second, oD x11, .second, oD x13, .second, oD x16, .second, oR h0.size, .unset, .unset] [(.int (1 : Int32)), (.int (own_one (1 : Int32) (0 : Int32) y1 x16))])
    refine own_by (fun t_ k_ => XT.iconstV XT20.here hx rfl (1 : Int32) (hb hby at_197) (by decide) k_) ?_
    show own_Go p e below _ T20 (mkF m 198 #[oI i0, oI i1, oI i2, oI i3, oI (1 : Int32), oD y1, .second, oD x3, .second, oD x5, .second, oD x7, .second, oD x9, .second, oD x11, .second, oD x13, .second, oD x16, .second, oR h0.size, .unset, .unset] [(.int (1 : Int32)), (.int (1 : Int32)), (.int (own_one (1 : Int32) (0 : Int32) y1 x16))])
    refine own_by (fun t_ k_ => XS.dload XT20.here hx rfl (hb hby at_198) rfl  k_) ?_
    show own_Go p e below _ T20 (mkF m 200 #[oI i0, oI i1, oI i2, oI i3, oI (1 : Int32), oD y1, .second, oD x3, .second, oD x5, .second, oD x7, .second, oD x9, .second, oD x11, .second, oD x13, .second, oD x16, .second, oR h0.size, .unset, .unset] [(.double x3), (.int (1 : Int32)), (.int (1 : Int32)), (.int (own_one (1 : Int32) (0 : Int32) y1 x16))])
    refine own_by (fun t_ k_ => XS.dload XT20.here hx rfl (hb hby at_200) rfl  k_) ?_
    show own_Go p e below _ T20 (mkF m 202 #[oI i0, oI i1, oI i2, oI i3, oI (1 : Int32), oD y1, .second, oD x3, .second, oD x5, .second, oD x7, .second, oD x9, .second, oD x11, .second, oD x13, .second, oD x16, .second, oR h0.size, .unset, .unset] [(.double x16), (.double x3), (.int (1 : Int32)), (.int (1 : Int32)), (.int (own_one (1 : Int32) (0 : Int32) y1 x16))])
    refine own_callS XT20 hx hZ hown (hw _ (List.mem_of_getElem? (i := 2) rfl)) (hw _ (List.mem_of_getElem? (i := 3) rfl)) (hw _ (List.mem_of_getElem? (i := 4) rfl)) (hw _ (List.mem_of_getElem? (i := 5) rfl)) (by decide) eT20 (argsL := [(.int (1 : Int32)), (.int (1 : Int32)), (.double x3), (.double x16)]) (rest := [(.int (own_one (1 : Int32) (0 : Int32) y1 x16))]) (own_one_met l Z a0 hw (1 : Int32) (1 : Int32) x3 x16 hT19) 1 (by decide) (by decide) (by rw [hml]; rfl) (lenOf pd_0 rfl) (Nat.le_of_eq rfl) (hb hby at_202) (by decide) (by decide) (st := [(.double x16), (.double x3), (.int (1 : Int32)), (.int (1 : Int32)), (.int (own_one (1 : Int32) (0 : Int32) y1 x16))]) rfl ?_
    intro T21 LT21 vT21 XT21 hQT21
    obtain ⟨rfl, eT21, rfl⟩ := hQT21
    show own_Go p e below _ T21 (mkF m 205 #[oI i0, oI i1, oI i2, oI i3, oI (1 : Int32), oD y1, .second, oD x3, .second, oD x5, .second, oD x7, .second, oD x9, .second, oD x11, .second, oD x13, .second, oD x16, .second, oR h0.size, .unset, .unset] [(.int (own_one (1 : Int32) (1 : Int32) x3 x16)), (.int (own_one (1 : Int32) (0 : Int32) y1 x16))])
    refine own_by (fun t_ k_ => XS.iadd XT21.here hx rfl (hb hby at_205) rfl k_) ?_
    show own_Go p e below _ T21 (mkF m 206 #[oI i0, oI i1, oI i2, oI i3, oI (1 : Int32), oD y1, .second, oD x3, .second, oD x5, .second, oD x7, .second, oD x9, .second, oD x11, .second, oD x13, .second, oD x16, .second, oR h0.size, .unset, .unset] [(.int ((own_one (1 : Int32) (0 : Int32) y1 x16) + (own_one (1 : Int32) (1 : Int32) x3 x16)))])
    refine own_by (fun t_ k_ => XS.iload XT21.here hx rfl (hb hby at_206) rfl  k_) ?_
    show own_Go p e below _ T21 (mkF m 208 #[oI i0, oI i1, oI i2, oI i3, oI (1 : Int32), oD y1, .second, oD x3, .second, oD x5, .second, oD x7, .second, oD x9, .second, oD x11, .second, oD x13, .second, oD x16, .second, oR h0.size, .unset, .unset] [(.int (1 : Int32)), (.int ((own_one (1 : Int32) (0 : Int32) y1 x16) + (own_one (1 : Int32) (1 : Int32) x3 x16)))])
    refine own_by (fun t_ k_ => XT.iconstV XT21.here hx rfl (2 : Int32) (hb hby at_208) (by decide) k_) ?_
    show own_Go p e below _ T21 (mkF m 209 #[oI i0, oI i1, oI i2, oI i3, oI (1 : Int32), oD y1, .second, oD x3, .second, oD x5, .second, oD x7, .second, oD x9, .second, oD x11, .second, oD x13, .second, oD x16, .second, oR h0.size, .unset, .unset] [(.int (2 : Int32)), (.int (1 : Int32)), (.int ((own_one (1 : Int32) (0 : Int32) y1 x16) + (own_one (1 : Int32) (1 : Int32) x3 x16)))])
    refine own_by (fun t_ k_ => XS.dload XT21.here hx rfl (hb hby at_209) rfl  k_) ?_
    show own_Go p e below _ T21 (mkF m 211 #[oI i0, oI i1, oI i2, oI i3, oI (1 : Int32), oD y1, .second, oD x3, .second, oD x5, .second, oD x7, .second, oD x9, .second, oD x11, .second, oD x13, .second, oD x16, .second, oR h0.size, .unset, .unset] [(.double x5), (.int (2 : Int32)), (.int (1 : Int32)), (.int ((own_one (1 : Int32) (0 : Int32) y1 x16) + (own_one (1 : Int32) (1 : Int32) x3 x16)))])
    refine own_by (fun t_ k_ => XS.dload XT21.here hx rfl (hb hby at_211) rfl  k_) ?_
    show own_Go p e below _ T21 (mkF m 213 #[oI i0, oI i1, oI i2, oI i3, oI (1 : Int32), oD y1, .second, oD x3, .second, oD x5, .second, oD x7, .second, oD x9, .second, oD x11, .second, oD x13, .second, oD x16, .second, oR h0.size, .unset, .unset] [(.double x16), (.double x5), (.int (2 : Int32)), (.int (1 : Int32)), (.int ((own_one (1 : Int32) (0 : Int32) y1 x16) + (own_one (1 : Int32) (1 : Int32) x3 x16)))])
    refine own_callS XT21 hx hZ hown (hw _ (List.mem_of_getElem? (i := 2) rfl)) (hw _ (List.mem_of_getElem? (i := 3) rfl)) (hw _ (List.mem_of_getElem? (i := 4) rfl)) (hw _ (List.mem_of_getElem? (i := 5) rfl)) (by decide) eT21 (argsL := [(.int (1 : Int32)), (.int (2 : Int32)), (.double x5), (.double x16)]) (rest := [(.int ((own_one (1 : Int32) (0 : Int32) y1 x16) + (own_one (1 : Int32) (1 : Int32) x3 x16)))]) (own_one_met l Z a0 hw (1 : Int32) (2 : Int32) x5 x16 hT19) 1 (by decide) (by decide) (by rw [hml]; rfl) (lenOf pd_0 rfl) (Nat.le_of_eq rfl) (hb hby at_213) (by decide) (by decide) (st := [(.double x16), (.double x5), (.int (2 : Int32)), (.int (1 : Int32)), (.int ((own_one (1 : Int32) (0 : Int32) y1 x16) + (own_one (1 : Int32) (1 : Int32) x3 x16)))]) rfl ?_
    intro T22 LT22 vT22 XT22 hQT22
    obtain ⟨rfl, eT22, rfl⟩ := hQT22
    show own_Go p e below _ T22 (mkF m 216 #[oI i0, oI i1, oI i2, oI i3, oI (1 : Int32), oD y1, .second, oD x3, .second, oD x5, .second, oD x7, .second, oD x9, .second, oD x11, .second, oD x13, .second, oD x16, .second, oR h0.size, .unset, .unset] [(.int (own_one (1 : Int32) (2 : Int32) x5 x16)), (.int ((own_one (1 : Int32) (0 : Int32) y1 x16) + (own_one (1 : Int32) (1 : Int32) x3 x16)))])
    refine own_by (fun t_ k_ => XS.iadd XT22.here hx rfl (hb hby at_216) rfl k_) ?_
    show own_Go p e below _ T22 (mkF m 217 #[oI i0, oI i1, oI i2, oI i3, oI (1 : Int32), oD y1, .second, oD x3, .second, oD x5, .second, oD x7, .second, oD x9, .second, oD x11, .second, oD x13, .second, oD x16, .second, oR h0.size, .unset, .unset] [(.int (((own_one (1 : Int32) (0 : Int32) y1 x16) + (own_one (1 : Int32) (1 : Int32) x3 x16)) + (own_one (1 : Int32) (2 : Int32) x5 x16)))])
    refine own_by (fun t_ k_ => XS.iload XT22.here hx rfl (hb hby at_217) rfl  k_) ?_
    show own_Go p e below _ T22 (mkF m 219 #[oI i0, oI i1, oI i2, oI i3, oI (1 : Int32), oD y1, .second, oD x3, .second, oD x5, .second, oD x7, .second, oD x9, .second, oD x11, .second, oD x13, .second, oD x16, .second, oR h0.size, .unset, .unset] [(.int (1 : Int32)), (.int (((own_one (1 : Int32) (0 : Int32) y1 x16) + (own_one (1 : Int32) (1 : Int32) x3 x16)) + (own_one (1 : Int32) (2 : Int32) x5 x16)))])
    refine own_by (fun t_ k_ => XT.iconstV XT22.here hx rfl (3 : Int32) (hb hby at_219) (by decide) k_) ?_
    show own_Go p e below _ T22 (mkF m 220 #[oI i0, oI i1, oI i2, oI i3, oI (1 : Int32), oD y1, .second, oD x3, .second, oD x5, .second, oD x7, .second, oD x9, .second, oD x11, .second, oD x13, .second, oD x16, .second, oR h0.size, .unset, .unset] [(.int (3 : Int32)), (.int (1 : Int32)), (.int (((own_one (1 : Int32) (0 : Int32) y1 x16) + (own_one (1 : Int32) (1 : Int32) x3 x16)) + (own_one (1 : Int32) (2 : Int32) x5 x16)))])
    refine own_by (fun t_ k_ => XS.dload XT22.here hx rfl (hb hby at_220) rfl  k_) ?_
    show own_Go p e below _ T22 (mkF m 222 #[oI i0, oI i1, oI i2, oI i3, oI (1 : Int32), oD y1, .second, oD x3, .second, oD x5, .second, oD x7, .second, oD x9, .second, oD x11, .second, oD x13, .second, oD x16, .second, oR h0.size, .unset, .unset] [(.double x7), (.int (3 : Int32)), (.int (1 : Int32)), (.int (((own_one (1 : Int32) (0 : Int32) y1 x16) + (own_one (1 : Int32) (1 : Int32) x3 x16)) + (own_one (1 : Int32) (2 : Int32) x5 x16)))])
    refine own_by (fun t_ k_ => XS.dload XT22.here hx rfl (hb hby at_222) rfl  k_) ?_
    show own_Go p e below _ T22 (mkF m 224 #[oI i0, oI i1, oI i2, oI i3, oI (1 : Int32), oD y1, .second, oD x3, .second, oD x5, .second, oD x7, .second, oD x9, .second, oD x11, .second, oD x13, .second, oD x16, .second, oR h0.size, .unset, .unset] [(.double x16), (.double x7), (.int (3 : Int32)), (.int (1 : Int32)), (.int (((own_one (1 : Int32) (0 : Int32) y1 x16) + (own_one (1 : Int32) (1 : Int32) x3 x16)) + (own_one (1 : Int32) (2 : Int32) x5 x16)))])
    refine own_callS XT22 hx hZ hown (hw _ (List.mem_of_getElem? (i := 2) rfl)) (hw _ (List.mem_of_getElem? (i := 3) rfl)) (hw _ (List.mem_of_getElem? (i := 4) rfl)) (hw _ (List.mem_of_getElem? (i := 5) rfl)) (by decide) eT22 (argsL := [(.int (1 : Int32)), (.int (3 : Int32)), (.double x7), (.double x16)]) (rest := [(.int (((own_one (1 : Int32) (0 : Int32) y1 x16) + (own_one (1 : Int32) (1 : Int32) x3 x16)) + (own_one (1 : Int32) (2 : Int32) x5 x16)))]) (own_one_met l Z a0 hw (1 : Int32) (3 : Int32) x7 x16 hT19) 1 (by decide) (by decide) (by rw [hml]; rfl) (lenOf pd_0 rfl) (Nat.le_of_eq rfl) (hb hby at_224) (by decide) (by decide) (st := [(.double x16), (.double x7), (.int (3 : Int32)), (.int (1 : Int32)), (.int (((own_one (1 : Int32) (0 : Int32) y1 x16) + (own_one (1 : Int32) (1 : Int32) x3 x16)) + (own_one (1 : Int32) (2 : Int32) x5 x16)))]) rfl ?_
    intro T23 LT23 vT23 XT23 hQT23
    obtain ⟨rfl, eT23, rfl⟩ := hQT23
    show own_Go p e below _ T23 (mkF m 227 #[oI i0, oI i1, oI i2, oI i3, oI (1 : Int32), oD y1, .second, oD x3, .second, oD x5, .second, oD x7, .second, oD x9, .second, oD x11, .second, oD x13, .second, oD x16, .second, oR h0.size, .unset, .unset] [(.int (own_one (1 : Int32) (3 : Int32) x7 x16)), (.int (((own_one (1 : Int32) (0 : Int32) y1 x16) + (own_one (1 : Int32) (1 : Int32) x3 x16)) + (own_one (1 : Int32) (2 : Int32) x5 x16)))])
    refine own_by (fun t_ k_ => XS.iadd XT23.here hx rfl (hb hby at_227) rfl k_) ?_
    show own_Go p e below _ T23 (mkF m 228 #[oI i0, oI i1, oI i2, oI i3, oI (1 : Int32), oD y1, .second, oD x3, .second, oD x5, .second, oD x7, .second, oD x9, .second, oD x11, .second, oD x13, .second, oD x16, .second, oR h0.size, .unset, .unset] [(.int ((((own_one (1 : Int32) (0 : Int32) y1 x16) + (own_one (1 : Int32) (1 : Int32) x3 x16)) + (own_one (1 : Int32) (2 : Int32) x5 x16)) + (own_one (1 : Int32) (3 : Int32) x7 x16)))])
    refine own_by (fun t_ k_ => XS.iload XT23.here hx rfl (hb hby at_228) rfl  k_) ?_
    show own_Go p e below _ T23 (mkF m 230 #[oI i0, oI i1, oI i2, oI i3, oI (1 : Int32), oD y1, .second, oD x3, .second, oD x5, .second, oD x7, .second, oD x9, .second, oD x11, .second, oD x13, .second, oD x16, .second, oR h0.size, .unset, .unset] [(.int (1 : Int32)), (.int ((((own_one (1 : Int32) (0 : Int32) y1 x16) + (own_one (1 : Int32) (1 : Int32) x3 x16)) + (own_one (1 : Int32) (2 : Int32) x5 x16)) + (own_one (1 : Int32) (3 : Int32) x7 x16)))])
    refine own_by (fun t_ k_ => XT.iconstV XT23.here hx rfl (4 : Int32) (hb hby at_230) (by decide) k_) ?_
    show own_Go p e below _ T23 (mkF m 231 #[oI i0, oI i1, oI i2, oI i3, oI (1 : Int32), oD y1, .second, oD x3, .second, oD x5, .second, oD x7, .second, oD x9, .second, oD x11, .second, oD x13, .second, oD x16, .second, oR h0.size, .unset, .unset] [(.int (4 : Int32)), (.int (1 : Int32)), (.int ((((own_one (1 : Int32) (0 : Int32) y1 x16) + (own_one (1 : Int32) (1 : Int32) x3 x16)) + (own_one (1 : Int32) (2 : Int32) x5 x16)) + (own_one (1 : Int32) (3 : Int32) x7 x16)))])
    refine own_by (fun t_ k_ => XS.dload XT23.here hx rfl (hb hby at_231) rfl  k_) ?_
    show own_Go p e below _ T23 (mkF m 233 #[oI i0, oI i1, oI i2, oI i3, oI (1 : Int32), oD y1, .second, oD x3, .second, oD x5, .second, oD x7, .second, oD x9, .second, oD x11, .second, oD x13, .second, oD x16, .second, oR h0.size, .unset, .unset] [(.double x9), (.int (4 : Int32)), (.int (1 : Int32)), (.int ((((own_one (1 : Int32) (0 : Int32) y1 x16) + (own_one (1 : Int32) (1 : Int32) x3 x16)) + (own_one (1 : Int32) (2 : Int32) x5 x16)) + (own_one (1 : Int32) (3 : Int32) x7 x16)))])
    refine own_by (fun t_ k_ => XS.dload XT23.here hx rfl (hb hby at_233) rfl  k_) ?_
    show own_Go p e below _ T23 (mkF m 235 #[oI i0, oI i1, oI i2, oI i3, oI (1 : Int32), oD y1, .second, oD x3, .second, oD x5, .second, oD x7, .second, oD x9, .second, oD x11, .second, oD x13, .second, oD x16, .second, oR h0.size, .unset, .unset] [(.double x16), (.double x9), (.int (4 : Int32)), (.int (1 : Int32)), (.int ((((own_one (1 : Int32) (0 : Int32) y1 x16) + (own_one (1 : Int32) (1 : Int32) x3 x16)) + (own_one (1 : Int32) (2 : Int32) x5 x16)) + (own_one (1 : Int32) (3 : Int32) x7 x16)))])
    refine own_callS XT23 hx hZ hown (hw _ (List.mem_of_getElem? (i := 2) rfl)) (hw _ (List.mem_of_getElem? (i := 3) rfl)) (hw _ (List.mem_of_getElem? (i := 4) rfl)) (hw _ (List.mem_of_getElem? (i := 5) rfl)) (by decide) eT23 (argsL := [(.int (1 : Int32)), (.int (4 : Int32)), (.double x9), (.double x16)]) (rest := [(.int ((((own_one (1 : Int32) (0 : Int32) y1 x16) + (own_one (1 : Int32) (1 : Int32) x3 x16)) + (own_one (1 : Int32) (2 : Int32) x5 x16)) + (own_one (1 : Int32) (3 : Int32) x7 x16)))]) (own_one_met l Z a0 hw (1 : Int32) (4 : Int32) x9 x16 hT19) 1 (by decide) (by decide) (by rw [hml]; rfl) (lenOf pd_0 rfl) (Nat.le_of_eq rfl) (hb hby at_235) (by decide) (by decide) (st := [(.double x16), (.double x9), (.int (4 : Int32)), (.int (1 : Int32)), (.int ((((own_one (1 : Int32) (0 : Int32) y1 x16) + (own_one (1 : Int32) (1 : Int32) x3 x16)) + (own_one (1 : Int32) (2 : Int32) x5 x16)) + (own_one (1 : Int32) (3 : Int32) x7 x16)))]) rfl ?_
    intro T24 LT24 vT24 XT24 hQT24
    obtain ⟨rfl, eT24, rfl⟩ := hQT24
    show own_Go p e below _ T24 (mkF m 238 #[oI i0, oI i1, oI i2, oI i3, oI (1 : Int32), oD y1, .second, oD x3, .second, oD x5, .second, oD x7, .second, oD x9, .second, oD x11, .second, oD x13, .second, oD x16, .second, oR h0.size, .unset, .unset] [(.int (own_one (1 : Int32) (4 : Int32) x9 x16)), (.int ((((own_one (1 : Int32) (0 : Int32) y1 x16) + (own_one (1 : Int32) (1 : Int32) x3 x16)) + (own_one (1 : Int32) (2 : Int32) x5 x16)) + (own_one (1 : Int32) (3 : Int32) x7 x16)))])
    refine own_by (fun t_ k_ => XS.iadd XT24.here hx rfl (hb hby at_238) rfl k_) ?_
    show own_Go p e below _ T24 (mkF m 239 #[oI i0, oI i1, oI i2, oI i3, oI (1 : Int32), oD y1, .second, oD x3, .second, oD x5, .second, oD x7, .second, oD x9, .second, oD x11, .second, oD x13, .second, oD x16, .second, oR h0.size, .unset, .unset] [(.int (((((own_one (1 : Int32) (0 : Int32) y1 x16) + (own_one (1 : Int32) (1 : Int32) x3 x16)) + (own_one (1 : Int32) (2 : Int32) x5 x16)) + (own_one (1 : Int32) (3 : Int32) x7 x16)) + (own_one (1 : Int32) (4 : Int32) x9 x16)))])
    refine own_by (fun t_ k_ => XS.iload XT24.here hx rfl (hb hby at_239) rfl  k_) ?_
    show own_Go p e below _ T24 (mkF m 241 #[oI i0, oI i1, oI i2, oI i3, oI (1 : Int32), oD y1, .second, oD x3, .second, oD x5, .second, oD x7, .second, oD x9, .second, oD x11, .second, oD x13, .second, oD x16, .second, oR h0.size, .unset, .unset] [(.int (1 : Int32)), (.int (((((own_one (1 : Int32) (0 : Int32) y1 x16) + (own_one (1 : Int32) (1 : Int32) x3 x16)) + (own_one (1 : Int32) (2 : Int32) x5 x16)) + (own_one (1 : Int32) (3 : Int32) x7 x16)) + (own_one (1 : Int32) (4 : Int32) x9 x16)))])
    refine own_by (fun t_ k_ => XT.iconstV XT24.here hx rfl (5 : Int32) (hb hby at_241) (by decide) k_) ?_
    show own_Go p e below _ T24 (mkF m 242 #[oI i0, oI i1, oI i2, oI i3, oI (1 : Int32), oD y1, .second, oD x3, .second, oD x5, .second, oD x7, .second, oD x9, .second, oD x11, .second, oD x13, .second, oD x16, .second, oR h0.size, .unset, .unset] [(.int (5 : Int32)), (.int (1 : Int32)), (.int (((((own_one (1 : Int32) (0 : Int32) y1 x16) + (own_one (1 : Int32) (1 : Int32) x3 x16)) + (own_one (1 : Int32) (2 : Int32) x5 x16)) + (own_one (1 : Int32) (3 : Int32) x7 x16)) + (own_one (1 : Int32) (4 : Int32) x9 x16)))])
    refine own_by (fun t_ k_ => XS.dload XT24.here hx rfl (hb hby at_242) rfl  k_) ?_
    show own_Go p e below _ T24 (mkF m 244 #[oI i0, oI i1, oI i2, oI i3, oI (1 : Int32), oD y1, .second, oD x3, .second, oD x5, .second, oD x7, .second, oD x9, .second, oD x11, .second, oD x13, .second, oD x16, .second, oR h0.size, .unset, .unset] [(.double x11), (.int (5 : Int32)), (.int (1 : Int32)), (.int (((((own_one (1 : Int32) (0 : Int32) y1 x16) + (own_one (1 : Int32) (1 : Int32) x3 x16)) + (own_one (1 : Int32) (2 : Int32) x5 x16)) + (own_one (1 : Int32) (3 : Int32) x7 x16)) + (own_one (1 : Int32) (4 : Int32) x9 x16)))])
    refine own_by (fun t_ k_ => XS.dload XT24.here hx rfl (hb hby at_244) rfl  k_) ?_
    show own_Go p e below _ T24 (mkF m 246 #[oI i0, oI i1, oI i2, oI i3, oI (1 : Int32), oD y1, .second, oD x3, .second, oD x5, .second, oD x7, .second, oD x9, .second, oD x11, .second, oD x13, .second, oD x16, .second, oR h0.size, .unset, .unset] [(.double x16), (.double x11), (.int (5 : Int32)), (.int (1 : Int32)), (.int (((((own_one (1 : Int32) (0 : Int32) y1 x16) + (own_one (1 : Int32) (1 : Int32) x3 x16)) + (own_one (1 : Int32) (2 : Int32) x5 x16)) + (own_one (1 : Int32) (3 : Int32) x7 x16)) + (own_one (1 : Int32) (4 : Int32) x9 x16)))])
    refine own_callS XT24 hx hZ hown (hw _ (List.mem_of_getElem? (i := 2) rfl)) (hw _ (List.mem_of_getElem? (i := 3) rfl)) (hw _ (List.mem_of_getElem? (i := 4) rfl)) (hw _ (List.mem_of_getElem? (i := 5) rfl)) (by decide) eT24 (argsL := [(.int (1 : Int32)), (.int (5 : Int32)), (.double x11), (.double x16)]) (rest := [(.int (((((own_one (1 : Int32) (0 : Int32) y1 x16) + (own_one (1 : Int32) (1 : Int32) x3 x16)) + (own_one (1 : Int32) (2 : Int32) x5 x16)) + (own_one (1 : Int32) (3 : Int32) x7 x16)) + (own_one (1 : Int32) (4 : Int32) x9 x16)))]) (own_one_met l Z a0 hw (1 : Int32) (5 : Int32) x11 x16 hT19) 1 (by decide) (by decide) (by rw [hml]; rfl) (lenOf pd_0 rfl) (Nat.le_of_eq rfl) (hb hby at_246) (by decide) (by decide) (st := [(.double x16), (.double x11), (.int (5 : Int32)), (.int (1 : Int32)), (.int (((((own_one (1 : Int32) (0 : Int32) y1 x16) + (own_one (1 : Int32) (1 : Int32) x3 x16)) + (own_one (1 : Int32) (2 : Int32) x5 x16)) + (own_one (1 : Int32) (3 : Int32) x7 x16)) + (own_one (1 : Int32) (4 : Int32) x9 x16)))]) rfl ?_
    intro T25 LT25 vT25 XT25 hQT25
    obtain ⟨rfl, eT25, rfl⟩ := hQT25
    show own_Go p e below _ T25 (mkF m 249 #[oI i0, oI i1, oI i2, oI i3, oI (1 : Int32), oD y1, .second, oD x3, .second, oD x5, .second, oD x7, .second, oD x9, .second, oD x11, .second, oD x13, .second, oD x16, .second, oR h0.size, .unset, .unset] [(.int (own_one (1 : Int32) (5 : Int32) x11 x16)), (.int (((((own_one (1 : Int32) (0 : Int32) y1 x16) + (own_one (1 : Int32) (1 : Int32) x3 x16)) + (own_one (1 : Int32) (2 : Int32) x5 x16)) + (own_one (1 : Int32) (3 : Int32) x7 x16)) + (own_one (1 : Int32) (4 : Int32) x9 x16)))])
    refine own_by (fun t_ k_ => XS.iadd XT25.here hx rfl (hb hby at_249) rfl k_) ?_
    show own_Go p e below _ T25 (mkF m 250 #[oI i0, oI i1, oI i2, oI i3, oI (1 : Int32), oD y1, .second, oD x3, .second, oD x5, .second, oD x7, .second, oD x9, .second, oD x11, .second, oD x13, .second, oD x16, .second, oR h0.size, .unset, .unset] [(.int ((((((own_one (1 : Int32) (0 : Int32) y1 x16) + (own_one (1 : Int32) (1 : Int32) x3 x16)) + (own_one (1 : Int32) (2 : Int32) x5 x16)) + (own_one (1 : Int32) (3 : Int32) x7 x16)) + (own_one (1 : Int32) (4 : Int32) x9 x16)) + (own_one (1 : Int32) (5 : Int32) x11 x16)))])
    refine own_by (fun t_ k_ => XS.iload XT25.here hx rfl (hb hby at_250) rfl  k_) ?_
    show own_Go p e below _ T25 (mkF m 252 #[oI i0, oI i1, oI i2, oI i3, oI (1 : Int32), oD y1, .second, oD x3, .second, oD x5, .second, oD x7, .second, oD x9, .second, oD x11, .second, oD x13, .second, oD x16, .second, oR h0.size, .unset, .unset] [(.int (1 : Int32)), (.int ((((((own_one (1 : Int32) (0 : Int32) y1 x16) + (own_one (1 : Int32) (1 : Int32) x3 x16)) + (own_one (1 : Int32) (2 : Int32) x5 x16)) + (own_one (1 : Int32) (3 : Int32) x7 x16)) + (own_one (1 : Int32) (4 : Int32) x9 x16)) + (own_one (1 : Int32) (5 : Int32) x11 x16)))])
    refine own_by (fun t_ k_ => XT.bipushV XT25.here hx rfl (6 : Int32) (hb hby at_252) (by decide) k_) ?_
    show own_Go p e below _ T25 (mkF m 254 #[oI i0, oI i1, oI i2, oI i3, oI (1 : Int32), oD y1, .second, oD x3, .second, oD x5, .second, oD x7, .second, oD x9, .second, oD x11, .second, oD x13, .second, oD x16, .second, oR h0.size, .unset, .unset] [(.int (6 : Int32)), (.int (1 : Int32)), (.int ((((((own_one (1 : Int32) (0 : Int32) y1 x16) + (own_one (1 : Int32) (1 : Int32) x3 x16)) + (own_one (1 : Int32) (2 : Int32) x5 x16)) + (own_one (1 : Int32) (3 : Int32) x7 x16)) + (own_one (1 : Int32) (4 : Int32) x9 x16)) + (own_one (1 : Int32) (5 : Int32) x11 x16)))])
    refine own_by (fun t_ k_ => XS.dload XT25.here hx rfl (hb hby at_254) rfl  k_) ?_
    show own_Go p e below _ T25 (mkF m 256 #[oI i0, oI i1, oI i2, oI i3, oI (1 : Int32), oD y1, .second, oD x3, .second, oD x5, .second, oD x7, .second, oD x9, .second, oD x11, .second, oD x13, .second, oD x16, .second, oR h0.size, .unset, .unset] [(.double x13), (.int (6 : Int32)), (.int (1 : Int32)), (.int ((((((own_one (1 : Int32) (0 : Int32) y1 x16) + (own_one (1 : Int32) (1 : Int32) x3 x16)) + (own_one (1 : Int32) (2 : Int32) x5 x16)) + (own_one (1 : Int32) (3 : Int32) x7 x16)) + (own_one (1 : Int32) (4 : Int32) x9 x16)) + (own_one (1 : Int32) (5 : Int32) x11 x16)))])
    refine own_by (fun t_ k_ => XS.dload XT25.here hx rfl (hb hby at_256) rfl  k_) ?_
    show own_Go p e below _ T25 (mkF m 258 #[oI i0, oI i1, oI i2, oI i3, oI (1 : Int32), oD y1, .second, oD x3, .second, oD x5, .second, oD x7, .second, oD x9, .second, oD x11, .second, oD x13, .second, oD x16, .second, oR h0.size, .unset, .unset] [(.double x16), (.double x13), (.int (6 : Int32)), (.int (1 : Int32)), (.int ((((((own_one (1 : Int32) (0 : Int32) y1 x16) + (own_one (1 : Int32) (1 : Int32) x3 x16)) + (own_one (1 : Int32) (2 : Int32) x5 x16)) + (own_one (1 : Int32) (3 : Int32) x7 x16)) + (own_one (1 : Int32) (4 : Int32) x9 x16)) + (own_one (1 : Int32) (5 : Int32) x11 x16)))])
    refine own_callS XT25 hx hZ hown (hw _ (List.mem_of_getElem? (i := 2) rfl)) (hw _ (List.mem_of_getElem? (i := 3) rfl)) (hw _ (List.mem_of_getElem? (i := 4) rfl)) (hw _ (List.mem_of_getElem? (i := 5) rfl)) (by decide) eT25 (argsL := [(.int (1 : Int32)), (.int (6 : Int32)), (.double x13), (.double x16)]) (rest := [(.int ((((((own_one (1 : Int32) (0 : Int32) y1 x16) + (own_one (1 : Int32) (1 : Int32) x3 x16)) + (own_one (1 : Int32) (2 : Int32) x5 x16)) + (own_one (1 : Int32) (3 : Int32) x7 x16)) + (own_one (1 : Int32) (4 : Int32) x9 x16)) + (own_one (1 : Int32) (5 : Int32) x11 x16)))]) (own_one_met l Z a0 hw (1 : Int32) (6 : Int32) x13 x16 hT19) 1 (by decide) (by decide) (by rw [hml]; rfl) (lenOf pd_0 rfl) (Nat.le_of_eq rfl) (hb hby at_258) (by decide) (by decide) (st := [(.double x16), (.double x13), (.int (6 : Int32)), (.int (1 : Int32)), (.int ((((((own_one (1 : Int32) (0 : Int32) y1 x16) + (own_one (1 : Int32) (1 : Int32) x3 x16)) + (own_one (1 : Int32) (2 : Int32) x5 x16)) + (own_one (1 : Int32) (3 : Int32) x7 x16)) + (own_one (1 : Int32) (4 : Int32) x9 x16)) + (own_one (1 : Int32) (5 : Int32) x11 x16)))]) rfl ?_
    intro T26 LT26 vT26 XT26 hQT26
    obtain ⟨rfl, eT26, rfl⟩ := hQT26
    show own_Go p e below _ T26 (mkF m 261 #[oI i0, oI i1, oI i2, oI i3, oI (1 : Int32), oD y1, .second, oD x3, .second, oD x5, .second, oD x7, .second, oD x9, .second, oD x11, .second, oD x13, .second, oD x16, .second, oR h0.size, .unset, .unset] [(.int (own_one (1 : Int32) (6 : Int32) x13 x16)), (.int ((((((own_one (1 : Int32) (0 : Int32) y1 x16) + (own_one (1 : Int32) (1 : Int32) x3 x16)) + (own_one (1 : Int32) (2 : Int32) x5 x16)) + (own_one (1 : Int32) (3 : Int32) x7 x16)) + (own_one (1 : Int32) (4 : Int32) x9 x16)) + (own_one (1 : Int32) (5 : Int32) x11 x16)))])
    refine own_by (fun t_ k_ => XS.iadd XT26.here hx rfl (hb hby at_261) rfl k_) ?_
    show own_Go p e below _ T26 (mkF m 262 #[oI i0, oI i1, oI i2, oI i3, oI (1 : Int32), oD y1, .second, oD x3, .second, oD x5, .second, oD x7, .second, oD x9, .second, oD x11, .second, oD x13, .second, oD x16, .second, oR h0.size, .unset, .unset] [(.int (((((((own_one (1 : Int32) (0 : Int32) y1 x16) + (own_one (1 : Int32) (1 : Int32) x3 x16)) + (own_one (1 : Int32) (2 : Int32) x5 x16)) + (own_one (1 : Int32) (3 : Int32) x7 x16)) + (own_one (1 : Int32) (4 : Int32) x9 x16)) + (own_one (1 : Int32) (5 : Int32) x11 x16)) + (own_one (1 : Int32) (6 : Int32) x13 x16)))])
    refine own_by (fun t_ k_ => XS.istore XT26.here hx rfl (hb hby at_262) rfl (l' := #[oI i0, oI i1, oI i2, oI i3, oI (1 : Int32), oD y1, .second, oD x3, .second, oD x5, .second, oD x7, .second, oD x9, .second, oD x11, .second, oD x13, .second, oD x16, .second, oR h0.size, oI (((((((own_one (1 : Int32) (0 : Int32) y1 x16) + (own_one (1 : Int32) (1 : Int32) x3 x16)) + (own_one (1 : Int32) (2 : Int32) x5 x16)) + (own_one (1 : Int32) (3 : Int32) x7 x16)) + (own_one (1 : Int32) (4 : Int32) x9 x16)) + (own_one (1 : Int32) (5 : Int32) x11 x16)) + (own_one (1 : Int32) (6 : Int32) x13 x16)), .unset]) rfl k_) ?_
    show own_Go p e below _ T26 (mkF m 264 #[oI i0, oI i1, oI i2, oI i3, oI (1 : Int32), oD y1, .second, oD x3, .second, oD x5, .second, oD x7, .second, oD x9, .second, oD x11, .second, oD x13, .second, oD x16, .second, oR h0.size, oI (((((((own_one (1 : Int32) (0 : Int32) y1 x16) + (own_one (1 : Int32) (1 : Int32) x3 x16)) + (own_one (1 : Int32) (2 : Int32) x5 x16)) + (own_one (1 : Int32) (3 : Int32) x7 x16)) + (own_one (1 : Int32) (4 : Int32) x9 x16)) + (own_one (1 : Int32) (5 : Int32) x11 x16)) + (own_one (1 : Int32) (6 : Int32) x13 x16)), .unset] [])
    refine own_by (fun t_ k_ => XS.aload XT26.here hx rfl (hb hby at_264) rfl rfl  k_) ?_
    show own_Go p e below _ T26 (mkF m 266 #[oI i0, oI i1, oI i2, oI i3, oI (1 : Int32), oD y1, .second, oD x3, .second, oD x5, .second, oD x7, .second, oD x9, .second, oD x11, .second, oD x13, .second, oD x16, .second, oR h0.size, oI (((((((own_one (1 : Int32) (0 : Int32) y1 x16) + (own_one (1 : Int32) (1 : Int32) x3 x16)) + (own_one (1 : Int32) (2 : Int32) x5 x16)) + (own_one (1 : Int32) (3 : Int32) x7 x16)) + (own_one (1 : Int32) (4 : Int32) x9 x16)) + (own_one (1 : Int32) (5 : Int32) x11 x16)) + (own_one (1 : Int32) (6 : Int32) x13 x16)), .unset] [(.ref h0.size)])
    refine own_by (fun t_ k_ => XS.dload XT26.here hx rfl (hb hby at_266) rfl  k_) ?_
    show own_Go p e below _ T26 (mkF m 268 #[oI i0, oI i1, oI i2, oI i3, oI (1 : Int32), oD y1, .second, oD x3, .second, oD x5, .second, oD x7, .second, oD x9, .second, oD x11, .second, oD x13, .second, oD x16, .second, oR h0.size, oI (((((((own_one (1 : Int32) (0 : Int32) y1 x16) + (own_one (1 : Int32) (1 : Int32) x3 x16)) + (own_one (1 : Int32) (2 : Int32) x5 x16)) + (own_one (1 : Int32) (3 : Int32) x7 x16)) + (own_one (1 : Int32) (4 : Int32) x9 x16)) + (own_one (1 : Int32) (5 : Int32) x11 x16)) + (own_one (1 : Int32) (6 : Int32) x13 x16)), .unset] [(.double x16), (.ref h0.size)])
    refine own_callS XT26 hx hZ hown (hw _ (List.mem_of_getElem? (i := 6) rfl)) (hw _ (List.mem_of_getElem? (i := 7) rfl)) (hw _ (List.mem_of_getElem? (i := 8) rfl)) (hw _ (List.mem_of_getElem? (i := 9) rfl)) (by decide) eT26 (argsL := [(.ref h0.size), (.double x16)]) (rest := []) (own_cb1_met l Z a0 hw h0.size x16 kA y1 hT19 VT19) 0 (by decide) (by decide) (by rw [hml]; rfl) (lenOf pd_1 rfl) (Nat.le_of_eq rfl) (hb hby at_268) (by decide) (by decide) (st := [(.double x16), (.ref h0.size)]) rfl ?_
    intro T27 LT27 vT27 XT27 hQT27
    obtain ⟨rfl, eT27, rfl⟩ := hQT27
    show own_Go p e below _ T27 (mkF m 271 #[oI i0, oI i1, oI i2, oI i3, oI (1 : Int32), oD y1, .second, oD x3, .second, oD x5, .second, oD x7, .second, oD x9, .second, oD x11, .second, oD x13, .second, oD x16, .second, oR h0.size, oI (((((((own_one (1 : Int32) (0 : Int32) y1 x16) + (own_one (1 : Int32) (1 : Int32) x3 x16)) + (own_one (1 : Int32) (2 : Int32) x5 x16)) + (own_one (1 : Int32) (3 : Int32) x7 x16)) + (own_one (1 : Int32) (4 : Int32) x9 x16)) + (own_one (1 : Int32) (5 : Int32) x11 x16)) + (own_one (1 : Int32) (6 : Int32) x13 x16)), .unset] [(.int (own_cb1 h0.size x16 kA y1))])
    refine own_by (fun t_ k_ => XS.istore XT27.here hx rfl (hb hby at_271) rfl (l' := #[oI i0, oI i1, oI i2, oI i3, oI (1 : Int32), oD y1, .second, oD x3, .second, oD x5, .second, oD x7, .second, oD x9, .second, oD x11, .second, oD x13, .second, oD x16, .second, oR h0.size, oI (((((((own_one (1 : Int32) (0 : Int32) y1 x16) + (own_one (1 : Int32) (1 : Int32) x3 x16)) + (own_one (1 : Int32) (2 : Int32) x5 x16)) + (own_one (1 : Int32) (3 : Int32) x7 x16)) + (own_one (1 : Int32) (4 : Int32) x9 x16)) + (own_one (1 : Int32) (5 : Int32) x11 x16)) + (own_one (1 : Int32) (6 : Int32) x13 x16)), oI (own_cb1 h0.size x16 kA y1)]) rfl k_) ?_
    show own_Go p e below _ T27 (mkF m 273 #[oI i0, oI i1, oI i2, oI i3, oI (1 : Int32), oD y1, .second, oD x3, .second, oD x5, .second, oD x7, .second, oD x9, .second, oD x11, .second, oD x13, .second, oD x16, .second, oR h0.size, oI (((((((own_one (1 : Int32) (0 : Int32) y1 x16) + (own_one (1 : Int32) (1 : Int32) x3 x16)) + (own_one (1 : Int32) (2 : Int32) x5 x16)) + (own_one (1 : Int32) (3 : Int32) x7 x16)) + (own_one (1 : Int32) (4 : Int32) x9 x16)) + (own_one (1 : Int32) (5 : Int32) x11 x16)) + (own_one (1 : Int32) (6 : Int32) x13 x16)), oI (own_cb1 h0.size x16 kA y1)] [])
    refine own_by (fun t_ k_ => XS.iload XT27.here hx rfl (hb hby at_273) rfl  k_) ?_
    show own_Go p e below _ T27 (mkF m 275 #[oI i0, oI i1, oI i2, oI i3, oI (1 : Int32), oD y1, .second, oD x3, .second, oD x5, .second, oD x7, .second, oD x9, .second, oD x11, .second, oD x13, .second, oD x16, .second, oR h0.size, oI (((((((own_one (1 : Int32) (0 : Int32) y1 x16) + (own_one (1 : Int32) (1 : Int32) x3 x16)) + (own_one (1 : Int32) (2 : Int32) x5 x16)) + (own_one (1 : Int32) (3 : Int32) x7 x16)) + (own_one (1 : Int32) (4 : Int32) x9 x16)) + (own_one (1 : Int32) (5 : Int32) x11 x16)) + (own_one (1 : Int32) (6 : Int32) x13 x16)), oI (own_cb1 h0.size x16 kA y1)] [(.int (own_cb1 h0.size x16 kA y1))])
    refine own_by (fun t_ k_ => XS.iload XT27.here hx rfl (hb hby at_275) rfl  k_) ?_
    show own_Go p e below _ T27 (mkF m 277 #[oI i0, oI i1, oI i2, oI i3, oI (1 : Int32), oD y1, .second, oD x3, .second, oD x5, .second, oD x7, .second, oD x9, .second, oD x11, .second, oD x13, .second, oD x16, .second, oR h0.size, oI (((((((own_one (1 : Int32) (0 : Int32) y1 x16) + (own_one (1 : Int32) (1 : Int32) x3 x16)) + (own_one (1 : Int32) (2 : Int32) x5 x16)) + (own_one (1 : Int32) (3 : Int32) x7 x16)) + (own_one (1 : Int32) (4 : Int32) x9 x16)) + (own_one (1 : Int32) (5 : Int32) x11 x16)) + (own_one (1 : Int32) (6 : Int32) x13 x16)), oI (own_cb1 h0.size x16 kA y1)] [(.int (((((((own_one (1 : Int32) (0 : Int32) y1 x16) + (own_one (1 : Int32) (1 : Int32) x3 x16)) + (own_one (1 : Int32) (2 : Int32) x5 x16)) + (own_one (1 : Int32) (3 : Int32) x7 x16)) + (own_one (1 : Int32) (4 : Int32) x9 x16)) + (own_one (1 : Int32) (5 : Int32) x11 x16)) + (own_one (1 : Int32) (6 : Int32) x13 x16))), (.int (own_cb1 h0.size x16 kA y1))])
    have C0 := own_D_cmp (own_D_up Dy1 1) D8
    simp only [show ((2 ^ 1 : Nat) : Int) = 2 from rfl] at C0
    have hfin : (own_cb1 h0.size x16 kA y1) = (((((((own_one (1 : Int32) (0 : Int32) y1 x16) + (own_one (1 : Int32) (1 : Int32) x3 x16)) + (own_one (1 : Int32) (2 : Int32) x5 x16)) + (own_one (1 : Int32) (3 : Int32) x7 x16)) + (own_one (1 : Int32) (4 : Int32) x9 x16)) + (own_one (1 : Int32) (5 : Int32) x11 x16)) + (own_one (1 : Int32) (6 : Int32) x13 x16)) := by
      by_cases q0 : (0 : Int32) < (cmpValue (FP.dcmp y1 x16) .g)
      · have c0 : (0 : Int32) < (cmpValue (FP.dcmp y1 x16) .g) := q0
        rw [show own_cb1 h0.size x16 kA y1 = (0 : Int32) by rw [own_cb1, if_pos c0], show own_one (1 : Int32) (0 : Int32) y1 x16 = (0 : Int32) by rw [own_one, if_pos (by decide), if_pos c0], show own_one (1 : Int32) (1 : Int32) x3 x16 = (0 : Int32) by rw [own_one, if_neg (by decide)], show own_one (1 : Int32) (2 : Int32) x5 x16 = (0 : Int32) by rw [own_one, if_neg (by decide)], show own_one (1 : Int32) (3 : Int32) x7 x16 = (0 : Int32) by rw [own_one, if_neg (by decide)], show own_one (1 : Int32) (4 : Int32) x9 x16 = (0 : Int32) by rw [own_one, if_neg (by decide)], show own_one (1 : Int32) (5 : Int32) x11 x16 = (0 : Int32) by rw [own_one, if_neg (by decide)], show own_one (1 : Int32) (6 : Int32) x13 x16 = (0 : Int32) by rw [own_one, if_neg (by decide)]]
        decide
      · have c0 : ¬ (0 : Int32) < (cmpValue (FP.dcmp y1 x16) .g) := q0
        rw [show own_cb1 h0.size x16 kA y1 = (1 : Int32) by rw [own_cb1, if_neg c0], show own_one (1 : Int32) (0 : Int32) y1 x16 = (1 : Int32) by rw [own_one, if_pos (by decide), if_neg c0], show own_one (1 : Int32) (1 : Int32) x3 x16 = (0 : Int32) by rw [own_one, if_neg (by decide)], show own_one (1 : Int32) (2 : Int32) x5 x16 = (0 : Int32) by rw [own_one, if_neg (by decide)], show own_one (1 : Int32) (3 : Int32) x7 x16 = (0 : Int32) by rw [own_one, if_neg (by decide)], show own_one (1 : Int32) (4 : Int32) x9 x16 = (0 : Int32) by rw [own_one, if_neg (by decide)], show own_one (1 : Int32) (5 : Int32) x11 x16 = (0 : Int32) by rw [own_one, if_neg (by decide)], show own_one (1 : Int32) (6 : Int32) x13 x16 = (0 : Int32) by rw [own_one, if_neg (by decide)]]
        decide
    refine own_by (fun t_ k_ => XS.icmpNo XT27.here hx rfl (hb hby at_277) rfl (XT.ii_ne_f hfin) k_) ?_
    show own_Go p e below _ T27 (mkF m 280 #[oI i0, oI i1, oI i2, oI i3, oI (1 : Int32), oD y1, .second, oD x3, .second, oD x5, .second, oD x7, .second, oD x9, .second, oD x11, .second, oD x13, .second, oD x16, .second, oR h0.size, oI (((((((own_one (1 : Int32) (0 : Int32) y1 x16) + (own_one (1 : Int32) (1 : Int32) x3 x16)) + (own_one (1 : Int32) (2 : Int32) x5 x16)) + (own_one (1 : Int32) (3 : Int32) x7 x16)) + (own_one (1 : Int32) (4 : Int32) x9 x16)) + (own_one (1 : Int32) (5 : Int32) x11 x16)) + (own_one (1 : Int32) (6 : Int32) x13 x16)), oI (own_cb1 h0.size x16 kA y1)] [])
    refine own_by (fun t_ k_ => XT.iconstV XT27.here hx rfl (1 : Int32) (hb hby at_280) (by decide) k_) ?_
    show own_Go p e below _ T27 (mkF m 281 #[oI i0, oI i1, oI i2, oI i3, oI (1 : Int32), oD y1, .second, oD x3, .second, oD x5, .second, oD x7, .second, oD x9, .second, oD x11, .second, oD x13, .second, oD x16, .second, oR h0.size, oI (((((((own_one (1 : Int32) (0 : Int32) y1 x16) + (own_one (1 : Int32) (1 : Int32) x3 x16)) + (own_one (1 : Int32) (2 : Int32) x5 x16)) + (own_one (1 : Int32) (3 : Int32) x7 x16)) + (own_one (1 : Int32) (4 : Int32) x9 x16)) + (own_one (1 : Int32) (5 : Int32) x11 x16)) + (own_one (1 : Int32) (6 : Int32) x13 x16)), oI (own_cb1 h0.size x16 kA y1)] [(.int (1 : Int32))])
    refine own_by (fun t_ k_ => XS.goto XT27.here hx rfl (pc0 := 281) (pc' := 285) rfl (hb hby at_281) (by decide) (by decide) k_) ?_
    show own_Go p e below _ T27 (mkF m 285 #[oI i0, oI i1, oI i2, oI i3, oI (1 : Int32), oD y1, .second, oD x3, .second, oD x5, .second, oD x7, .second, oD x9, .second, oD x11, .second, oD x13, .second, oD x16, .second, oR h0.size, oI (((((((own_one (1 : Int32) (0 : Int32) y1 x16) + (own_one (1 : Int32) (1 : Int32) x3 x16)) + (own_one (1 : Int32) (2 : Int32) x5 x16)) + (own_one (1 : Int32) (3 : Int32) x7 x16)) + (own_one (1 : Int32) (4 : Int32) x9 x16)) + (own_one (1 : Int32) (5 : Int32) x11 x16)) + (own_one (1 : Int32) (6 : Int32) x13 x16)), oI (own_cb1 h0.size x16 kA y1)] [(.int (1 : Int32))])
    exact own_retN XT27 hx hlk hret (by simp) (w := (1 : Int32)) (hb hby at_285) (by decide) (by decide) (by decide) (⟨rfl, own_fr0 NT19⟩)
  · rw [hk]
    show own_Go p e below _ T0 (mkF m 94 #[oI i0, oI i1, oI i2, oI i3, oI (2 : Int32), oD y1, .second, oD x3, .second, oD x5, .second, oD x7, .second, oD x9, .second, oD x11, .second, oD x13, .second, oD x16, .second, .unset, .unset, .unset] [])
    refine own_by (fun t_ k_ => XS.iload X0.here hx rfl (hb hby at_94) rfl  k_) ?_
    show own_Go p e below _ T0 (mkF m 96 #[oI i0, oI i1, oI i2, oI i3, oI (2 : Int32), oD y1, .second, oD x3, .second, oD x5, .second, oD x7, .second, oD x9, .second, oD x11, .second, oD x13, .second, oD x16, .second, .unset, .unset, .unset] [(.int (2 : Int32))])
    refine own_newP X0 hx hZ (aty := .double) (hw _ (List.mem_of_getElem? (i := 1) rfl)) e0 (hb hby at_96) 2 2 (by decide) (by decide) (by decide) (by decide) (by decide) (by decide) ?_
    intro T28 hT28 kA XT28 eT28 ET28 YT28
    have VT28 : own_A Z hT28 h0.size .double kA [(.double 0), (.double 0)] := YT28
    have NT28 := Fr.nil h0.size
    clear YT28
    show own_Go p e below _ T28 (mkF m 98 #[oI i0, oI i1, oI i2, oI i3, oI (2 : Int32), oD y1, .second, oD x3, .second, oD x5, .second, oD x7, .second, oD x9, .second, oD x11, .second, oD x13, .second, oD x16, .second, .unset, .unset, .unset] [(.ref h0.size)])
    refine own_by (fun t_ k_ => XS.astore XT28.here hx rfl (hb hby at_98) rfl rfl (l' := #[oI i0, oI i1, oI i2, oI i3, oI (2 : Int32), oD y1, .second, oD x3, .second, oD x5, .second, oD x7, .second, oD x9, .second, oD x11, .second, oD x13, .second, oD x16, .second, oR h0.size, .unset, .unset]) rfl k_) ?_
    show own_Go p e below _ T28 (mkF m 100 #[oI i0, oI i1, oI i2, oI i3, oI (2 : Int32), oD y1, .second, oD x3, .second, oD x5, .second, oD x7, .second, oD x9, .second, oD x11, .second, oD x13, .second, oD x16, .second, oR h0.size, .unset, .unset] [])
    refine own_by (fun t_ k_ => XS.iload XT28.here hx rfl (hb hby at_100) rfl  k_) ?_
    show own_Go p e below _ T28 (mkF m 102 #[oI i0, oI i1, oI i2, oI i3, oI (2 : Int32), oD y1, .second, oD x3, .second, oD x5, .second, oD x7, .second, oD x9, .second, oD x11, .second, oD x13, .second, oD x16, .second, oR h0.size, .unset, .unset] [(.int (2 : Int32))])
    refine own_by (fun t_ k_ => XS.ifNo XT28.here hx rfl (hb hby at_102) rfl (XT.i0_le_f (by decide)) k_) ?_
    show own_Go p e below _ T28 (mkF m 105 #[oI i0, oI i1, oI i2, oI i3, oI (2 : Int32), oD y1, .second, oD x3, .second, oD x5, .second, oD x7, .second, oD x9, .second, oD x11, .second, oD x13, .second, oD x16, .second, oR h0.size, .unset, .unset] [])
    refine own_by (fun t_ k_ => XS.aload XT28.here hx rfl (hb hby at_105) rfl rfl  k_) ?_
    show own_Go p e below _ T28 (mkF m 107 #[oI i0, oI i1, oI i2, oI i3, oI (2 : Int32), oD y1, .second, oD x3, .second, oD x5, .second, oD x7, .second, oD x9, .second, oD x11, .second, oD x13, .second, oD x16, .second, oR h0.size, .unset, .unset] [(.ref h0.size)])
    refine own_by (fun t_ k_ => XT.iconstV XT28.here hx rfl (0 : Int32) (hb hby at_107) (by decide) k_) ?_
    show own_Go p e below _ T28 (mkF m 108 #[oI i0, oI i1, oI i2, oI i3, oI (2 : Int32), oD y1, .second, oD x3, .second, oD x5, .second, oD x7, .second, oD x9, .second, oD x11, .second, oD x13, .second, oD x16, .second, oR h0.size, .unset, .unset] [(.int (0 : Int32)), (.ref h0.size)])
    refine own_by (fun t_ k_ => XS.dload XT28.here hx rfl (hb hby at_108) rfl  k_) ?_
    show own_Go p e below _ T28 (mkF m 110 #[oI i0, oI i1, oI i2, oI i3, oI (2 : Int32), oD y1, .second, oD x3, .second, oD x5, .second, oD x7, .second, oD x9, .second, oD x11, .second, oD x13, .second, oD x16, .second, oR h0.size, .unset, .unset] [(.double y1), (.int (0 : Int32)), (.ref h0.size)])
    refine own_stD XT28 hx hZ eT28 VT28 0 (by decide) (by decide) (by simp) (hb hby at_110) ?_
    intro T29 hT29 XT29 eT29 WT29 YT29
    have VT29 : own_A Z hT29 h0.size .double kA [(.double y1), (.double 0)] := YT29
    have NT29 := own_frs (i := 0) NT28 (Nat.le_refl h0.size)
    clear YT29
    show own_Go p e below _ T29 (mkF m 111 #[oI i0, oI i1, oI i2, oI i3, oI (2 : Int32), oD y1, .second, oD x3, .second, oD x5, .second, oD x7, .second, oD x9, .second, oD x11, .second, oD x13, .second, oD x16, .second, oR h0.size, .unset, .unset] [])
    refine own_by (fun t_ k_ => XS.iload XT29.here hx rfl (hb hby at_111) rfl  k_) ?_
    show own_Go p e below _ T29 (mkF m 113 #[oI i0, oI i1, oI i2, oI i3, oI (2 : Int32), oD y1, .second, oD x3, .second, oD x5, .second, oD x7, .second, oD x9, .second, oD x11, .second, oD x13, .second, oD x16, .second, oR h0.size, .unset, .unset] [(.int (2 : Int32))])
    refine own_by (fun t_ k_ => XT.iconstV XT29.here hx rfl (1 : Int32) (hb hby at_113) (by decide) k_) ?_
    show own_Go p e below _ T29 (mkF m 114 #[oI i0, oI i1, oI i2, oI i3, oI (2 : Int32), oD y1, .second, oD x3, .second, oD x5, .second, oD x7, .second, oD x9, .second, oD x11, .second, oD x13, .second, oD x16, .second, oR h0.size, .unset, .unset] [(.int (1 : Int32)), (.int (2 : Int32))])
    refine own_by (fun t_ k_ => XS.icmpNo XT29.here hx rfl (hb hby at_114) rfl (XT.ii_le_f (by decide)) k_) ?_
    show own_Go p e below _ T29 (mkF m 117 #[oI i0, oI i1, oI i2, oI i3, oI (2 : Int32), oD y1, .second, oD x3, .second, oD x5, .second, oD x7, .second, oD x9, .second, oD x11, .second, oD x13, .second, oD x16, .second, oR h0.size, .unset, .unset] [])
    refine own_by (fun t_ k_ => XS.aload XT29.here hx rfl (hb hby at_117) rfl rfl  k_) ?_
    show own_Go p e below _ T29 (mkF m 119 #[oI i0, oI i1, oI i2, oI i3, oI (2 : Int32), oD y1, .second, oD x3, .second, oD x5, .second, oD x7, .second, oD x9, .second, oD x11, .second, oD x13, .second, oD x16, .second, oR h0.size, .unset, .unset] [(.ref h0.size)])
    refine own_by (fun t_ k_ => XT.iconstV XT29.here hx rfl (1 : Int32) (hb hby at_119) (by decide) k_) ?_
    show own_Go p e below _ T29 (mkF m 120 #[oI i0, oI i1, oI i2, oI i3, oI (2 : Int32), oD y1, .second, oD x3, .second, oD x5, .second, oD x7, .second, oD x9, .second, oD x11, .second, oD x13, .second, oD x16, .second, oR h0.size, .unset, .unset] [(.int (1 : Int32)), (.ref h0.size)])
    refine own_by (fun t_ k_ => XS.dload XT29.here hx rfl (hb hby at_120) rfl  k_) ?_
    show own_Go p e below _ T29 (mkF m 122 #[oI i0, oI i1, oI i2, oI i3, oI (2 : Int32), oD y1, .second, oD x3, .second, oD x5, .second, oD x7, .second, oD x9, .second, oD x11, .second, oD x13, .second, oD x16, .second, oR h0.size, .unset, .unset] [(.double x3), (.int (1 : Int32)), (.ref h0.size)])
    refine own_stD XT29 hx hZ eT29 VT29 1 (by decide) (by decide) (by simp) (hb hby at_122) ?_
    intro T30 hT30 XT30 eT30 WT30 YT30
    have VT30 : own_A Z hT30 h0.size .double kA [(.double y1), (.double x3)] := YT30
    have NT30 := own_frs (i := 1) NT29 (Nat.le_refl h0.size)
    clear YT30
    show own_Go p e below _ T30 (mkF m 123 #[oI i0, oI i1, oI i2, oI i3, oI (2 : Int32), oD y1, .second, oD x3, .second, oD x5, .second, oD x7, .second, oD x9, .second, oD x11, .second, oD x13, .second, oD x16, .second, oR h0.size, .unset, .unset] [])
    refine own_by (fun t_ k_ => XS.iload XT30.here hx rfl (hb hby at_123) rfl  k_) ?_
    show own_Go p e below _ T30 (mkF m 125 #[oI i0, oI i1, oI i2, oI i3, oI (2 : Int32), oD y1, .second, oD x3, .second, oD x5, .second, oD x7, .second, oD x9, .second, oD x11, .second, oD x13, .second, oD x16, .second, oR h0.size, .unset, .unset] [(.int (2 : Int32))])
    refine own_by (fun t_ k_ => XT.iconstV XT30.here hx rfl (2 : Int32) (hb hby at_125) (by decide) k_) ?_
    show own_Go p e below _ T30 (mkF m 126 #[oI i0, oI i1, oI i2, oI i3, oI (2 : Int32), oD y1, .second, oD x3, .second, oD x5, .second, oD x7, .second, oD x9, .second, oD x11, .second, oD x13, .second, oD x16, .second, oR h0.size, .unset, .unset] [(.int (2 : Int32)), (.int (2 : Int32))])
    refine own_by (fun t_ k_ => XS.icmpYes XT30.here hx rfl (pc0 := 126) (pc' := 135) rfl (hb hby at_126) rfl (XT.ii_le_t (by decide)) (by decide) (by decide) k_) ?_
    show own_Go p e below _ T30 (mkF m 135 #[oI i0, oI i1, oI i2, oI i3, oI (2 : Int32), oD y1, .second, oD x3, .second, oD x5, .second, oD x7, .second, oD x9, .second, oD x11, .second, oD x13, .second, oD x16, .second, oR h0.size, .unset, .unset] [])
    refine own_by (fun t_ k_ => XS.iload XT30.here hx rfl (hb hby at_135) rfl  k_) ?_
    show own_Go p e below _ T30 (mkF m 137 #[oI i0, oI i1, oI i2, oI i3, oI (2 : Int32), oD y1, .second, oD x3, .second, oD x5, .second, oD x7, .second, oD x9, .second, oD x11, .second, oD x13, .second, oD x16, .second, oR h0.size, .unset, .unset] [(.int (2 : Int32))])
    refine own_by (fun t_ k_ => XT.iconstV XT30.here hx rfl (3 : Int32) (hb hby at_137) (by decide) k_) ?_
    show own_Go p e below _ T30 (mkF m 138 #[oI i0, oI i1, oI i2, oI i3, oI (2 : Int32), oD y1, .second, oD x3, .second, oD x5, .second, oD x7, .second, oD x9, .second, oD x11, .second, oD x13, .second, oD x16, .second, oR h0.size, .unset, .unset] [(.int (3 : Int32)), (.int (2 : Int32))])
    refine own_by (fun t_ k_ => XS.icmpYes XT30.here hx rfl (pc0 := 138) (pc' := 147) rfl (hb hby at_138) rfl (XT.ii_le_t (by decide)) (by decide) (by decide) k_) ?_
    show own_Go p e below _ T30 (mkF m 147 #[oI i0, oI i1, oI i2, oI i3, oI (2 : Int32), oD y1, .second, oD x3, .second, oD x5, .second, oD x7, .second, oD x9, .second, oD x11, .second, oD x13, .second, oD x16, .second, oR h0.size, .unset, .unset] [])
    refine own_by (fun t_ k_ => XS.iload XT30.here hx rfl (hb hby at_147) rfl  k_) ?_
    show own_Go p e below _ T30 (mkF m 149 #[oI i0, oI i1, oI i2, oI i3, oI (2 : Int32), oD y1, .second, oD x3, .second, oD x5, .second, oD x7, .second, oD x9, .second, oD x11, .second, oD x13, .second, oD x16, .second, oR h0.size, .unset, .unset] [(.int (2 : Int32))])
    refine own_by (fun t_ k_ => XT.iconstV XT30.here hx rfl (4 : Int32) (hb hby at_149) (by decide) k_) ?_
    show own_Go p e below _ T30 (mkF m 150 #[oI i0, oI i1, oI i2, oI i3, oI (2 : Int32), oD y1, .second, oD x3, .second, oD x5, .second, oD x7, .second, oD x9, .second, oD x11, .second, oD x13, .second, oD x16, .second, oR h0.size, .unset, .unset] [(.int (4 : Int32)), (.int (2 : Int32))])
    refine own_by (fun t_ k_ => XS.icmpYes XT30.here hx rfl (pc0 := 150) (pc' := 159) rfl (hb hby at_150) rfl (XT.ii_le_t (by decide)) (by decide) (by decide) k_) ?_
    show own_Go p e below _ T30 (mkF m 159 #[oI i0, oI i1, oI i2, oI i3, oI (2 : Int32), oD y1, .second, oD x3, .second, oD x5, .second, oD x7, .second, oD x9, .second, oD x11, .second, oD x13, .second, oD x16, .second, oR h0.size, .unset, .unset] [])
    refine own_by (fun t_ k_ => XS.iload XT30.here hx rfl (hb hby at_159) rfl  k_) ?_
    show own_Go p e below _ T30 (mkF m 161 #[oI i0, oI i1, oI i2, oI i3, oI (2 : Int32), oD y1, .second, oD x3, .second, oD x5, .second, oD x7, .second, oD x9, .second, oD x11, .second, oD x13, .second, oD x16, .second, oR h0.size, .unset, .unset] [(.int (2 : Int32))])
    refine own_by (fun t_ k_ => XT.iconstV XT30.here hx rfl (5 : Int32) (hb hby at_161) (by decide) k_) ?_
    show own_Go p e below _ T30 (mkF m 162 #[oI i0, oI i1, oI i2, oI i3, oI (2 : Int32), oD y1, .second, oD x3, .second, oD x5, .second, oD x7, .second, oD x9, .second, oD x11, .second, oD x13, .second, oD x16, .second, oR h0.size, .unset, .unset] [(.int (5 : Int32)), (.int (2 : Int32))])
    refine own_by (fun t_ k_ => XS.icmpYes XT30.here hx rfl (pc0 := 162) (pc' := 171) rfl (hb hby at_162) rfl (XT.ii_le_t (by decide)) (by decide) (by decide) k_) ?_
    show own_Go p e below _ T30 (mkF m 171 #[oI i0, oI i1, oI i2, oI i3, oI (2 : Int32), oD y1, .second, oD x3, .second, oD x5, .second, oD x7, .second, oD x9, .second, oD x11, .second, oD x13, .second, oD x16, .second, oR h0.size, .unset, .unset] [])
    refine own_by (fun t_ k_ => XS.iload XT30.here hx rfl (hb hby at_171) rfl  k_) ?_
    show own_Go p e below _ T30 (mkF m 173 #[oI i0, oI i1, oI i2, oI i3, oI (2 : Int32), oD y1, .second, oD x3, .second, oD x5, .second, oD x7, .second, oD x9, .second, oD x11, .second, oD x13, .second, oD x16, .second, oR h0.size, .unset, .unset] [(.int (2 : Int32))])
    refine own_by (fun t_ k_ => XT.bipushV XT30.here hx rfl (6 : Int32) (hb hby at_173) (by decide) k_) ?_
    show own_Go p e below _ T30 (mkF m 175 #[oI i0, oI i1, oI i2, oI i3, oI (2 : Int32), oD y1, .second, oD x3, .second, oD x5, .second, oD x7, .second, oD x9, .second, oD x11, .second, oD x13, .second, oD x16, .second, oR h0.size, .unset, .unset] [(.int (6 : Int32)), (.int (2 : Int32))])
    refine own_by (fun t_ k_ => XS.icmpYes XT30.here hx rfl (pc0 := 175) (pc' := 185) rfl (hb hby at_175) rfl (XT.ii_le_t (by decide)) (by decide) (by decide) k_) ?_
    show own_Go p e below _ T30 (mkF m 185 #[oI i0, oI i1, oI i2, oI i3, oI (2 : Int32), oD y1, .second, oD x3, .second, oD x5, .second, oD x7, .second, oD x9, .second, oD x11, .second, oD x13, .second, oD x16, .second, oR h0.size, .unset, .unset] [])
    refine own_by (fun t_ k_ => XS.iload XT30.here hx rfl (hb hby at_185) rfl  k_) ?_
    show own_Go p e below _ T30 (mkF m 187 #[oI i0, oI i1, oI i2, oI i3, oI (2 : Int32), oD y1, .second, oD x3, .second, oD x5, .second, oD x7, .second, oD x9, .second, oD x11, .second, oD x13, .second, oD x16, .second, oR h0.size, .unset, .unset] [(.int (2 : Int32))])
    refine own_by (fun t_ k_ => XT.iconstV XT30.here hx rfl (0 : Int32) (hb hby at_187) (by decide) k_) ?_
    show own_Go p e below _ T30 (mkF m 188 #[oI i0, oI i1, oI i2, oI i3, oI (2 : Int32), oD y1, .second, oD x3, .second, oD x5, .second, oD x7, .second, oD x9, .second, oD x11, .second, oD x13, .second, oD x16, .second, oR h0.size, .unset, .unset] [(.int (0 : Int32)), (.int (2 : Int32))])
    refine own_by (fun t_ k_ => XS.dload XT30.here hx rfl (hb hby at_188) rfl  k_) ?_
    show own_Go p e below _ T30 (mkF m 190 #[oI i0, oI i1, oI i2, oI i3, oI (2 : Int32), oD y1, .second, oD x3, .second, oD x5, .second, oD x7, .second, oD x9, .second, oD x11, .second, oD x13, .second, oD x16, .second, oR h0.size, .unset, .unset] [(.double y1), (.int (0 : Int32)), (.int (2 : Int32))])
    refine own_by (fun t_ k_ => XS.dload XT30.here hx rfl (hb hby at_190) rfl  k_) ?_
    show own_Go p e below _ T30 (mkF m 192 #[oI i0, oI i1, oI i2, oI i3, oI (2 : Int32), oD y1, .second, oD x3, .second, oD x5, .second, oD x7, .second, oD x9, .second, oD x11, .second, oD x13, .second, oD x16, .second, oR h0.size, .unset, .unset] [(.double x16), (.double y1), (.int (0 : Int32)), (.int (2 : Int32))])
    refine own_callS XT30 hx hZ hown (hw _ (List.mem_of_getElem? (i := 2) rfl)) (hw _ (List.mem_of_getElem? (i := 3) rfl)) (hw _ (List.mem_of_getElem? (i := 4) rfl)) (hw _ (List.mem_of_getElem? (i := 5) rfl)) (by decide) eT30 (argsL := [(.int (2 : Int32)), (.int (0 : Int32)), (.double y1), (.double x16)]) (rest := []) (own_one_met l Z a0 hw (2 : Int32) (0 : Int32) y1 x16 hT30) 0 (by decide) (by decide) (by rw [hml]; rfl) (lenOf pd_0 rfl) (Nat.le_of_eq rfl) (hb hby at_192) (by decide) (by decide) (st := [(.double x16), (.double y1), (.int (0 : Int32)), (.int (2 : Int32))]) rfl ?_
    intro T31 LT31 vT31 XT31 hQT31
    obtain ⟨rfl, eT31, rfl⟩ := hQT31
    show own_Go p e below _ T31 (mkF m 195 #[oI i0, oI i1, oI i2, oI i3, oI (2 : Int32), oD y1, .second, oD x3, .second, oD x5, .second, oD x7, .second, oD x9, .second, oD x11, .second, oD x13, .second, oD x16, .second, oR h0.size, .unset, .unset] [(.int (own_one (2 : Int32) (0 : Int32) y1 x16))])
    refine own_by (fun t_ k_ => XS.iload XT31.here hx rfl (hb hby at_195) rfl  k_) ?_
    show own_Go p e below _ T31 (mkF m 197 #[oI i0, oI i1, oI i2, oI i3, oI (2 : Int32), oD y1, .second, oD x3, .second, oD x5, .second, oD x7, .second, oD x9, .second, oD x11, .second, oD x13, .second, oD x16, .second, oR h0.size, .unset, .unset] [(.int (2 : Int32)), (.int (own_one (2 : Int32) (0 : Int32) y1 x16))])
    refine own_by (fun t_ k_ => XT.iconstV XT31.here hx rfl (1 : Int32) (hb hby at_197) (by decide) k_) ?_
    show own_Go p e below _ T31 (mkF m 198 #[oI i0, oI i1, oI i2, oI i3, oI (2 : Int32), oD y1, .second, oD x3, .second, oD x5, .second, oD x7, .second, oD x9, .second, oD x11, .second, oD x13, .second, oD x16, .second, oR h0.size, .unset, .unset] [(.int (1 : Int32)), (.int (2 : Int32)), (.int (own_one (2 : Int32) (0 : Int32) y1 x16))])
    refine own_by (fun t_ k_ => XS.dload XT31.here hx rfl (hb hby at_198) rfl  k_) ?_
    show own_Go p e below _ T31 (mkF m 200 #[oI i0, oI i1, oI i2, oI i3, oI (2 : Int32), oD y1, .second, oD x3, .second, oD x5, .second, oD x7, .second, oD x9, .second, oD x11, .second, oD x13, .second, oD x16, .second, oR h0.size, .unset, .unset] [(.double x3), (.int (1 : Int32)), (.int (2 : Int32)), (.int (own_one (2 : Int32) (0 : Int32) y1 x16))])
    refine own_by (fun t_ k_ => XS.dload XT31.here hx rfl (hb hby at_200) rfl  k_) ?_
    show own_Go p e below _ T31 (mkF m 202 #[oI i0, oI i1, oI i2, oI i3, oI (2 : Int32), oD y1, .second, oD x3, .second, oD x5, .second, oD x7, .second, oD x9, .second, oD x11, .second, oD x13, .second, oD x16, .second, oR h0.size, .unset, .unset] [(.double x16), (.double x3), (.int (1 : Int32)), (.int (2 : Int32)), (.int (own_one (2 : Int32) (0 : Int32) y1 x16))])
    refine own_callS XT31 hx hZ hown (hw _ (List.mem_of_getElem? (i := 2) rfl)) (hw _ (List.mem_of_getElem? (i := 3) rfl)) (hw _ (List.mem_of_getElem? (i := 4) rfl)) (hw _ (List.mem_of_getElem? (i := 5) rfl)) (by decide) eT31 (argsL := [(.int (2 : Int32)), (.int (1 : Int32)), (.double x3), (.double x16)]) (rest := [(.int (own_one (2 : Int32) (0 : Int32) y1 x16))]) (own_one_met l Z a0 hw (2 : Int32) (1 : Int32) x3 x16 hT30) 1 (by decide) (by decide) (by rw [hml]; rfl) (lenOf pd_0 rfl) (Nat.le_of_eq rfl) (hb hby at_202) (by decide) (by decide) (st := [(.double x16), (.double x3), (.int (1 : Int32)), (.int (2 : Int32)), (.int (own_one (2 : Int32) (0 : Int32) y1 x16))]) rfl ?_
    intro T32 LT32 vT32 XT32 hQT32
    obtain ⟨rfl, eT32, rfl⟩ := hQT32
    show own_Go p e below _ T32 (mkF m 205 #[oI i0, oI i1, oI i2, oI i3, oI (2 : Int32), oD y1, .second, oD x3, .second, oD x5, .second, oD x7, .second, oD x9, .second, oD x11, .second, oD x13, .second, oD x16, .second, oR h0.size, .unset, .unset] [(.int (own_one (2 : Int32) (1 : Int32) x3 x16)), (.int (own_one (2 : Int32) (0 : Int32) y1 x16))])
    refine own_by (fun t_ k_ => XS.iadd XT32.here hx rfl (hb hby at_205) rfl k_) ?_
    show own_Go p e below _ T32 (mkF m 206 #[oI i0, oI i1, oI i2, oI i3, oI (2 : Int32), oD y1, .second, oD x3, .second, oD x5, .second, oD x7, .second, oD x9, .second, oD x11, .second, oD x13, .second, oD x16, .second, oR h0.size, .unset, .unset] [(.int ((own_one (2 : Int32) (0 : Int32) y1 x16) + (own_one (2 : Int32) (1 : Int32) x3 x16)))])
    refine own_by (fun t_ k_ => XS.iload XT32.here hx rfl (hb hby at_206) rfl  k_) ?_
    show own_Go p e below _ T32 (mkF m 208 #[oI i0, oI i1, oI i2, oI i3, oI (2 : Int32), oD y1, .second, oD x3, .second, oD x5, .second, oD x7, .second, oD x9, .second, oD x11, .second, oD x13, .second, oD x16, .second, oR h0.size, .unset, .unset] [(.int (2 : Int32)), (.int ((own_one (2 : Int32) (0 : Int32) y1 x16) + (own_one (2 : Int32) (1 : Int32) x3 x16)))])
    refine own_by (fun t_ k_ => XT.iconstV XT32.here hx rfl (2 : Int32) (hb hby at_208) (by decide) k_) ?_
    show own_Go p e below _ T32 (mkF m 209 #[oI i0, oI i1, oI i2, oI i3, oI (2 : Int32), oD y1, .second, oD x3, .second, oD x5, .second, oD x7, .second, oD x9, .second, oD x11, .second, oD x13, .second, oD x16, .second, oR h0.size, .unset, .unset] [(.int (2 : Int32)), (.int (2 : Int32)), (.int ((own_one (2 : Int32) (0 : Int32) y1 x16) + (own_one (2 : Int32) (1 : Int32) x3 x16)))])
    refine own_by (fun t_ k_ => XS.dload XT32.here hx rfl (hb hby at_209) rfl  k_) ?_
    show own_Go p e below _ T32 (mkF m 211 #[oI i0, oI i1, oI i2, oI i3, oI (2 : Int32), oD y1, .second, oD x3, .second, oD x5, .second, oD x7, .second, oD x9, .second, oD x11, .second, oD x13, .second, oD x16, .second, oR h0.size, .unset, .unset] [(.double x5), (.int (2 : Int32)), (.int (2 : Int32)), (.int ((own_one (2 : Int32) (0 : Int32) y1 x16) + (own_one (2 : Int32) (1 : Int32) x3 x16)))])
    refine own_by (fun t_ k_ => XS.dload XT32.here hx rfl (hb hby at_211) rfl  k_) ?_
    show own_Go p e below _ T32 (mkF m 213 #[oI i0, oI i1, oI i2, oI i3, oI (2 : Int32), oD y1, .second, oD x3, .second, oD x5, .second, oD x7, .second, oD x9, .second, oD x11, .second, oD x13, .second, oD x16, .second, oR h0.size, .unset, .unset] [(.double x16), (.double x5), (.int (2 : Int32)), (.int (2 : Int32)), (.int ((own_one (2 : Int32) (0 : Int32) y1 x16) + (own_one (2 : Int32) (1 : Int32) x3 x16)))])
    refine own_callS XT32 hx hZ hown (hw _ (List.mem_of_getElem? (i := 2) rfl)) (hw _ (List.mem_of_getElem? (i := 3) rfl)) (hw _ (List.mem_of_getElem? (i := 4) rfl)) (hw _ (List.mem_of_getElem? (i := 5) rfl)) (by decide) eT32 (argsL := [(.int (2 : Int32)), (.int (2 : Int32)), (.double x5), (.double x16)]) (rest := [(.int ((own_one (2 : Int32) (0 : Int32) y1 x16) + (own_one (2 : Int32) (1 : Int32) x3 x16)))]) (own_one_met l Z a0 hw (2 : Int32) (2 : Int32) x5 x16 hT30) 1 (by decide) (by decide) (by rw [hml]; rfl) (lenOf pd_0 rfl) (Nat.le_of_eq rfl) (hb hby at_213) (by decide) (by decide) (st := [(.double x16), (.double x5), (.int (2 : Int32)), (.int (2 : Int32)), (.int ((own_one (2 : Int32) (0 : Int32) y1 x16) + (own_one (2 : Int32) (1 : Int32) x3 x16)))]) rfl ?_
    intro T33 LT33 vT33 XT33 hQT33
    obtain ⟨rfl, eT33, rfl⟩ := hQT33
    show own_Go p e below _ T33 (mkF m 216 #[oI i0, oI i1, oI i2, oI i3, oI (2 : Int32), oD y1, .second, oD x3, .second, oD x5, .second, oD x7, .second, oD x9, .second, oD x11, .second, oD x13, .second, oD x16, .second, oR h0.size, .unset, .unset] [(.int (own_one (2 : Int32) (2 : Int32) x5 x16)), (.int ((own_one (2 : Int32) (0 : Int32) y1 x16) + (own_one (2 : Int32) (1 : Int32) x3 x16)))])
    refine own_by (fun t_ k_ => XS.iadd XT33.here hx rfl (hb hby at_216) rfl k_) ?_
    show own_Go p e below _ T33 (mkF m 217 #[oI i0, oI i1, oI i2, oI i3, oI (2 : Int32), oD y1, .second, oD x3, .second, oD x5, .second, oD x7, .second, oD x9, .second, oD x11, .second, oD x13, .second, oD x16, .second, oR h0.size, .unset, .unset] [(.int (((own_one (2 : Int32) (0 : Int32) y1 x16) + (own_one (2 : Int32) (1 : Int32) x3 x16)) + (own_one (2 : Int32) (2 : Int32) x5 x16)))])
    refine own_by (fun t_ k_ => XS.iload XT33.here hx rfl (hb hby at_217) rfl  k_) ?_
    show own_Go p e below _ T33 (mkF m 219 #[oI i0, oI i1, oI i2, oI i3, oI (2 : Int32), oD y1, .second, oD x3, .second, oD x5, .second, oD x7, .second, oD x9, .second, oD x11, .second, oD x13, .second, oD x16, .second, oR h0.size, .unset, .unset] [(.int (2 : Int32)), (.int (((own_one (2 : Int32) (0 : Int32) y1 x16) + (own_one (2 : Int32) (1 : Int32) x3 x16)) + (own_one (2 : Int32) (2 : Int32) x5 x16)))])
    refine own_by (fun t_ k_ => XT.iconstV XT33.here hx rfl (3 : Int32) (hb hby at_219) (by decide) k_) ?_
    show own_Go p e below _ T33 (mkF m 220 #[oI i0, oI i1, oI i2, oI i3, oI (2 : Int32), oD y1, .second, oD x3, .second, oD x5, .second, oD x7, .second, oD x9, .second, oD x11, .second, oD x13, .second, oD x16, .second, oR h0.size, .unset, .unset] [(.int (3 : Int32)), (.int (2 : Int32)), (.int (((own_one (2 : Int32) (0 : Int32) y1 x16) + (own_one (2 : Int32) (1 : Int32) x3 x16)) + (own_one (2 : Int32) (2 : Int32) x5 x16)))])
    refine own_by (fun t_ k_ => XS.dload XT33.here hx rfl (hb hby at_220) rfl  k_) ?_
    show own_Go p e below _ T33 (mkF m 222 #[oI i0, oI i1, oI i2, oI i3, oI (2 : Int32), oD y1, .second, oD x3, .second, oD x5, .second, oD x7, .second, oD x9, .second, oD x11, .second, oD x13, .second, oD x16, .second, oR h0.size, .unset, .unset] [(.double x7), (.int (3 : Int32)), (.int (2 : Int32)), (.int (((own_one (2 : Int32) (0 : Int32) y1 x16) + (own_one (2 : Int32) (1 : Int32) x3 x16)) + (own_one (2 : Int32) (2 : Int32) x5 x16)))])
    refine own_by (fun t_ k_ => XS.dload XT33.here hx rfl (hb hby at_222) rfl  k_) ?_
    show own_Go p e below _ T33 (mkF m 224 #[oI i0, oI i1, oI i2, oI i3, oI (2 : Int32), oD y1, .second, oD x3, .second, oD x5, .second, oD x7, .second, oD x9, .second, oD x11, .second, oD x13, .second, oD x16, .second, oR h0.size, .unset, .unset] [(.double x16), (.double x7), (.int (3 : Int32)), (.int (2 : Int32)), (.int (((own_one (2 : Int32) (0 : Int32) y1 x16) + (own_one (2 : Int32) (1 : Int32) x3 x16)) + (own_one (2 : Int32) (2 : Int32) x5 x16)))])
    refine own_callS XT33 hx hZ hown (hw _ (List.mem_of_getElem? (i := 2) rfl)) (hw _ (List.mem_of_getElem? (i := 3) rfl)) (hw _ (List.mem_of_getElem? (i := 4) rfl)) (hw _ (List.mem_of_getElem? (i := 5) rfl)) (by decide) eT33 (argsL := [(.int (2 : Int32)), (.int (3 : Int32)), (.double x7), (.double x16)]) (rest := [(.int (((own_one (2 : Int32) (0 : Int32) y1 x16) + (own_one (2 : Int32) (1 : Int32) x3 x16)) + (own_one (2 : Int32) (2 : Int32) x5 x16)))]) (own_one_met l Z a0 hw (2 : Int32) (3 : Int32) x7 x16 hT30) 1 (by decide) (by decide) (by rw [hml]; rfl) (lenOf pd_0 rfl) (Nat.le_of_eq rfl) (hb hby at_224) (by decide) (by decide) (st := [(.double x16), (.double x7), (.int (3 : Int32)), (.int (2 : Int32)), (.int (((own_one (2 : Int32) (0 : Int32) y1 x16) + (own_one (2 : Int32) (1 : Int32) x3 x16)) + (own_one (2 : Int32) (2 : Int32) x5 x16)))]) rfl ?_
    intro T34 LT34 vT34 XT34 hQT34
    obtain ⟨rfl, eT34, rfl⟩ := hQT34
    show own_Go p e below _ T34 (mkF m 227 #[oI i0, oI i1, oI i2, oI i3, oI (2 : Int32), oD y1, .second, oD x3, .second, oD x5, .second, oD x7, .second, oD x9, .second, oD x11, .second, oD x13, .second, oD x16, .second, oR h0.size, .unset, .unset] [(.int (own_one (2 : Int32) (3 : Int32) x7 x16)), (.int (((own_one (2 : Int32) (0 : Int32) y1 x16) + (own_one (2 : Int32) (1 : Int32) x3 x16)) + (own_one (2 : Int32) (2 : Int32) x5 x16)))])
    refine own_by (fun t_ k_ => XS.iadd XT34.here hx rfl (hb hby at_227) rfl k_) ?_
    show own_Go p e below _ T34 (mkF m 228 #[oI i0, oI i1, oI i2, oI i3, oI (2 : Int32), oD y1, .second, oD x3, .second, oD x5, .second, oD x7, .second, oD x9, .second, oD x11, .second, oD x13, .second, oD x16, .second, oR h0.size, .unset, .unset] [(.int ((((own_one (2 : Int32) (0 : Int32) y1 x16) + (own_one (2 : Int32) (1 : Int32) x3 x16)) + (own_one (2 : Int32) (2 : Int32) x5 x16)) + (own_one (2 : Int32) (3 : Int32) x7 x16)))])
    refine own_by (fun t_ k_ => XS.iload XT34.here hx rfl (hb hby at_228) rfl  k_) ?_
    show own_Go p e below _ T34 (mkF m 230 #[oI i0, oI i1, oI i2, oI i3, oI (2 : Int32), oD y1, .second, oD x3, .second, oD x5, .second, oD x7, .second, oD x9, .second, oD x11, .second, oD x13, .second, oD x16, .second, oR h0.size, .unset, .unset] [(.int (2 : Int32)), (.int ((((own_one (2 : Int32) (0 : Int32) y1 x16) + (own_one (2 : Int32) (1 : Int32) x3 x16)) + (own_one (2 : Int32) (2 : Int32) x5 x16)) + (own_one (2 : Int32) (3 : Int32) x7 x16)))])
    refine own_by (fun t_ k_ => XT.iconstV XT34.here hx rfl (4 : Int32) (hb hby at_230) (by decide) k_) ?_
    show own_Go p e below _ T34 (mkF m 231 #[oI i0, oI i1, oI i2, oI i3, oI (2 : Int32), oD y1, .second, oD x3, .second, oD x5, .second, oD x7, .second, oD x9, .second, oD x11, .second, oD x13, .second, oD x16, .second, oR h0.size, .unset, .unset] [(.int (4 : Int32)), (.int (2 : Int32)), (.int ((((own_one (2 : Int32) (0 : Int32) y1 x16) + (own_one (2 : Int32) (1 : Int32) x3 x16)) + (own_one (2 : Int32) (2 : Int32) x5 x16)) + (own_one (2 : Int32) (3 : Int32) x7 x16)))])
    refine own_by (fun t_ k_ => XS.dload XT34.here hx rfl (hb hby at_231) rfl  k_) ?_
    show own_Go p e below _ T34 (mkF m 233 #[oI i0, oI i1, oI i2, oI i3, oI (2 : Int32), oD y1, .second, oD x3, .second, oD x5, .second, oD x7, .second, oD x9, .second, oD x11, .second, oD x13, .second, oD x16, .second, oR h0.size, .unset, .unset] [(.double x9), (.int (4 : Int32)), (.int (2 : Int32)), (.int ((((own_one (2 : Int32) (0 : Int32) y1 x16) + (own_one (2 : Int32) (1 : Int32) x3 x16)) + (own_one (2 : Int32) (2 : Int32) x5 x16)) + (own_one (2 : Int32) (3 : Int32) x7 x16)))])
    refine own_by (fun t_ k_ => XS.dload XT34.here hx rfl (hb hby at_233) rfl  k_) ?_
    show own_Go p e below _ T34 (mkF m 235 #[oI i0, oI i1, oI i2, oI i3, oI (2 : Int32), oD y1, .second, oD x3, .second, oD x5, .second, oD x7, .second, oD x9, .second, oD x11, .second, oD x13, .second, oD x16, .second, oR h0.size, .unset, .unset] [(.double x16), (.double x9), (.int (4 : Int32)), (.int (2 : Int32)), (.int ((((own_one (2 : Int32) (0 : Int32) y1 x16) + (own_one (2 : Int32) (1 : Int32) x3 x16)) + (own_one (2 : Int32) (2 : Int32) x5 x16)) + (own_one (2 : Int32) (3 : Int32) x7 x16)))])
    refine own_callS XT34 hx hZ hown (hw _ (List.mem_of_getElem? (i := 2) rfl)) (hw _ (List.mem_of_getElem? (i := 3) rfl)) (hw _ (List.mem_of_getElem? (i := 4) rfl)) (hw _ (List.mem_of_getElem? (i := 5) rfl)) (by decide) eT34 (argsL := [(.int (2 : Int32)), (.int (4 : Int32)), (.double x9), (.double x16)]) (rest := [(.int ((((own_one (2 : Int32) (0 : Int32) y1 x16) + (own_one (2 : Int32) (1 : Int32) x3 x16)) + (own_one (2 : Int32) (2 : Int32) x5 x16)) + (own_one (2 : Int32) (3 : Int32) x7 x16)))]) (own_one_met l Z a0 hw (2 : Int32) (4 : Int32) x9 x16 hT30) 1 (by decide) (by decide) (by rw [hml]; rfl) (lenOf pd_0 rfl) (Nat.le_of_eq rfl) (hb hby at_235) (by decide) (by decide) (st := [(.double x16), (.double x9), (.int (4 : Int32)), (.int (2 : Int32)), (.int ((((own_one (2 : Int32) (0 : Int32) y1 x16) + (own_one (2 : Int32) (1 : Int32) x3 x16)) + (own_one (2 : Int32) (2 : Int32) x5 x16)) + (own_one (2 : Int32) (3 : Int32) x7 x16)))]) rfl ?_
    intro T35 LT35 vT35 XT35 hQT35
    obtain ⟨rfl, eT35, rfl⟩ := hQT35
    show own_Go p e below _ T35 (mkF m 238 #[oI i0, oI i1, oI i2, oI i3, oI (2 : Int32), oD y1, .second, oD x3, .second, oD x5, .second, oD x7, .second, oD x9, .second, oD x11, .second, oD x13, .second, oD x16, .second, oR h0.size, .unset, .unset] [(.int (own_one (2 : Int32) (4 : Int32) x9 x16)), (.int ((((own_one (2 : Int32) (0 : Int32) y1 x16) + (own_one (2 : Int32) (1 : Int32) x3 x16)) + (own_one (2 : Int32) (2 : Int32) x5 x16)) + (own_one (2 : Int32) (3 : Int32) x7 x16)))])
    refine own_by (fun t_ k_ => XS.iadd XT35.here hx rfl (hb hby at_238) rfl k_) ?_
    show own_Go p e below _ T35 (mkF m 239 #[oI i0, oI i1, oI i2, oI i3, oI (2 : Int32), oD y1, .second, oD x3, .second, oD x5, .second, oD x7, .second, oD x9, .second, oD x11, .second, oD x13, .second, oD x16, .second, oR h0.size, .unset, .unset] [(.int (((((own_one (2 : Int32) (0 : Int32) y1 x16) + (own_one (2 : Int32) (1 : Int32) x3 x16)) + (own_one (2 : Int32) (2 : Int32) x5 x16)) + (own_one (2 : Int32) (3 : Int32) x7 x16)) + (own_one (2 : Int32) (4 : Int32) x9 x16)))])
    refine own_by (fun t_ k_ => XS.iload XT35.here hx rfl (hb hby at_239) rfl  k_) ?_
    show own_Go p e below _ T35 (mkF m 241 #[oI i0, oI i1, oI i2, oI i3, oI (2 : Int32), oD y1, .second, oD x3, .second, oD x5, .second, oD x7, .second, oD x9, .second, oD x11, .second, oD x13, .second, oD x16, .second, oR h0.size, .unset, .unset] [(.int (2 : Int32)), (.int (((((own_one (2 : Int32) (0 : Int32) y1 x16) + (own_one (2 : Int32) (1 : Int32) x3 x16)) + (own_one (2 : Int32) (2 : Int32) x5 x16)) + (own_one (2 : Int32) (3 : Int32) x7 x16)) + (own_one (2 : Int32) (4 : Int32) x9 x16)))])
    refine own_by (fun t_ k_ => XT.iconstV XT35.here hx rfl (5 : Int32) (hb hby at_241) (by decide) k_) ?_
    show own_Go p e below _ T35 (mkF m 242 #[oI i0, oI i1, oI i2, oI i3, oI (2 : Int32), oD y1, .second, oD x3, .second, oD x5, .second, oD x7, .second, oD x9, .second, oD x11, .second, oD x13, .second, oD x16, .second, oR h0.size, .unset, .unset] [(.int (5 : Int32)), (.int (2 : Int32)), (.int (((((own_one (2 : Int32) (0 : Int32) y1 x16) + (own_one (2 : Int32) (1 : Int32) x3 x16)) + (own_one (2 : Int32) (2 : Int32) x5 x16)) + (own_one (2 : Int32) (3 : Int32) x7 x16)) + (own_one (2 : Int32) (4 : Int32) x9 x16)))])
    refine own_by (fun t_ k_ => XS.dload XT35.here hx rfl (hb hby at_242) rfl  k_) ?_
    show own_Go p e below _ T35 (mkF m 244 #[oI i0, oI i1, oI i2, oI i3, oI (2 : Int32), oD y1, .second, oD x3, .second, oD x5, .second, oD x7, .second, oD x9, .second, oD x11, .second, oD x13, .second, oD x16, .second, oR h0.size, .unset, .unset] [(.double x11), (.int (5 : Int32)), (.int (2 : Int32)), (.int (((((own_one (2 : Int32) (0 : Int32) y1 x16) + (own_one (2 : Int32) (1 : Int32) x3 x16)) + (own_one (2 : Int32) (2 : Int32) x5 x16)) + (own_one (2 : Int32) (3 : Int32) x7 x16)) + (own_one (2 : Int32) (4 : Int32) x9 x16)))])
    refine own_by (fun t_ k_ => XS.dload XT35.here hx rfl (hb hby at_244) rfl  k_) ?_
    show own_Go p e below _ T35 (mkF m 246 #[oI i0, oI i1, oI i2, oI i3, oI (2 : Int32), oD y1, .second, oD x3, .second, oD x5, .second, oD x7, .second, oD x9, .second, oD x11, .second, oD x13, .second, oD x16, .second, oR h0.size, .unset, .unset] [(.double x16), (.double x11), (.int (5 : Int32)), (.int (2 : Int32)), (.int (((((own_one (2 : Int32) (0 : Int32) y1 x16) + (own_one (2 : Int32) (1 : Int32) x3 x16)) + (own_one (2 : Int32) (2 : Int32) x5 x16)) + (own_one (2 : Int32) (3 : Int32) x7 x16)) + (own_one (2 : Int32) (4 : Int32) x9 x16)))])
    refine own_callS XT35 hx hZ hown (hw _ (List.mem_of_getElem? (i := 2) rfl)) (hw _ (List.mem_of_getElem? (i := 3) rfl)) (hw _ (List.mem_of_getElem? (i := 4) rfl)) (hw _ (List.mem_of_getElem? (i := 5) rfl)) (by decide) eT35 (argsL := [(.int (2 : Int32)), (.int (5 : Int32)), (.double x11), (.double x16)]) (rest := [(.int (((((own_one (2 : Int32) (0 : Int32) y1 x16) + (own_one (2 : Int32) (1 : Int32) x3 x16)) + (own_one (2 : Int32) (2 : Int32) x5 x16)) + (own_one (2 : Int32) (3 : Int32) x7 x16)) + (own_one (2 : Int32) (4 : Int32) x9 x16)))]) (own_one_met l Z a0 hw (2 : Int32) (5 : Int32) x11 x16 hT30) 1 (by decide) (by decide) (by rw [hml]; rfl) (lenOf pd_0 rfl) (Nat.le_of_eq rfl) (hb hby at_246) (by decide) (by decide) (st := [(.double x16), (.double x11), (.int (5 : Int32)), (.int (2 : Int32)), (.int (((((own_one (2 : Int32) (0 : Int32) y1 x16) + (own_one (2 : Int32) (1 : Int32) x3 x16)) + (own_one (2 : Int32) (2 : Int32) x5 x16)) + (own_one (2 : Int32) (3 : Int32) x7 x16)) + (own_one (2 : Int32) (4 : Int32) x9 x16)))]) rfl ?_
    intro T36 LT36 vT36 XT36 hQT36
    obtain ⟨rfl, eT36, rfl⟩ := hQT36
    show own_Go p e below _ T36 (mkF m 249 #[oI i0, oI i1, oI i2, oI i3, oI (2 : Int32), oD y1, .second, oD x3, .second, oD x5, .second, oD x7, .second, oD x9, .second, oD x11, .second, oD x13, .second, oD x16, .second, oR h0.size, .unset, .unset] [(.int (own_one (2 : Int32) (5 : Int32) x11 x16)), (.int (((((own_one (2 : Int32) (0 : Int32) y1 x16) + (own_one (2 : Int32) (1 : Int32) x3 x16)) + (own_one (2 : Int32) (2 : Int32) x5 x16)) + (own_one (2 : Int32) (3 : Int32) x7 x16)) + (own_one (2 : Int32) (4 : Int32) x9 x16)))])
    refine own_by (fun t_ k_ => XS.iadd XT36.here hx rfl (hb hby at_249) rfl k_) ?_
    show own_Go p e below _ T36 (mkF m 250 #[oI i0, oI i1, oI i2, oI i3, oI (2 : Int32), oD y1, .second, oD x3, .second, oD x5, .second, oD x7, .second, oD x9, .second, oD x11, .second, oD x13, .second, oD x16, .second, oR h0.size, .unset, .unset] [(.int ((((((own_one (2 : Int32) (0 : Int32) y1 x16) + (own_one (2 : Int32) (1 : Int32) x3 x16)) + (own_one (2 : Int32) (2 : Int32) x5 x16)) + (own_one (2 : Int32) (3 : Int32) x7 x16)) + (own_one (2 : Int32) (4 : Int32) x9 x16)) + (own_one (2 : Int32) (5 : Int32) x11 x16)))])
    refine own_by (fun t_ k_ => XS.iload XT36.here hx rfl (hb hby at_250) rfl  k_) ?_
    show own_Go p e below _ T36 (mkF m 252 #[oI i0, oI i1, oI i2, oI i3, oI (2 : Int32), oD y1, .second, oD x3, .second, oD x5, .second, oD x7, .second, oD x9, .second, oD x11, .second, oD x13, .second, oD x16, .second, oR h0.size, .unset, .unset] [(.int (2 : Int32)), (.int ((((((own_one (2 : Int32) (0 : Int32) y1 x16) + (own_one (2 : Int32) (1 : Int32) x3 x16)) + (own_one (2 : Int32) (2 : Int32) x5 x16)) + (own_one (2 : Int32) (3 : Int32) x7 x16)) + (own_one (2 : Int32) (4 : Int32) x9 x16)) + (own_one (2 : Int32) (5 : Int32) x11 x16)))])
    refine own_by (fun t_ k_ => XT.bipushV XT36.here hx rfl (6 : Int32) (hb hby at_252) (by decide) k_) ?_
    show own_Go p e below _ T36 (mkF m 254 #[oI i0, oI i1, oI i2, oI i3, oI (2 : Int32), oD y1, .second, oD x3, .second, oD x5, .second, oD x7, .second, oD x9, .second, oD x11, .second, oD x13, .second, oD x16, .second, oR h0.size, .unset, .unset] [(.int (6 : Int32)), (.int (2 : Int32)), (.int ((((((own_one (2 : Int32) (0 : Int32) y1 x16) + (own_one (2 : Int32) (1 : Int32) x3 x16)) + (own_one (2 : Int32) (2 : Int32) x5 x16)) + (own_one (2 : Int32) (3 : Int32) x7 x16)) + (own_one (2 : Int32) (4 : Int32) x9 x16)) + (own_one (2 : Int32) (5 : Int32) x11 x16)))])
    refine own_by (fun t_ k_ => XS.dload XT36.here hx rfl (hb hby at_254) rfl  k_) ?_
    show own_Go p e below _ T36 (mkF m 256 #[oI i0, oI i1, oI i2, oI i3, oI (2 : Int32), oD y1, .second, oD x3, .second, oD x5, .second, oD x7, .second, oD x9, .second, oD x11, .second, oD x13, .second, oD x16, .second, oR h0.size, .unset, .unset] [(.double x13), (.int (6 : Int32)), (.int (2 : Int32)), (.int ((((((own_one (2 : Int32) (0 : Int32) y1 x16) + (own_one (2 : Int32) (1 : Int32) x3 x16)) + (own_one (2 : Int32) (2 : Int32) x5 x16)) + (own_one (2 : Int32) (3 : Int32) x7 x16)) + (own_one (2 : Int32) (4 : Int32) x9 x16)) + (own_one (2 : Int32) (5 : Int32) x11 x16)))])
    refine own_by (fun t_ k_ => XS.dload XT36.here hx rfl (hb hby at_256) rfl  k_) ?_
    show own_Go p e below _ T36 (mkF m 258 #[oI i0, oI i1, oI i2, oI i3, oI (2 : Int32), oD y1, .second, oD x3, .second, oD x5, .second, oD x7, .second, oD x9, .second, oD x11, .second, oD x13, .second, oD x16, .second, oR h0.size, .unset, .unset] [(.double x16), (.double x13), (.int (6 : Int32)), (.int (2 : Int32)), (.int ((((((own_one (2 : Int32) (0 : Int32) y1 x16) + (own_one (2 : Int32) (1 : Int32) x3 x16)) + (own_one (2 : Int32) (2 : Int32) x5 x16)) + (own_one (2 : Int32) (3 : Int32) x7 x16)) + (own_one (2 : Int32) (4 : Int32) x9 x16)) + (own_one (2 : Int32) (5 : Int32) x11 x16)))])
    refine own_callS XT36 hx hZ hown (hw _ (List.mem_of_getElem? (i := 2) rfl)) (hw _ (List.mem_of_getElem? (i := 3) rfl)) (hw _ (List.mem_of_getElem? (i := 4) rfl)) (hw _ (List.mem_of_getElem? (i := 5) rfl)) (by decide) eT36 (argsL := [(.int (2 : Int32)), (.int (6 : Int32)), (.double x13), (.double x16)]) (rest := [(.int ((((((own_one (2 : Int32) (0 : Int32) y1 x16) + (own_one (2 : Int32) (1 : Int32) x3 x16)) + (own_one (2 : Int32) (2 : Int32) x5 x16)) + (own_one (2 : Int32) (3 : Int32) x7 x16)) + (own_one (2 : Int32) (4 : Int32) x9 x16)) + (own_one (2 : Int32) (5 : Int32) x11 x16)))]) (own_one_met l Z a0 hw (2 : Int32) (6 : Int32) x13 x16 hT30) 1 (by decide) (by decide) (by rw [hml]; rfl) (lenOf pd_0 rfl) (Nat.le_of_eq rfl) (hb hby at_258) (by decide) (by decide) (st := [(.double x16), (.double x13), (.int (6 : Int32)), (.int (2 : Int32)), (.int ((((((own_one (2 : Int32) (0 : Int32) y1 x16) + (own_one (2 : Int32) (1 : Int32) x3 x16)) + (own_one (2 : Int32) (2 : Int32) x5 x16)) + (own_one (2 : Int32) (3 : Int32) x7 x16)) + (own_one (2 : Int32) (4 : Int32) x9 x16)) + (own_one (2 : Int32) (5 : Int32) x11 x16)))]) rfl ?_
    intro T37 LT37 vT37 XT37 hQT37
    obtain ⟨rfl, eT37, rfl⟩ := hQT37
    show own_Go p e below _ T37 (mkF m 261 #[oI i0, oI i1, oI i2, oI i3, oI (2 : Int32), oD y1, .second, oD x3, .second, oD x5, .second, oD x7, .second, oD x9, .second, oD x11, .second, oD x13, .second, oD x16, .second, oR h0.size, .unset, .unset] [(.int (own_one (2 : Int32) (6 : Int32) x13 x16)), (.int ((((((own_one (2 : Int32) (0 : Int32) y1 x16) + (own_one (2 : Int32) (1 : Int32) x3 x16)) + (own_one (2 : Int32) (2 : Int32) x5 x16)) + (own_one (2 : Int32) (3 : Int32) x7 x16)) + (own_one (2 : Int32) (4 : Int32) x9 x16)) + (own_one (2 : Int32) (5 : Int32) x11 x16)))])
    refine own_by (fun t_ k_ => XS.iadd XT37.here hx rfl (hb hby at_261) rfl k_) ?_
    show own_Go p e below _ T37 (mkF m 262 #[oI i0, oI i1, oI i2, oI i3, oI (2 : Int32), oD y1, .second, oD x3, .second, oD x5, .second, oD x7, .second, oD x9, .second, oD x11, .second, oD x13, .second, oD x16, .second, oR h0.size, .unset, .unset] [(.int (((((((own_one (2 : Int32) (0 : Int32) y1 x16) + (own_one (2 : Int32) (1 : Int32) x3 x16)) + (own_one (2 : Int32) (2 : Int32) x5 x16)) + (own_one (2 : Int32) (3 : Int32) x7 x16)) + (own_one (2 : Int32) (4 : Int32) x9 x16)) + (own_one (2 : Int32) (5 : Int32) x11 x16)) + (own_one (2 : Int32) (6 : Int32) x13 x16)))])
    refine own_by (fun t_ k_ => XS.istore XT37.here hx rfl (hb hby at_262) rfl (l' := #[oI i0, oI i1, oI i2, oI i3, oI (2 : Int32), oD y1, .second, oD x3, .second, oD x5, .second, oD x7, .second, oD x9, .second, oD x11, .second, oD x13, .second, oD x16, .second, oR h0.size, oI (((((((own_one (2 : Int32) (0 : Int32) y1 x16) + (own_one (2 : Int32) (1 : Int32) x3 x16)) + (own_one (2 : Int32) (2 : Int32) x5 x16)) + (own_one (2 : Int32) (3 : Int32) x7 x16)) + (own_one (2 : Int32) (4 : Int32) x9 x16)) + (own_one (2 : Int32) (5 : Int32) x11 x16)) + (own_one (2 : Int32) (6 : Int32) x13 x16)), .unset]) rfl k_) ?_
    show own_Go p e below _ T37 (mkF m 264 #[oI i0, oI i1, oI i2, oI i3, oI (2 : Int32), oD y1, .second, oD x3, .second, oD x5, .second, oD x7, .second, oD x9, .second, oD x11, .second, oD x13, .second, oD x16, .second, oR h0.size, oI (((((((own_one (2 : Int32) (0 : Int32) y1 x16) + (own_one (2 : Int32) (1 : Int32) x3 x16)) + (own_one (2 : Int32) (2 : Int32) x5 x16)) + (own_one (2 : Int32) (3 : Int32) x7 x16)) + (own_one (2 : Int32) (4 : Int32) x9 x16)) + (own_one (2 : Int32) (5 : Int32) x11 x16)) + (own_one (2 : Int32) (6 : Int32) x13 x16)), .unset] [])
    refine own_by (fun t_ k_ => XS.aload XT37.here hx rfl (hb hby at_264) rfl rfl  k_) ?_
    show own_Go p e below _ T37 (mkF m 266 #[oI i0, oI i1, oI i2, oI i3, oI (2 : Int32), oD y1, .second, oD x3, .second, oD x5, .second, oD x7, .second, oD x9, .second, oD x11, .second, oD x13, .second, oD x16, .second, oR h0.size, oI (((((((own_one (2 : Int32) (0 : Int32) y1 x16) + (own_one (2 : Int32) (1 : Int32) x3 x16)) + (own_one (2 : Int32) (2 : Int32) x5 x16)) + (own_one (2 : Int32) (3 : Int32) x7 x16)) + (own_one (2 : Int32) (4 : Int32) x9 x16)) + (own_one (2 : Int32) (5 : Int32) x11 x16)) + (own_one (2 : Int32) (6 : Int32) x13 x16)), .unset] [(.ref h0.size)])
    refine own_by (fun t_ k_ => XS.dload XT37.here hx rfl (hb hby at_266) rfl  k_) ?_
    show own_Go p e below _ T37 (mkF m 268 #[oI i0, oI i1, oI i2, oI i3, oI (2 : Int32), oD y1, .second, oD x3, .second, oD x5, .second, oD x7, .second, oD x9, .second, oD x11, .second, oD x13, .second, oD x16, .second, oR h0.size, oI (((((((own_one (2 : Int32) (0 : Int32) y1 x16) + (own_one (2 : Int32) (1 : Int32) x3 x16)) + (own_one (2 : Int32) (2 : Int32) x5 x16)) + (own_one (2 : Int32) (3 : Int32) x7 x16)) + (own_one (2 : Int32) (4 : Int32) x9 x16)) + (own_one (2 : Int32) (5 : Int32) x11 x16)) + (own_one (2 : Int32) (6 : Int32) x13 x16)), .unset] [(.double x16), (.ref h0.size)])
    refine own_callS XT37 hx hZ hown (hw _ (List.mem_of_getElem? (i := 6) rfl)) (hw _ (List.mem_of_getElem? (i := 7) rfl)) (hw _ (List.mem_of_getElem? (i := 8) rfl)) (hw _ (List.mem_of_getElem? (i := 9) rfl)) (by decide) eT37 (argsL := [(.ref h0.size), (.double x16)]) (rest := []) (own_cb2_met l Z a0 hw h0.size x16 kA y1 x3 hT30 VT30) 0 (by decide) (by decide) (by rw [hml]; rfl) (lenOf pd_1 rfl) (Nat.le_of_eq rfl) (hb hby at_268) (by decide) (by decide) (st := [(.double x16), (.ref h0.size)]) rfl ?_
    intro T38 LT38 vT38 XT38 hQT38
    obtain ⟨rfl, eT38, rfl⟩ := hQT38
    show own_Go p e below _ T38 (mkF m 271 #[oI i0, oI i1, oI i2, oI i3, oI (2 : Int32), oD y1, .second, oD x3, .second, oD x5, .second, oD x7, .second, oD x9, .second, oD x11, .second, oD x13, .second, oD x16, .second, oR h0.size, oI (((((((own_one (2 : Int32) (0 : Int32) y1 x16) + (own_one (2 : Int32) (1 : Int32) x3 x16)) + (own_one (2 : Int32) (2 : Int32) x5 x16)) + (own_one (2 : Int32) (3 : Int32) x7 x16)) + (own_one (2 : Int32) (4 : Int32) x9 x16)) + (own_one (2 : Int32) (5 : Int32) x11 x16)) + (own_one (2 : Int32) (6 : Int32) x13 x16)), .unset] [(.int (own_cb2 h0.size x16 kA y1 x3))])
    refine own_by (fun t_ k_ => XS.istore XT38.here hx rfl (hb hby at_271) rfl (l' := #[oI i0, oI i1, oI i2, oI i3, oI (2 : Int32), oD y1, .second, oD x3, .second, oD x5, .second, oD x7, .second, oD x9, .second, oD x11, .second, oD x13, .second, oD x16, .second, oR h0.size, oI (((((((own_one (2 : Int32) (0 : Int32) y1 x16) + (own_one (2 : Int32) (1 : Int32) x3 x16)) + (own_one (2 : Int32) (2 : Int32) x5 x16)) + (own_one (2 : Int32) (3 : Int32) x7 x16)) + (own_one (2 : Int32) (4 : Int32) x9 x16)) + (own_one (2 : Int32) (5 : Int32) x11 x16)) + (own_one (2 : Int32) (6 : Int32) x13 x16)), oI (own_cb2 h0.size x16 kA y1 x3)]) rfl k_) ?_
    show own_Go p e below _ T38 (mkF m 273 #[oI i0, oI i1, oI i2, oI i3, oI (2 : Int32), oD y1, .second, oD x3, .second, oD x5, .second, oD x7, .second, oD x9, .second, oD x11, .second, oD x13, .second, oD x16, .second, oR h0.size, oI (((((((own_one (2 : Int32) (0 : Int32) y1 x16) + (own_one (2 : Int32) (1 : Int32) x3 x16)) + (own_one (2 : Int32) (2 : Int32) x5 x16)) + (own_one (2 : Int32) (3 : Int32) x7 x16)) + (own_one (2 : Int32) (4 : Int32) x9 x16)) + (own_one (2 : Int32) (5 : Int32) x11 x16)) + (own_one (2 : Int32) (6 : Int32) x13 x16)), oI (own_cb2 h0.size x16 kA y1 x3)] [])
    refine own_by (fun t_ k_ => XS.iload XT38.here hx rfl (hb hby at_273) rfl  k_) ?_
    show own_Go p e below _ T38 (mkF m 275 #[oI i0, oI i1, oI i2, oI i3, oI (2 : Int32), oD y1, .second, oD x3, .second, oD x5, .second, oD x7, .second, oD x9, .second, oD x11, .second, oD x13, .second, oD x16, .second, oR h0.size, oI (((((((own_one (2 : Int32) (0 : Int32) y1 x16) + (own_one (2 : Int32) (1 : Int32) x3 x16)) + (own_one (2 : Int32) (2 : Int32) x5 x16)) + (own_one (2 : Int32) (3 : Int32) x7 x16)) + (own_one (2 : Int32) (4 : Int32) x9 x16)) + (own_one (2 : Int32) (5 : Int32) x11 x16)) + (own_one (2 : Int32) (6 : Int32) x13 x16)), oI (own_cb2 h0.size x16 kA y1 x3)] [(.int (own_cb2 h0.size x16 kA y1 x3))])
    refine own_by (fun t_ k_ => XS.iload XT38.here hx rfl (hb hby at_275) rfl  k_) ?_
    show own_Go p e below _ T38 (mkF m 277 #[oI i0, oI i1, oI i2, oI i3, oI (2 : Int32), oD y1, .second, oD x3, .second, oD x5, .second, oD x7, .second, oD x9, .second, oD x11, .second, oD x13, .second, oD x16, .second, oR h0.size, oI (((((((own_one (2 : Int32) (0 : Int32) y1 x16) + (own_one (2 : Int32) (1 : Int32) x3 x16)) + (own_one (2 : Int32) (2 : Int32) x5 x16)) + (own_one (2 : Int32) (3 : Int32) x7 x16)) + (own_one (2 : Int32) (4 : Int32) x9 x16)) + (own_one (2 : Int32) (5 : Int32) x11 x16)) + (own_one (2 : Int32) (6 : Int32) x13 x16)), oI (own_cb2 h0.size x16 kA y1 x3)] [(.int (((((((own_one (2 : Int32) (0 : Int32) y1 x16) + (own_one (2 : Int32) (1 : Int32) x3 x16)) + (own_one (2 : Int32) (2 : Int32) x5 x16)) + (own_one (2 : Int32) (3 : Int32) x7 x16)) + (own_one (2 : Int32) (4 : Int32) x9 x16)) + (own_one (2 : Int32) (5 : Int32) x11 x16)) + (own_one (2 : Int32) (6 : Int32) x13 x16))), (.int (own_cb2 h0.size x16 kA y1 x3))])
    have C0 := own_D_cmp (own_D_up Dy1 1) D8
    have C1 := own_D_cmp (own_D_up D1 1) D8
    simp only [show ((2 ^ 1 : Nat) : Int) = 2 from rfl] at C0 C1
    have hfin : (own_cb2 h0.size x16 kA y1 x3) = (((((((own_one (2 : Int32) (0 : Int32) y1 x16) + (own_one (2 : Int32) (1 : Int32) x3 x16)) + (own_one (2 : Int32) (2 : Int32) x5 x16)) + (own_one (2 : Int32) (3 : Int32) x7 x16)) + (own_one (2 : Int32) (4 : Int32) x9 x16)) + (own_one (2 : Int32) (5 : Int32) x11 x16)) + (own_one (2 : Int32) (6 : Int32) x13 x16)) := by
      by_cases q0 : (0 : Int32) < (cmpValue (FP.dcmp y1 x16) .g)
      · have c0 : (0 : Int32) < (cmpValue (FP.dcmp y1 x16) .g) := q0
        have c1 : (0 : Int32) < (cmpValue (FP.dcmp x3 x16) .g) := own_cmp_gt C1 (Decidable.byContradiction fun z => (own_cmp_ngt C0 (by omega)) q0)
        rw [show own_cb2 h0.size x16 kA y1 x3 = (0 : Int32) by rw [own_cb2, if_pos c1, if_pos c0], show own_one (2 : Int32) (0 : Int32) y1 x16 = (0 : Int32) by rw [own_one, if_pos (by decide), if_pos c0], show own_one (2 : Int32) (1 : Int32) x3 x16 = (0 : Int32) by rw [own_one, if_pos (by decide), if_pos c1], show own_one (2 : Int32) (2 : Int32) x5 x16 = (0 : Int32) by rw [own_one, if_neg (by decide)], show own_one (2 : Int32) (3 : Int32) x7 x16 = (0 : Int32) by rw [own_one, if_neg (by decide)], show own_one (2 : Int32) (4 : Int32) x9 x16 = (0 : Int32) by rw [own_one, if_neg (by decide)], show own_one (2 : Int32) (5 : Int32) x11 x16 = (0 : Int32) by rw [own_one, if_neg (by decide)], show own_one (2 : Int32) (6 : Int32) x13 x16 = (0 : Int32) by rw [own_one, if_neg (by decide)]]
        decide
      · by_cases q1 : (0 : Int32) < (cmpValue (FP.dcmp x3 x16) .g)
        · have c0 : ¬ (0 : Int32) < (cmpValue (FP.dcmp y1 x16) .g) := q0
          have c1 : (0 : Int32) < (cmpValue (FP.dcmp x3 x16) .g) := q1
          rw [show own_cb2 h0.size x16 kA y1 x3 = (1 : Int32) by rw [own_cb2, if_pos c1, if_neg c0], show own_one (2 : Int32) (0 : Int32) y1 x16 = (1 : Int32) by rw [own_one, if_pos (by decide), if_neg c0], show own_one (2 : Int32) (1 : Int32) x3 x16 = (0 : Int32) by rw [own_one, if_pos (by decide), if_pos c1], show own_one (2 : Int32) (2 : Int32) x5 x16 = (0 : Int32) by rw [own_one, if_neg (by decide)], show own_one (2 : Int32) (3 : Int32) x7 x16 = (0 : Int32) by rw [own_one, if_neg (by decide)], show own_one (2 : Int32) (4 : Int32) x9 x16 = (0 : Int32) by rw [own_one, if_neg (by decide)], show own_one (2 : Int32) (5 : Int32) x11 x16 = (0 : Int32) by rw [own_one, if_neg (by decide)], show own_one (2 : Int32) (6 : Int32) x13 x16 = (0 : Int32) by rw [own_one, if_neg (by decide)]]
          decide
        · have c0 : ¬ (0 : Int32) < (cmpValue (FP.dcmp y1 x16) .g) := q0
          have c1 : ¬ (0 : Int32) < (cmpValue (FP.dcmp x3 x16) .g) := q1
          rw [show own_cb2 h0.size x16 kA y1 x3 = (2 : Int32) by rw [own_cb2, if_neg c1], show own_one (2 : Int32) (0 : Int32) y1 x16 = (1 : Int32) by rw [own_one, if_pos (by decide), if_neg c0], show own_one (2 : Int32) (1 : Int32) x3 x16 = (1 : Int32) by rw [own_one, if_pos (by decide), if_neg c1], show own_one (2 : Int32) (2 : Int32) x5 x16 = (0 : Int32) by rw [own_one, if_neg (by decide)], show own_one (2 : Int32) (3 : Int32) x7 x16 = (0 : Int32) by rw [own_one, if_neg (by decide)], show own_one (2 : Int32) (4 : Int32) x9 x16 = (0 : Int32) by rw [own_one, if_neg (by decide)], show own_one (2 : Int32) (5 : Int32) x11 x16 = (0 : Int32) by rw [own_one, if_neg (by decide)], show own_one (2 : Int32) (6 : Int32) x13 x16 = (0 : Int32) by rw [own_one, if_neg (by decide)]]
          decide
    refine own_by (fun t_ k_ => XS.icmpNo XT38.here hx rfl (hb hby at_277) rfl (XT.ii_ne_f hfin) k_) ?_
    show own_Go p e below _ T38 (mkF m 280 #[oI i0, oI i1, oI i2, oI i3, oI (2 : Int32), oD y1, .second, oD x3, .second, oD x5, .second, oD x7, .second, oD x9, .second, oD x11, .second, oD x13, .second, oD x16, .second, oR h0.size, oI (((((((own_one (2 : Int32) (0 : Int32) y1 x16) + (own_one (2 : Int32) (1 : Int32) x3 x16)) + (own_one (2 : Int32) (2 : Int32) x5 x16)) + (own_one (2 : Int32) (3 : Int32) x7 x16)) + (own_one (2 : Int32) (4 : Int32) x9 x16)) + (own_one (2 : Int32) (5 : Int32) x11 x16)) + (own_one (2 : Int32) (6 : Int32) x13 x16)), oI (own_cb2 h0.size x16 kA y1 x3)] [])
    refine own_by (fun t_ k_ => XT.iconstV XT38.here hx rfl (1 : Int32) (hb hby at_280) (by decide) k_) ?_
    show own_Go p e below _ T38 (mkF m 281 #[oI i0, oI i1, oI i2, oI i3, oI (2 : Int32), oD y1, .second, oD x3, .second, oD x5, .second, oD x7, .second, oD x9, .second, oD x11, .second, oD x13, .second, oD x16, .second, oR h0.size, oI (((((((own_one (2 : Int32) (0 : Int32) y1 x16) + (own_one (2 : Int32) (1 : Int32) x3 x16)) + (own_one (2 : Int32) (2 : Int32) x5 x16)) + (own_one (2 : Int32) (3 : Int32) x7 x16)) + (own_one (2 : Int32) (4 : Int32) x9 x16)) + (own_one (2 : Int32) (5 : Int32) x11 x16)) + (own_one (2 : Int32) (6 : Int32) x13 x16)), oI (own_cb2 h0.size x16 kA y1 x3)] [(.int (1 : Int32))])
    refine own_by (fun t_ k_ => XS.goto XT38.here hx rfl (pc0 := 281) (pc' := 285) rfl (hb hby at_281) (by decide) (by decide) k_) ?_
    show own_Go p e below _ T38 (mkF m 285 #[oI i0, oI i1, oI i2, oI i3, oI (2 : Int32), oD y1, .second, oD x3, .second, oD x5, .second, oD x7, .second, oD x9, .second, oD x11, .second, oD x13, .second, oD x16, .second, oR h0.size, oI (((((((own_one (2 : Int32) (0 : Int32) y1 x16) + (own_one (2 : Int32) (1 : Int32) x3 x16)) + (own_one (2 : Int32) (2 : Int32) x5 x16)) + (own_one (2 : Int32) (3 : Int32) x7 x16)) + (own_one (2 : Int32) (4 : Int32) x9 x16)) + (own_one (2 : Int32) (5 : Int32) x11 x16)) + (own_one (2 : Int32) (6 : Int32) x13 x16)), oI (own_cb2 h0.size x16 kA y1 x3)] [(.int (1 : Int32))])
    exact own_retN XT38 hx hlk hret (by simp) (w := (1 : Int32)) (hb hby at_285) (by decide) (by decide) (by decide) (⟨rfl, own_fr0 NT30⟩)
  · rw [hk]
    show own_Go p e below _ T0 (mkF m 94 #[oI i0, oI i1, oI i2, oI i3, oI (3 : Int32), oD y1, .second, oD x3, .second, oD x5, .second, oD x7, .second, oD x9, .second, oD x11, .second, oD x13, .second, oD x16, .second, .unset, .unset, .unset] [])
    refine own_by (fun t_ k_ => XS.iload X0.here hx rfl (hb hby at_94) rfl  k_) ?_
    show own_Go p e below _ T0 (mkF m 96 #[oI i0, oI i1, oI i2, oI i3, oI (3 : Int32), oD y1, .second, oD x3, .second, oD x5, .second, oD x7, .second, oD x9, .second, oD x11, .second, oD x13, .second, oD x16, .second, .unset, .unset, .unset] [(.int (3 : Int32))])
    refine own_newP X0 hx hZ (aty := .double) (hw _ (List.mem_of_getElem? (i := 1) rfl)) e0 (hb hby at_96) 3 3 (by decide) (by decide) (by decide) (by decide) (by decide) (by decide) ?_
    intro T39 hT39 kA XT39 eT39 ET39 YT39
    have VT39 : own_A Z hT39 h0.size .double kA [(.double 0), (.double 0), (.double 0)] := YT39
    have NT39 := Fr.nil h0.size
    clear YT39
    show own_Go p e below _ T39 (mkF m 98 #[oI i0, oI i1, oI i2, oI i3, oI (3 : Int32), oD y1, .second, oD x3, .second, oD x5, .second, oD x7, .second, oD x9, .second, oD x11, .second, oD x13, .second, oD x16, .second, .unset, .unset, .unset] [(.ref h0.size)])
    refine own_by (fun t_ k_ => XS.astore XT39.here hx rfl (hb hby at_98) rfl rfl (l' := #[oI i0, oI i1, oI i2, oI i3, oI (3 : Int32), oD y1, .second, oD x3, .second, oD x5, .second, oD x7, .second, oD x9, .second, oD x11, .second, oD x13, .second, oD x16, .second, oR h0.size, .unset, .unset]) rfl k_) ?_
    show own_Go p e below _ T39 (mkF m 100 #[oI i0, oI i1, oI i2, oI i3, oI (3 : Int32), oD y1, .second, oD x3, .second, oD x5, .second, oD x7, .second, oD x9, .second, oD x11, .second, oD x13, .second, oD x16, .second, oR h0.size, .unset, .unset] [])
    refine own_by (fun t_ k_ => XS.iload XT39.here hx rfl (hb hby at_100) rfl  k_) ?_
    show own_Go p e below _ T39 (mkF m 102 #[oI i0, oI i1, oI i2, oI i3, oI (3 : Int32), oD y1, .second, oD x3, .second, oD x5, .second, oD x7, .second, oD x9, .second, oD x11, .second, oD x13, .second, oD x16, .second, oR h0.size, .unset, .unset] [(.int (3 : Int32))])
    refine own_by (fun t_ k_ => XS.ifNo XT39.here hx rfl (hb hby at_102) rfl (XT.i0_le_f (by decide)) k_) ?_
    show own_Go p e below _ T39 (mkF m 105 #[oI i0, oI i1, oI i2, oI i3, oI (3 : Int32), oD y1, .second, oD x3, .second, oD x5, .second, oD x7, .second, oD x9, .second, oD x11, .second, oD x13, .second, oD x16, .second, oR h0.size, .unset, .unset] [])
    refine own_by (fun t_ k_ => XS.aload XT39.here hx rfl (hb hby at_105) rfl rfl  k_) ?_
    show own_Go p e below _ T39 (mkF m 107 #[oI i0, oI i1, oI i2, oI i3, oI (3 : Int32), oD y1, .second, oD x3, .second, oD x5, .second, oD x7, .second, oD x9, .second, oD x11, .second, oD x13, .second, oD x16, .second, oR h0.size, .unset, .unset] [(.ref h0.size)])
    refine own_by (fun t_ k_ => XT.iconstV XT39.here hx rfl (0 : Int32) (hb hby at_107) (by decide) k_) ?_
    show own_Go p e below _ T39 (mkF m 108 #[oI i0, oI i1, oI i2, oI i3, oI (3 : Int32), oD y1, .second, oD x3, .second, oD x5, .second, oD x7, .second, oD x9, .second, oD x11, .second, oD x13, .second, oD x16, .second, oR h0.size, .unset, .unset] [(.int (0 : Int32)), (.ref h0.size)])
    refine own_by (fun t_ k_ => XS.dload XT39.here hx rfl (hb hby at_108) rfl  k_) ?_
    show own_Go p e below _ T39 (mkF m 110 #[oI i0, oI i1, oI i2, oI i3, oI (3 : Int32), oD y1, .second, oD x3, .second, oD x5, .second, oD x7, .second, oD x9, .second, oD x11, .second, oD x13, .second, oD x16, .second, oR h0.size, .unset, .unset] [(.double y1), (.int (0 : Int32)), (.ref h0.size)])
    refine own_stD XT39 hx hZ eT39 VT39 0 (by decide) (by decide) (by simp) (hb hby at_110) ?_
    intro T40 hT40 XT40 eT40 WT40 YT40
    have VT40 : own_A Z hT40 h0.size .double kA [(.double y1), (.double 0), (.double 0)] := YT40
    have NT40 := own_frs (i := 0) NT39 (Nat.le_refl h0.size)
    clear YT40
    show own_Go p e below _ T40 (mkF m 111 #[oI i0, oI i1, oI i2, oI i3, oI (3 : Int32), oD y1, .second, oD x3, .second, oD x5, .second, oD x7, .second, oD x9, .second, oD x11, .second, oD x13, .second, oD x16, .second, oR h0.size, .unset, .unset] [])
    refine own_by (fun t_ k_ => XS.iload XT40.here hx rfl (hb hby at_111) rfl  k_) ?_
    show own_Go p e below _ T40 (mkF m 113 #[oI i0, oI i1, oI i2, oI i3, oI (3 : Int32), oD y1, .second, oD x3, .second, oD x5, .second, oD x7, .second, oD x9, .second, oD x11, .second, oD x13, .second, oD x16, .second, oR h0.size, .unset, .unset] [(.int (3 : Int32))])
    refine own_by (fun t_ k_ => XT.iconstV XT40.here hx rfl (1 : Int32) (hb hby at_113) (by decide) k_) ?_
    show own_Go p e below _ T40 (mkF m 114 #[oI i0, oI i1, oI i2, oI i3, oI (3 : Int32), oD y1, .second, oD x3, .second, oD x5, .second, oD x7, .second, oD x9, .second, oD x11, .second, oD x13, .second, oD x16, .second, oR h0.size, .unset, .unset] [(.int (1 : Int32)), (.int (3 : Int32))])
    refine own_by (fun t_ k_ => XS.icmpNo XT40.here hx rfl (hb hby at_114) rfl (XT.ii_le_f (by decide)) k_) ?_
    show own_Go p e below _ T40 (mkF m 117 #[oI i0, oI i1, oI i2, oI i3, oI (3 : Int32), oD y1, .second, oD x3, .second, oD x5, .second, oD x7, .second, oD x9, .second, oD x11, .second, oD x13, .second, oD x16, .second, oR h0.size, .unset, .unset] [])
    refine own_by (fun t_ k_ => XS.aload XT40.here hx rfl (hb hby at_117) rfl rfl  k_) ?_
    show own_Go p e below _ T40 (mkF m 119 #[oI i0, oI i1, oI i2, oI i3, oI (3 : Int32), oD y1, .second, oD x3, .second, oD x5, .second, oD x7, .second, oD x9, .second, oD x11, .second, oD x13, .second, oD x16, .second, oR h0.size, .unset, .unset] [(.ref h0.size)])
    refine own_by (fun t_ k_ => XT.iconstV XT40.here hx rfl (1 : Int32) (hb hby at_119) (by decide) k_) ?_
    show own_Go p e below _ T40 (mkF m 120 #[oI i0, oI i1, oI i2, oI i3, oI (3 : Int32), oD y1, .second, oD x3, .second, oD x5, .second, oD x7, .second, oD x9, .second, oD x11, .second, oD x13, .second, oD x16, .second, oR h0.size, .unset, .unset] [(.int (1 : Int32)), (.ref h0.size)])
    refine own_by (fun t_ k_ => XS.dload XT40.here hx rfl (hb hby at_120) rfl  k_) ?_
    show own_Go p e below _ T40 (mkF m 122 #[oI i0, oI i1, oI i2, oI i3, oI (3 : Int32), oD y1, .second, oD x3, .second, oD x5, .second, oD x7, .second, oD x9, .second, oD x11, .second, oD x13, .second, oD x16, .second, oR h0.size, .unset, .unset] [(.double x3), (.int (1 : Int32)), (.ref h0.size)])
    refine own_stD XT40 hx hZ eT40 VT40 1 (by decide) (by decide) (by simp) (hb hby at_122) ?_
    intro T41 hT41 XT41 eT41 WT41 YT41
    have VT41 : own_A Z hT41 h0.size .double kA [(.double y1), (.double x3), (.double 0)] := YT41
    have NT41 := own_frs (i := 1) NT40 (Nat.le_refl h0.size)
    clear YT41
    show own_Go p e below _ T41 (mkF m 123 #[oI i0, oI i1, oI i2, oI i3, oI (3 : Int32), oD y1, .second, oD x3, .second, oD x5, .second, oD x7, .second, oD x9, .second, oD x11, .second, oD x13, .second, oD x16, .second, oR h0.size, .unset, .unset] [])
    refine own_by (fun t_ k_ => XS.iload XT41.here hx rfl (hb hby at_123) rfl  k_) ?_
    show own_Go p e below _ T41 (mkF m 125 #[oI i0, oI i1, oI i2, oI i3, oI (3 : Int32), oD y1, .second, oD x3, .second, oD x5, .second, oD x7, .second, oD x9, .second, oD x11, .second, oD x13, .second, oD x16, .second, oR h0.size, .unset, .unset] [(.int (3 : Int32))])
    refine own_by (fun t_ k_ => XT.iconstV XT41.here hx rfl (2 : Int32) (hb hby at_125) (by decide) k_) ?_
    show own_Go p e below _ T41 (mkF m 126 #[oI i0, oI i1, oI i2, oI i3, oI (3 : Int32), oD y1, .second, oD x3, .second, oD x5, .second, oD x7, .second, oD x9, .second, oD x11, .second, oD x13, .second, oD x16, .second, oR h0.size, .unset, .unset] [(.int (2 : Int32)), (.int (3 : Int32))])
    refine own_by (fun t_ k_ => XS.icmpNo XT41.here hx rfl (hb hby at_126) rfl (XT.ii_le_f (by decide)) k_) ?_
    show own_Go p e below _ T41 (mkF m 129 #[oI i0, oI i1, oI i2, oI i3, oI (3 : Int32), oD y1, .second, oD x3, .second, oD x5, .second, oD x7, .second, oD x9, .second, oD x11, .second, oD x13, .second, oD x16, .second, oR h0.size, .unset, .unset] [])
    refine own_by (fun t_ k_ => XS.aload XT41.here hx rfl (hb hby at_129) rfl rfl  k_) ?_
    show own_Go p e below _ T41 (mkF m 131 #[oI i0, oI i1, oI i2, oI i3, oI (3 : Int32), oD y1, .second, oD x3, .second, oD x5, .second, oD x7, .second, oD x9, .second, oD x11, .second, oD x13, .second, oD x16, .second, oR h0.size, .unset, .unset] [(.ref h0.size)])
    refine own_by (fun t_ k_ => XT.iconstV XT41.here hx rfl (2 : Int32) (hb hby at_131) (by decide) k_) ?_
    show own_Go p e below _ T41 (mkF m 132 #[oI i0, oI i1, oI i2, oI i3, oI (3 : Int32), oD y1, .second, oD x3, .second, oD x5, .second, oD x7, .second, oD x9, .second, oD x11, .second, oD x13, .second, oD x16, .second, oR h0.size, .unset, .unset] [(.int (2 : Int32)), (.ref h0.size)])
    refine own_by (fun t_ k_ => XS.dload XT41.here hx rfl (hb hby at_132) rfl  k_) ?_
    show own_Go p e below _ T41 (mkF m 134 #[oI i0, oI i1, oI i2, oI i3, oI (3 : Int32), oD y1, .second, oD x3, .second, oD x5, .second, oD x7, .second, oD x9, .second, oD x11, .second, oD x13, .second, oD x16, .second, oR h0.size, .unset, .unset] [(.double x5), (.int (2 : Int32)), (.ref h0.size)])
    refine own_stD XT41 hx hZ eT41 VT41 2 (by decide) (by decide) (by simp) (hb hby at_134) ?_
    intro T42 hT42 XT42 eT42 WT42 YT42
    have VT42 : own_A Z hT42 h0.size .double kA [(.double y1), (.double x3), (.double x5)] := YT42
    have NT42 := own_frs (i := 2) NT41 (Nat.le_refl h0.size)
    clear YT42
    show own_Go p e below _ T42 (mkF m 135 #[oI i0, oI i1, oI i2, oI i3, oI (3 : Int32), oD y1, .second, oD x3, .second, oD x5, .second, oD x7, .second, oD x9, .second, oD x11, .second, oD x13, .second, oD x16, .second, oR h0.size, .unset, .unset] [])
    refine own_by (fun t_ k_ => XS.iload XT42.here hx rfl (hb hby at_135) rfl  k_) ?_
    show own_Go p e below _ T42 (mkF m 137 #[oI i0, oI i1, oI i2, oI i3, oI (3 : Int32), oD y1, .second, oD x3, .second, oD x5, .second, oD x7, .second, oD x9, .second, oD x11, .second, oD x13, .second, oD x16, .second, oR h0.size, .unset, .unset] [(.int (3 : Int32))])
    refine own_by (fun t_ k_ => XT.iconstV XT42.here hx rfl (3 : Int32) (hb hby at_137) (by decide) k_) ?_
    show own_Go p e below _ T42 (mkF m 138 #[oI i0, oI i1, oI i2, oI i3, oI (3 : Int32), oD y1, .second, oD x3, .second, oD x5, .second, oD x7, .second, oD x9, .second, oD x11, .second, oD x13, .second, oD x16, .second, oR h0.size, .unset, .unset] [(.int (3 : Int32)), (.int (3 : Int32))])
    refine own_by (fun t_ k_ => XS.icmpYes XT42.here hx rfl (pc0 := 138) (pc' := 147) rfl (hb hby at_138) rfl (XT.ii_le_t (by decide)) (by decide) (by decide) k_) ?_
    show own_Go p e below _ T42 (mkF m 147 #[oI i0, oI i1, oI i2, oI i3, oI (3 : Int32), oD y1, .second, oD x3, .second, oD x5, .second, oD x7, .second, oD x9, .second, oD x11, .second, oD x13, .second, oD x16, .second, oR h0.size, .unset, .unset] [])
    refine own_by (fun t_ k_ => XS.iload XT42.here hx rfl (hb hby at_147) rfl  k_) ?_
    show own_Go p e below _ T42 (mkF m 149 #[oI i0, oI i1, oI i2, oI i3, oI (3 : Int32), oD y1, .second, oD x3, .second, oD x5, .second, oD x7, .second, oD x9, .second, oD x11, .second, oD x13, .second, oD x16, .second, oR h0.size, .unset, .unset] [(.int (3 : Int32))])
    refine own_by (fun t_ k_ => XT.iconstV XT42.here hx rfl (4 : Int32) (hb hby at_149) (by decide) k_) ?_
    show own_Go p e below _ T42 (mkF m 150 #[oI i0, oI i1, oI i2, oI i3, oI (3 : Int32), oD y1, .second, oD x3, .second, oD x5, .second, oD x7, .second, oD x9, .second, oD x11, .second, oD x13, .second, oD x16, .second, oR h0.size, .unset, .unset] [(.int (4 : Int32)), (.int (3 : Int32))])
    refine own_by (fun t_ k_ => XS.icmpYes XT42.here hx rfl (pc0 := 150) (pc' := 159) rfl (hb hby at_150) rfl (XT.ii_le_t (by decide)) (by decide) (by decide) k_) ?_
    show own_Go p e below _ T42 (mkF m 159 #[oI i0, oI i1, oI i2, oI i3, oI (3 : Int32), oD y1, .second, oD x3, .second, oD x5, .second, oD x7, .second, oD x9, .second, oD x11, .second, oD x13, .second, oD x16, .second, oR h0.size, .unset, .unset] [])
    refine own_by (fun t_ k_ => XS.iload XT42.here hx rfl (hb hby at_159) rfl  k_) ?_
    show own_Go p e below _ T42 (mkF m 161 #[oI i0, oI i1, oI i2, oI i3, oI (3 : Int32), oD y1, .second, oD x3, .second, oD x5, .second, oD x7, .second, oD x9, .second, oD x11, .second, oD x13, .second, oD x16, .second, oR h0.size, .unset, .unset] [(.int (3 : Int32))])
    refine own_by (fun t_ k_ => XT.iconstV XT42.here hx rfl (5 : Int32) (hb hby at_161) (by decide) k_) ?_
    show own_Go p e below _ T42 (mkF m 162 #[oI i0, oI i1, oI i2, oI i3, oI (3 : Int32), oD y1, .second, oD x3, .second, oD x5, .second, oD x7, .second, oD x9, .second, oD x11, .second, oD x13, .second, oD x16, .second, oR h0.size, .unset, .unset] [(.int (5 : Int32)), (.int (3 : Int32))])
    refine own_by (fun t_ k_ => XS.icmpYes XT42.here hx rfl (pc0 := 162) (pc' := 171) rfl (hb hby at_162) rfl (XT.ii_le_t (by decide)) (by decide) (by decide) k_) ?_
    show own_Go p e below _ T42 (mkF m 171 #[oI i0, oI i1, oI i2, oI i3, oI (3 : Int32), oD y1, .second, oD x3, .second, oD x5, .second, oD x7, .second, oD x9, .second, oD x11, .second, oD x13, .second, oD x16, .second, oR h0.size, .unset, .unset] [])
    refine own_by (fun t_ k_ => XS.iload XT42.here hx rfl (hb hby at_171) rfl  k_) ?_
    show own_Go p e below _ T42 (mkF m 173 #[oI i0, oI i1, oI i2, oI i3, oI (3 : Int32), oD y1, .second, oD x3, .second, oD x5, .second, oD x7, .second, oD x9, .second, oD x11, .second, oD x13, .second, oD x16, .second, oR h0.size, .unset, .unset] [(.int (3 : Int32))])
    refine own_by (fun t_ k_ => XT.bipushV XT42.here hx rfl (6 : Int32) (hb hby at_173) (by decide) k_) ?_
    show own_Go p e below _ T42 (mkF m 175 #[oI i0, oI i1, oI i2, oI i3, oI (3 : Int32), oD y1, .second, oD x3, .second, oD x5, .second, oD x7, .second, oD x9, .second, oD x11, .second, oD x13, .second, oD x16, .second, oR h0.size, .unset, .unset] [(.int (6 : Int32)), (.int (3 : Int32))])
    refine own_by (fun t_ k_ => XS.icmpYes XT42.here hx rfl (pc0 := 175) (pc' := 185) rfl (hb hby at_175) rfl (XT.ii_le_t (by decide)) (by decide) (by decide) k_) ?_
    show own_Go p e below _ T42 (mkF m 185 #[oI i0, oI i1, oI i2, oI i3, oI (3 : Int32), oD y1, .second, oD x3, .second, oD x5, .second, oD x7, .second, oD x9, .second, oD x11, .second, oD x13, .second, oD x16, .second, oR h0.size, .unset, .unset] [])
    refine own_by (fun t_ k_ => XS.iload XT42.here hx rfl (hb hby at_185) rfl  k_) ?_
    show own_Go p e below _ T42 (mkF m 187 #[oI i0, oI i1, oI i2, oI i3, oI (3 : Int32), oD y1, .second, oD x3, .second, oD x5, .second, oD x7, .second, oD x9, .second, oD x11, .second, oD x13, .second, oD x16, .second, oR h0.size, .unset, .unset] [(.int (3 : Int32))])
    refine own_by (fun t_ k_ => XT.iconstV XT42.here hx rfl (0 : Int32) (hb hby at_187) (by decide) k_) ?_
    show own_Go p e below _ T42 (mkF m 188 #[oI i0, oI i1, oI i2, oI i3, oI (3 : Int32), oD y1, .second, oD x3, .second, oD x5, .second, oD x7, .second, oD x9, .second, oD x11, .second, oD x13, .second, oD x16, .second, oR h0.size, .unset, .unset] [(.int (0 : Int32)), (.int (3 : Int32))])
    refine own_by (fun t_ k_ => XS.dload XT42.here hx rfl (hb hby at_188) rfl  k_) ?_
    show own_Go p e below _ T42 (mkF m 190 #[oI i0, oI i1, oI i2, oI i3, oI (3 : Int32), oD y1, .second, oD x3, .second, oD x5, .second, oD x7, .second, oD x9, .second, oD x11, .second, oD x13, .second, oD x16, .second, oR h0.size, .unset, .unset] [(.double y1), (.int (0 : Int32)), (.int (3 : Int32))])
    refine own_by (fun t_ k_ => XS.dload XT42.here hx rfl (hb hby at_190) rfl  k_) ?_
    show own_Go p e below _ T42 (mkF m 192 #[oI i0, oI i1, oI i2, oI i3, oI (3 : Int32), oD y1, .second, oD x3, .second, oD x5, .second, oD x7, .second, oD x9, .second, oD x11, .second, oD x13, .second, oD x16, .second, oR h0.size, .unset, .unset] [(.double x16), (.double y1), (.int (0 : Int32)), (.int (3 : Int32))])
    refine own_callS XT42 hx hZ hown (hw _ (List.mem_of_getElem? (i := 2) rfl)) (hw _ (List.mem_of_getElem? (i := 3) rfl)) (hw _ (List.mem_of_getElem? (i := 4) rfl)) (hw _ (List.mem_of_getElem? (i := 5) rfl)) (by decide) eT42 (argsL := [(.int (3 : Int32)), (.int (0 : Int32)), (.double y1), (.double x16)]) (rest := []) (own_one_met l Z a0 hw (3 : Int32) (0 : Int32) y1 x16 hT42) 0 (by decide) (by decide) (by rw [hml]; rfl) (lenOf pd_0 rfl) (Nat.le_of_eq rfl) (hb hby at_192) (by decide) (by decide) (st := [(.double x16), (.double y1), (.int (0 : Int32)), (.int (3 : Int32))]) rfl ?_
    intro T43 LT43 vT43 XT43 hQT43
    obtain ⟨rfl, eT43, rfl⟩ := hQT43
    show own_Go p e below _ T43 (mkF m 195 #[oI i0, oI i1, oI i2, oI i3, oI (3 : Int32), oD y1, .second, oD x3, .second, oD x5, .second, oD x7, .second, oD x9, .second, oD x11, .second, oD x13, .second, oD x16, .second, oR h0.size, .unset, .unset] [(.int (own_one (3 : Int32) (0 : Int32) y1 x16))])
    refine own_by (fun t_ k_ => XS.iload XT43.here hx rfl (hb hby at_195) rfl  k_) ?_
    show own_Go p e below _ T43 (mkF m 197 #[oI i0, oI i1, oI i2, oI i3, oI (3 : Int32), oD y1, .second, oD x3, .second, oD x5, .second, oD x7, .second, oD x9, .second, oD x11, .second, oD x13, .second, oD x16, .second, oR h0.size, .unset, .unset] [(.int (3 : Int32)), (.int (own_one (3 : Int32) (0 : Int32) y1 x16))])
    refine own_by (fun t_ k_ => XT.iconstV XT43.here hx rfl (1 : Int32) (hb hby at_197) (by decide) k_) ?_
    show own_Go p e below _ T43 (mkF m 198 #[oI i0, oI i1, oI i2, oI i3, oI (3 : Int32), oD y1, .second, oD x3, .second, oD x5, .second, oD x7, .second, oD x9, .second, oD x11, .second, oD x13, .second, oD x16, .second, oR h0.size, .unset, .unset] [(.int (1 : Int32)), (.int (3 : Int32)), (.int (own_one (3 : Int32) (0 : Int32) y1 x16))])
    refine own_by (fun t_ k_ => XS.dload XT43.here hx rfl (hb hby at_198) rfl  k_) ?_
    show own_Go p e below _ T43 (mkF m 200 #[oI i0, oI i1, oI i2, oI i3, oI (3 : Int32), oD y1, .second, oD x3, .second, oD x5, .second, oD x7, .second, oD x9, .second, oD x11, .second, oD x13, .second, oD x16, .second, oR h0.size, .unset, .unset] [(.double x3), (.int (1 : Int32)), (.int (3 : Int32)), (.int (own_one (3 : Int32) (0 : Int32) y1 x16))])
    refine own_by (fun t_ k_ => XS.dload XT43.here hx rfl (hb hby at_200) rfl  k_) ?_
    show own_Go p e below _ T43 (mkF m 202 #[oI i0, oI i1, oI i2, oI i3, oI (3 : Int32), oD y1, .second, oD x3, .second, oD x5, .second, oD x7, .second, oD x9, .second, oD x11, .second, oD x13, .second, oD x16, .second, oR h0.size, .unset, .unset] [(.double x16), (.double x3), (.int (1 : Int32)), (.int (3 : Int32)), (.int (own_one (3 : Int32) (0 : Int32) y1 x16))])
    refine own_callS XT43 hx hZ hown (hw _ (List.mem_of_getElem? (i := 2) rfl)) (hw _ (List.mem_of_getElem? (i := 3) rfl)) (hw _ (List.mem_of_getElem? (i := 4) rfl)) (hw _ (List.mem_of_getElem? (i := 5) rfl)) (by decide) eT43 (argsL := [(.int (3 : Int32)), (.int (1 : Int32)), (.double x3), (.double x16)]) (rest := [(.int (own_one (3 : Int32) (0 : Int32) y1 x16))]) (own_one_met l Z a0 hw (3 : Int32) (1 : Int32) x3 x16 hT42) 1 (by decide) (by decide) (by rw [hml]; rfl) (lenOf pd_0 rfl) (Nat.le_of_eq rfl) (hb hby at_202) (by decide) (by decide) (st := [(.double x16), (.double x3), (.int (1 : Int32)), (.int (3 : Int32)), (.int (own_one (3 : Int32) (0 : Int32) y1 x16))]) rfl ?_
    intro T44 LT44 vT44 XT44 hQT44
    obtain ⟨rfl, eT44, rfl⟩ := hQT44
    show own_Go p e below _ T44 (mkF m 205 #[oI i0, oI i1, oI i2, oI i3, oI (3 : Int32), oD y1, .second, oD x3, .second, oD x5, .second, oD x7, .second, oD x9, .second, oD x11, .second, oD x13, .second, oD x16, .second, oR h0.size, .unset, .unset] [(.int (own_one (3 : Int32) (1 : Int32) x3 x16)), (.int (own_one (3 : Int32) (0 : Int32) y1 x16))])
    refine own_by (fun t_ k_ => XS.iadd XT44.here hx rfl (hb hby at_205) rfl k_) ?_
    show own_Go p e below _ T44 (mkF m 206 #[oI i0, oI i1, oI i2, oI i3, oI (3 : Int32), oD y1, .second, oD x3, .second, oD x5, .second, oD x7, .second, oD x9, .second, oD x11, .second, oD x13, .second, oD x16, .second, oR h0.size, .unset, .unset] [(.int ((own_one (3 : Int32) (0 : Int32) y1 x16) + (own_one (3 : Int32) (1 : Int32) x3 x16)))])
    refine own_by (fun t_ k_ => XS.iload XT44.here hx rfl (hb hby at_206) rfl  k_) ?_
    show own_Go p e below _ T44 (mkF m 208 #[oI i0, oI i1, oI i2, oI i3, oI (3 : Int32), oD y1, .second, oD x3, .second, oD x5, .second, oD x7, .second, oD x9, .second, oD x11, .second, oD x13, .second, oD x16, .second, oR h0.size, .unset, .unset] [(.int (3 : Int32)), (.int ((own_one (3 : Int32) (0 : Int32) y1 x16) + (own_one (3 : Int32) (1 : Int32) x3 x16)))])
    refine own_by (fun t_ k_ => XT.iconstV XT44.here hx rfl (2 : Int32) (hb hby at_208) (by decide) k_) ?_
    show own_Go p e below _ T44 (mkF m 209 #[oI i0, oI i1, oI i2, oI i3, oI (3 : Int32), oD y1, .second, oD x3, .second, oD x5, .second, oD x7, .second, oD x9, .second, oD x11, .second, oD x13, .second, oD x16, .second, oR h0.size, .unset, .unset] [(.int (2 : Int32)), (.int (3 : Int32)), (.int ((own_one (3 : Int32) (0 : Int32) y1 x16) + (own_one (3 : Int32) (1 : Int32) x3 x16)))])
    refine own_by (fun t_ k_ => XS.dload XT44.here hx rfl (hb hby at_209) rfl  k_) ?_
    show own_Go p e below _ T44 (mkF m 211 #[oI i0, oI i1, oI i2, oI i3, oI (3 : Int32), oD y1, .second, oD x3, .second, oD x5, .second, oD x7, .second, oD x9, .second, oD x11, .second, oD x13, .second, oD x16, .second, oR h0.size, .unset, .unset] [(.double x5), (.int (2 : Int32)), (.int (3 : Int32)), (.int ((own_one (3 : Int32) (0 : Int32) y1 x16) + (own_one (3 : Int32) (1 : Int32) x3 x16)))])
    refine own_by (fun t_ k_ => XS.dload XT44.here hx rfl (hb hby at_211) rfl  k_) ?_
    show own_Go p e below _ T44 (mkF m 213 #[oI i0, oI i1, oI i2, oI i3, oI (3 : Int32), oD y1, .second, oD x3, .second, oD x5, .second, oD x7, .second, oD x9, .second, oD x11, .second, oD x13, .second, oD x16, .second, oR h0.size, .unset, .unset] [(.double x16), (.double x5), (.int (2 : Int32)), (.int (3 : Int32)), (.int ((own_one (3 : Int32) (0 : Int32) y1 x16) + (own_one (3 : Int32) (1 : Int32) x3 x16)))])
    refine own_callS XT44 hx hZ hown (hw _ (List.mem_of_getElem? (i := 2) rfl)) (hw _ (List.mem_of_getElem? (i := 3) rfl)) (hw _ (List.mem_of_getElem? (i := 4) rfl)) (hw _ (List.mem_of_getElem? (i := 5) rfl)) (by decide) eT44 (argsL := [(.int (3 : Int32)), (.int (2 : Int32)), (.double x5), (.double x16)]) (rest := [(.int ((own_one (3 : Int32) (0 : Int32) y1 x16) + (own_one (3 : Int32) (1 : Int32) x3 x16)))]) (own_one_met l Z a0 hw (3 : Int32) (2 : Int32) x5 x16 hT42) 1 (by decide) (by decide) (by rw [hml]; rfl) (lenOf pd_0 rfl) (Nat.le_of_eq rfl) (hb hby at_213) (by decide) (by decide) (st := [(.double x16), (.double x5), (.int (2 : Int32)), (.int (3 : Int32)), (.int ((own_one (3 : Int32) (0 : Int32) y1 x16) + (own_one (3 : Int32) (1 : Int32) x3 x16)))]) rfl ?_
    intro T45 LT45 vT45 XT45 hQT45
    obtain ⟨rfl, eT45, rfl⟩ := hQT45
    show own_Go p e below _ T45 (mkF m 216 #[oI i0, oI i1, oI i2, oI i3, oI (3 : Int32), oD y1, .second, oD x3, .second, oD x5, .second, oD x7, .second, oD x9, .second, oD x11, .second, oD x13, .second, oD x16, .second, oR h0.size, .unset, .unset] [(.int (own_one (3 : Int32) (2 : Int32) x5 x16)), (.int ((own_one (3 : Int32) (0 : Int32) y1 x16) + (own_one (3 : Int32) (1 : Int32) x3 x16)))])
    refine own_by (fun t_ k_ => XS.iadd XT45.here hx rfl (hb hby at_216) rfl k_) ?_
    show own_Go p e below _ T45 (mkF m 217 #[oI i0, oI i1, oI i2, oI i3, oI (3 : Int32), oD y1, .second, oD x3, .second, oD x5, .second, oD x7, .second, oD x9, .second, oD x11, .second, oD x13, .second, oD x16, .second, oR h0.size, .unset, .unset] [(.int (((own_one (3 : Int32) (0 : Int32) y1 x16) + (own_one (3 : Int32) (1 : Int32) x3 x16)) + (own_one (3 : Int32) (2 : Int32) x5 x16)))])
    refine own_by (fun t_ k_ => XS.iload XT45.here hx rfl (hb hby at_217) rfl  k_) ?_
    show own_Go p e below _ T45 (mkF m 219 #[oI i0, oI i1, oI i2, oI i3, oI (3 : Int32), oD y1, .second, oD x3, .second, oD x5, .second, oD x7, .second, oD x9, .second, oD x11, .second, oD x13, .second, oD x16, .second, oR h0.size, .unset, .unset] [(.int (3 : Int32)), (.int (((own_one (3 : Int32) (0 : Int32) y1 x16) + (own_one (3 : Int32) (1 : Int32) x3 x16)) + (own_one (3 : Int32) (2 : Int32) x5 x16)))])
    refine own_by (fun t_ k_ => XT.iconstV XT45.here hx rfl (3 : Int32) (hb hby at_219) (by decide) k_) ?_
    show own_Go p e below _ T45 (mkF m 220 #[oI i0, oI i1, oI i2, oI i3, oI (3 : Int32), oD y1, .second, oD x3, .second, oD x5, .second, oD x7, .second, oD x9, .second, oD x11, .second, oD x13, .second, oD x16, .second, oR h0.size, .unset, .unset] [(.int (3 : Int32)), (.int (3 : Int32)), (.int (((own_one (3 : Int32) (0 : Int32) y1 x16) + (own_one (3 : Int32) (1 : Int32) x3 x16)) + (own_one (3 : Int32) (2 : Int32) x5 x16)))])
    refine own_by (fun t_ k_ => XS.dload XT45.here hx rfl (hb hby at_220) rfl  k_) ?_
    show own_Go p e below _ T45 (mkF m 222 #[oI i0, oI i1, oI i2, oI i3, oI (3 : Int32), oD y1, .second, oD x3, .second, oD x5, .second, oD x7, .second, oD x9, .second, oD x11, .second, oD x13, .second, oD x16, .second, oR h0.size, .unset, .unset] [(.double x7), (.int (3 : Int32)), (.int (3 : Int32)), (.int (((own_one (3 : Int32) (0 : Int32) y1 x16) + (own_one (3 : Int32) (1 : Int32) x3 x16)) + (own_one (3 : Int32) (2 : Int32) x5 x16)))])
    refine own_by (fun t_ k_ => XS.dload XT45.here hx rfl (hb hby at_222) rfl  k_) ?_
    show own_Go p e below _ T45 (mkF m 224 #[oI i0, oI i1, oI i2, oI i3, oI (3 : Int32), oD y1, .second, oD x3, .second, oD x5, .second, oD x7, .second, oD x9, .second, oD x11, .second, oD x13, .second, oD x16, .second, oR h0.size, .unset, .unset] [(.double x16), (.double x7), (.int (3 : Int32)), (.int (3 : Int32)), (.int (((own_one (3 : Int32) (0 : Int32) y1 x16) + (own_one (3 : Int32) (1 : Int32) x3 x16)) + (own_one (3 : Int32) (2 : Int32) x5 x16)))])
    refine own_callS XT45 hx hZ hown (hw _ (List.mem_of_getElem? (i := 2) rfl)) (hw _ (List.mem_of_getElem? (i := 3) rfl)) (hw _ (List.mem_of_getElem? (i := 4) rfl)) (hw _ (List.mem_of_getElem? (i := 5) rfl)) (by decide) eT45 (argsL := [(.int (3 : Int32)), (.int (3 : Int32)), (.double x7), (.double x16)]) (rest := [(.int (((own_one (3 : Int32) (0 : Int32) y1 x16) + (own_one (3 : Int32) (1 : Int32) x3 x16)) + (own_one (3 : Int32) (2 : Int32) x5 x16)))]) (own_one_met l Z a0 hw (3 : Int32) (3 : Int32) x7 x16 hT42) 1 (by decide) (by decide) (by rw [hml]; rfl) (lenOf pd_0 rfl) (Nat.le_of_eq rfl) (hb hby at_224) (by decide) (by decide) (st := [(.double x16), (.double x7), (.int (3 : Int32)), (.int (3 : Int32)), (.int (((own_one (3 : Int32) (0 : Int32) y1 x16) + (own_one (3 : Int32) (1 : Int32) x3 x16)) + (own_one (3 : Int32) (2 : Int32) x5 x16)))]) rfl ?_
    intro T46 LT46 vT46 XT46 hQT46
    obtain ⟨rfl, eT46, rfl⟩ := hQT46
    show own_Go p e below _ T46 (mkF m 227 #[oI i0, oI i1, oI i2, oI i3, oI (3 : Int32), oD y1, .second, oD x3, .second, oD x5, .second, oD x7, .second, oD x9, .second, oD x11, .second, oD x13, .second, oD x16, .second, oR h0.size, .unset, .unset] [(.int (own_one (3 : Int32) (3 : Int32) x7 x16)), (.int (((own_one (3 : Int32) (0 : Int32) y1 x16) + (own_one (3 : Int32) (1 : Int32) x3 x16)) + (own_one (3 : Int32) (2 : Int32) x5 x16)))])
    refine own_by (fun t_ k_ => XS.iadd XT46.here hx rfl (hb hby at_227) rfl k_) ?_
    show own_Go p e below _ T46 (mkF m 228 #[oI i0, oI i1, oI i2, oI i3, oI (3 : Int32), oD y1, .second, oD x3, .second, oD x5, .second, oD x7, .second, oD x9, .second, oD x11, .second, oD x13, .second, oD x16, .second, oR h0.size, .unset, .unset] [(.int ((((own_one (3 : Int32) (0 : Int32) y1 x16) + (own_one (3 : Int32) (1 : Int32) x3 x16)) + (own_one (3 : Int32) (2 : Int32) x5 x16)) + (own_one (3 : Int32) (3 : Int32) x7 x16)))])
    refine own_by (fun t_ k_ => XS.iload XT46.here hx rfl (hb hby at_228) rfl  k_) ?_
    show own_Go p e below _ T46 (mkF m 230 #[oI i0, oI i1, oI i2, oI i3, oI (3 : Int32), oD y1, .second, oD x3, .second, oD x5, .second, oD x7, .second, oD x9, .second, oD x11, .second, oD x13, .second, oD x16, .second, oR h0.size, .unset, .unset] [(.int (3 : Int32)), (.int ((((own_one (3 : Int32) (0 : Int32) y1 x16) + (own_one (3 : Int32) (1 : Int32) x3 x16)) + (own_one (3 : Int32) (2 : Int32) x5 x16)) + (own_one (3 : Int32) (3 : Int32) x7 x16)))])
    refine own_by (fun t_ k_ => XT.iconstV XT46.here hx rfl (4 : Int32) (hb hby at_230) (by decide) k_) ?_
    show own_Go p e below _ T46 (mkF m 231 #[oI i0, oI i1, oI i2, oI i3, oI (3 : Int32), oD y1, .second, oD x3, .second, oD x5, .second, oD x7, .second, oD x9, .second, oD x11, .second, oD x13, .second, oD x16, .second, oR h0.size, .unset, .unset] [(.int (4 : Int32)), (.int (3 : Int32)), (.int ((((own_one (3 : Int32) (0 : Int32) y1 x16) + (own_one (3 : Int32) (1 : Int32) x3 x16)) + (own_one (3 : Int32) (2 : Int32) x5 x16)) + (own_one (3 : Int32) (3 : Int32) x7 x16)))])
    refine own_by (fun t_ k_ => XS.dload XT46.here hx rfl (hb hby at_231) rfl  k_) ?_
    show own_Go p e below _ T46 (mkF m 233 #[oI i0, oI i1, oI i2, oI i3, oI (3 : Int32), oD y1, .second, oD x3, .second, oD x5, .second, oD x7, .second, oD x9, .second, oD x11, .second, oD x13, .second, oD x16, .second, oR h0.size, .unset, .unset] [(.double x9), (.int (4 : Int32)), (.int (3 : Int32)), (.int ((((own_one (3 : Int32) (0 : Int32) y1 x16) + (own_one (3 : Int32) (1 : Int32) x3 x16)) + (own_one (3 : Int32) (2 : Int32) x5 x16)) + (own_one (3 : Int32) (3 : Int32) x7 x16)))])
    refine own_by (fun t_ k_ => XS.dload XT46.here hx rfl (hb hby at_233) rfl  k_) ?_
    show own_Go p e below _ T46 (mkF m 235 #[oI i0, oI i1, oI i2, oI i3, oI (3 : Int32), oD y1, .second, oD x3, .second, oD x5, .second, oD x7, .second, oD x9, .second, oD x11, .second, oD x13, .second, oD x16, .second, oR h0.size, .unset, .unset] [(.double x16), (.double x9), (.int (4 : Int32)), (.int (3 : Int32)), (.int ((((own_one (3 : Int32) (0 : Int32) y1 x16) + (own_one (3 : Int32) (1 : Int32) x3 x16)) + (own_one (3 : Int32) (2 : Int32) x5 x16)) + (own_one (3 : Int32) (3 : Int32) x7 x16)))])
    refine own_callS XT46 hx hZ hown (hw _ (List.mem_of_getElem? (i := 2) rfl)) (hw _ (List.mem_of_getElem? (i := 3) rfl)) (hw _ (List.mem_of_getElem? (i := 4) rfl)) (hw _ (List.mem_of_getElem? (i := 5) rfl)) (by decide) eT46 (argsL := [(.int (3 : Int32)), (.int (4 : Int32)), (.double x9), (.double x16)]) (rest := [(.int ((((own_one (3 : Int32) (0 : Int32) y1 x16) + (own_one (3 : Int32) (1 : Int32) x3 x16)) + (own_one (3 : Int32) (2 : Int32) x5 x16)) + (own_one (3 : Int32) (3 : Int32) x7 x16)))]) (own_one_met l Z a0 hw (3 : Int32) (4 : Int32) x9 x16 hT42) 1 (by decide) (by decide) (by rw [hml]; rfl) (lenOf pd_0 rfl) (Nat.le_of_eq rfl) (hb hby at_235) (by decide) (by decide) (st := [(.double x16), (.double x9), (.int (4 : Int32)), (.int (3 : Int32)), (.int ((((own_one (3 : Int32) (0 : Int32) y1 x16) + (own_one (3 : Int32) (1 : Int32) x3 x16)) + (own_one (3 : Int32) (2 : Int32) x5 x16)) + (own_one (3 : Int32) (3 : Int32) x7 x16)))]) rfl ?_
    intro T47 LT47 vT47 XT47 hQT47
    obtain ⟨rfl, eT47, rfl⟩ := hQT47
    show own_Go p e below _ T47 (mkF m 238 #[oI i0, oI i1, oI i2, oI i3, oI (3 : Int32), oD y1, .second, oD x3, .second, oD x5, .second, oD x7, .second, oD x9, .second, oD x11, .second, oD x13, .second, oD x16, .second, oR h0.size, .unset, .unset] [(.int (own_one (3 : Int32) (4 : Int32) x9 x16)), (.int ((((own_one (3 : Int32) (0 : Int32) y1 x16) + (own_one (3 : Int32) (1 : Int32) x3 x16)) + (own_one (3 : Int32) (2 : Int32) x5 x16)) + (own_one (3 : Int32) (3 : Int32) x7 x16)))])
    refine own_by (fun t_ k_ => XS.iadd XT47.here hx rfl (hb hby at_238) rfl k_) ?_
    show own_Go p e below _ T47 (mkF m 239 #[oI i0, oI i1, oI i2, oI i3, oI (3 : Int32), oD y1, .second, oD x3, .second, oD x5, .second, oD x7, .second, oD x9, .second, oD x11, .second, oD x13, .second, oD x16, .second, oR h0.size, .unset, .unset] [(.int (((((own_one (3 : Int32) (0 : Int32) y1 x16) + (own_one (3 : Int32) (1 : Int32) x3 x16)) + (own_one (3 : Int32) (2 : Int32) x5 x16)) + (own_one (3 : Int32) (3 : Int32) x7 x16)) + (own_one (3 : Int32) (4 : Int32) x9 x16)))])
    refine own_by (fun t_ k_ => XS.iload XT47.here hx rfl (hb hby at_239) rfl  k_) ?_
    show own_Go p e below _ T47 (mkF m 241 #[oI i0, oI i1, oI i2, oI i3, oI (3 : Int32), oD y1, .second, oD x3, .second, oD x5, .second, oD x7, .second, oD x9, .second, oD x11, .second, oD x13, .second, oD x16, .second, oR h0.size, .unset, .unset] [(.int (3 : Int32)), (.int (((((own_one (3 : Int32) (0 : Int32) y1 x16) + (own_one (3 : Int32) (1 : Int32) x3 x16)) + (own_one (3 : Int32) (2 : Int32) x5 x16)) + (own_one (3 : Int32) (3 : Int32) x7 x16)) + (own_one (3 : Int32) (4 : Int32) x9 x16)))])
    refine own_by (fun t_ k_ => XT.iconstV XT47.here hx rfl (5 : Int32) (hb hby at_241) (by decide) k_) ?_
    show own_Go p e below _ T47 (mkF m 242 #[oI i0, oI i1, oI i2, oI i3, oI (3 : Int32), oD y1, .second, oD x3, .second, oD x5, .second, oD x7, .second, oD x9, .second, oD x11, .second, oD x13, .second, oD x16, .second, oR h0.size, .unset, .unset] [(.int (5 : Int32)), (.int (3 : Int32)), (.int (((((own_one (3 : Int32) (0 : Int32) y1 x16) + (own_one (3 : Int32) (1 : Int32) x3 x16)) + (own_one (3 : Int32) (2 : Int32) x5 x16)) + (own_one (3 : Int32) (3 : Int32) x7 x16)) + (own_one (3 : Int32) (4 : Int32) x9 x16)))])
    refine own_by (fun t_ k_ => XS.dload XT47.here hx rfl (hb hby at_242) rfl  k_) ?_
    show own_Go p e below _ T47 (mkF m 244 #[oI i0, oI i1, oI i2, oI i3, oI (3 : Int32), oD y1, .second, oD x3, .second, oD x5, .second, oD x7, .second, oD x9, .second, oD x11, .second, oD x13, .second, oD x16, .second, oR h0.size, .unset, .unset] [(.double x11), (.int (5 : Int32)), (.int (3 : Int32)), (.int (((((own_one (3 : Int32) (0 : Int32) y1 x16) + (own_one (3 : Int32) (1 : Int32) x3 x16)) + (own_one (3 : Int32) (2 : Int32) x5 x16)) + (own_one (3 : Int32) (3 : Int32) x7 x16)) + (own_one (3 : Int32) (4 : Int32) x9 x16)))])
    refine own_by (fun t_ k_ => XS.dload XT47.here hx rfl (hb hby at_244) rfl  k_) ?_
    show own_Go p e below _ T47 (mkF m 246 #[oI i0, oI i1, oI i2, oI i3, oI (3 : Int32), oD y1, .second, oD x3, .second, oD x5, .second, oD x7, .second, oD x9, .second, oD x11, .second, oD x13, .second, oD x16, .second, oR h0.size, .unset, .unset] [(.double x16), (.double x11), (.int (5 : Int32)), (.int (3 : Int32)), (.int (((((own_one (3 : Int32) (0 : Int32) y1 x16) + (own_one (3 : Int32) (1 : Int32) x3 x16)) + (own_one (3 : Int32) (2 : Int32) x5 x16)) + (own_one (3 : Int32) (3 : Int32) x7 x16)) + (own_one (3 : Int32) (4 : Int32) x9 x16)))])
    refine own_callS XT47 hx hZ hown (hw _ (List.mem_of_getElem? (i := 2) rfl)) (hw _ (List.mem_of_getElem? (i := 3) rfl)) (hw _ (List.mem_of_getElem? (i := 4) rfl)) (hw _ (List.mem_of_getElem? (i := 5) rfl)) (by decide) eT47 (argsL := [(.int (3 : Int32)), (.int (5 : Int32)), (.double x11), (.double x16)]) (rest := [(.int (((((own_one (3 : Int32) (0 : Int32) y1 x16) + (own_one (3 : Int32) (1 : Int32) x3 x16)) + (own_one (3 : Int32) (2 : Int32) x5 x16)) + (own_one (3 : Int32) (3 : Int32) x7 x16)) + (own_one (3 : Int32) (4 : Int32) x9 x16)))]) (own_one_met l Z a0 hw (3 : Int32) (5 : Int32) x11 x16 hT42) 1 (by decide) (by decide) (by rw [hml]; rfl) (lenOf pd_0 rfl) (Nat.le_of_eq rfl) (hb hby at_246) (by decide) (by decide) (st := [(.double x16), (.double x11), (.int (5 : Int32)), (.int (3 : Int32)), (.int (((((own_one (3 : Int32) (0 : Int32) y1 x16) + (own_one (3 : Int32) (1 : Int32) x3 x16)) + (own_one (3 : Int32) (2 : Int32) x5 x16)) + (own_one (3 : Int32) (3 : Int32) x7 x16)) + (own_one (3 : Int32) (4 : Int32) x9 x16)))]) rfl ?_
    intro T48 LT48 vT48 XT48 hQT48
    obtain ⟨rfl, eT48, rfl⟩ := hQT48
    show own_Go p e below _ T48 (mkF m 249 #[oI i0, oI i1, oI i2, oI i3, oI (3 : Int32), oD y1, .second, oD x3, .second, oD x5, .second, oD x7, .second, oD x9, .second, oD x11, .second, oD x13, .second, oD x16, .second, oR h0.size, .unset, .unset] [(.int (own_one (3 : Int32) (5 : Int32) x11 x16)), (.int (((((own_one (3 : Int32) (0 : Int32) y1 x16) + (own_one (3 : Int32) (1 : Int32) x3 x16)) + (own_one (3 : Int32) (2 : Int32) x5 x16)) + (own_one (3 : Int32) (3 : Int32) x7 x16)) + (own_one (3 : Int32) (4 : Int32) x9 x16)))])
    refine own_by (fun t_ k_ => XS.iadd XT48.here hx rfl (hb hby at_249) rfl k_) ?_
    show own_Go p e below _ T48 (mkF m 250 #[oI i0, oI i1, oI i2, oI i3, oI (3 : Int32), oD y1, .second, oD x3, .second, oD x5, .second, oD x7, .second, oD x9, .second, oD x11, .second, oD x13, .second, oD x16, .second, oR h0.size, .unset, .unset] [(.int ((((((own_one (3 : Int32) (0 : Int32) y1 x16) + (own_one (3 : Int32) (1 : Int32) x3 x16)) + (own_one (3 : Int32) (2 : Int32) x5 x16)) + (own_one (3 : Int32) (3 : Int32) x7 x16)) + (own_one (3 : Int32) (4 : Int32) x9 x16)) + (own_one (3 : Int32) (5 : Int32) x11 x16)))])
    refine own_by (fun t_ k_ => XS.iload XT48.here hx rfl (hb hby at_250) rfl  k_) ?_
    show own_Go p e below _ T48 (mkF m 252 #[oI i0, oI i1, oI i2, oI i3, oI (3 : Int32), oD y1, .second, oD x3, .second, oD x5, .second, oD x7, .second, oD x9, .second, oD x11, .second, oD x13, .second, oD x16, .second, oR h0.size, .unset, .unset] [(.int (3 : Int32)), (.int ((((((own_one (3 : Int32) (0 : Int32) y1 x16) + (own_one (3 : Int32) (1 : Int32) x3 x16)) + (own_one (3 : Int32) (2 : Int32) x5 x16)) + (own_one (3 : Int32) (3 : Int32) x7 x16)) + (own_one (3 : Int32) (4 : Int32) x9 x16)) + (own_one (3 : Int32) (5 : Int32) x11 x16)))])
    refine own_by (fun t_ k_ => XT.bipushV XT48.here hx rfl (6 : Int32) (hb hby at_252) (by decide) k_) ?_
    show own_Go p e below _ T48 (mkF m 254 #[oI i0, oI i1, oI i2, oI i3, oI (3 : Int32), oD y1, .second, oD x3, .second, oD x5, .second, oD x7, .second, oD x9, .second, oD x11, .second, oD x13, .second, oD x16, .second, oR h0.size, .unset, .unset] [(.int (6 : Int32)), (.int (3 : Int32)), (.int ((((((own_one (3 : Int32) (0 : Int32) y1 x16) + (own_one (3 : Int32) (1 : Int32) x3 x16)) + (own_one (3 : Int32) (2 : Int32) x5 x16)) + (own_one (3 : Int32) (3 : Int32) x7 x16)) + (own_one (3 : Int32) (4 : Int32) x9 x16)) + (own_one (3 : Int32) (5 : Int32) x11 x16)))])
    refine own_by (fun t_ k_ => XS.dload XT48.here hx rfl (hb hby at_254) rfl  k_) ?_
    show own_Go p e below _ T48 (mkF m 256 #[oI i0, oI i1, oI i2, oI i3, oI (3 : Int32), oD y1, .second, oD x3, .second, oD x5, .second, oD x7, .second, oD x9, .second, oD x11, .second, oD x13, .second, oD x16, .second, oR h0.size, .unset, .unset] [(.double x13), (.int (6 : Int32)), (.int (3 : Int32)), (.int ((((((own_one (3 : Int32) (0 : Int32) y1 x16) + (own_one (3 : Int32) (1 : Int32) x3 x16)) + (own_one (3 : Int32) (2 : Int32) x5 x16)) + (own_one (3 : Int32) (3 : Int32) x7 x16)) + (own_one (3 : Int32) (4 : Int32) x9 x16)) + (own_one (3 : Int32) (5 : Int32) x11 x16)))])
    refine own_by (fun t_ k_ => XS.dload XT48.here hx rfl (hb hby at_256) rfl  k_) ?_
    show own_Go p e below _ T48 (mkF m 258 #[oI i0, oI i1, oI i2, oI i3, oI (3 : Int32), oD y1, .second, oD x3, .second, oD x5, .second, oD x7, .second, oD x9, .second, oD x11, .second, oD x13, .second, oD x16, .second, oR h0.size, .unset, .unset] [(.double x16), (.double x13), (.int (6 : Int32)), (.int (3 : Int32)), (.int ((((((own_one (3 : Int32) (0 : Int32) y1 x16) + (own_one (3 : Int32) (1 : Int32) x3 x16)) + (own_one (3 : Int32) (2 : Int32) x5 x16)) + (own_one (3 : Int32) (3 : Int32) x7 x16)) + (own_one (3 : Int32) (4 : Int32) x9 x16)) + (own_one (3 : Int32) (5 : Int32) x11 x16)))])
    refine own_callS XT48 hx hZ hown (hw _ (List.mem_of_getElem? (i := 2) rfl)) (hw _ (List.mem_of_getElem? (i := 3) rfl)) (hw _ (List.mem_of_getElem? (i := 4) rfl)) (hw _ (List.mem_of_getElem? (i := 5) rfl)) (by decide) eT48 (argsL := [(.int (3 : Int32)), (.int (6 : Int32)), (.double x13), (.double x16)]) (rest := [(.int ((((((own_one (3 : Int32) (0 : Int32) y1 x16) + (own_one (3 : Int32) (1 : Int32) x3 x16)) + (own_one (3 : Int32) (2 : Int32) x5 x16)) + (own_one (3 : Int32) (3 : Int32) x7 x16)) + (own_one (3 : Int32) (4 : Int32) x9 x16)) + (own_one (3 : Int32) (5 : Int32) x11 x16)))]) (own_one_met l Z a0 hw (3 : Int32) (6 : Int32) x13 x16 hT42) 1 (by decide) (by decide) (by rw [hml]; rfl) (lenOf pd_0 rfl) (Nat.le_of_eq rfl) (hb hby at_258) (by decide) (by decide) (st := [(.double x16), (.double x13), (.int (6 : Int32)), (.int (3 : Int32)), (.int ((((((own_one (3 : Int32) (0 : Int32) y1 x16) + (own_one (3 : Int32) (1 : Int32) x3 x16)) + (own_one (3 : Int32) (2 : Int32) x5 x16)) + (own_one (3 : Int32) (3 : Int32) x7 x16)) + (own_one (3 : Int32) (4 : Int32) x9 x16)) + (own_one (3 : Int32) (5 : Int32) x11 x16)))]) rfl ?_
    intro T49 LT49 vT49 XT49 hQT49
    obtain ⟨rfl, eT49, rfl⟩ := hQT49
    show own_Go p e below _ T49 (mkF m 261 #[oI i0, oI i1, oI i2, oI i3, oI (3 : Int32), oD y1, .second, oD x3, .second, oD x5, .second, oD x7, .second, oD x9, .second, oD x11, .second, oD x13, .second, oD x16, .second, oR h0.size, .unset, .unset] [(.int (own_one (3 : Int32) (6 : Int32) x13 x16)), (.int ((((((own_one (3 : Int32) (0 : Int32) y1 x16) + (own_one (3 : Int32) (1 : Int32) x3 x16)) + (own_one (3 : Int32) (2 : Int32) x5 x16)) + (own_one (3 : Int32) (3 : Int32) x7 x16)) + (own_one (3 : Int32) (4 : Int32) x9 x16)) + (own_one (3 : Int32) (5 : Int32) x11 x16)))])
    refine own_by (fun t_ k_ => XS.iadd XT49.here hx rfl (hb hby at_261) rfl k_) ?_
    show own_Go p e below _ T49 (mkF m 262 #[oI i0, oI i1, oI i2, oI i3, oI (3 : Int32), oD y1, .second, oD x3, .second, oD x5, .second, oD x7, .second, oD x9, .second, oD x11, .second, oD x13, .second, oD x16, .second, oR h0.size, .unset, .unset] [(.int (((((((own_one (3 : Int32) (0 : Int32) y1 x16) + (own_one (3 : Int32) (1 : Int32) x3 x16)) + (own_one (3 : Int32) (2 : Int32) x5 x16)) + (own_one (3 : Int32) (3 : Int32) x7 x16)) + (own_one (3 : Int32) (4 : Int32) x9 x16)) + (own_one (3 : Int32) (5 : Int32) x11 x16)) + (own_one (3 : Int32) (6 : Int32) x13 x16)))])
    refine own_by (fun t_ k_ => XS.istore XT49.here hx rfl (hb hby at_262) rfl (l' := #[oI i0, oI i1, oI i2, oI i3, oI (3 : Int32), oD y1, .second, oD x3, .second, oD x5, .second, oD x7, .second, oD x9, .second, oD x11, .second, oD x13, .second, oD x16, .second, oR h0.size, oI (((((((own_one (3 : Int32) (0 : Int32) y1 x16) + (own_one (3 : Int32) (1 : Int32) x3 x16)) + (own_one (3 : Int32) (2 : Int32) x5 x16)) + (own_one (3 : Int32) (3 : Int32) x7 x16)) + (own_one (3 : Int32) (4 : Int32) x9 x16)) + (own_one (3 : Int32) (5 : Int32) x11 x16)) + (own_one (3 : Int32) (6 : Int32) x13 x16)), .unset]) rfl k_) ?_
    show own_Go p e below _ T49 (mkF m 264 #[oI i0, oI i1, oI i2, oI i3, oI (3 : Int32), oD y1, .second, oD x3, .second, oD x5, .second, oD x7, .second, oD x9, .second, oD x11, .second, oD x13, .second, oD x16, .second, oR h0.size, oI (((((((own_one (3 : Int32) (0 : Int32) y1 x16) + (own_one (3 : Int32) (1 : Int32) x3 x16)) + (own_one (3 : Int32) (2 : Int32) x5 x16)) + (own_one (3 : Int32) (3 : Int32) x7 x16)) + (own_one (3 : Int32) (4 : Int32) x9 x16)) + (own_one (3 : Int32) (5 : Int32) x11 x16)) + (own_one (3 : Int32) (6 : Int32) x13 x16)), .unset] [])
    refine own_by (fun t_ k_ => XS.aload XT49.here hx rfl (hb hby at_264) rfl rfl  k_) ?_
    show own_Go p e below _ T49 (mkF m 266 #[oI i0, oI i1, oI i2, oI i3, oI (3 : Int32), oD y1, .second, oD x3, .second, oD x5, .second, oD x7, .second, oD x9, .second, oD x11, .second, oD x13, .second, oD x16, .second, oR h0.size, oI (((((((own_one (3 : Int32) (0 : Int32) y1 x16) + (own_one (3 : Int32) (1 : Int32) x3 x16)) + (own_one (3 : Int32) (2 : Int32) x5 x16)) + (own_one (3 : Int32) (3 : Int32) x7 x16)) + (own_one (3 : Int32) (4 : Int32) x9 x16)) + (own_one (3 : Int32) (5 : Int32) x11 x16)) + (own_one (3 : Int32) (6 : Int32) x13 x16)), .unset] [(.ref h0.size)])
    refine own_by (fun t_ k_ => XS.dload XT49.here hx rfl (hb hby at_266) rfl  k_) ?_
    show own_Go p e below _ T49 (mkF m 268 #[oI i0, oI i1, oI i2, oI i3, oI (3 : Int32), oD y1, .second, oD x3, .second, oD x5, .second, oD x7, .second, oD x9, .second, oD x11, .second, oD x13, .second, oD x16, .second, oR h0.size, oI (((((((own_one (3 : Int32) (0 : Int32) y1 x16) + (own_one (3 : Int32) (1 : Int32) x3 x16)) + (own_one (3 : Int32) (2 : Int32) x5 x16)) + (own_one (3 : Int32) (3 : Int32) x7 x16)) + (own_one (3 : Int32) (4 : Int32) x9 x16)) + (own_one (3 : Int32) (5 : Int32) x11 x16)) + (own_one (3 : Int32) (6 : Int32) x13 x16)), .unset] [(.double x16), (.ref h0.size)])
    refine own_callS XT49 hx hZ hown (hw _ (List.mem_of_getElem? (i := 6) rfl)) (hw _ (List.mem_of_getElem? (i := 7) rfl)) (hw _ (List.mem_of_getElem? (i := 8) rfl)) (hw _ (List.mem_of_getElem? (i := 9) rfl)) (by decide) eT49 (argsL := [(.ref h0.size), (.double x16)]) (rest := []) (own_cb3_met l Z a0 hw h0.size x16 kA y1 x3 x5 hT42 VT42) 0 (by decide) (by decide) (by rw [hml]; rfl) (lenOf pd_1 rfl) (Nat.le_of_eq rfl) (hb hby at_268) (by decide) (by decide) (st := [(.double x16), (.ref h0.size)]) rfl ?_
    intro T50 LT50 vT50 XT50 hQT50
    obtain ⟨rfl, eT50, rfl⟩ := hQT50
    show own_Go p e below _ T50 (mkF m 271 #[oI i0, oI i1, oI i2, oI i3, oI (3 : Int32), oD y1, .second, oD x3, .second, oD x5, .second, oD x7, .second, oD x9, .second, oD x11, .second, oD x13, .second, oD x16, .second, oR h0.size, oI (((((((own_one (3 : Int32) (0 : Int32) y1 x16) + (own_one (3 : Int32) (1 : Int32) x3 x16)) + (own_one (3 : Int32) (2 : Int32) x5 x16)) + (own_one (3 : Int32) (3 : Int32) x7 x16)) + (own_one (3 : Int32) (4 : Int32) x9 x16)) + (own_one (3 : Int32) (5 : Int32) x11 x16)) + (own_one (3 : Int32) (6 : Int32) x13 x16)), .unset] [(.int (own_cb3 h0.size x16 kA y1 x3 x5))])
    refine own_by (fun t_ k_ => XS.istore XT50.here hx rfl (hb hby at_271) rfl (l' := #[oI i0, oI i1, oI i2, oI i3, oI (3 : Int32), oD y1, .second, oD x3, .second, oD x5, .second, oD x7, .second, oD x9, .second, oD x11, .second, oD x13, .second, oD x16, .second, oR h0.size, oI (((((((own_one (3 : Int32) (0 : Int32) y1 x16) + (own_one (3 : Int32) (1 : Int32) x3 x16)) + (own_one (3 : Int32) (2 : Int32) x5 x16)) + (own_one (3 : Int32) (3 : Int32) x7 x16)) + (own_one (3 : Int32) (4 : Int32) x9 x16)) + (own_one (3 : Int32) (5 : Int32) x11 x16)) + (own_one (3 : Int32) (6 : Int32) x13 x16)), oI (own_cb3 h0.size x16 kA y1 x3 x5)]) rfl k_) ?_
    show own_Go p e below _ T50 (mkF m 273 #[oI i0, oI i1, oI i2, oI i3, oI (3 : Int32), oD y1, .second, oD x3, .second, oD x5, .second, oD x7, .second, oD x9, .second, oD x11, .second, oD x13, .second, oD x16, .second, oR h0.size, oI (((((((own_one (3 : Int32) (0 : Int32) y1 x16) + (own_one (3 : Int32) (1 : Int32) x3 x16)) + (own_one (3 : Int32) (2 : Int32) x5 x16)) + (own_one (3 : Int32) (3 : Int32) x7 x16)) + (own_one (3 : Int32) (4 : Int32) x9 x16)) + (own_one (3 : Int32) (5 : Int32) x11 x16)) + (own_one (3 : Int32) (6 : Int32) x13 x16)), oI (own_cb3 h0.size x16 kA y1 x3 x5)] [])
    refine own_by (fun t_ k_ => XS.iload XT50.here hx rfl (hb hby at_273) rfl  k_) ?_
    show own_Go p e below _ T50 (mkF m 275 #[oI i0, oI i1, oI i2, oI i3, oI (3 : Int32), oD y1, .second, oD x3, .second, oD x5, .second, oD x7, .second, oD x9, .second, oD x11, .second, oD x13, .second, oD x16, .second, oR h0.size, oI (((((((own_one (3 : Int32) (0 : Int32) y1 x16) + (own_one (3 : Int32) (1 : Int32) x3 x16)) + (own_one (3 : Int32) (2 : Int32) x5 x16)) + (own_one (3 : Int32) (3 : Int32) x7 x16)) + (own_one (3 : Int32) (4 : Int32) x9 x16)) + (own_one (3 : Int32) (5 : Int32) x11 x16)) + (own_one (3 : Int32) (6 : Int32) x13 x16)), oI (own_cb3 h0.size x16 kA y1 x3 x5)] [(.int (own_cb3 h0.size x16 kA y1 x3 x5))])
    refine own_by (fun t_ k_ => XS.iload XT50.here hx rfl (hb hby at_275) rfl  k_) ?_
    show own_Go p e below _ T50 (mkF m 277 #[oI i0, oI i1, oI i2, oI i3, oI (3 : Int32), oD y1, .second, oD x3, .second, oD x5, .second, oD x7, .second, oD x9, .second, oD x11, .second, oD x13, .second, oD x16, .second, oR h0.size, oI (((((((own_one (3 : Int32) (0 : Int32) y1 x16) + (own_one (3 : Int32) (1 : Int32) x3 x16)) + (own_one (3 : Int32) (2 : Int32) x5 x16)) + (own_one (3 : Int32) (3 : Int32) x7 x16)) + (own_one (3 : Int32) (4 : Int32) x9 x16)) + (own_one (3 : Int32) (5 : Int32) x11 x16)) + (own_one (3 : Int32) (6 : Int32) x13 x16)), oI (own_cb3 h0.size x16 kA y1 x3 x5)] [(.int (((((((own_one (3 : Int32) (0 : Int32) y1 x16) + (own_one (3 : Int32) (1 : Int32) x3 x16)) + (own_one (3 : Int32) (2 : Int32) x5 x16)) + (own_one (3 : Int32) (3 : Int32) x7 x16)) + (own_one (3 : Int32) (4 : Int32) x9 x16)) + (own_one (3 : Int32) (5 : Int32) x11 x16)) + (own_one (3 : Int32) (6 : Int32) x13 x16))), (.int (own_cb3 h0.size x16 kA y1 x3 x5))])
    have C0 := own_D_cmp (own_D_up Dy1 1) D8
    have C1 := own_D_cmp (own_D_up D1 1) D8
    have C2 := own_D_cmp (own_D_up D2 1) D8
    simp only [show ((2 ^ 1 : Nat) : Int) = 2 from rfl] at C0 C1 C2
    have hfin : (own_cb3 h0.size x16 kA y1 x3 x5) = (((((((own_one (3 : Int32) (0 : Int32) y1 x16) + (own_one (3 : Int32) (1 : Int32) x3 x16)) + (own_one (3 : Int32) (2 : Int32) x5 x16)) + (own_one (3 : Int32) (3 : Int32) x7 x16)) + (own_one (3 : Int32) (4 : Int32) x9 x16)) + (own_one (3 : Int32) (5 : Int32) x11 x16)) + (own_one (3 : Int32) (6 : Int32) x13 x16)) := by
      by_cases q0 : (0 : Int32) < (cmpValue (FP.dcmp y1 x16) .g)
      · have c0 : (0 : Int32) < (cmpValue (FP.dcmp y1 x16) .g) := q0
        have c1 : (0 : Int32) < (cmpValue (FP.dcmp x3 x16) .g) := own_cmp_gt C1 (Decidable.byContradiction fun z => (own_cmp_ngt C0 (by omega)) q0)
        have c2 : (0 : Int32) < (cmpValue (FP.dcmp x5 x16) .g) := own_cmp_gt C2 (Decidable.byContradiction fun z => (own_cmp_ngt C0 (by omega)) q0)
        rw [show own_cb3 h0.size x16 kA y1 x3 x5 = (0 : Int32) by rw [own_cb3, if_pos c1, if_pos c0], show own_one (3 : Int32) (0 : Int32) y1 x16 = (0 : Int32) by rw [own_one, if_pos (by decide), if_pos c0], show own_one (3 : Int32) (1 : Int32) x3 x16 = (0 : Int32) by rw [own_one, if_pos (by decide), if_pos c1], show own_one (3 : Int32) (2 : Int32) x5 x16 = (0 : Int32) by rw [own_one, if_pos (by decide), if_pos c2], show own_one (3 : Int32) (3 : Int32) x7 x16 = (0 : Int32) by rw [own_one, if_neg (by decide)], show own_one (3 : Int32) (4 : Int32) x9 x16 = (0 : Int32) by rw [own_one, if_neg (by decide)], show own_one (3 : Int32) (5 : Int32) x11 x16 = (0 : Int32) by rw [own_one, if_neg (by decide)], show own_one (3 : Int32) (6 : Int32) x13 x16 = (0 : Int32) by rw [own_one, if_neg (by decide)]]
        decide
      · by_cases q1 : (0 : Int32) < (cmpValue (FP.dcmp x3 x16) .g)
        · have c0 : ¬ (0 : Int32) < (cmpValue (FP.dcmp y1 x16) .g) := q0
          have c1 : (0 : Int32) < (cmpValue (FP.dcmp x3 x16) .g) := q1
          have c2 : (0 : Int32) < (cmpValue (FP.dcmp x5 x16) .g) := own_cmp_gt C2 (Decidable.byContradiction fun z => (own_cmp_ngt C1 (by omega)) q1)
          rw [show own_cb3 h0.size x16 kA y1 x3 x5 = (1 : Int32) by rw [own_cb3, if_pos c1, if_neg c0], show own_one (3 : Int32) (0 : Int32) y1 x16 = (1 : Int32) by rw [own_one, if_pos (by decide), if_neg c0], show own_one (3 : Int32) (1 : Int32) x3 x16 = (0 : Int32) by rw [own_one, if_pos (by decide), if_pos c1], show own_one (3 : Int32) (2 : Int32) x5 x16 = (0 : Int32) by rw [own_one, if_pos (by decide), if_pos c2], show own_one (3 : Int32) (3 : Int32) x7 x16 = (0 : Int32) by rw [own_one, if_neg (by decide)], show own_one (3 : Int32) (4 : Int32) x9 x16 = (0 : Int32) by rw [own_one, if_neg (by decide)], show own_one (3 : Int32) (5 : Int32) x11 x16 = (0 : Int32) by rw [own_one, if_neg (by decide)], show own_one (3 : Int32) (6 : Int32) x13 x16 = (0 : Int32) by rw [own_one, if_neg (by decide)]]
          decide
        · by_cases q2 : (0 : Int32) < (cmpValue (FP.dcmp x5 x16) .g)
          · have c0 : ¬ (0 : Int32) < (cmpValue (FP.dcmp y1 x16) .g) := q0
            have c1 : ¬ (0 : Int32) < (cmpValue (FP.dcmp x3 x16) .g) := q1
            have c2 : (0 : Int32) < (cmpValue (FP.dcmp x5 x16) .g) := q2
            rw [show own_cb3 h0.size x16 kA y1 x3 x5 = (2 : Int32) by rw [own_cb3, if_neg c1, if_pos c2], show own_one (3 : Int32) (0 : Int32) y1 x16 = (1 : Int32) by rw [own_one, if_pos (by decide), if_neg c0], show own_one (3 : Int32) (1 : Int32) x3 x16 = (1 : Int32) by rw [own_one, if_pos (by decide), if_neg c1], show own_one (3 : Int32) (2 : Int32) x5 x16 = (0 : Int32) by rw [own_one, if_pos (by decide), if_pos c2], show own_one (3 : Int32) (3 : Int32) x7 x16 = (0 : Int32) by rw [own_one, if_neg (by decide)], show own_one (3 : Int32) (4 : Int32) x9 x16 = (0 : Int32) by rw [own_one, if_neg (by decide)], show own_one (3 : Int32) (5 : Int32) x11 x16 = (0 : Int32) by rw [own_one, if_neg (by decide)], show own_one (3 : Int32) (6 : Int32) x13 x16 = (0 : Int32) by rw [own_one, if_neg (by decide)]]
            decide
          · have c0 : ¬ (0 : Int32) < (cmpValue (FP.dcmp y1 x16) .g) := q0
            have c1 : ¬ (0 : Int32) < (cmpValue (FP.dcmp x3 x16) .g) := q1
            have c2 : ¬ (0 : Int32) < (cmpValue (FP.dcmp x5 x16) .g) := q2
            rw [show own_cb3 h0.size x16 kA y1 x3 x5 = (3 : Int32) by rw [own_cb3, if_neg c1, if_neg c2], show own_one (3 : Int32) (0 : Int32) y1 x16 = (1 : Int32) by rw [own_one, if_pos (by decide), if_neg c0], show own_one (3 : Int32) (1 : Int32) x3 x16 = (1 : Int32) by rw [own_one, if_pos (by decide), if_neg c1], show own_one (3 : Int32) (2 : Int32) x5 x16 = (1 : Int32) by rw [own_one, if_pos (by decide), if_neg c2], show own_one (3 : Int32) (3 : Int32) x7 x16 = (0 : Int32) by rw [own_one, if_neg (by decide)], show own_one (3 : Int32) (4 : Int32) x9 x16 = (0 : Int32) by rw [own_one, if_neg (by decide)], show own_one (3 : Int32) (5 : Int32) x11 x16 = (0 : Int32) by rw [own_one, if_neg (by decide)], show own_one (3 : Int32) (6 : Int32) x13 x16 = (0 : Int32) by rw [own_one, if_neg (by decide)]]
            decide
    refine own_by (fun t_ k_ => XS.icmpNo XT50.here hx rfl (hb hby at_277) rfl (XT.ii_ne_f hfin) k_) ?_
    show own_Go p e below _ T50 (mkF m 280 #[oI i0, oI i1, oI i2, oI i3, oI (3 : Int32), oD y1, .second, oD x3, .second, oD x5, .second, oD x7, .second, oD x9, .second, oD x11, .second, oD x13, .second, oD x16, .second, oR h0.size, oI (((((((own_one (3 : Int32) (0 : Int32) y1 x16) + (own_one (3 : Int32) (1 : Int32) x3 x16)) + (own_one (3 : Int32) (2 : Int32) x5 x16)) + (own_one (3 : Int32) (3 : Int32) x7 x16)) + (own_one (3 : Int32) (4 : Int32) x9 x16)) + (own_one (3 : Int32) (5 : Int32) x11 x16)) + (own_one (3 : Int32) (6 : Int32) x13 x16)), oI (own_cb3 h0.size x16 kA y1 x3 x5)] [])
    refine own_by (fun t_ k_ => XT.iconstV XT50.here hx rfl (1 : Int32) (hb hby at_280) (by decide) k_) ?_
    show own_Go p e below _ T50 (mkF m 281 #[oI i0, oI i1, oI i2, oI i3, oI (3 : Int32), oD y1, .second, oD x3, .second, oD x5, .second, oD x7, .second, oD x9, .second, oD x11, .second, oD x13, .second, oD x16, .second, oR h0.size, oI (((((((own_one (3 : Int32) (0 : Int32) y1 x16) + (own_one (3 : Int32) (1 : Int32) x3 x16)) + (own_one (3 : Int32) (2 : Int32) x5 x16)) + (own_one (3 : Int32) (3 : Int32) x7 x16)) + (own_one (3 : Int32) (4 : Int32) x9 x16)) + (own_one (3 : Int32) (5 : Int32) x11 x16)) + (own_one (3 : Int32) (6 : Int32) x13 x16)), oI (own_cb3 h0.size x16 kA y1 x3 x5)] [(.int (1 : Int32))])
    refine own_by (fun t_ k_ => XS.goto XT50.here hx rfl (pc0 := 281) (pc' := 285) rfl (hb hby at_281) (by decide) (by decide) k_) ?_
    show own_Go p e below _ T50 (mkF m 285 #[oI i0, oI i1, oI i2, oI i3, oI (3 : Int32), oD y1, .second, oD x3, .second, oD x5, .second, oD x7, .second, oD x9, .second, oD x11, .second, oD x13, .second, oD x16, .second, oR h0.size, oI (((((((own_one (3 : Int32) (0 : Int32) y1 x16) + (own_one (3 : Int32) (1 : Int32) x3 x16)) + (own_one (3 : Int32) (2 : Int32) x5 x16)) + (own_one (3 : Int32) (3 : Int32) x7 x16)) + (own_one (3 : Int32) (4 : Int32) x9 x16)) + (own_one (3 : Int32) (5 : Int32) x11 x16)) + (own_one (3 : Int32) (6 : Int32) x13 x16)), oI (own_cb3 h0.size x16 kA y1 x3 x5)] [(.int (1 : Int32))])
    exact own_retN XT50 hx hlk hret (by simp) (w := (1 : Int32)) (hb hby at_285) (by decide) (by decide) (by decide) (⟨rfl, own_fr0 NT42⟩)
  · rw [hk]
    show own_Go p e below _ T0 (mkF m 94 #[oI i0, oI i1, oI i2, oI i3, oI (4 : Int32), oD y1, .second, oD x3, .second, oD x5, .second, oD x7, .second, oD x9, .second, oD x11, .second, oD x13, .second, oD x16, .second, .unset, .unset, .unset] [])
    refine own_by (fun t_ k_ => XS.iload X0.here hx rfl (hb hby at_94) rfl  k_) ?_
    show own_Go p e below _ T0 (mkF m 96 #[oI i0, oI i1, oI i2, oI i3, oI (4 : Int32), oD y1, .second, oD x3, .second, oD x5, .second, oD x7, .second, oD x9, .second, oD x11, .second, oD x13, .second, oD x16, .second, .unset, .unset, .unset] [(.int (4 : Int32))])
    refine own_newP X0 hx hZ (aty := .double) (hw _ (List.mem_of_getElem? (i := 1) rfl)) e0 (hb hby at_96) 4 4 (by decide) (by decide) (by decide) (by decide) (by decide) (by decide) ?_
    intro T51 hT51 kA XT51 eT51 ET51 YT51
    have VT51 : own_A Z hT51 h0.size .double kA [(.double 0), (.double 0), (.double 0), (.double 0)] := YT51
    have NT51 := Fr.nil h0.size
    clear YT51
    show own_Go p e below _ T51 (mkF m 98 #[oI i0, oI i1, oI i2, oI i3, oI (4 : Int32), oD y1, .second, oD x3, .second, oD x5, .second, oD x7, .second, oD x9, .second, oD x11, .second, oD x13, .second, oD x16, .second, .unset, .unset, .unset] [(.ref h0.size)])
    refine own_by (fun t_ k_ => XS.astore XT51.here hx rfl (hb hby at_98) rfl rfl (l' := #[oI i0, oI i1, oI i2, oI i3, oI (4 : Int32), oD y1, .second, oD x3, .second, oD x5, .second, oD x7, .second, oD x9, .second, oD x11, .second, oD x13, .second, oD x16, .second, oR h0.size, .unset, .unset]) rfl k_) ?_
    show own_Go p e below _ T51 (mkF m 100 #[oI i0, oI i1, oI i2, oI i3, oI (4 : Int32), oD y1, .second, oD x3, .second, oD x5, .second, oD x7, .second, oD x9, .second, oD x11, .second, oD x13, .second, oD x16, .second, oR h0.size, .unset, .unset] [])
    refine own_by (fun t_ k_ => XS.iload XT51.here hx rfl (hb hby at_100) rfl  k_) ?_
    show own_Go p e below _ T51 (mkF m 102 #[oI i0, oI i1, oI i2, oI i3, oI (4 : Int32), oD y1, .second, oD x3, .second, oD x5, .second, oD x7, .second, oD x9, .second, oD x11, .second, oD x13, .second, oD x16, .second, oR h0.size, .unset, .unset] [(.int (4 : Int32))])
    refine own_by (fun t_ k_ => XS.ifNo XT51.here hx rfl (hb hby at_102) rfl (XT.i0_le_f (by decide)) k_) ?_
    show own_Go p e below _ T51 (mkF m 105 #[oI i0, oI i1, oI i2, oI i3, oI (4 : Int32), oD y1, .second, oD x3, .second, oD x5, .second, oD x7, .second, oD x9, .second, oD x11, .second, oD x13, .second, oD x16, .second, oR h0.size, .unset, .unset] [])
    refine own_by (fun t_ k_ => XS.aload XT51.here hx rfl (hb hby at_105) rfl rfl  k_) ?_
    show own_Go p e below _ T51 (mkF m 107 #[oI i0, oI i1, oI i2, oI i3, oI (4 : Int32), oD y1, .second, oD x3, .second, oD x5, .second, oD x7, .second, oD x9, .second, oD x11, .second, oD x13, .second, oD x16, .second, oR h0.size, .unset, .unset] [(.ref h0.size)])
    refine own_by (fun t_ k_ => XT.iconstV XT51.here hx rfl (0 : Int32) (hb hby at_107) (by decide) k_) ?_
    show own_Go p e below _ T51 (mkF m 108 #[oI i0, oI i1, oI i2, oI i3, oI (4 : Int32), oD y1, .second, oD x3, .second, oD x5, .second, oD x7, .second, oD x9, .second, oD x11, .second, oD x13, .second, oD x16, .second, oR h0.size, .unset, .unset] [(.int (0 : Int32)), (.ref h0.size)])
    refine own_by (fun t_ k_ => XS.dload XT51.here hx rfl (hb hby at_108) rfl  k_) ?_
    show own_Go p e below _ T51 (mkF m 110 #[oI i0, oI i1, oI i2, oI i3, oI (4 : Int32), oD y1, .second, oD x3, .second, oD x5, .second, oD x7, .second, oD x9, .second, oD x11, .second, oD x13, .second, oD x16, .second, oR h0.size, .unset, .unset] [(.double y1), (.int (0 : Int32)), (.ref h0.size)])
    refine own_stD XT51 hx hZ eT51 VT51 0 (by decide) (by decide) (by simp) (hb hby at_110) ?_
    intro T52 hT52 XT52 eT52 WT52 YT52
    have VT52 : own_A Z hT52 h0.size .double kA [(.double y1), (.double 0), (.double 0), (.double 0)] := YT52
    have NT52 := own_frs (i := 0) NT51 (Nat.le_refl h0.size)
    clear YT52
    show own_Go p e below _ T52 (mkF m 111 #[oI i0, oI i1, oI i2, oI i3, oI (4 : Int32), oD y1, .second, oD x3, .second, oD x5, .second, oD x7, .second, oD x9, .second, oD x11, .second, oD x13, .second, oD x16, .second, oR h0.size, .unset, .unset] [])
    refine own_by (fun t_ k_ => XS.iload XT52.here hx rfl (hb hby at_111) rfl  k_) ?_
    show own_Go p e below _ T52 (mkF m 113 #[oI i0, oI i1, oI i2, oI i3, oI (4 : Int32), oD y1, .second, oD x3, .second, oD x5, .second, oD x7, .second, oD x9, .second, oD x11, .second, oD x13, .second, oD x16, .second, oR h0.size, .unset, .unset] [(.int (4 : Int32))])
    refine own_by (fun t_ k_ => XT.iconstV XT52.here hx rfl (1 : Int32) (hb hby at_113) (by decide) k_) ?_
    show own_Go p e below _ T52 (mkF m 114 #[oI i0, oI i1, oI i2, oI i3, oI (4 : Int32), oD y1, .second, oD x3, .second, oD x5, .second, oD x7, .second, oD x9, .second, oD x11, .second, oD x13, .second, oD x16, .second, oR h0.size, .unset, .unset] [(.int (1 : Int32)), (.int (4 : Int32))])
    refine own_by (fun t_ k_ => XS.icmpNo XT52.here hx rfl (hb hby at_114) rfl (XT.ii_le_f (by decide)) k_) ?_
    show own_Go p e below _ T52 (mkF m 117 #[oI i0, oI i1, oI i2, oI i3, oI (4 : Int32), oD y1, .second, oD x3, .second, oD x5, .second, oD x7, .second, oD x9, .second, oD x11, .second, oD x13, .second, oD x16, .second, oR h0.size, .unset, .unset] [])
    refine own_by (fun t_ k_ => XS.aload XT52.here hx rfl (hb hby at_117) rfl rfl  k_) ?_
    show own_Go p e below _ T52 (mkF m 119 #[oI i0, oI i1, oI i2, oI i3, oI (4 : Int32), oD y1, .second, oD x3, .second, oD x5, .second, oD x7, .second, oD x9, .second, oD x11, .second, oD x13, .second, oD x16, .second, oR h0.size, .unset, .unset] [(.ref h0.size)])
    refine own_by (fun t_ k_ => XT.iconstV XT52.here hx rfl (1 : Int32) (hb hby at_119) (by decide) k_) ?_
    show own_Go p e below _ T52 (mkF m 120 #[oI i0, oI i1, oI i2, oI i3, oI (4 : Int32), oD y1, .second, oD x3, .second, oD x5, .second, oD x7, .second, oD x9, .second, oD x11, .second, oD x13, .second, oD x16, .second, oR h0.size, .unset, .unset] [(.int (1 : Int32)), (.ref h0.size)])
    refine own_by (fun t_ k_ => XS.dload XT52.here hx rfl (hb hby at_120) rfl  k_) ?_
    show own_Go p e below _ T52 (mkF m 122 #[oI i0, oI i1, oI i2, oI i3, oI (4 : Int32), oD y1, .second, oD x3, .second, oD x5, .second, oD x7, .second, oD x9, .second, oD x11, .second, oD x13, .second, oD x16, .second, oR h0.size, .unset, .unset] [(.double x3), (.int (1 : Int32)), (.ref h0.size)])
    refine own_stD XT52 hx hZ eT52 VT52 1 (by decide) (by decide) (by simp) (hb hby at_122) ?_
    intro T53 hT53 XT53 eT53 WT53 YT53
    have VT53 : own_A Z hT53 h0.size .double kA [(.double y1), (.double x3), (.double 0), (.double 0)] := YT53
    have NT53 := own_frs (i := 1) NT52 (Nat.le_refl h0.size)
    clear YT53
    show own_Go p e below _ T53 (mkF m 123 #[oI i0, oI i1, oI i2, oI i3, oI (4 : Int32), oD y1, .second, oD x3, .second, oD x5, .second, oD x7, .second, oD x9, .second, oD x11, .second, oD x13, .second, oD x16, .second, oR h0.size, .unset, .unset] [])
    refine own_by (fun t_ k_ => XS.iload XT53.here hx rfl (hb hby at_123) rfl  k_) ?_
    show own_Go p e below _ T53 (mkF m 125 #[oI i0, oI i1, oI i2, oI i3, oI (4 : Int32), oD y1, .second, oD x3, .second, oD x5, .second, oD x7, .second, oD x9, .second, oD x11, .second, oD x13, .second, oD x16, .second, oR h0.size, .unset, .unset] [(.int (4 : Int32))])
    refine own_by (fun t_ k_ => XT.iconstV XT53.here hx rfl (2 : Int32) (hb hby at_125) (by decide) k_) ?_
    show own_Go p e below _ T53 (mkF m 126 #[oI i0, oI i1, oI i2, oI i3, oI (4 : Int32), oD y1, .second, oD x3, .second, oD x5, .second, oD x7, .second, oD x9, .second, oD x11, .second, oD x13, .second, oD x16, .second, oR h0.size, .unset, .unset] [(.int (2 : Int32)), (.int (4 : Int32))])
    refine own_by (fun t_ k_ => XS.icmpNo XT53.here hx rfl (hb hby at_126) rfl (XT.ii_le_f (by decide)) k_) ?_
    show own_Go p e below _ T53 (mkF m 129 #[oI i0, oI i1, oI i2, oI i3, oI (4 : Int32), oD y1, .second, oD x3, .second, oD x5, .second, oD x7, .second, oD x9, .second, oD x11, .second, oD x13, .second, oD x16, .second, oR h0.size, .unset, .unset] [])
    refine own_by (fun t_ k_ => XS.aload XT53.here hx rfl (hb hby at_129) rfl rfl  k_) ?_
    show own_Go p e below _ T53 (mkF m 131 #[oI i0, oI i1, oI i2, oI i3, oI (4 : Int32), oD y1, .second, oD x3, .second, oD x5, .second, oD x7, .second, oD x9, .second, oD x11, .second, oD x13, .second, oD x16, .second, oR h0.size, .unset, .unset] [(.ref h0.size)])
    refine own_by (fun t_ k_ => XT.iconstV XT53.here hx rfl (2 : Int32) (hb hby at_131) (by decide) k_) ?_
    show own_Go p e below _ T53 (mkF m 132 #[oI i0, oI i1, oI i2, oI i3, oI (4 : Int32), oD y1, .second, oD x3, .second, oD x5, .second, oD x7, .second, oD x9, .second, oD x11, .second, oD x13, .second, oD x16, .second, oR h0.size, .unset, .unset] [(.int (2 : Int32)), (.ref h0.size)])
    refine own_by (fun t_ k_ => XS.dload XT53.here hx rfl (hb hby at_132) rfl  k_) ?_
    show own_Go p e below _ T53 (mkF m 134 #[oI i0, oI i1, oI i2, oI i3, oI (4 : Int32), oD y1, .second, oD x3, .second, oD x5, .second, oD x7, .second, oD x9, .second, oD x11, .second, oD x13, .second, oD x16, .second, oR h0.size, .unset, .unset] [(.double x5), (.int (2 : Int32)), (.ref h0.size)])
    refine own_stD XT53 hx hZ eT53 VT53 2 (by decide) (by decide) (by simp) (hb hby at_134) ?_
    intro T54 hT54 XT54 eT54 WT54 YT54
    have VT54 : own_A Z hT54 h0.size .double kA [(.double y1), (.double x3), (.double x5), (.double 0)] := YT54
    have NT54 := own_frs (i := 2) NT53 (Nat.le_refl h0.size)
    clear YT54
    show own_Go p e below _ T54 (mkF m 135 #[oI i0, oI i1, oI i2, oI i3, oI (4 : Int32), oD y1, .second, oD x3, .second, oD x5, .second, oD x7, .second, oD x9, .second, oD x11, .second, oD x13, .second, oD x16, .second, oR h0.size, .unset, .unset] [])
    refine own_by (fun t_ k_ => XS.iload XT54.here hx rfl (hb hby at_135) rfl  k_) ?_
    show own_Go p e below _ T54 (mkF m 137 #[oI i0, oI i1, oI i2, oI i3, oI (4 : Int32), oD y1, .second, oD x3, .second, oD x5, .second, oD x7, .second, oD x9, .second, oD x11, .second, oD x13, .second, oD x16, .second, oR h0.size, .unset, .unset] [(.int (4 : Int32))])
    refine own_by (fun t_ k_ => XT.iconstV XT54.here hx rfl (3 : Int32) (hb hby at_137) (by decide) k_) ?_
    show own_Go p e below _ T54 (mkF m 138 #[oI i0, oI i1, oI i2, oI i3, oI (4 : Int32), oD y1, .second, oD x3, .second, oD x5, .second, oD x7, .second, oD x9, .second, oD x11, .second, oD x13, .second, oD x16, .second, oR h0.size, .unset, .unset] [(.int (3 : Int32)), (.int (4 : Int32))])
    refine own_by (fun t_ k_ => XS.icmpNo XT54.here hx rfl (hb hby at_138) rfl (XT.ii_le_f (by decide)) k_) ?_
    show own_Go p e below _ T54 (mkF m 141 #[oI i0, oI i1, oI i2, oI i3, oI (4 : Int32), oD y1, .second, oD x3, .second, oD x5, .second, oD x7, .second, oD x9, .second, oD x11, .second, oD x13, .second, oD x16, .second, oR h0.size, .unset, .unset] [])
    refine own_by (fun t_ k_ => XS.aload XT54.here hx rfl (hb hby at_141) rfl rfl  k_) ?_
    show own_Go p e below _ T54 (mkF m 143 #[oI i0, oI i1, oI i2, oI i3, oI (4 : Int32), oD y1, .second, oD x3, .second, oD x5, .second, oD x7, .second, oD x9, .second, oD x11, .second, oD x13, .second, oD x16, .second, oR h0.size, .unset, .unset] [(.ref h0.size)])
    refine own_by (fun t_ k_ => XT.iconstV XT54.here hx rfl (3 : Int32) (hb hby at_143) (by decide) k_) ?_
    show own_Go p e below _ T54 (mkF m 144 #[oI i0, oI i1, oI i2, oI i3, oI (4 : Int32), oD y1, .second, oD x3, .second, oD x5, .second, oD x7, .second, oD x9, .second, oD x11, .second, oD x13, .second, oD x16, .second, oR h0.size, .unset, .unset] [(.int (3 : Int32)), (.ref h0.size)])
    refine own_by (fun t_ k_ => XS.dload XT54.here hx rfl (hb hby at_144) rfl  k_) ?_
    show own_Go p e below _ T54 (mkF m 146 #[oI i0, oI i1, oI i2, oI i3, oI (4 : Int32), oD y1, .second, oD x3, .second, oD x5, .second, oD x7, .second, oD x9, .second, oD x11, .second, oD x13, .second, oD x16, .second, oR h0.size, .unset, .unset] [(.double x7), (.int (3 : Int32)), (.ref h0.size)])
    refine own_stD XT54 hx hZ eT54 VT54 3 (by decide) (by decide) (by simp) (hb hby at_146) ?_
    intro T55 hT55 XT55 eT55 WT55 YT55
    have VT55 : own_A Z hT55 h0.size .double kA [(.double y1), (.double x3), (.double x5), (.double x7)] := YT55
    have NT55 := own_frs (i := 3) NT54 (Nat.le_refl h0.size)
    clear YT55
    show own_Go p e below _ T55 (mkF m 147 #[oI i0, oI i1, oI i2, oI i3, oI (4 : Int32), oD y1, .second, oD x3, .second, oD x5, .second, oD x7, .second, oD x9, .second, oD x11, .second, oD x13, .second, oD x16, .second, oR h0.size, .unset, .unset] [])
    refine own_by (fun t_ k_ => XS.iload XT55.here hx rfl (hb hby at_147) rfl  k_) ?_
    show own_Go p e below _ T55 (mkF m 149 #[oI i0, oI i1, oI i2, oI i3, oI (4 : Int32), oD y1, .second, oD x3, .second, oD x5, .second, oD x7, .second, oD x9, .second, oD x11, .second, oD x13, .second, oD x16, .second, oR h0.size, .unset, .unset] [(.int (4 : Int32))])
    refine own_by (fun t_ k_ => XT.iconstV XT55.here hx rfl (4 : Int32) (hb hby at_149) (by decide) k_) ?_
    show own_Go p e below _ T55 (mkF m 150 #[oI i0, oI i1, oI i2, oI i3, oI (4 : Int32), oD y1, .second, oD x3, .second, oD x5, .second, oD x7, .second, oD x9, .second, oD x11, .second, oD x13, .second, oD x16, .second, oR h0.size, .unset, .unset] [(.int (4 : Int32)), (.int (4 : Int32))])
    refine own_by (fun t_ k_ => XS.icmpYes XT55.here hx rfl (pc0 := 150) (pc' := 159) rfl (hb hby at_150) rfl (XT.ii_le_t (by decide)) (by decide) (by decide) k_) ?_
    show own_Go p e below _ T55 (mkF m 159 #[oI i0, oI i1, oI i2, oI i3, oI (4 : Int32), oD y1, .second, oD x3, .second, oD x5, .second, oD x7, .second, oD x9, .second, oD x11, .second, oD x13, .second, oD x16, .second, oR h0.size, .unset, .unset] [])
    refine own_by (fun t_ k_ => XS.iload XT55.here hx rfl (hb hby at_159) rfl  k_) ?_
    show own_Go p e below _ T55 (mkF m 161 #[oI i0, oI i1, oI i2, oI i3, oI (4 : Int32), oD y1, .second, oD x3, .second, oD x5, .second, oD x7, .second, oD x9, .second, oD x11, .second, oD x13, .second, oD x16, .second, oR h0.size, .unset, .unset] [(.int (4 : Int32))])
    refine own_by (fun t_ k_ => XT.iconstV XT55.here hx rfl (5 : Int32) (hb hby at_161) (by decide) k_) ?_
    show own_Go p e below _ T55 (mkF m 162 #[oI i0, oI i1, oI i2, oI i3, oI (4 : Int32), oD y1, .second, oD x3, .second, oD x5, .second, oD x7, .second, oD x9, .second, oD x11, .second, oD x13, .second, oD x16, .second, oR h0.size, .unset, .unset] [(.int (5 : Int32)), (.int (4 : Int32))])
    refine own_by (fun t_ k_ => XS.icmpYes XT55.here hx rfl (pc0 := 162) (pc' := 171) rfl (hb hby at_162) rfl (XT.ii_le_t (by decide)) (by decide) (by decide) k_) ?_
    show own_Go p e below _ T55 (mkF m 171 #[oI i0, oI i1, oI i2, oI i3, oI (4 : Int32), oD y1, .second, oD x3, .second, oD x5, .second, oD x7, .second, oD x9, .second, oD x11, .second, oD x13, .second, oD x16, .second, oR h0.size, .unset, .unset] [])
    refine own_by (fun t_ k_ => XS.iload XT55.here hx rfl (hb hby at_171) rfl  k_) ?_
    show own_Go p e below _ T55 (mkF m 173 #[oI i0, oI i1, oI i2, oI i3, oI (4 : Int32), oD y1, .second, oD x3, .second, oD x5, .second, oD x7, .second, oD x9, .second, oD x11, .second, oD x13, .second, oD x16, .second, oR h0.size, .unset, .unset] [(.int (4 : Int32))])
    refine own_by (fun t_ k_ => XT.bipushV XT55.here hx rfl (6 : Int32) (hb hby at_173) (by decide) k_) ?_
    show own_Go p e below _ T55 (mkF m 175 #[oI i0, oI i1, oI i2, oI i3, oI (4 : Int32), oD y1, .second, oD x3, .second, oD x5, .second, oD x7, .second, oD x9, .second, oD x11, .second, oD x13, .second, oD x16, .second, oR h0.size, .unset, .unset] [(.int (6 : Int32)), (.int (4 : Int32))])
    refine own_by (fun t_ k_ => XS.icmpYes XT55.here hx rfl (pc0 := 175) (pc' := 185) rfl (hb hby at_175) rfl (XT.ii_le_t (by decide)) (by decide) (by decide) k_) ?_
    show own_Go p e below _ T55 (mkF m 185 #[oI i0, oI i1, oI i2, oI i3, oI (4 : Int32), oD y1, .second, oD x3, .second, oD x5, .second, oD x7, .second, oD x9, .second, oD x11, .second, oD x13, .second, oD x16, .second, oR h0.size, .unset, .unset] [])
    refine own_by (fun t_ k_ => XS.iload XT55.here hx rfl (hb hby at_185) rfl  k_) ?_
    show own_Go p e below _ T55 (mkF m 187 #[oI i0, oI i1, oI i2, oI i3, oI (4 : Int32), oD y1, .second, oD x3, .second, oD x5, .second, oD x7, .second, oD x9, .second, oD x11, .second, oD x13, .second, oD x16, .second, oR h0.size, .unset, .unset] [(.int (4 : Int32))])
    refine own_by (fun t_ k_ => XT.iconstV XT55.here hx rfl (0 : Int32) (hb hby at_187) (by decide) k_) ?_
    show own_Go p e below _ T55 (mkF m 188 #[oI i0, oI i1, oI i2, oI i3, oI (4 : Int32), oD y1, .second, oD x3, .second, oD x5, .second, oD x7, .second, oD x9, .second, oD x11, .second, oD x13, .second, oD x16, .second, oR h0.size, .unset, .unset] [(.int (0 : Int32)), (.int (4 : Int32))])
    refine own_by (fun t_ k_ => XS.dload XT55.here hx rfl (hb hby at_188) rfl  k_) ?_
    show own_Go p e below _ T55 (mkF m 190 #[oI i0, oI i1, oI i2, oI i3, oI (4 : Int32), oD y1, .second, oD x3, .second, oD x5, .second, oD x7, .second, oD x9, .second, oD x11, .second, oD x13, .second, oD x16, .second, oR h0.size, .unset, .unset] [(.double y1), (.int (0 : Int32)), (.int (4 : Int32))])
    refine own_by (fun t_ k_ => XS.dload XT55.here hx rfl (hb hby at_190) rfl  k_) ?_
    show own_Go p e below _ T55 (mkF m 192 #[oI i0, oI i1, oI i2, oI i3, oI (4 : Int32), oD y1, .second, oD x3, .second, oD x5, .second, oD x7, .second, oD x9, .second, oD x11, .second, oD x13, .second, oD x16, .second, oR h0.size, .unset, .unset] [(.double x16), (.double y1), (.int (0 : Int32)), (.int (4 : Int32))])
    refine own_callS XT55 hx hZ hown (hw _ (List.mem_of_getElem? (i := 2) rfl)) (hw _ (List.mem_of_getElem? (i := 3) rfl)) (hw _ (List.mem_of_getElem? (i := 4) rfl)) (hw _ (List.mem_of_getElem? (i := 5) rfl)) (by decide) eT55 (argsL := [(.int (4 : Int32)), (.int (0 : Int32)), (.double y1), (.double x16)]) (rest := []) (own_one_met l Z a0 hw (4 : Int32) (0 : Int32) y1 x16 hT55) 0 (by decide) (by decide) (by rw [hml]; rfl) (lenOf pd_0 rfl) (Nat.le_of_eq rfl) (hb hby at_192) (by decide) (by decide) (st := [(.double x16), (.double y1), (.int (0 : Int32)), (.int (4 : Int32))]) rfl ?_
    intro T56 LT56 vT56 XT56 hQT56
    obtain ⟨rfl, eT56, rfl⟩ := hQT56
    show own_Go p e below _ T56 (mkF m 195 #[oI i0, oI i1, oI i2, oI i3, oI (4 : Int32), oD y1, .second, oD x3, .second, oD x5, .second, oD x7, .second, oD x9, .second, oD x11, .second, oD x13, .second, oD x16, .second, oR h0.size, .unset, .unset] [(.int (own_one (4 : Int32) (0 : Int32) y1 x16))])
    refine own_by (fun t_ k_ => XS.iload XT56.here hx rfl (hb hby at_195) rfl  k_) ?_
    show own_Go p e below _ T56 (mkF m 197 #[oI i0, oI i1, oI i2, oI i3, oI (4 : Int32), oD y1, .second, oD x3, .second, oD x5, .second, oD x7, .second, oD x9, .second, oD x11, .second, oD x13, .second, oD x16, .second, oR h0.size, .unset, .unset] [(.int (4 : Int32)), (.int (own_one (4 : Int32) (0 : Int32) y1 x16))])
    refine own_by (fun t_ k_ => XT.iconstV XT56.here hx rfl (1 : Int32) (hb hby at_197) (by decide) k_) ?_
    show own_Go p e below _ T56 (mkF m 198 #[oI i0, oI i1, oI i2, oI i3, oI (4 : Int32), oD y1, .second, oD x3, .second, oD x5, .second, oD x7, .second, oD x9, .second, oD x11, .second, oD x13, .second, oD x16, .second, oR h0.size, .unset, .unset] [(.int (1 : Int32)), (.int (4 : Int32)), (.int (own_one (4 : Int32) (0 : Int32) y1 x16))])
    refine own_by (fun t_ k_ => XS.dload XT56.here hx rfl (hb hby at_198) rfl  k_) ?_
    show own_Go p e below _ T56 (mkF m 200 #[oI i0, oI i1, oI i2, oI i3, oI (4 : Int32), oD y1, .second, oD x3, .second, oD x5, .second, oD x7, .second, oD x9, .second, oD x11, .second, oD x13, .second, oD x16, .second, oR h0.size, .unset, .unset] [(.double x3), (.int (1 : Int32)), (.int (4 : Int32)), (.int (own_one (4 : Int32) (0 : Int32) y1 x16))])
    refine own_by (fun t_ k_ => XS.dload XT56.here hx rfl (hb hby at_200) rfl  k_) ?_
    show own_Go p e below _ T56 (mkF m 202 #[oI i0, oI i1, oI i2, oI i3, oI (4 : Int32), oD y1, .second, oD x3, .second, oD x5, .second, oD x7, .second, oD x9, .second, oD x11, .second, oD x13, .second, oD x16, .second, oR h0.size, .unset, .unset] [(.double x16), (.double x3), (.int (1 : Int32)), (.int (4 : Int32)), (.int (own_one (4 : Int32) (0 : Int32) y1 x16))])
    refine own_callS XT56 hx hZ hown (hw _ (List.mem_of_getElem? (i := 2) rfl)) (hw _ (List.mem_of_getElem? (i := 3) rfl)) (hw _ (List.mem_of_getElem? (i := 4) rfl)) (hw _ (List.mem_of_getElem? (i := 5) rfl)) (by decide) eT56 (argsL := [(.int (4 : Int32)), (.int (1 : Int32)), (.double x3), (.double x16)]) (rest := [(.int (own_one (4 : Int32) (0 : Int32) y1 x16))]) (own_one_met l Z a0 hw (4 : Int32) (1 : Int32) x3 x16 hT55) 1 (by decide) (by decide) (by rw [hml]; rfl) (lenOf pd_0 rfl) (Nat.le_of_eq rfl) (hb hby at_202) (by decide) (by decide) (st := [(.double x16), (.double x3), (.int (1 : Int32)), (.int (4 : Int32)), (.int (own_one (4 : Int32) (0 : Int32) y1 x16))]) rfl ?_
    intro T57 LT57 vT57 XT57 hQT57
    obtain ⟨rfl, eT57, rfl⟩ := hQT57
    show own_Go p e below _ T57 (mkF m 205 #[oI i0, oI i1, oI i2, oI i3, oI (4 : Int32), oD y1, .second, oD x3, .second, oD x5, .second, oD x7, .second, oD x9, .second, oD x11, .second, oD x13, .second, oD x16, .second, oR h0.size, .unset, .unset] [(.int (own_one (4 : Int32) (1 : Int32) x3 x16)), (.int (own_one (4 : Int32) (0 : Int32) y1 x16))])
    refine own_by (fun t_ k_ => XS.iadd XT57.here hx rfl (hb hby at_205) rfl k_) ?_
    show own_Go p e below _ T57 (mkF m 206 #[oI i0, oI i1, oI i2, oI i3, oI (4 : Int32), oD y1, .second, oD x3, .second, oD x5, .second, oD x7, .second, oD x9, .second, oD x11, .second, oD x13, .second, oD x16, .second, oR h0.size, .unset, .unset] [(.int ((own_one (4 : Int32) (0 : Int32) y1 x16) + (own_one (4 : Int32) (1 : Int32) x3 x16)))])
    refine own_by (fun t_ k_ => XS.iload XT57.here hx rfl (hb hby at_206) rfl  k_) ?_
    show own_Go p e below _ T57 (mkF m 208 #[oI i0, oI i1, oI i2, oI i3, oI (4 : Int32), oD y1, .second, oD x3, .second, oD x5, .second, oD x7, .second, oD x9, .second, oD x11, .second, oD x13, .second, oD x16, .second, oR h0.size, .unset, .unset] [(.int (4 : Int32)), (.int ((own_one (4 : Int32) (0 : Int32) y1 x16) + (own_one (4 : Int32) (1 : Int32) x3 x16)))])
    refine own_by (fun t_ k_ => XT.iconstV XT57.here hx rfl (2 : Int32) (hb hby at_208) (by decide) k_) ?_
    show own_Go p e below _ T57 (mkF m 209 #[oI i0, oI i1, oI i2, oI i3, oI (4 : Int32), oD y1, .second, oD x3, .second, oD x5, .second, oD x7, .second, oD x9, .second, oD x11, .second, oD x13, .second, oD x16, .second, oR h0.size, .unset, .unset] [(.int (2 : Int32)), (.int (4 : Int32)), (.int ((own_one (4 : Int32) (0 : Int32) y1 x16) + (own_one (4 : Int32) (1 : Int32) x3 x16)))])
    refine own_by (fun t_ k_ => XS.dload XT57.here hx rfl (hb hby at_209) rfl  k_) ?_
    show own_Go p e below _ T57 (mkF m 211 #[oI i0, oI i1, oI i2, oI i3, oI (4 : Int32), oD y1, .second, oD x3, .second, oD x5, .second, oD x7, .second, oD x9, .second, oD x11, .second, oD x13, .second, oD x16, .second, oR h0.size, .unset, .unset] [(.double x5), (.int (2 : Int32)), (.int (4 : Int32)), (.int ((own_one (4 : Int32) (0 : Int32) y1 x16) + (own_one (4 : Int32) (1 : Int32) x3 x16)))])
    refine own_by (fun t_ k_ => XS.dload XT57.here hx rfl (hb hby at_211) rfl  k_) ?_
    show own_Go p e below _ T57 (mkF m 213 #[oI i0, oI i1, oI i2, oI i3, oI (4 : Int32), oD y1, .second, oD x3, .second, oD x5, .second, oD x7, .second, oD x9, .second, oD x11, .second, oD x13, .second, oD x16, .second, oR h0.size, .unset, .unset] [(.double x16), (.double x5), (.int (2 : Int32)), (.int (4 : Int32)), (.int ((own_one (4 : Int32) (0 : Int32) y1 x16) + (own_one (4 : Int32) (1 : Int32) x3 x16)))])
    refine own_callS XT57 hx hZ hown (hw _ (List.mem_of_getElem? (i := 2) rfl)) (hw _ (List.mem_of_getElem? (i := 3) rfl)) (hw _ (List.mem_of_getElem? (i := 4) rfl)) (hw _ (List.mem_of_getElem? (i := 5) rfl)) (by decide) eT57 (argsL := [(.int (4 : Int32)), (.int (2 : Int32)), (.double x5), (.double x16)]) (rest := [(.int ((own_one (4 : Int32) (0 : Int32) y1 x16) + (own_one (4 : Int32) (1 : Int32) x3 x16)))]) (own_one_met l Z a0 hw (4 : Int32) (2 : Int32) x5 x16 hT55) 1 (by decide) (by decide) (by rw [hml]; rfl) (lenOf pd_0 rfl) (Nat.le_of_eq rfl) (hb hby at_213) (by decide) (by decide) (st := [(.double x16), (.double x5), (.int (2 : Int32)), (.int (4 : Int32)), (.int ((own_one (4 : Int32) (0 : Int32) y1 x16) + (own_one (4 : Int32) (1 : Int32) x3 x16)))]) rfl ?_
    intro T58 LT58 vT58 XT58 hQT58
    obtain ⟨rfl, eT58, rfl⟩ := hQT58
    show own_Go p e below _ T58 (mkF m 216 #[oI i0, oI i1, oI i2, oI i3, oI (4 : Int32), oD y1, .second, oD x3, .second, oD x5, .second, oD x7, .second, oD x9, .second, oD x11, .second, oD x13, .second, oD x16, .second, oR h0.size, .unset, .unset] [(.int (own_one (4 : Int32) (2 : Int32) x5 x16)), (.int ((own_one (4 : Int32) (0 : Int32) y1 x16) + (own_one (4 : Int32) (1 : Int32) x3 x16)))])
    refine own_by (fun t_ k_ => XS.iadd XT58.here hx rfl (hb hby at_216) rfl k_) ?_
    show own_Go p e below _ T58 (mkF m 217 #[oI i0, oI i1, oI i2, oI i3, oI (4 : Int32), oD y1, .second, oD x3, .second, oD x5, .second, oD x7, .second, oD x9, .second, oD x11, .second, oD x13, .second, oD x16, .second, oR h0.size, .unset, .unset] [(.int (((own_one (4 : Int32) (0 : Int32) y1 x16) + (own_one (4 : Int32) (1 : Int32) x3 x16)) + (own_one (4 : Int32) (2 : Int32) x5 x16)))])
    refine own_by (fun t_ k_ => XS.iload XT58.here hx rfl (hb hby at_217) rfl  k_) ?_
    show own_Go p e below _ T58 (mkF m 219 #[oI i0, oI i1, oI i2, oI i3, oI (4 : Int32), oD y1, .second, oD x3, .second, oD x5, .second, oD x7, .second, oD x9, .second, oD x11, .second, oD x13, .second, oD x16, .second, oR h0.size, .unset, .unset] [(.int (4 : Int32)), (.int (((own_one (4 : Int32) (0 : Int32) y1 x16) + (own_one (4 : Int32) (1 : Int32) x3 x16)) + (own_one (4 : Int32) (2 : Int32) x5 x16)))])
    refine own_by (fun t_ k_ => XT.iconstV XT58.here hx rfl (3 : Int32) (hb hby at_219) (by decide) k_) ?_
    show own_Go p e below _ T58 (mkF m 220 #[oI i0, oI i1, oI i2, oI i3, oI (4 : Int32), oD y1, .second, oD x3, .second, oD x5, .second, oD x7, .second, oD x9, .second, oD x11, .second, oD x13, .second, oD x16, .second, oR h0.size, .unset, .unset] [(.int (3 : Int32)), (.int (4 : Int32)), (.int (((own_one (4 : Int32) (0 : Int32) y1 x16) + (own_one (4 : Int32) (1 : Int32) x3 x16)) + (own_one (4 : Int32) (2 : Int32) x5 x16)))])
    refine own_by (fun t_ k_ => XS.dload XT58.here hx rfl (hb hby at_220) rfl  k_) ?_
    show own_Go p e below _ T58 (mkF m 222 #[oI i0, oI i1, oI i2, oI i3, oI (4 : Int32), oD y1, .second, oD x3, .second, oD x5, .second, oD x7, .second, oD x9, .second, oD x11, .second, oD x13, .second, oD x16, .second, oR h0.size, .unset, .unset] [(.double x7), (.int (3 : Int32)), (.int (4 : Int32)), (.int (((own_one (4 : Int32) (0 : Int32) y1 x16) + (own_one (4 : Int32) (1 : Int32) x3 x16)) + (own_one (4 : Int32) (2 : Int32) x5 x16)))])
    refine own_by (fun t_ k_ => XS.dload XT58.here hx rfl (hb hby at_222) rfl  k_) ?_
    show own_Go p e below _ T58 (mkF m 224 #[oI i0, oI i1, oI i2, oI i3, oI (4 : Int32), oD y1, .second, oD x3, .second, oD x5, .second, oD x7, .second, oD x9, .second, oD x11, .second, oD x13, .second, oD x16, .second, oR h0.size, .unset, .unset] [(.double x16), (.double x7), (.int (3 : Int32)), (.int (4 : Int32)), (.int (((own_one (4 : Int32) (0 : Int32) y1 x16) + (own_one (4 : Int32) (1 : Int32) x3 x16)) + (own_one (4 : Int32) (2 : Int32) x5 x16)))])
    refine own_callS XT58 hx hZ hown (hw _ (List.mem_of_getElem? (i := 2) rfl)) (hw _ (List.mem_of_getElem? (i := 3) rfl)) (hw _ (List.mem_of_getElem? (i := 4) rfl)) (hw _ (List.mem_of_getElem? (i := 5) rfl)) (by decide) eT58 (argsL := [(.int (4 : Int32)), (.int (3 : Int32)), (.double x7), (.double x16)]) (rest := [(.int (((own_one (4 : Int32) (0 : Int32) y1 x16) + (own_one (4 : Int32) (1 : Int32) x3 x16)) + (own_one (4 : Int32) (2 : Int32) x5 x16)))]) (own_one_met l Z a0 hw (4 : Int32) (3 : Int32) x7 x16 hT55) 1 (by decide) (by decide) (by rw [hml]; rfl) (lenOf pd_0 rfl) (Nat.le_of_eq rfl) (hb hby at_224) (by decide) (by decide) (st := [(.double x16), (.double x7), (.int (3 : Int32)), (.int (4 : Int32)), (.int (((own_one (4 : Int32) (0 : Int32) y1 x16) + (own_one (4 : Int32) (1 : Int32) x3 x16)) + (own_one (4 : Int32) (2 : Int32) x5 x16)))]) rfl ?_
    intro T59 LT59 vT59 XT59 hQT59
    obtain ⟨rfl, eT59, rfl⟩ := hQT59
    show own_Go p e below _ T59 (mkF m 227 #[oI i0, oI i1, oI i2, oI i3, oI (4 : Int32), oD y1, .second, oD x3, .second, oD x5, .second, oD x7, .second, oD x9, .second, oD x11, .second, oD x13, .second, oD x16, .second, oR h0.size, .unset, .unset] [(.int (own_one (4 : Int32) (3 : Int32) x7 x16)), (.int (((own_one (4 : Int32) (0 : Int32) y1 x16) + (own_one (4 : Int32) (1 : Int32) x3 x16)) + (own_one (4 : Int32) (2 : Int32) x5 x16)))])
    refine own_by (fun t_ k_ => XS.iadd XT59.here hx rfl (hb hby at_227) rfl k_) ?_
    show own_Go p e below _ T59 (mkF m 228 #[oI i0, oI i1, oI i2, oI i3, oI (4 : Int32), oD y1, .second, oD x3, .second, oD x5, .second, oD x7, .second, oD x9, .second, oD x11, .second, oD x13, .second, oD x16, .second, oR h0.size, .unset, .unset] [(.int ((((own_one (4 : Int32) (0 : Int32) y1 x16) + (own_one (4 : Int32) (1 : Int32) x3 x16)) + (own_one (4 : Int32) (2 : Int32) x5 x16)) + (own_one (4 : Int32) (3 : Int32) x7 x16)))])
    refine own_by (fun t_ k_ => XS.iload XT59.here hx rfl (hb hby at_228) rfl  k_) ?_
    show own_Go p e below _ T59 (mkF m 230 #[oI i0, oI i1, oI i2, oI i3, oI (4 : Int32), oD y1, .second, oD x3, .second, oD x5, .second, oD x7, .second, oD x9, .second, oD x11, .second, oD x13, .second, oD x16, .second, oR h0.size, .unset, .unset] [(.int (4 : Int32)), (.int ((((own_one (4 : Int32) (0 : Int32) y1 x16) + (own_one (4 : Int32) (1 : Int32) x3 x16)) + (own_one (4 : Int32) (2 : Int32) x5 x16)) + (own_one (4 : Int32) (3 : Int32) x7 x16)))])
    refine own_by (fun t_ k_ => XT.iconstV XT59.here hx rfl (4 : Int32) (hb hby at_230) (by decide) k_) ?_
    show own_Go p e below _ T59 (mkF m 231 #[oI i0, oI i1, oI i2, oI i3, oI (4 : Int32), oD y1, .second, oD x3, .second, oD x5, .second, oD x7, .second, oD x9, .second, oD x11, .second, oD x13, .second, oD x16, .second, oR h0.size, .unset, .unset] [(.int (4 : Int32)), (.int (4 : Int32)), (.int ((((own_one (4 : Int32) (0 : Int32) y1 x16) + (own_one (4 : Int32) (1 : Int32) x3 x16)) + (own_one (4 : Int32) (2 : Int32) x5 x16)) + (own_one (4 : Int32) (3 : Int32) x7 x16)))])
    refine own_by (fun t_ k_ => XS.dload XT59.here hx rfl (hb hby at_231) rfl  k_) ?_
    show own_Go p e below _ T59 (mkF m 233 #[oI i0, oI i1, oI i2, oI i3, oI (4 : Int32), oD y1, .second, oD x3, .second, oD x5, .second, oD x7, .second, oD x9, .second, oD x11, .second, oD x13, .second, oD x16, .second, oR h0.size, .unset, .unset] [(.double x9), (.int (4 : Int32)), (.int (4 : Int32)), (.int ((((own_one (4 : Int32) (0 : Int32) y1 x16) + (own_one (4 : Int32) (1 : Int32) x3 x16)) + (own_one (4 : Int32) (2 : Int32) x5 x16)) + (own_one (4 : Int32) (3 : Int32) x7 x16)))])
    refine own_by (fun t_ k_ => XS.dload XT59.here hx rfl (hb hby at_233) rfl  k_) ?_
    show own_Go p e below _ T59 (mkF m 235 #[oI i0, oI i1, oI i2, oI i3, oI (4 : Int32), oD y1, .second, oD x3, .second, oD x5, .second, oD x7, .second, oD x9, .second, oD x11, .second, oD x13, .second, oD x16, .second, oR h0.size, .unset, .unset] [(.double x16), (.double x9), (.int (4 : Int32)), (.int (4 : Int32)), (.int ((((own_one (4 : Int32) (0 : Int32) y1 x16) + (own_one (4 : Int32) (1 : Int32) x3 x16)) + (own_one (4 : Int32) (2 : Int32) x5 x16)) + (own_one (4 : Int32) (3 : Int32) x7 x16)))])
    refine own_callS XT59 hx hZ hown (hw _ (List.mem_of_getElem? (i := 2) rfl)) (hw _ (List.mem_of_getElem? (i := 3) rfl)) (hw _ (List.mem_of_getElem? (i := 4) rfl)) (hw _ (List.mem_of_getElem? (i := 5) rfl)) (by decide) eT59 (argsL := [(.int (4 : Int32)), (.int (4 : Int32)), (.double x9), (.double x16)]) (rest := [(.int ((((own_one (4 : Int32) (0 : Int32) y1 x16) + (own_one (4 : Int32) (1 : Int32) x3 x16)) + (own_one (4 : Int32) (2 : Int32) x5 x16)) + (own_one (4 : Int32) (3 : Int32) x7 x16)))]) (own_one_met l Z a0 hw (4 : Int32) (4 : Int32) x9 x16 hT55) 1 (by decide) (by decide) (by rw [hml]; rfl) (lenOf pd_0 rfl) (Nat.le_of_eq rfl) (hb hby at_235) (by decide) (by decide) (st := [(.double x16), (.double x9), (.int (4 : Int32)), (.int (4 : Int32)), (.int ((((own_one (4 : Int32) (0 : Int32) y1 x16) + (own_one (4 : Int32) (1 : Int32) x3 x16)) + (own_one (4 : Int32) (2 : Int32) x5 x16)) + (own_one (4 : Int32) (3 : Int32) x7 x16)))]) rfl ?_
    intro T60 LT60 vT60 XT60 hQT60
    obtain ⟨rfl, eT60, rfl⟩ := hQT60
    show own_Go p e below _ T60 (mkF m 238 #[oI i0, oI i1, oI i2, oI i3, oI (4 : Int32), oD y1, .second, oD x3, .second, oD x5, .second, oD x7, .second, oD x9, .second, oD x11, .second, oD x13, .second, oD x16, .second, oR h0.size, .unset, .unset] [(.int (own_one (4 : Int32) (4 : Int32) x9 x16)), (.int ((((own_one (4 : Int32) (0 : Int32) y1 x16) + (own_one (4 : Int32) (1 : Int32) x3 x16)) + (own_one (4 : Int32) (2 : Int32) x5 x16)) + (own_one (4 : Int32) (3 : Int32) x7 x16)))])
    refine own_by (fun t_ k_ => XS.iadd XT60.here hx rfl (hb hby at_238) rfl k_) ?_
    show own_Go p e below _ T60 (mkF m 239 #[oI i0, oI i1, oI i2, oI i3, oI (4 : Int32), oD y1, .second, oD x3, .second, oD x5, .second, oD x7, .second, oD x9, .second, oD x11, .second, oD x13, .second, oD x16, .second, oR h0.size, .unset, .unset] [(.int (((((own_one (4 : Int32) (0 : Int32) y1 x16) + (own_one (4 : Int32) (1 : Int32) x3 x16)) + (own_one (4 : Int32) (2 : Int32) x5 x16)) + (own_one (4 : Int32) (3 : Int32) x7 x16)) + (own_one (4 : Int32) (4 : Int32) x9 x16)))])
    refine own_by (fun t_ k_ => XS.iload XT60.here hx rfl (hb hby at_239) rfl  k_) ?_
    show own_Go p e below _ T60 (mkF m 241 #[oI i0, oI i1, oI i2, oI i3, oI (4 : Int32), oD y1, .second, oD x3, .second, oD x5, .second, oD x7, .second, oD x9, .second, oD x11, .second, oD x13, .second, oD x16, .second, oR h0.size, .unset, .unset] [(.int (4 : Int32)), (.int (((((own_one (4 : Int32) (0 : Int32) y1 x16) + (own_one (4 : Int32) (1 : Int32) x3 x16)) + (own_one (4 : Int32) (2 : Int32) x5 x16)) + (own_one (4 : Int32) (3 : Int32) x7 x16)) + (own_one (4 : Int32) (4 : Int32) x9 x16)))])
    refine own_by (fun t_ k_ => XT.iconstV XT60.here hx rfl (5 : Int32) (hb hby at_241) (by decide) k_) ?_
    show own_Go p e below _ T60 (mkF m 242 #[oI i0, oI i1, oI i2, oI i3, oI (4 : Int32), oD y1, .second, oD x3, .second, oD x5, .second, oD x7, .second, oD x9, .second, oD x11, .second, oD x13, .second, oD x16, .second, oR h0.size, .unset, .unset] [(.int (5 : Int32)), (.int (4 : Int32)), (.int (((((own_one (4 : Int32) (0 : Int32) y1 x16) + (own_one (4 : Int32) (1 : Int32) x3 x16)) + (own_one (4 : Int32) (2 : Int32) x5 x16)) + (own_one (4 : Int32) (3 : Int32) x7 x16)) + (own_one (4 : Int32) (4 : Int32) x9 x16)))])
    refine own_by (fun t_ k_ => XS.dload XT60.here hx rfl (hb hby at_242) rfl  k_) ?_
    show own_Go p e below _ T60 (mkF m 244 #[oI i0, oI i1, oI i2, oI i3, oI (4 : Int32), oD y1, .second, oD x3, .second, oD x5, .second, oD x7, .second, oD x9, .second, oD x11, .second, oD x13, .second, oD x16, .second, oR h0.size, .unset, .unset] [(.double x11), (.int (5 : Int32)), (.int (4 : Int32)), (.int (((((own_one (4 : Int32) (0 : Int32) y1 x16) + (own_one (4 : Int32) (1 : Int32) x3 x16)) + (own_one (4 : Int32) (2 : Int32) x5 x16)) + (own_one (4 : Int32) (3 : Int32) x7 x16)) + (own_one (4 : Int32) (4 : Int32) x9 x16)))])
    refine own_by (fun t_ k_ => XS.dload XT60.here hx rfl (hb hby at_244) rfl  k_) ?_
    show own_Go p e below _ T60 (mkF m 246 #[oI i0, oI i1, oI i2, oI i3, oI (4 : Int32), oD y1, .second, oD x3, .second, oD x5, .second, oD x7, .second, oD x9, .second, oD x11, .second, oD x13, .second, oD x16, .second, oR h0.size, .unset, .unset] [(.double x16), (.double x11), (.int (5 : Int32)), (.int (4 : Int32)), (.int (((((own_one (4 : Int32) (0 : Int32) y1 x16) + (own_one (4 : Int32) (1 : Int32) x3 x16)) + (own_one (4 : Int32) (2 : Int32) x5 x16)) + (own_one (4 : Int32) (3 : Int32) x7 x16)) + (own_one (4 : Int32) (4 : Int32) x9 x16)))])
    refine own_callS XT60 hx hZ hown (hw _ (List.mem_of_getElem? (i := 2) rfl)) (hw _ (List.mem_of_getElem? (i := 3) rfl)) (hw _ (List.mem_of_getElem? (i := 4) rfl)) (hw _ (List.mem_of_getElem? (i := 5) rfl)) (by decide) eT60 (argsL := [(.int (4 : Int32)), (.int (5 : Int32)), (.double x11), (.double x16)]) (rest := [(.int (((((own_one (4 : Int32) (0 : Int32) y1 x16) + (own_one (4 : Int32) (1 : Int32) x3 x16)) + (own_one (4 : Int32) (2 : Int32) x5 x16)) + (own_one (4 : Int32) (3 : Int32) x7 x16)) + (own_one (4 : Int32) (4 : Int32) x9 x16)))]) (own_one_met l Z a0 hw (4 : Int32) (5 : Int32) x11 x16 hT55) 1 (by decide) (by decide) (by rw [hml]; rfl) (lenOf pd_0 rfl) (Nat.le_of_eq rfl) (hb hby at_246) (by decide) (by decide) (st := [(.double x16), (.double x11), (.int (5 : Int32)), (.int (4 : Int32)), (.int (((((own_one (4 : Int32) (0 : Int32) y1 x16) + (own_one (4 : Int32) (1 : Int32) x3 x16)) + (own_one (4 : Int32) (2 : Int32) x5 x16)) + (own_one (4 : Int32) (3 : Int32) x7 x16)) + (own_one (4 : Int32) (4 : Int32) x9 x16)))]) rfl ?_
    intro T61 LT61 vT61 XT61 hQT61
    obtain ⟨rfl, eT61, rfl⟩ := hQT61
    show own_Go p e below _ T61 (mkF m 249 #[oI i0, oI i1, oI i2, oI i3, oI (4 : Int32), oD y1, .second, oD x3, .second, oD x5, .second, oD x7, .second, oD x9, .second, oD x11, .second, oD x13, .second, oD x16, .second, oR h0.size, .unset, .unset] [(.int (own_one (4 : Int32) (5 : Int32) x11 x16)), (.int (((((own_one (4 : Int32) (0 : Int32) y1 x16) + (own_one (4 : Int32) (1 : Int32) x3 x16)) + (own_one (4 : Int32) (2 : Int32) x5 x16)) + (own_one (4 : Int32) (3 : Int32) x7 x16)) + (own_one (4 : Int32) (4 : Int32) x9 x16)))])
    refine own_by (fun t_ k_ => XS.iadd XT61.here hx rfl (hb hby at_249) rfl k_) ?_
    show own_Go p e below _ T61 (mkF m 250 #[oI i0, oI i1, oI i2, oI i3, oI (4 : Int32), oD y1, .second, oD x3, .second, oD x5, .second, oD x7, .second, oD x9, .second, oD x11, .second, oD x13, .second, oD x16, .second, oR h0.size, .unset, .unset] [(.int ((((((own_one (4 : Int32) (0 : Int32) y1 x16) + (own_one (4 : Int32) (1 : Int32) x3 x16)) + (own_one (4 : Int32) (2 : Int32) x5 x16)) + (own_one (4 : Int32) (3 : Int32) x7 x16)) + (own_one (4 : Int32) (4 : Int32) x9 x16)) + (own_one (4 : Int32) (5 : Int32) x11 x16)))])
    refine own_by (fun t_ k_ => XS.iload XT61.here hx rfl (hb hby at_250) rfl  k_) ?_
    show own_Go p e below _ T61 (mkF m 252 #[oI i0, oI i1, oI i2, oI i3, oI (4 : Int32), oD y1, .second, oD x3, .second, oD x5, .second, oD x7, .second, oD x9, .second, oD x11, .second, oD x13, .second, oD x16, .second, oR h0.size, .unset, .unset] [(.int (4 : Int32)), (.int ((((((own_one (4 : Int32) (0 : Int32) y1 x16) + (own_one (4 : Int32) (1 : Int32) x3 x16)) + (own_one (4 : Int32) (2 : Int32) x5 x16)) + (own_one (4 : Int32) (3 : Int32) x7 x16)) + (own_one (4 : Int32) (4 : Int32) x9 x16)) + (own_one (4 : Int32) (5 : Int32) x11 x16)))])
    refine own_by (fun t_ k_ => XT.bipushV XT61.here hx rfl (6 : Int32) (hb hby at_252) (by decide) k_) ?_
    show own_Go p e below _ T61 (mkF m 254 #[oI i0, oI i1, oI i2, oI i3, oI (4 : Int32), oD y1, .second, oD x3, .second, oD x5, .second, oD x7, .second, oD x9, .second, oD x11, .second, oD x13, .second, oD x16, .second, oR h0.size, .unset, .unset] [(.int (6 : Int32)), (.int (4 : Int32)), (.int ((((((own_one (4 : Int32) (0 : Int32) y1 x16) + (own_one (4 : Int32) (1 : Int32) x3 x16)) + (own_one (4 : Int32) (2 : Int32) x5 x16)) + (own_one (4 : Int32) (3 : Int32) x7 x16)) + (own_one (4 : Int32) (4 : Int32) x9 x16)) + (own_one (4 : Int32) (5 : Int32) x11 x16)))])
    refine own_by (fun t_ k_ => XS.dload XT61.here hx rfl (hb hby at_254) rfl  k_) ?_
    show own_Go p e below _ T61 (mkF m 256 #[oI i0, oI i1, oI i2, oI i3, oI (4 : Int32), oD y1, .second, oD x3, .second, oD x5, .second, oD x7, .second, oD x9, .second, oD x11, .second, oD x13, .second, oD x16, .second, oR h0.size, .unset, .unset] [(.double x13), (.int (6 : Int32)), (.int (4 : Int32)), (.int ((((((own_one (4 : Int32) (0 : Int32) y1 x16) + (own_one (4 : Int32) (1 : Int32) x3 x16)) + (own_one (4 : Int32) (2 : Int32) x5 x16)) + (own_one (4 : Int32) (3 : Int32) x7 x16)) + (own_one (4 : Int32) (4 : Int32) x9 x16)) + (own_one (4 : Int32) (5 : Int32) x11 x16)))])
    refine own_by (fun t_ k_ => XS.dload XT61.here hx rfl (hb hby at_256) rfl  k_) ?_
    show own_Go p e below _ T61 (mkF m 258 #[oI i0, oI i1, oI i2, oI i3, oI (4 : Int32), oD y1, .second, oD x3, .second, oD x5, .second, oD x7, .second, oD x9, .second, oD x11, .second, oD x13, .second, oD x16, .second, oR h0.size, .unset, .unset] [(.double x16), (.double x13), (.int (6 : Int32)), (.int (4 : Int32)), (.int ((((((own_one (4 : Int32) (0 : Int32) y1 x16) + (own_one (4 : Int32) (1 : Int32) x3 x16)) + (own_one (4 : Int32) (2 : Int32) x5 x16)) + (own_one (4 : Int32) (3 : Int32) x7 x16)) + (own_one (4 : Int32) (4 : Int32) x9 x16)) + (own_one (4 : Int32) (5 : Int32) x11 x16)))])
    refine own_callS XT61 hx hZ hown (hw _ (List.mem_of_getElem? (i := 2) rfl)) (hw _ (List.mem_of_getElem? (i := 3) rfl)) (hw _ (List.mem_of_getElem? (i := 4) rfl)) (hw _ (List.mem_of_getElem? (i := 5) rfl)) (by decide) eT61 (argsL := [(.int (4 : Int32)), (.int (6 : Int32)), (.double x13), (.double x16)]) (rest := [(.int ((((((own_one (4 : Int32) (0 : Int32) y1 x16) + (own_one (4 : Int32) (1 : Int32) x3 x16)) + (own_one (4 : Int32) (2 : Int32) x5 x16)) + (own_one (4 : Int32) (3 : Int32) x7 x16)) + (own_one (4 : Int32) (4 : Int32) x9 x16)) + (own_one (4 : Int32) (5 : Int32) x11 x16)))]) (own_one_met l Z a0 hw (4 : Int32) (6 : Int32) x13 x16 hT55) 1 (by decide) (by decide) (by rw [hml]; rfl) (lenOf pd_0 rfl) (Nat.le_of_eq rfl) (hb hby at_258) (by decide) (by decide) (st := [(.double x16), (.double x13), (.int (6 : Int32)), (.int (4 : Int32)), (.int ((((((own_one (4 : Int32) (0 : Int32) y1 x16) + (own_one (4 : Int32) (1 : Int32) x3 x16)) + (own_one (4 : Int32) (2 : Int32) x5 x16)) + (own_one (4 : Int32) (3 : Int32) x7 x16)) + (own_one (4 : Int32) (4 : Int32) x9 x16)) + (own_one (4 : Int32) (5 : Int32) x11 x16)))]) rfl ?_
    intro T62 LT62 vT62 XT62 hQT62
    obtain ⟨rfl, eT62, rfl⟩ := hQT62
    show own_Go p e below _ T62 (mkF m 261 #[oI i0, oI i1, oI i2, oI i3, oI (4 : Int32), oD y1, .second, oD x3, .second, oD x5, .second, oD x7, .second, oD x9, .second, oD x11, .second, oD x13, .second, oD x16, .second, oR h0.size, .unset, .unset] [(.int (own_one (4 : Int32) (6 : Int32) x13 x16)), (.int ((((((own_one (4 : Int32) (0 : Int32) y1 x16) + (own_one (4 : Int32) (1 : Int32) x3 x16)) + (own_one (4 : Int32) (2 : Int32) x5 x16)) + (own_one (4 : Int32) (3 : Int32) x7 x16)) + (own_one (4 : Int32) (4 : Int32) x9 x16)) + (own_one (4 : Int32) (5 : Int32) x11 x16)))])
    refine own_by (fun t_ k_ => XS.iadd XT62.here hx rfl (hb hby at_261) rfl k_) ?_
    show own_Go p e below _ T62 (mkF m 262 #[oI i0, oI i1, oI i2, oI i3, oI (4 : Int32), oD y1, .second, oD x3, .second, oD x5, .second, oD x7, .second, oD x9, .second, oD x11, .second, oD x13, .second, oD x16, .second, oR h0.size, .unset, .unset] [(.int (((((((own_one (4 : Int32) (0 : Int32) y1 x16) + (own_one (4 : Int32) (1 : Int32) x3 x16)) + (own_one (4 : Int32) (2 : Int32) x5 x16)) + (own_one (4 : Int32) (3 : Int32) x7 x16)) + (own_one (4 : Int32) (4 : Int32) x9 x16)) + (own_one (4 : Int32) (5 : Int32) x11 x16)) + (own_one (4 : Int32) (6 : Int32) x13 x16)))])
    refine own_by (fun t_ k_ => XS.istore XT62.here hx rfl (hb hby at_262) rfl (l' := #[oI i0, oI i1, oI i2, oI i3, oI (4 : Int32), oD y1, .second, oD x3, .second, oD x5, .second, oD x7, .second, oD x9, .second, oD x11, .second, oD x13, .second, oD x16, .second, oR h0.size, oI (((((((own_one (4 : Int32) (0 : Int32) y1 x16) + (own_one (4 : Int32) (1 : Int32) x3 x16)) + (own_one (4 : Int32) (2 : Int32) x5 x16)) + (own_one (4 : Int32) (3 : Int32) x7 x16)) + (own_one (4 : Int32) (4 : Int32) x9 x16)) + (own_one (4 : Int32) (5 : Int32) x11 x16)) + (own_one (4 : Int32) (6 : Int32) x13 x16)), .unset]) rfl k_) ?_
    show own_Go p e below _ T62 (mkF m 264 #[oI i0, oI i1, oI i2, oI i3, oI (4 : Int32), oD y1, .second, oD x3, .second, oD x5, .second, oD x7, .second, oD x9, .second, oD x11, .second, oD x13, .second, oD x16, .second, oR h0.size, oI (((((((own_one (4 : Int32) (0 : Int32) y1 x16) + (own_one (4 : Int32) (1 : Int32) x3 x16)) + (own_one (4 : Int32) (2 : Int32) x5 x16)) + (own_one (4 : Int32) (3 : Int32) x7 x16)) + (own_one (4 : Int32) (4 : Int32) x9 x16)) + (own_one (4 : Int32) (5 : Int32) x11 x16)) + (own_one (4 : Int32) (6 : Int32) x13 x16)), .unset] [])
    refine own_by (fun t_ k_ => XS.aload XT62.here hx rfl (hb hby at_264) rfl rfl  k_) ?_
    show own_Go p e below _ T62 (mkF m 266 #[oI i0, oI i1, oI i2, oI i3, oI (4 : Int32), oD y1, .second, oD x3, .second, oD x5, .second, oD x7, .second, oD x9, .second, oD x11, .second, oD x13, .second, oD x16, .second, oR h0.size, oI (((((((own_one (4 : Int32) (0 : Int32) y1 x16) + (own_one (4 : Int32) (1 : Int32) x3 x16)) + (own_one (4 : Int32) (2 : Int32) x5 x16)) + (own_one (4 : Int32) (3 : Int32) x7 x16)) + (own_one (4 : Int32) (4 : Int32) x9 x16)) + (own_one (4 : Int32) (5 : Int32) x11 x16)) + (own_one (4 : Int32) (6 : Int32) x13 x16)), .unset] [(.ref h0.size)])
    refine own_by (fun t_ k_ => XS.dload XT62.here hx rfl (hb hby at_266) rfl  k_) ?_
    show own_Go p e below _ T62 (mkF m 268 #[oI i0, oI i1, oI i2, oI i3, oI (4 : Int32), oD y1, .second, oD x3, .second, oD x5, .second, oD x7, .second, oD x9, .second, oD x11, .second, oD x13, .second, oD x16, .second, oR h0.size, oI (((((((own_one (4 : Int32) (0 : Int32) y1 x16) + (own_one (4 : Int32) (1 : Int32) x3 x16)) + (own_one (4 : Int32) (2 : Int32) x5 x16)) + (own_one (4 : Int32) (3 : Int32) x7 x16)) + (own_one (4 : Int32) (4 : Int32) x9 x16)) + (own_one (4 : Int32) (5 : Int32) x11 x16)) + (own_one (4 : Int32) (6 : Int32) x13 x16)), .unset] [(.double x16), (.ref h0.size)])
    refine own_callS XT62 hx hZ hown (hw _ (List.mem_of_getElem? (i := 6) rfl)) (hw _ (List.mem_of_getElem? (i := 7) rfl)) (hw _ (List.mem_of_getElem? (i := 8) rfl)) (hw _ (List.mem_of_getElem? (i := 9) rfl)) (by decide) eT62 (argsL := [(.ref h0.size), (.double x16)]) (rest := []) (own_cb4_met l Z a0 hw h0.size x16 kA y1 x3 x5 x7 hT55 VT55) 0 (by decide) (by decide) (by rw [hml]; rfl) (lenOf pd_1 rfl) (Nat.le_of_eq rfl) (hb hby at_268) (by decide) (by decide) (st := [(.double x16), (.ref h0.size)]) rfl ?_
    intro T63 LT63 vT63 XT63 hQT63
    obtain ⟨rfl, eT63, rfl⟩ := hQT63
    show own_Go p e below _ T63 (mkF m 271 #[oI i0, oI i1, oI i2, oI i3, oI (4 : Int32), oD y1, .second, oD x3, .second, oD x5, .second, oD x7, .second, oD x9, .second, oD x11, .second, oD x13, .second, oD x16, .second, oR h0.size, oI (((((((own_one (4 : Int32) (0 : Int32) y1 x16) + (own_one (4 : Int32) (1 : Int32) x3 x16)) + (own_one (4 : Int32) (2 : Int32) x5 x16)) + (own_one (4 : Int32) (3 : Int32) x7 x16)) + (own_one (4 : Int32) (4 : Int32) x9 x16)) + (own_one (4 : Int32) (5 : Int32) x11 x16)) + (own_one (4 : Int32) (6 : Int32) x13 x16)), .unset] [(.int (own_cb4 h0.size x16 kA y1 x3 x5 x7))])
    refine own_by (fun t_ k_ => XS.istore XT63.here hx rfl (hb hby at_271) rfl (l' := #[oI i0, oI i1, oI i2, oI i3, oI (4 : Int32), oD y1, .second, oD x3, .second, oD x5, .second, oD x7, .second, oD x9, .second, oD x11, .second, oD x13, .second, oD x16, .second, oR h0.size, oI (((((((own_one (4 : Int32) (0 : Int32) y1 x16) + (own_one (4 : Int32) (1 : Int32) x3 x16)) + (own_one (4 : Int32) (2 : Int32) x5 x16)) + (own_one (4 : Int32) (3 : Int32) x7 x16)) + (own_one (4 : Int32) (4 : Int32) x9 x16)) + (own_one (4 : Int32) (5 : Int32) x11 x16)) + (own_one (4 : Int32) (6 : Int32) x13 x16)), oI (own_cb4 h0.size x16 kA y1 x3 x5 x7)]) rfl k_) ?_
    show own_Go p e below _ T63 (mkF m 273 #[oI i0, oI i1, oI i2, oI i3, oI (4 : Int32), oD y1, .second, oD x3, .second, oD x5, .second, oD x7, .second, oD x9, .second, oD x11, .second, oD x13, .second, oD x16, .second, oR h0.size, oI (((((((own_one (4 : Int32) (0 : Int32) y1 x16) + (own_one (4 : Int32) (1 : Int32) x3 x16)) + (own_one (4 : Int32) (2 : Int32) x5 x16)) + (own_one (4 : Int32) (3 : Int32) x7 x16)) + (own_one (4 : Int32) (4 : Int32) x9 x16)) + (own_one (4 : Int32) (5 : Int32) x11 x16)) + (own_one (4 : Int32) (6 : Int32) x13 x16)), oI (own_cb4 h0.size x16 kA y1 x3 x5 x7)] [])
    refine own_by (fun t_ k_ => XS.iload XT63.here hx rfl (hb hby at_273) rfl  k_) ?_
    show own_Go p e below _ T63 (mkF m 275 #[oI i0, oI i1, oI i2, oI i3, oI (4 : Int32), oD y1, .second, oD x3, .second, oD x5, .second, oD x7, .second, oD x9, .second, oD x11, .second, oD x13, .second, oD x16, .second, oR h0.size, oI (((((((own_one (4 : Int32) (0 : Int32) y1 x16) + (own_one (4 : Int32) (1 : Int32) x3 x16)) + (own_one (4 : Int32) (2 : Int32) x5 x16)) + (own_one (4 : Int32) (3 : Int32) x7 x16)) + (own_one (4 : Int32) (4 : Int32) x9 x16)) + (own_one (4 : Int32) (5 : Int32) x11 x16)) + (own_one (4 : Int32) (6 : Int32) x13 x16)), oI (own_cb4 h0.size x16 kA y1 x3 x5 x7)] [(.int (own_cb4 h0.size x16 kA y1 x3 x5 x7))])
    refine own_by (fun t_ k_ => XS.iload XT63.here hx rfl (hb hby at_275) rfl  k_) ?_
    show own_Go p e below _ T63 (mkF m 277 #[oI i0, oI i1, oI i2, oI i3, oI (4 : Int32), oD y1, .second, oD x3, .second, oD x5, .second, oD x7, .second, oD x9, .second, oD x11, .second, oD x13, .second, oD x16, .second, oR h0.size, oI (((((((own_one (4 : Int32) (0 : Int32) y1 x16) + (own_one (4 : Int32) (1 : Int32) x3 x16)) + (own_one (4 : Int32) (2 : Int32) x5 x16)) + (own_one (4 : Int32) (3 : Int32) x7 x16)) + (own_one (4 : Int32) (4 : Int32) x9 x16)) + (own_one (4 : Int32) (5 : Int32) x11 x16)) + (own_one (4 : Int32) (6 : Int32) x13 x16)), oI (own_cb4 h0.size x16 kA y1 x3 x5 x7)] [(.int (((((((own_one (4 : Int32) (0 : Int32) y1 x16) + (own_one (4 : Int32) (1 : Int32) x3 x16)) + (own_one (4 : Int32) (2 : Int32) x5 x16)) + (own_one (4 : Int32) (3 : Int32) x7 x16)) + (own_one (4 : Int32) (4 : Int32) x9 x16)) + (own_one (4 : Int32) (5 : Int32) x11 x16)) + (own_one (4 : Int32) (6 : Int32) x13 x16))), (.int (own_cb4 h0.size x16 kA y1 x3 x5 x7))])
    have C0 := own_D_cmp (own_D_up Dy1 1) D8
    have C1 := own_D_cmp (own_D_up D1 1) D8
    have C2 := own_D_cmp (own_D_up D2 1) D8
    have C3 := own_D_cmp (own_D_up D3 1) D8
    simp only [show ((2 ^ 1 : Nat) : Int) = 2 from rfl] at C0 C1 C2 C3
    have hfin : (own_cb4 h0.size x16 kA y1 x3 x5 x7) = (((((((own_one (4 : Int32) (0 : Int32) y1 x16) + (own_one (4 : Int32) (1 : Int32) x3 x16)) + (own_one (4 : Int32) (2 : Int32) x5 x16)) + (own_one (4 : Int32) (3 : Int32) x7 x16)) + (own_one (4 : Int32) (4 : Int32) x9 x16)) + (own_one (4 : Int32) (5 : Int32) x11 x16)) + (own_one (4 : Int32) (6 : Int32) x13 x16)) := by
      by_cases q0 : (0 : Int32) < (cmpValue (FP.dcmp y1 x16) .g)
      · have c0 : (0 : Int32) < (cmpValue (FP.dcmp y1 x16) .g) := q0
        have c1 : (0 : Int32) < (cmpValue (FP.dcmp x3 x16) .g) := own_cmp_gt C1 (Decidable.byContradiction fun z => (own_cmp_ngt C0 (by omega)) q0)
        have c2 : (0 : Int32) < (cmpValue (FP.dcmp x5 x16) .g) := own_cmp_gt C2 (Decidable.byContradiction fun z => (own_cmp_ngt C0 (by omega)) q0)
        have c3 : (0 : Int32) < (cmpValue (FP.dcmp x7 x16) .g) := own_cmp_gt C3 (Decidable.byContradiction fun z => (own_cmp_ngt C0 (by omega)) q0)
        rw [show own_cb4 h0.size x16 kA y1 x3 x5 x7 = (0 : Int32) by rw [own_cb4, if_pos c2, if_pos c1, if_pos c0], show own_one (4 : Int32) (0 : Int32) y1 x16 = (0 : Int32) by rw [own_one, if_pos (by decide), if_pos c0], show own_one (4 : Int32) (1 : Int32) x3 x16 = (0 : Int32) by rw [own_one, if_pos (by decide), if_pos c1], show own_one (4 : Int32) (2 : Int32) x5 x16 = (0 : Int32) by rw [own_one, if_pos (by decide), if_pos c2], show own_one (4 : Int32) (3 : Int32) x7 x16 = (0 : Int32) by rw [own_one, if_pos (by decide), if_pos c3], show own_one (4 : Int32) (4 : Int32) x9 x16 = (0 : Int32) by rw [own_one, if_neg (by decide)], show own_one (4 : Int32) (5 : Int32) x11 x16 = (0 : Int32) by rw [own_one, if_neg (by decide)], show own_one (4 : Int32) (6 : Int32) x13 x16 = (0 : Int32) by rw [own_one, if_neg (by decide)]]
        decide
      · by_cases q1 : (0 : Int32) < (cmpValue (FP.dcmp x3 x16) .g)
        · have c0 : ¬ (0 : Int32) < (cmpValue (FP.dcmp y1 x16) .g) := q0
          have c1 : (0 : Int32) < (cmpValue (FP.dcmp x3 x16) .g) := q1
          have c2 : (0 : Int32) < (cmpValue (FP.dcmp x5 x16) .g) := own_cmp_gt C2 (Decidable.byContradiction fun z => (own_cmp_ngt C1 (by omega)) q1)
          have c3 : (0 : Int32) < (cmpValue (FP.dcmp x7 x16) .g) := own_cmp_gt C3 (Decidable.byContradiction fun z => (own_cmp_ngt C1 (by omega)) q1)
          rw [show own_cb4 h0.size x16 kA y1 x3 x5 x7 = (1 : Int32) by rw [own_cb4, if_pos c2, if_pos c1, if_neg c0], show own_one (4 : Int32) (0 : Int32) y1 x16 = (1 : Int32) by rw [own_one, if_pos (by decide), if_neg c0], show own_one (4 : Int32) (1 : Int32) x3 x16 = (0 : Int32) by rw [own_one, if_pos (by decide), if_pos c1], show own_one (4 : Int32) (2 : Int32) x5 x16 = (0 : Int32) by rw [own_one, if_pos (by decide), if_pos c2], show own_one (4 : Int32) (3 : Int32) x7 x16 = (0 : Int32) by rw [own_one, if_pos (by decide), if_pos c3], show own_one (4 : Int32) (4 : Int32) x9 x16 = (0 : Int32) by rw [own_one, if_neg (by decide)], show own_one (4 : Int32) (5 : Int32) x11 x16 = (0 : Int32) by rw [own_one, if_neg (by decide)], show own_one (4 : Int32) (6 : Int32) x13 x16 = (0 : Int32) by rw [own_one, if_neg (by decide)]]
          decide
        · by_cases q2 : (0 : Int32) < (cmpValue (FP.dcmp x5 x16) .g)
          · have c0 : ¬ (0 : Int32) < (cmpValue (FP.dcmp y1 x16) .g) := q0
            have c1 : ¬ (0 : Int32) < (cmpValue (FP.dcmp x3 x16) .g) := q1
            have c2 : (0 : Int32) < (cmpValue (FP.dcmp x5 x16) .g) := q2
            have c3 : (0 : Int32) < (cmpValue (FP.dcmp x7 x16) .g) := own_cmp_gt C3 (Decidable.byContradiction fun z => (own_cmp_ngt C2 (by omega)) q2)
            rw [show own_cb4 h0.size x16 kA y1 x3 x5 x7 = (2 : Int32) by rw [own_cb4, if_pos c2, if_neg c1], show own_one (4 : Int32) (0 : Int32) y1 x16 = (1 : Int32) by rw [own_one, if_pos (by decide), if_neg c0], show own_one (4 : Int32) (1 : Int32) x3 x16 = (1 : Int32) by rw [own_one, if_pos (by decide), if_neg c1], show own_one (4 : Int32) (2 : Int32) x5 x16 = (0 : Int32) by rw [own_one, if_pos (by decide), if_pos c2], show own_one (4 : Int32) (3 : Int32) x7 x16 = (0 : Int32) by rw [own_one, if_pos (by decide), if_pos c3], show own_one (4 : Int32) (4 : Int32) x9 x16 = (0 : Int32) by rw [own_one, if_neg (by decide)], show own_one (4 : Int32) (5 : Int32) x11 x16 = (0 : Int32) by rw [own_one, if_neg (by decide)], show own_one (4 : Int32) (6 : Int32) x13 x16 = (0 : Int32) by rw [own_one, if_neg (by decide)]]
            decide
          · by_cases q3 : (0 : Int32) < (cmpValue (FP.dcmp x7 x16) .g)
            · have c0 : ¬ (0 : Int32) < (cmpValue (FP.dcmp y1 x16) .g) := q0
              have c1 : ¬ (0 : Int32) < (cmpValue (FP.dcmp x3 x16) .g) := q1
              have c2 : ¬ (0 : Int32) < (cmpValue (FP.dcmp x5 x16) .g) := q2
              have c3 : (0 : Int32) < (cmpValue (FP.dcmp x7 x16) .g) := q3
              rw [show own_cb4 h0.size x16 kA y1 x3 x5 x7 = (3 : Int32) by rw [own_cb4, if_neg c2, if_pos c3], show own_one (4 : Int32) (0 : Int32) y1 x16 = (1 : Int32) by rw [own_one, if_pos (by decide), if_neg c0], show own_one (4 : Int32) (1 : Int32) x3 x16 = (1 : Int32) by rw [own_one, if_pos (by decide), if_neg c1], show own_one (4 : Int32) (2 : Int32) x5 x16 = (1 : Int32) by rw [own_one, if_pos (by decide), if_neg c2], show own_one (4 : Int32) (3 : Int32) x7 x16 = (0 : Int32) by rw [own_one, if_pos (by decide), if_pos c3], show own_one (4 : Int32) (4 : Int32) x9 x16 = (0 : Int32) by rw [own_one, if_neg (by decide)], show own_one (4 : Int32) (5 : Int32) x11 x16 = (0 : Int32) by rw [own_one, if_neg (by decide)], show own_one (4 : Int32) (6 : Int32) x13 x16 = (0 : Int32) by rw [own_one, if_neg (by decide)]]
              decide
            · have c0 : ¬ (0 : Int32) < (cmpValue (FP.dcmp y1 x16) .g) := q0
              have c1 : ¬ (0 : Int32) < (cmpValue (FP.dcmp x3 x16) .g) := q1
              have c2 : ¬ (0 : Int32) < (cmpValue (FP.dcmp x5 x16) .g) := q2
              have c3 : ¬ (0 : Int32) < (cmpValue (FP.dcmp x7 x16) .g) := q3
              rw [show own_cb4 h0.size x16 kA y1 x3 x5 x7 = (4 : Int32) by rw [own_cb4, if_neg c2, if_neg c3], show own_one (4 : Int32) (0 : Int32) y1 x16 = (1 : Int32) by rw [own_one, if_pos (by decide), if_neg c0], show own_one (4 : Int32) (1 : Int32) x3 x16 = (1 : Int32) by rw [own_one, if_pos (by decide), if_neg c1], show own_one (4 : Int32) (2 : Int32) x5 x16 = (1 : Int32) by rw [own_one, if_pos (by decide), if_neg c2], show own_one (4 : Int32) (3 : Int32) x7 x16 = (1 : Int32) by rw [own_one, if_pos (by decide), if_neg c3], show own_one (4 : Int32) (4 : Int32) x9 x16 = (0 : Int32) by rw [own_one, if_neg (by decide)], show own_one (4 : Int32) (5 : Int32) x11 x16 = (0 : Int32) by rw [own_one, if_neg (by decide)], show own_one (4 : Int32) (6 : Int32) x13 x16 = (0 : Int32) by rw [own_one, if_neg (by decide)]]
              decide
    refine own_by (fun t_ k_ => XS.icmpNo XT63.here hx rfl (hb hby at_277) rfl (XT.ii_ne_f hfin) k_) ?_
    show own_Go p e below _ T63 (mkF m 280 #[oI i0, oI i1, oI i2, oI i3, oI (4 : Int32), oD y1, .second, oD x3, .second, oD x5, .second, oD x7, .second, oD x9, .second, oD x11, .second, oD x13, .second, oD x16, .second, oR h0.size, oI (((((((own_one (4 : Int32) (0 : Int32) y1 x16) + (own_one (4 : Int32) (1 : Int32) x3 x16)) + (own_one (4 : Int32) (2 : Int32) x5 x16)) + (own_one (4 : Int32) (3 : Int32) x7 x16)) + (own_one (4 : Int32) (4 : Int32) x9 x16)) + (own_one (4 : Int32) (5 : Int32) x11 x16)) + (own_one (4 : Int32) (6 : Int32) x13 x16)), oI (own_cb4 h0.size x16 kA y1 x3 x5 x7)] [])
    refine own_by (fun t_ k_ => XT.iconstV XT63.here hx rfl (1 : Int32) (hb hby at_280) (by decide) k_) ?_
    show own_Go p e below _ T63 (mkF m 281 #[oI i0, oI i1, oI i2, oI i3, oI (4 : Int32), oD y1, .second, oD x3, .second, oD x5, .second, oD x7, .second, oD x9, .second, oD x11, .second, oD x13, .second, oD x16, .second, oR h0.size, oI (((((((own_one (4 : Int32) (0 : Int32) y1 x16) + (own_one (4 : Int32) (1 : Int32) x3 x16)) + (own_one (4 : Int32) (2 : Int32) x5 x16)) + (own_one (4 : Int32) (3 : Int32) x7 x16)) + (own_one (4 : Int32) (4 : Int32) x9 x16)) + (own_one (4 : Int32) (5 : Int32) x11 x16)) + (own_one (4 : Int32) (6 : Int32) x13 x16)), oI (own_cb4 h0.size x16 kA y1 x3 x5 x7)] [(.int (1 : Int32))])
    refine own_by (fun t_ k_ => XS.goto XT63.here hx rfl (pc0 := 281) (pc' := 285) rfl (hb hby at_281) (by decide) (by decide) k_) ?_
    show own_Go p e below _ T63 (mkF m 285 #[oI i0, oI i1, oI i2, oI i3, oI (4 : Int32), oD y1, .second, oD x3, .second, oD x5, .second, oD x7, .second, oD x9, .second, oD x11, .second, oD x13, .second, oD x16, .second, oR h0.size, oI (((((((own_one (4 : Int32) (0 : Int32) y1 x16) + (own_one (4 : Int32) (1 : Int32) x3 x16)) + (own_one (4 : Int32) (2 : Int32) x5 x16)) + (own_one (4 : Int32) (3 : Int32) x7 x16)) + (own_one (4 : Int32) (4 : Int32) x9 x16)) + (own_one (4 : Int32) (5 : Int32) x11 x16)) + (own_one (4 : Int32) (6 : Int32) x13 x16)), oI (own_cb4 h0.size x16 kA y1 x3 x5 x7)] [(.int (1 : Int32))])
    exact own_retN XT63 hx hlk hret (by simp) (w := (1 : Int32)) (hb hby at_285) (by decide) (by decide) (by decide) (⟨rfl, own_fr0 NT55⟩)
  · rw [hk]
    show own_Go p e below _ T0 (mkF m 94 #[oI i0, oI i1, oI i2, oI i3, oI (5 : Int32), oD y1, .second, oD x3, .second, oD x5, .second, oD x7, .second, oD x9, .second, oD x11, .second, oD x13, .second, oD x16, .second, .unset, .unset, .unset] [])
    refine own_by (fun t_ k_ => XS.iload X0.here hx rfl (hb hby at_94) rfl  k_) ?_
    show own_Go p e below _ T0 (mkF m 96 #[oI i0, oI i1, oI i2, oI i3, oI (5 : Int32), oD y1, .second, oD x3, .second, oD x5, .second, oD x7, .second, oD x9, .second, oD x11, .second, oD x13, .second, oD x16, .second, .unset, .unset, .unset] [(.int (5 : Int32))])
    refine own_newP X0 hx hZ (aty := .double) (hw _ (List.mem_of_getElem? (i := 1) rfl)) e0 (hb hby at_96) 5 5 (by decide) (by decide) (by decide) (by decide) (by decide) (by decide) ?_
    intro T64 hT64 kA XT64 eT64 ET64 YT64
    have VT64 : own_A Z hT64 h0.size .double kA [(.double 0), (.double 0), (.double 0), (.double 0), (.double 0)] := YT64
    have NT64 := Fr.nil h0.size
    clear YT64
    show own_Go p e below _ T64 (mkF m 98 #[oI i0, oI i1, oI i2, oI i3, oI (5 : Int32), oD y1, .second, oD x3, .second, oD x5, .second, oD x7, .second, oD x9, .second, oD x11, .second, oD x13, .second, oD x16, .second, .unset, .unset, .unset] [(.ref h0.size)])
    refine own_by (fun t_ k_ => XS.astore XT64.here hx rfl (hb hby at_98) rfl rfl (l' := #[oI i0, oI i1, oI i2, oI i3, oI (5 : Int32), oD y1, .second, oD x3, .second, oD x5, .second, oD x7, .second, oD x9, .second, oD x11, .second, oD x13, .second, oD x16, .second, oR h0.size, .unset, .unset]) rfl k_) ?_
    show own_Go p e below _ T64 (mkF m 100 #[oI i0, oI i1, oI i2, oI i3, oI (5 : Int32), oD y1, .second, oD x3, .second, oD x5, .second, oD x7, .second, oD x9, .second, oD x11, .second, oD x13, .second, oD x16, .second, oR h0.size, .unset, .unset] [])
    refine own_by (fun t_ k_ => XS.iload XT64.here hx rfl (hb hby at_100) rfl  k_) ?_
    show own_Go p e below _ T64 (mkF m 102 #[oI i0, oI i1, oI i2, oI i3, oI (5 : Int32), oD y1, .second, oD x3, .second, oD x5, .second, oD x7, .second, oD x9, .second, oD x11, .second, oD x13, .second, oD x16, .second, oR h0.size, .unset, .unset] [(.int (5 : Int32))])
    refine own_by (fun t_ k_ => XS.ifNo XT64.here hx rfl (hb hby at_102) rfl (XT.i0_le_f (by decide)) k_) ?_
    show own_Go p e below _ T64 (mkF m 105 #[oI i0, oI i1, oI i2, oI i3, oI (5 : Int32), oD y1, .second, oD x3, .second, oD x5, .second, oD x7, .second, oD x9, .second, oD x11, .second, oD x13, .second, oD x16, .second, oR h0.size, .unset, .unset] [])
    refine own_by (fun t_ k_ => XS.aload XT64.here hx rfl (hb hby at_105) rfl rfl  k_) ?_
    show own_Go p e below _ T64 (mkF m 107 #[oI i0, oI i1, oI i2, oI i3, oI (5 : Int32), oD y1, .second, oD x3, .second, oD x5, .second, oD x7, .second, oD x9, .second, oD x11, .second, oD x13, .second, oD x16, .second, oR h0.size, .unset, .unset] [(.ref h0.size)])
    refine own_by (fun t_ k_ => XT.iconstV XT64.here hx rfl (0 : Int32) (hb hby at_107) (by decide) k_) ?_
    show own_Go p e below _ T64 (mkF m 108 #[oI i0, oI i1, oI i2, oI i3, oI (5 : Int32), oD y1, .second, oD x3, .second, oD x5, .second, oD x7, .second, oD x9, .second, oD x11, .second, oD x13, .second, oD x16, .second, oR h0.size, .unset, .unset] [(.int (0 : Int32)), (.ref h0.size)])
    refine own_by (fun t_ k_ => XS.dload XT64.here hx rfl (hb hby at_108) rfl  k_) ?_
    show own_Go p e below _ T64 (mkF m 110 #[oI i0, oI i1, oI i2, oI i3, oI (5 : Int32), oD y1, .second, oD x3, .second, oD x5, .second, oD x7, .second, oD x9, .second, oD x11, .second, oD x13, .second, oD x16, .second, oR h0.size, .unset, .unset] [(.double y1), (.int (0 : Int32)), (.ref h0.size)])
    refine own_stD XT64 hx hZ eT64 VT64 0 (by decide) (by decide) (by simp) (hb hby at_110) ?_
    intro T65 hT65 XT65 eT65 WT65 YT65
    have VT65 : own_A Z hT65 h0.size .double kA [(.double y1), (.double 0), (.double 0), (.double 0), (.double 0)] := YT65
    have NT65 := own_frs (i := 0) NT64 (Nat.le_refl h0.size)
    clear YT65
    show own_Go p e below _ T65 (mkF m 111 #[oI i0, oI i1, oI i2, oI i3, oI (5 : Int32), oD y1, .second, oD x3, .second, oD x5, .second, oD x7, .second, oD x9, .second, oD x11, .second, oD x13, .second, oD x16, .second, oR h0.size, .unset, .unset] [])
    refine own_by (fun t_ k_ => XS.iload XT65.here hx rfl (hb hby at_111) rfl  k_) ?_
    show own_Go p e below _ T65 (mkF m 113 #[oI i0, oI i1, oI i2, oI i3, oI (5 : Int32), oD y1, .second, oD x3, .second, oD x5, .second, oD x7, .second, oD x9, .second, oD x11, .second, oD x13, .second, oD x16, .second, oR h0.size, .unset, .unset] [(.int (5 : Int32))])
    refine own_by (fun t_ k_ => XT.iconstV XT65.here hx rfl (1 : Int32) (hb hby at_113) (by decide) k_) ?_
    show own_Go p e below _ T65 (mkF m 114 #[oI i0, oI i1, oI i2, oI i3, oI (5 : Int32), oD y1, .second, oD x3, .second, oD x5, .second, oD x7, .second, oD x9, .second, oD x11, .second, oD x13, .second, oD x16, .second, oR h0.size, .unset, .unset] [(.int (1 : Int32)), (.int (5 : Int32))])
    refine own_by (fun t_ k_ => XS.icmpNo XT65.here hx rfl (hb hby at_114) rfl (XT.ii_le_f (by decide)) k_) ?_
    show own_Go p e below _ T65 (mkF m 117 #[oI i0, oI i1, oI i2, oI i3, oI (5 : Int32), oD y1, .second, oD x3, .second, oD x5, .second, oD x7, .second, oD x9, .second, oD x11, .second, oD x13, .second, oD x16, .second, oR h0.size, .unset, .unset] [])
    refine own_by (fun t_ k_ => XS.aload XT65.here hx rfl (hb hby at_117) rfl rfl  k_) ?_
    show own_Go p e below _ T65 (mkF m 119 #[oI i0, oI i1, oI i2, oI i3, oI (5 : Int32), oD y1, .second, oD x3, .second, oD x5, .second, oD x7, .second, oD x9, .second, oD x11, .second, oD x13, .second, oD x16, .second, oR h0.size, .unset, .unset] [(.ref h0.size)])
    refine own_by (fun t_ k_ => XT.iconstV XT65.here hx rfl (1 : Int32) (hb hby at_119) (by decide) k_) ?_
    show own_Go p e below _ T65 (mkF m 120 #[oI i0, oI i1, oI i2, oI i3, oI (5 : Int32), oD y1, .second, oD x3, .second, oD x5, .second, oD x7, .second, oD x9, .second, oD x11, .second, oD x13, .second, oD x16, .second, oR h0.size, .unset, .unset] [(.int (1 : Int32)), (.ref h0.size)])
    refine own_by (fun t_ k_ => XS.dload XT65.here hx rfl (hb hby at_120) rfl  k_) ?_
    show own_Go p e below _ T65 (mkF m 122 #[oI i0, oI i1, oI i2, oI i3, oI (5 : Int32), oD y1, .second, oD x3, .second, oD x5, .second, oD x7, .second, oD x9, .second, oD x11, .second, oD x13, .second, oD x16, .second, oR h0.size, .unset, .unset] [(.double x3), (.int (1 : Int32)), (.ref h0.size)])
    refine own_stD XT65 hx hZ eT65 VT65 1 (by decide) (by decide) (by simp) (hb hby at_122) ?_
    intro T66 hT66 XT66 eT66 WT66 YT66
    have VT66 : own_A Z hT66 h0.size .double kA [(.double y1), (.double x3), (.double 0), (.double 0), (.double 0)] := YT66
    have NT66 := own_frs (i := 1) NT65 (Nat.le_refl h0.size)
    clear YT66
    show own_Go p e below _ T66 (mkF m 123 #[oI i0, oI i1, oI i2, oI i3, oI (5 : Int32), oD y1, .second, oD x3, .second, oD x5, .second, oD x7, .second, oD x9, .second, oD x11, .second, oD x13, .second, oD x16, .second, oR h0.size, .unset, .unset] [])
    refine own_by (fun t_ k_ => XS.iload XT66.here hx rfl (hb hby at_123) rfl  k_) ?_
    show own_Go p e below _ T66 (mkF m 125 #[oI i0, oI i1, oI i2, oI i3, oI (5 : Int32), oD y1, .second, oD x3, .second, oD x5, .second, oD x7, .second, oD x9, .second, oD x11, .second, oD x13, .second, oD x16, .second, oR h0.size, .unset, .unset] [(.int (5 : Int32))])
    refine own_by (fun t_ k_ => XT.iconstV XT66.here hx rfl (2 : Int32) (hb hby at_125) (by decide) k_) ?_
    show own_Go p e below _ T66 (mkF m 126 #[oI i0, oI i1, oI i2, oI i3, oI (5 : Int32), oD y1, .second, oD x3, .second, oD x5, .second, oD x7, .second, oD x9, .second, oD x11, .second, oD x13, .second, oD x16, .second, oR h0.size, .unset, .unset] [(.int (2 : Int32)), (.int (5 : Int32))])
    refine own_by (fun t_ k_ => XS.icmpNo XT66.here hx rfl (hb hby at_126) rfl (XT.ii_le_f (by decide)) k_) ?_
    show own_Go p e below _ T66 (mkF m 129 #[oI i0, oI i1, oI i2, oI i3, oI (5 : Int32), oD y1, .second, oD x3, .second, oD x5, .second, oD x7, .second, oD x9, .second, oD x11, .second, oD x13, .second, oD x16, .second, oR h0.size, .unset, .unset] [])
    refine own_by (fun t_ k_ => XS.aload XT66.here hx rfl (hb hby at_129) rfl rfl  k_) ?_
    show own_Go p e below _ T66 (mkF m 131 #[oI i0, oI i1, oI i2, oI i3, oI (5 : Int32), oD y1, .second, oD x3, .second, oD x5, .second, oD x7, .second, oD x9, .second, oD x11, .second, oD x13, .second, oD x16, .second, oR h0.size, .unset, .unset] [(.ref h0.size)])
    refine own_by (fun t_ k_ => XT.iconstV XT66.here hx rfl (2 : Int32) (hb hby at_131) (by decide) k_) ?_
    show own_Go p e below _ T66 (mkF m 132 #[oI i0, oI i1, oI i2, oI i3, oI (5 : Int32), oD y1, .second, oD x3, .second, oD x5, .second, oD x7, .second, oD x9, .second, oD x11, .second, oD x13, .second, oD x16, .second, oR h0.size, .unset, .unset] [(.int (2 : Int32)), (.ref h0.size)])
    refine own_by (fun t_ k_ => XS.dload XT66.here hx rfl (hb hby at_132) rfl  k_) ?_
    show own_Go p e below _ T66 (mkF m 134 #[oI i0, oI i1, oI i2, oI i3, oI (5 : Int32), oD y1, .second, oD x3, .second, oD x5, .second, oD x7, .second, oD x9, .second, oD x11, .second, oD x13, .second, oD x16, .second, oR h0.size, .unset, .unset] [(.double x5), (.int (2 : Int32)), (.ref h0.size)])
    refine own_stD XT66 hx hZ eT66 VT66 2 (by decide) (by decide) (by simp) (hb hby at_134) ?_
    intro T67 hT67 XT67 eT67 WT67 YT67
    have VT67 : own_A Z hT67 h0.size .double kA [(.double y1), (.double x3), (.double x5), (.double 0), (.double 0)] := YT67
    have NT67 := own_frs (i := 2) NT66 (Nat.le_refl h0.size)
    clear YT67
    show own_Go p e below _ T67 (mkF m 135 #[oI i0, oI i1, oI i2, oI i3, oI (5 : Int32), oD y1, .second, oD x3, .second, oD x5, .second, oD x7, .second, oD x9, .second, oD x11, .second, oD x13, .second, oD x16, .second, oR h0.size, .unset, .unset] [])
    refine own_by (fun t_ k_ => XS.iload XT67.here hx rfl (hb hby at_135) rfl  k_) ?_
    show own_Go p e below _ T67 (mkF m 137 #[oI i0, oI i1, oI i2, oI i3, oI (5 : Int32), oD y1, .second, oD x3, .second, oD x5, .second, oD x7, .second, oD x9, .second, oD x11, .second, oD x13, .second, oD x16, .second, oR h0.size, .unset, .unset] [(.int (5 : Int32))])
    refine own_by (fun t_ k_ => XT.iconstV XT67.here hx rfl (3 : Int32) (hb hby at_137) (by decide) k_) ?_
    show own_Go p e below _ T67 (mkF m 138 #[oI i0, oI i1, oI i2, oI i3, oI (5 : Int32), oD y1, .second, oD x3, .second, oD x5, .second, oD x7, .second, oD x9, .second, oD x11, .second, oD x13, .second, oD x16, .second, oR h0.size, .unset, .unset] [(.int (3 : Int32)), (.int (5 : Int32))])
    refine own_by (fun t_ k_ => XS.icmpNo XT67.here hx rfl (hb hby at_138) rfl (XT.ii_le_f (by decide)) k_) ?_
    show own_Go p e below _ T67 (mkF m 141 #[oI i0, oI i1, oI i2, oI i3, oI (5 : Int32), oD y1, .second, oD x3, .second, oD x5, .second, oD x7, .second, oD x9, .second, oD x11, .second, oD x13, .second, oD x16, .second, oR h0.size, .unset, .unset] [])
    refine own_by (fun t_ k_ => XS.aload XT67.here hx rfl (hb hby at_141) rfl rfl  k_) ?_
    show own_Go p e below _ T67 (mkF m 143 #[oI i0, oI i1, oI i2, oI i3, oI (5 : Int32), oD y1, .second, oD x3, .second, oD x5, .second, oD x7, .second, oD x9, .second, oD x11, .second, oD x13, .second, oD x16, .second, oR h0.size, .unset, .unset] [(.ref h0.size)])
    refine own_by (fun t_ k_ => XT.iconstV XT67.here hx rfl (3 : Int32) (hb hby at_143) (by decide) k_) ?_
    show own_Go p e below _ T67 (mkF m 144 #[oI i0, oI i1, oI i2, oI i3, oI (5 : Int32), oD y1, .second, oD x3, .second, oD x5, .second, oD x7, .second, oD x9, .second, oD x11, .second, oD x13, .second, oD x16, .second, oR h0.size, .unset, .unset] [(.int (3 : Int32)), (.ref h0.size)])
    refine own_by (fun t_ k_ => XS.dload XT67.here hx rfl (hb hby at_144) rfl  k_) ?_
    show own_Go p e below _ T67 (mkF m 146 #[oI i0, oI i1, oI i2, oI i3, oI (5 : Int32), oD y1, .second, oD x3, .second, oD x5, .second, oD x7, .second, oD x9, .second, oD x11, .second, oD x13, .second, oD x16, .second, oR h0.size, .unset, .unset] [(.double x7), (.int (3 : Int32)), (.ref h0.size)])
    refine own_stD XT67 hx hZ eT67 VT67 3 (by decide) (by decide) (by simp) (hb hby at_146) ?_
    intro T68 hT68 XT68 eT68 WT68 YT68
    have VT68 : own_A Z hT68 h0.size .double kA [(.double y1), (.double x3), (.double x5), (.double x7), (.double 0)] := YT68
    have NT68 := own_frs (i := 3) NT67 (Nat.le_refl h0.size)
    clear YT68
    show own_Go p e below _ T68 (mkF m 147 #[oI i0, oI i1, oI i2, oI i3, oI (5 : Int32), oD y1, .second, oD x3, .second, oD x5, .second, oD x7, .second, oD x9, .second, oD x11, .second, oD x13, .second, oD x16, .second, oR h0.size, .unset, .unset] [])
    refine own_by (fun t_ k_ => XS.iload XT68.here hx rfl (hb hby at_147) rfl  k_) ?_
    show own_Go p e below _ T68 (mkF m 149 #[oI i0, oI i1, oI i2, oI i3, oI (5 : Int32), oD y1, .second, oD x3, .second, oD x5, .second, oD x7, .second, oD x9, .second, oD x11, .second, oD x13, .second, oD x16, .second, oR h0.size, .unset, .unset] [(.int (5 : Int32))])
    refine own_by (fun t_ k_ => XT.iconstV XT68.here hx rfl (4 : Int32) (hb hby at_149) (by decide) k_) ?_
    show own_Go p e below _ T68 (mkF m 150 #[oI i0, oI i1, oI i2, oI i3, oI (5 : Int32), oD y1, .second, oD x3, .second, oD x5, .second, oD x7, .second, oD x9, .second, oD x11, .second, oD x13, .second, oD x16, .second, oR h0.size, .unset, .unset] [(.int (4 : Int32)), (.int (5 : Int32))])
    refine own_by (fun t_ k_ => XS.icmpNo XT68.here hx rfl (hb hby at_150) rfl (XT.ii_le_f (by decide)) k_) ?_
    show own_Go p e below _ T68 (mkF m 153 #[oI i0, oI i1, oI i2, oI i3, oI (5 : Int32), oD y1, .second, oD x3, .second, oD x5, .second, oD x7, .second, oD x9, .second, oD x11, .second, oD x13, .second, oD x16, .second, oR h0.size, .unset, .unset] [])
    refine own_by (fun t_ k_ => XS.aload XT68.here hx rfl (hb hby at_153) rfl rfl  k_) ?_
    show own_Go p e below _ T68 (mkF m 155 #[oI i0, oI i1, oI i2, oI i3, oI (5 : Int32), oD y1, .second, oD x3, .second, oD x5, .second, oD x7, .second, oD x9, .second, oD x11, .second, oD x13, .second, oD x16, .second, oR h0.size, .unset, .unset] [(.ref h0.size)])
    refine own_by (fun t_ k_ => XT.iconstV XT68.here hx rfl (4 : Int32) (hb hby at_155) (by decide) k_) ?_
    show own_Go p e below _ T68 (mkF m 156 #[oI i0, oI i1, oI i2, oI i3, oI (5 : Int32), oD y1, .second, oD x3, .second, oD x5, .second, oD x7, .second, oD x9, .second, oD x11, .second, oD x13, .second, oD x16, .second, oR h0.size, .unset, .unset] [(.int (4 : Int32)), (.ref h0.size)])
    refine own_by (fun t_ k_ => XS.dload XT68.here hx rfl (hb hby at_156) rfl  k_) ?_
    show own_Go p e below _ T68 (mkF m 158 #[oI i0, oI i1, oI i2, oI i3, oI (5 : Int32), oD y1, .second, oD x3, .second, oD x5, .second, oD x7, .second, oD x9, .second, oD x11, .second, oD x13, .second, oD x16, .second, oR h0.size, .unset, .unset] [(.double x9), (.int (4 : Int32)), (.ref h0.size)])
    refine own_stD XT68 hx hZ eT68 VT68 4 (by decide) (by decide) (by simp) (hb hby at_158) ?_
    intro T69 hT69 XT69 eT69 WT69 YT69
    have VT69 : own_A Z hT69 h0.size .double kA [(.double y1), (.double x3), (.double x5), (.double x7), (.double x9)] := YT69
    have NT69 := own_frs (i := 4) NT68 (Nat.le_refl h0.size)
    clear YT69
    show own_Go p e below _ T69 (mkF m 159 #[oI i0, oI i1, oI i2, oI i3, oI (5 : Int32), oD y1, .second, oD x3, .second, oD x5, .second, oD x7, .second, oD x9, .second, oD x11, .second, oD x13, .second, oD x16, .second, oR h0.size, .unset, .unset] [])
    refine own_by (fun t_ k_ => XS.iload XT69.here hx rfl (hb hby at_159) rfl  k_) ?_
    show own_Go p e below _ T69 (mkF m 161 #[oI i0, oI i1, oI i2, oI i3, oI (5 : Int32), oD y1, .second, oD x3, .second, oD x5, .second, oD x7, .second, oD x9, .second, oD x11, .second, oD x13, .second, oD x16, .second, oR h0.size, .unset, .unset] [(.int (5 : Int32))])
    refine own_by (fun t_ k_ => XT.iconstV XT69.here hx rfl (5 : Int32) (hb hby at_161) (by decide) k_) ?_
    show own_Go p e below _ T69 (mkF m 162 #[oI i0, oI i1, oI i2, oI i3, oI (5 : Int32), oD y1, .second, oD x3, .second, oD x5, .second, oD x7, .second, oD x9, .second, oD x11, .second, oD x13, .second, oD x16, .second, oR h0.size, .unset, .unset] [(.int (5 : Int32)), (.int (5 : Int32))])
    refine own_by (fun t_ k_ => XS.icmpYes XT69.here hx rfl (pc0 := 162) (pc' := 171) rfl (hb hby at_162) rfl (XT.ii_le_t (by decide)) (by decide) (by decide) k_) ?_
    show own_Go p e below _ T69 (mkF m 171 #[oI i0, oI i1, oI i2, oI i3, oI (5 : Int32), oD y1, .second, oD x3, .second, oD x5, .second, oD x7, .second, oD x9, .second, oD x11, .second, oD x13, .second, oD x16, .second, oR h0.size, .unset, .unset] [])
    refine own_by (fun t_ k_ => XS.iload XT69.here hx rfl (hb hby at_171) rfl  k_) ?_
    show own_Go p e below _ T69 (mkF m 173 #[oI i0, oI i1, oI i2, oI i3, oI (5 : Int32), oD y1, .second, oD x3, .second, oD x5, .second, oD x7, .second, oD x9, .second, oD x11, .second, oD x13, .second, oD x16, .second, oR h0.size, .unset, .unset] [(.int (5 : Int32))])
    refine own_by (fun t_ k_ => XT.bipushV XT69.here hx rfl (6 : Int32) (hb hby at_173) (by decide) k_) ?_
    show own_Go p e below _ T69 (mkF m 175 #[oI i0, oI i1, oI i2, oI i3, oI (5 : Int32), oD y1, .second, oD x3, .second, oD x5, .second, oD x7, .second, oD x9, .second, oD x11, .second, oD x13, .second, oD x16, .second, oR h0.size, .unset, .unset] [(.int (6 : Int32)), (.int (5 : Int32))])
    refine own_by (fun t_ k_ => XS.icmpYes XT69.here hx rfl (pc0 := 175) (pc' := 185) rfl (hb hby at_175) rfl (XT.ii_le_t (by decide)) (by decide) (by decide) k_) ?_
    show own_Go p e below _ T69 (mkF m 185 #[oI i0, oI i1, oI i2, oI i3, oI (5 : Int32), oD y1, .second, oD x3, .second, oD x5, .second, oD x7, .second, oD x9, .second, oD x11, .second, oD x13, .second, oD x16, .second, oR h0.size, .unset, .unset] [])
    refine own_by (fun t_ k_ => XS.iload XT69.here hx rfl (hb hby at_185) rfl  k_) ?_
    show own_Go p e below _ T69 (mkF m 187 #[oI i0, oI i1, oI i2, oI i3, oI (5 : Int32), oD y1, .second, oD x3, .second, oD x5, .second, oD x7, .second, oD x9, .second, oD x11, .second, oD x13, .second, oD x16, .second, oR h0.size, .unset, .unset] [(.int (5 : Int32))])
    refine own_by (fun t_ k_ => XT.iconstV XT69.here hx rfl (0 : Int32) (hb hby at_187) (by decide) k_) ?_
    show own_Go p e below _ T69 (mkF m 188 #[oI i0, oI i1, oI i2, oI i3, oI (5 : Int32), oD y1, .second, oD x3, .second, oD x5, .second, oD x7, .second, oD x9, .second, oD x11, .second, oD x13, .second, oD x16, .second, oR h0.size, .unset, .unset] [(.int (0 : Int32)), (.int (5 : Int32))])
    refine own_by (fun t_ k_ => XS.dload XT69.here hx rfl (hb hby at_188) rfl  k_) ?_
    show own_Go p e below _ T69 (mkF m 190 #[oI i0, oI i1, oI i2, oI i3, oI (5 : Int32), oD y1, .second, oD x3, .second, oD x5, .second, oD x7, .second, oD x9, .second, oD x11, .second, oD x13, .second, oD x16, .second, oR h0.size, .unset, .unset] [(.double y1), (.int (0 : Int32)), (.int (5 : Int32))])
    refine own_by (fun t_ k_ => XS.dload XT69.here hx rfl (hb hby at_190) rfl  k_) ?_
    show own_Go p e below _ T69 (mkF m 192 #[oI i0, oI i1, oI i2, oI i3, oI (5 : Int32), oD y1, .second, oD x3, .second, oD x5, .second, oD x7, .second, oD x9, .second, oD x11, .second, oD x13, .second, oD x16, .second, oR h0.size, .unset, .unset] [(.double x16), (.double y1), (.int (0 : Int32)), (.int (5 : Int32))])
    refine own_callS XT69 hx hZ hown (hw _ (List.mem_of_getElem? (i := 2) rfl)) (hw _ (List.mem_of_getElem? (i := 3) rfl)) (hw _ (List.mem_of_getElem? (i := 4) rfl)) (hw _ (List.mem_of_getElem? (i := 5) rfl)) (by decide) eT69 (argsL := [(.int (5 : Int32)), (.int (0 : Int32)), (.double y1), (.double x16)]) (rest := []) (own_one_met l Z a0 hw (5 : Int32) (0 : Int32) y1 x16 hT69) 0 (by decide) (by decide) (by rw [hml]; rfl) (lenOf pd_0 rfl) (Nat.le_of_eq rfl) (hb hby at_192) (by decide) (by decide) (st := [(.double x16), (.double y1), (.int (0 : Int32)), (.int (5 : Int32))]) rfl ?_
    intro T70 LT70 vT70 XT70 hQT70
    obtain ⟨rfl, eT70, rfl⟩ := hQT70
    show own_Go p e below _ T70 (mkF m 195 #[oI i0, oI i1, oI i2, oI i3, oI (5 : Int32), oD y1, .second, oD x3, .second, oD x5, .second, oD x7, .second, oD x9, .second, oD x11, .second, oD x13, .second, oD x16, .second, oR h0.size, .unset, .unset] [(.int (own_one (5 : Int32) (0 : Int32) y1 x16))])
    refine own_by (fun t_ k_ => XS.iload XT70.here hx rfl (hb hby at_195) rfl  k_) ?_
    show own_Go p e below _ T70 (mkF m 197 #[oI i0, oI i1, oI i2, oI i3, oI (5 : Int32), oD y1, .second, oD x3, .second, oD x5, .second, oD x7, .second, oD x9, .second, oD x11, .second, oD x13, .second, oD x16, .second, oR h0.size, .unset, .unset] [(.int (5 : Int32)), (.int (own_one (5 : Int32) (0 : Int32) y1 x16))])
    refine own_by (fun t_ k_ => XT.iconstV XT70.here hx rfl (1 : Int32) (hb hby at_197) (by decide) k_) ?_
    show own_Go p e below _ T70 (mkF m 198 #[oI i0, oI i1, oI i2, oI i3, oI (5 : Int32), oD y1, .second, oD x3, .second, oD x5, .second, oD x7, .second, oD x9, .second, oD x11, .second, oD x13, .second, oD x16, .second, oR h0.size, .unset, .unset] [(.int (1 : Int32)), (.int (5 : Int32)), (.int (own_one (5 : Int32) (0 : Int32) y1 x16))])
    refine own_by (fun t_ k_ => XS.dload XT70.here hx rfl (hb hby at_198) rfl  k_) ?_
    show own_Go p e below _ T70 (mkF m 200 #[oI i0, oI i1, oI i2, oI i3, oI (5 : Int32), oD y1, .second, oD x3, .second, oD x5, .second, oD x7, .second, oD x9, .second, oD x11, .second, oD x13, .second, oD x16, .second, oR h0.size, .unset, .unset] [(.double x3), (.int (1 : Int32)), (.int (5 : Int32)), (.int (own_one (5 : Int32) (0 : Int32) y1 x16))])
    refine own_by (fun t_ k_ => XS.dload XT70.here hx rfl (hb hby at_200) rfl  k_) ?_
    show own_Go p e below _ T70 (mkF m 202 #[oI i0, oI i1, oI i2, oI i3, oI (5 : Int32), oD y1, .second, oD x3, .second, oD x5, .second, oD x7, .second, oD x9, .second, oD x11, .second, oD x13, .second, oD x16, .second, oR h0.size, .unset, .unset] [(.double x16), (.double x3), (.int (1 : Int32)), (.int (5 : Int32)), (.int (own_one (5 : Int32) (0 : Int32) y1 x16))])
    refine own_callS XT70 hx hZ hown (hw _ (List.mem_of_getElem? (i := 2) rfl)) (hw _ (List.mem_of_getElem? (i := 3) rfl)) (hw _ (List.mem_of_getElem? (i := 4) rfl)) (hw _ (List.mem_of_getElem? (i := 5) rfl)) (by decide) eT70 (argsL := [(.int (5 : Int32)), (.int (1 : Int32)), (.double x3), (.double x16)]) (rest := [(.int (own_one (5 : Int32) (0 : Int32) y1 x16))]) (own_one_met l Z a0 hw (5 : Int32) (1 : Int32) x3 x16 hT69) 1 (by decide) (by decide) (by rw [hml]; rfl) (lenOf pd_0 rfl) (Nat.le_of_eq rfl) (hb hby at_202) (by decide) (by decide) (st := [(.double x16), (.double x3), (.int (1 : Int32)), (.int (5 : Int32)), (.int (own_one (5 : Int32) (0 : Int32) y1 x16))]) rfl ?_
    intro T71 LT71 vT71 XT71 hQT71
    obtain ⟨rfl, eT71, rfl⟩ := hQT71
    show own_Go p e below _ T71 (mkF m 205 #[oI i0, oI i1, oI i2, oI i3, oI (5 : Int32), oD y1, .second, oD x3, .second, oD x5, .second, oD x7, .second, oD x9, .second, oD x11, .second, oD x13, .second, oD x16, .second, oR h0.size, .unset, .unset] [(.int (own_one (5 : Int32) (1 : Int32) x3 x16)), (.int (own_one (5 : Int32) (0 : Int32) y1 x16))])
    refine own_by (fun t_ k_ => XS.iadd XT71.here hx rfl (hb hby at_205) rfl k_) ?_
    show own_Go p e below _ T71 (mkF m 206 #[oI i0, oI i1, oI i2, oI i3, oI (5 : Int32), oD y1, .second, oD x3, .second, oD x5, .second, oD x7, .second, oD x9, .second, oD x11, .second, oD x13, .second, oD x16, .second, oR h0.size, .unset, .unset] [(.int ((own_one (5 : Int32) (0 : Int32) y1 x16) + (own_one (5 : Int32) (1 : Int32) x3 x16)))])
    refine own_by (fun t_ k_ => XS.iload XT71.here hx rfl (hb hby at_206) rfl  k_) ?_
    show own_Go p e below _ T71 (mkF m 208 #[oI i0, oI i1, oI i2, oI i3, oI (5 : Int32), oD y1, .second, oD x3, .second, oD x5, .second, oD x7, .second, oD x9, .second, oD x11, .second, oD x13, .second, oD x16, .second, oR h0.size, .unset, .unset] [(.int (5 : Int32)), (.int ((own_one (5 : Int32) (0 : Int32) y1 x16) + (own_one (5 : Int32) (1 : Int32) x3 x16)))])
    refine own_by (fun t_ k_ => XT.iconstV XT71.here hx rfl (2 : Int32) (hb hby at_208) (by decide) k_) ?_
    show own_Go p e below _ T71 (mkF m 209 #[oI i0, oI i1, oI i2, oI i3, oI (5 : Int32), oD y1, .second, oD x3, .second, oD x5, .second, oD x7, .second, oD x9, .second, oD x11, .second, oD x13, .second, oD x16, .second, oR h0.size, .unset, .unset] [(.int (2 : Int32)), (.int (5 : Int32)), (.int ((own_one (5 : Int32) (0 : Int32) y1 x16) + (own_one (5 : Int32) (1 : Int32) x3 x16)))])
    refine own_by (fun t_ k_ => XS.dload XT71.here hx rfl (hb hby at_209) rfl  k_) ?_
    show own_Go p e below _ T71 (mkF m 211 #[oI i0, oI i1, oI i2, oI i3, oI (5 : Int32), oD y1, .second, oD x3, .second, oD x5, .second, oD x7, .second, oD x9, .second, oD x11, .second, oD x13, .second, oD x16, .second, oR h0.size, .unset, .unset] [(.double x5), (.int (2 : Int32)), (.int (5 : Int32)), (.int ((own_one (5 : Int32) (0 : Int32) y1 x16) + (own_one (5 : Int32) (1 : Int32) x3 x16)))])
    refine own_by (fun t_ k_ => XS.dload XT71.here hx rfl (hb hby at_211) rfl  k_) ?_
    show own_Go p e below _ T71 (mkF m 213 #[oI i0, oI i1, oI i2, oI i3, oI (5 : Int32), oD y1, .second, oD x3, .second, oD x5, .second, oD x7, .second, oD x9, .second, oD x11, .second, oD x13, .second, oD x16, .second, oR h0.size, .unset, .unset] [(.double x16), (.double x5), (.int (2 : Int32)), (.int (5 : Int32)), (.int ((own_one (5 : Int32) (0 : Int32) y1 x16) + (own_one (5 : Int32) (1 : Int32) x3 x16)))])
    refine own_callS XT71 hx hZ hown (hw _ (List.mem_of_getElem? (i := 2) rfl)) (hw _ (List.mem_of_getElem? (i := 3) rfl)) (hw _ (List.mem_of_getElem? (i := 4) rfl)) (hw _ (List.mem_of_getElem? (i := 5) rfl)) (by decide) eT71 (argsL := [(.int (5 : Int32)), (.int (2 : Int32)), (.double x5), (.double x16)]) (rest := [(.int ((own_one (5 : Int32) (0 : Int32) y1 x16) + (own_one (5 : Int32) (1 : Int32) x3 x16)))]) (own_one_met l Z a0 hw (5 : Int32) (2 : Int32) x5 x16 hT69) 1 (by decide) (by decide) (by rw [hml]; rfl) (lenOf pd_0 rfl) (Nat.le_of_eq rfl) (hb hby at_213) (by decide) (by decide) (st := [(.double x16), (.double x5), (.int (2 : Int32)), (.int (5 : Int32)), (.int ((own_one (5 : Int32) (0 : Int32) y1 x16) + (own_one (5 : Int32) (1 : Int32) x3 x16)))]) rfl ?_
    intro T72 LT72 vT72 XT72 hQT72
    obtain ⟨rfl, eT72, rfl⟩ := hQT72
    show own_Go p e below _ T72 (mkF m 216 #[oI i0, oI i1, oI i2, oI i3, oI (5 : Int32), oD y1, .second, oD x3, .second, oD x5, .second, oD x7, .second, oD x9, .second, oD x11, .second, oD x13, .second, oD x16, .second, oR h0.size, .unset, .unset] [(.int (own_one (5 : Int32) (2 : Int32) x5 x16)), (.int ((own_one (5 : Int32) (0 : Int32) y1 x16) + (own_one (5 : Int32) (1 : Int32) x3 x16)))])
    refine own_by (fun t_ k_ => XS.iadd XT72.here hx rfl (hb hby at_216) rfl k_) ?_
    show own_Go p e below _ T72 (mkF m 217 #[oI i0, oI i1, oI i2, oI i3, oI (5 : Int32), oD y1, .second, oD x3, .second, oD x5, .second, oD x7, .second, oD x9, .second, oD x11, .second, oD x13, .second, oD x16, .second, oR h0.size, .unset, .unset] [(.int (((own_one (5 : Int32) (0 : Int32) y1 x16) + (own_one (5 : Int32) (1 : Int32) x3 x16)) + (own_one (5 : Int32) (2 : Int32) x5 x16)))])
    refine own_by (fun t_ k_ => XS.iload XT72.here hx rfl (hb hby at_217) rfl  k_) ?_
    show own_Go p e below _ T72 (mkF m 219 #[oI i0, oI i1, oI i2, oI i3, oI (5 : Int32), oD y1, .second, oD x3, .second, oD x5, .second, oD x7, .second, oD x9, .second, oD x11, .second, oD x13, .second, oD x16, .second, oR h0.size, .unset, .unset] [(.int (5 : Int32)), (.int (((own_one (5 : Int32) (0 : Int32) y1 x16) + (own_one (5 : Int32) (1 : Int32) x3 x16)) + (own_one (5 : Int32) (2 : Int32) x5 x16)))])
    refine own_by (fun t_ k_ => XT.iconstV XT72.here hx rfl (3 : Int32) (hb hby at_219) (by decide) k_) ?_
    show own_Go p e below _ T72 (mkF m 220 #[oI i0, oI i1, oI i2, oI i3, oI (5 : Int32), oD y1, .second, oD x3, .second, oD x5, .second, oD x7, .second, oD x9, .second, oD x11, .second, oD x13, .second, oD x16, .second, oR h0.size, .unset, .unset] [(.int (3 : Int32)), (.int (5 : Int32)), (.int (((own_one (5 : Int32) (0 : Int32) y1 x16) + (own_one (5 : Int32) (1 : Int32) x3 x16)) + (own_one (5 : Int32) (2 : Int32) x5 x16)))])
    refine own_by (fun t_ k_ => XS.dload XT72.here hx rfl (hb hby at_220) rfl  k_) ?_
    show own_Go p e below _ T72 (mkF m 222 #[oI i0, oI i1, oI i2, oI i3, oI (5 : Int32), oD y1, .second, oD x3, .second, oD x5, .second, oD x7, .second, oD x9, .second, oD x11, .second, oD x13, .second, oD x16, .second, oR h0.size, .unset, .unset] [(.double x7), (.int (3 : Int32)), (.int (5 : Int32)), (.int (((own_one (5 : Int32) (0 : Int32) y1 x16) + (own_one (5 : Int32) (1 : Int32) x3 x16)) + (own_one (5 : Int32) (2 : Int32) x5 x16)))])
    refine own_by (fun t_ k_ => XS.dload XT72.here hx rfl (hb hby at_222) rfl  k_) ?_
    show own_Go p e below _ T72 (mkF m 224 #[oI i0, oI i1, oI i2, oI i3, oI (5 : Int32), oD y1, .second, oD x3, .second, oD x5, .second, oD x7, .second, oD x9, .second, oD x11, .second, oD x13, .second, oD x16, .second, oR h0.size, .unset, .unset] [(.double x16), (.double x7), (.int (3 : Int32)), (.int (5 : Int32)), (.int (((own_one (5 : Int32) (0 : Int32) y1 x16) + (own_one (5 : Int32) (1 : Int32) x3 x16)) + (own_one (5 : Int32) (2 : Int32) x5 x16)))])
    refine own_callS XT72 hx hZ hown (hw _ (List.mem_of_getElem? (i := 2) rfl)) (hw _ (List.mem_of_getElem? (i := 3) rfl)) (hw _ (List.mem_of_getElem? (i := 4) rfl)) (hw _ (List.mem_of_getElem? (i := 5) rfl)) (by decide) eT72 (argsL := [(.int (5 : Int32)), (.int (3 : Int32)), (.double x7), (.double x16)]) (rest := [(.int (((own_one (5 : Int32) (0 : Int32) y1 x16) + (own_one (5 : Int32) (1 : Int32) x3 x16)) + (own_one (5 : Int32) (2 : Int32) x5 x16)))]) (own_one_met l Z a0 hw (5 : Int32) (3 : Int32) x7 x16 hT69) 1 (by decide) (by decide) (by rw [hml]; rfl) (lenOf pd_0 rfl) (Nat.le_of_eq rfl) (hb hby at_224) (by decide) (by decide) (st := [(.double x16), (.double x7), (.int (3 : Int32)), (.int (5 : Int32)), (.int (((own_one (5 : Int32) (0 : Int32) y1 x16) + (own_one (5 : Int32) (1 : Int32) x3 x16)) + (own_one (5 : Int32) (2 : Int32) x5 x16)))]) rfl ?_
    intro T73 LT73 vT73 XT73 hQT73
    obtain ⟨rfl, eT73, rfl⟩ := hQT73
    show own_Go p e below _ T73 (mkF m 227 #[oI i0, oI i1, oI i2, oI i3, oI (5 : Int32), oD y1, .second, oD x3, .second, oD x5, .second, oD x7, .second, oD x9, .second, oD x11, .second, oD x13, .second, oD x16, .second, oR h0.size, .unset, .unset] [(.int (own_one (5 : Int32) (3 : Int32) x7 x16)), (.int (((own_one (5 : Int32) (0 : Int32) y1 x16) + (own_one (5 : Int32) (1 : Int32) x3 x16)) + (own_one (5 : Int32) (2 : Int32) x5 x16)))])
    refine own_by (fun t_ k_ => XS.iadd XT73.here hx rfl (hb hby at_227) rfl k_) ?_
    show own_Go p e below _ T73 (mkF m 228 #[oI i0, oI i1, oI i2, oI i3, oI (5 : Int32), oD y1, .second, oD x3, .second, oD x5, .second, oD x7, .second, oD x9, .second, oD x11, .second, oD x13, .second, oD x16, .second, oR h0.size, .unset, .unset] [(.int ((((own_one (5 : Int32) (0 : Int32) y1 x16) + (own_one (5 : Int32) (1 : Int32) x3 x16)) + (own_one (5 : Int32) (2 : Int32) x5 x16)) + (own_one (5 : Int32) (3 : Int32) x7 x16)))])
    refine own_by (fun t_ k_ => XS.iload XT73.here hx rfl (hb hby at_228) rfl  k_) ?_
    show own_Go p e below _ T73 (mkF m 230 #[oI i0, oI i1, oI i2, oI i3, oI (5 : Int32), oD y1, .second, oD x3, .second, oD x5, .second, oD x7, .second, oD x9, .second, oD x11, .second, oD x13, .second, oD x16, .second, oR h0.size, .unset, .unset] [(.int (5 : Int32)), (.int ((((own_one (5 : Int32) (0 : Int32) y1 x16) + (own_one (5 : Int32) (1 : Int32) x3 x16)) + (own_one (5 : Int32) (2 : Int32) x5 x16)) + (own_one (5 : Int32) (3 : Int32) x7 x16)))])
    refine own_by (fun t_ k_ => XT.iconstV XT73.here hx rfl (4 : Int32) (hb hby at_230) (by decide) k_) ?_
    show own_Go p e below _ T73 (mkF m 231 #[oI i0, oI i1, oI i2, oI i3, oI (5 : Int32), oD y1, .second, oD x3, .second, oD x5, .second, oD x7, .second, oD x9, .second, oD x11, .second, oD x13, .second, oD x16, .second, oR h0.size, .unset, .unset] [(.int (4 : Int32)), (.int (5 : Int32)), (.int ((((own_one (5 : Int32) (0 : Int32) y1 x16) + (own_one (5 : Int32) (1 : Int32) x3 x16)) + (own_one (5 : Int32) (2 : Int32) x5 x16)) + (own_one (5 : Int32) (3 : Int32) x7 x16)))])
    refine own_by (fun t_ k_ => XS.dload XT73.here hx rfl (hb hby at_231) rfl  k_) ?_
    show own_Go p e below _ T73 (mkF m 233 #[oI i0, oI i1, oI i2, oI i3, oI (5 : Int32), oD y1, .second, oD x3, .second, oD x5, .second, oD x7, .second, oD x9, .second, oD x11, .second, oD x13, .second, oD x16, .second, oR h0.size, .unset, .unset] [(.double x9), (.int (4 : Int32)), (.int (5 : Int32)), (.int ((((own_one (5 : Int32) (0 : Int32) y1 x16) + (own_one (5 : Int32) (1 : Int32) x3 x16)) + (own_one (5 : Int32) (2 : Int32) x5 x16)) + (own_one (5 : Int32) (3 : Int32) x7 x16)))])
    refine own_by (fun t_ k_ => XS.dload XT73.here hx rfl (hb hby at_233) rfl  k_) ?_
    show own_Go p e below _ T73 (mkF m 235 #[oI i0, oI i1, oI i2, oI i3, oI (5 : Int32), oD y1, .second, oD x3, .second, oD x5, .second, oD x7, .second, oD x9, .second, oD x11, .second, oD x13, .second, oD x16, .second, oR h0.size, .unset, .unset] [(.double x16), (.double x9), (.int (4 : Int32)), (.int (5 : Int32)), (.int ((((own_one (5 : Int32) (0 : Int32) y1 x16) + (own_one (5 : Int32) (1 : Int32) x3 x16)) + (own_one (5 : Int32) (2 : Int32) x5 x16)) + (own_one (5 : Int32) (3 : Int32) x7 x16)))])
    refine own_callS XT73 hx hZ hown (hw _ (List.mem_of_getElem? (i := 2) rfl)) (hw _ (List.mem_of_getElem? (i := 3) rfl)) (hw _ (List.mem_of_getElem? (i := 4) rfl)) (hw _ (List.mem_of_getElem? (i := 5) rfl)) (by decide) eT73 (argsL := [(.int (5 : Int32)), (.int (4 : Int32)), (.double x9), (.double x16)]) (rest := [(.int ((((own_one (5 : Int32) (0 : Int32) y1 x16) + (own_one (5 : Int32) (1 : Int32) x3 x16)) + (own_one (5 : Int32) (2 : Int32) x5 x16)) + (own_one (5 : Int32) (3 : Int32) x7 x16)))]) (own_one_met l Z a0 hw (5 : Int32) (4 : Int32) x9 x16 hT69) 1 (by decide) (by decide) (by rw [hml]; rfl) (lenOf pd_0 rfl) (Nat.le_of_eq rfl) (hb hby at_235) (by decide) (by decide) (st := [(.double x16), (.double x9), (.int (4 : Int32)), (.int (5 : Int32)), (.int ((((own_one (5 : Int32) (0 : Int32) y1 x16) + (own_one (5 : Int32) (1 : Int32) x3 x16)) + (own_one (5 : Int32) (2 : Int32) x5 x16)) + (own_one (5 : Int32) (3 : Int32) x7 x16)))]) rfl ?_
    intro T74 LT74 vT74 XT74 hQT74
    obtain ⟨rfl, eT74, rfl⟩ := hQT74
    show own_Go p e below _ T74 (mkF m 238 #[oI i0, oI i1, oI i2, oI i3, oI (5 : Int32), oD y1, .second, oD x3, .second, oD x5, .second, oD x7, .second, oD x9, .second, oD x11, .second, oD x13, .second, oD x16, .second, oR h0.size, .unset, .unset] [(.int (own_one (5 : Int32) (4 : Int32) x9 x16)), (.int ((((own_one (5 : Int32) (0 : Int32) y1 x16) + (own_one (5 : Int32) (1 : Int32) x3 x16)) + (own_one (5 : Int32) (2 : Int32) x5 x16)) + (own_one (5 : Int32) (3 : Int32) x7 x16)))])
    refine own_by (fun t_ k_ => XS.iadd XT74.here hx rfl (hb hby at_238) rfl k_) ?_
    show own_Go p e below _ T74 (mkF m 239 #[oI i0, oI i1, oI i2, oI i3, oI (5 : Int32), oD y1, .second, oD x3, .second, oD x5, .second, oD x7, .second, oD x9, .second, oD x11, .second, oD x13, .second, oD x16, .second, oR h0.size, .unset, .unset] [(.int (((((own_one (5 : Int32) (0 : Int32) y1 x16) + (own_one (5 : Int32) (1 : Int32) x3 x16)) + (own_one (5 : Int32) (2 : Int32) x5 x16)) + (own_one (5 : Int32) (3 : Int32) x7 x16)) + (own_one (5 : Int32) (4 : Int32) x9 x16)))])
    refine own_by (fun t_ k_ => XS.iload XT74.here hx rfl (hb hby at_239) rfl  k_) ?_
    show own_Go p e below _ T74 (mkF m 241 #[oI i0, oI i1, oI i2, oI i3, oI (5 : Int32), oD y1, .second, oD x3, .second, oD x5, .second, oD x7, .second, oD x9, .second, oD x11, .second, oD x13, .second, oD x16, .second, oR h0.size, .unset, .unset] [(.int (5 : Int32)), (.int (((((own_one (5 : Int32) (0 : Int32) y1 x16) + (own_one (5 : Int32) (1 : Int32) x3 x16)) + (own_one (5 : Int32) (2 : Int32) x5 x16)) + (own_one (5 : Int32) (3 : Int32) x7 x16)) + (own_one (5 : Int32) (4 : Int32) x9 x16)))])
    refine own_by (fun t_ k_ => XT.iconstV XT74.here hx rfl (5 : Int32) (hb hby at_241) (by decide) k_) ?_
    show own_Go p e below _ T74 (mkF m 242 #[oI i0, oI i1, oI i2, oI i3, oI (5 : Int32), oD y1, .second, oD x3, .second, oD x5, .second, oD x7, .second, oD x9, .second, oD x11, .second, oD x13, .second, oD x16, .second, oR h0.size, .unset, .unset] [(.int (5 : Int32)), (.int (5 : Int32)), (.int (((((own_one (5 : Int32) (0 : Int32) y1 x16) + (own_one (5 : Int32) (1 : Int32) x3 x16)) + (own_one (5 : Int32) (2 : Int32) x5 x16)) + (own_one (5 : Int32) (3 : Int32) x7 x16)) + (own_one (5 : Int32) (4 : Int32) x9 x16)))])
    refine own_by (fun t_ k_ => XS.dload XT74.here hx rfl (hb hby at_242) rfl  k_) ?_
    show own_Go p e below _ T74 (mkF m 244 #[oI i0, oI i1, oI i2, oI i3, oI (5 : Int32), oD y1, .second, oD x3, .second, oD x5, .second, oD x7, .second, oD x9, .second, oD x11, .second, oD x13, .second, oD x16, .second, oR h0.size, .unset, .unset] [(.double x11), (.int (5 : Int32)), (.int (5 : Int32)), (.int (((((own_one (5 : Int32) (0 : Int32) y1 x16) + (own_one (5 : Int32) (1 : Int32) x3 x16)) + (own_one (5 : Int32) (2 : Int32) x5 x16)) + (own_one (5 : Int32) (3 : Int32) x7 x16)) + (own_one (5 : Int32) (4 : Int32) x9 x16)))])
    refine own_by (fun t_ k_ => XS.dload XT74.here hx rfl (hb hby at_244) rfl  k_) ?_
    show own_Go p e below _ T74 (mkF m 246 #[oI i0, oI i1, oI i2, oI i3, oI (5 : Int32), oD y1, .second, oD x3, .second, oD x5, .second, oD x7, .second, oD x9, .second, oD x11, .second, oD x13, .second, oD x16, .second, oR h0.size, .unset, .unset] [(.double x16), (.double x11), (.int (5 : Int32)), (.int (5 : Int32)), (.int (((((own_one (5 : Int32) (0 : Int32) y1 x16) + (own_one (5 : Int32) (1 : Int32) x3 x16)) + (own_one (5 : Int32) (2 : Int32) x5 x16)) + (own_one (5 : Int32) (3 : Int32) x7 x16)) + (own_one (5 : Int32) (4 : Int32) x9 x16)))])
    refine own_callS XT74 hx hZ hown (hw _ (List.mem_of_getElem? (i := 2) rfl)) (hw _ (List.mem_of_getElem? (i := 3) rfl)) (hw _ (List.mem_of_getElem? (i := 4) rfl)) (hw _ (List.mem_of_getElem? (i := 5) rfl)) (by decide) eT74 (argsL := [(.int (5 : Int32)), (.int (5 : Int32)), (.double x11), (.double x16)]) (rest := [(.int (((((own_one (5 : Int32) (0 : Int32) y1 x16) + (own_one (5 : Int32) (1 : Int32) x3 x16)) + (own_one (5 : Int32) (2 : Int32) x5 x16)) + (own_one (5 : Int32) (3 : Int32) x7 x16)) + (own_one (5 : Int32) (4 : Int32) x9 x16)))]) (own_one_met l Z a0 hw (5 : Int32) (5 : Int32) x11 x16 hT69) 1 (by decide) (by decide) (by rw [hml]; rfl) (lenOf pd_0 rfl) (Nat.le_of_eq rfl) (hb hby at_246) (by decide) (by decide) (st := [(.double x16), (.double x11), (.int (5 : Int32)), (.int (5 : Int32)), (.int (((((own_one (5 : Int32) (0 : Int32) y1 x16) + (own_one (5 : Int32) (1 : Int32) x3 x16)) + (own_one (5 : Int32) (2 : Int32) x5 x16)) + (own_one (5 : Int32) (3 : Int32) x7 x16)) + (own_one (5 : Int32) (4 : Int32) x9 x16)))]) rfl ?_
    intro T75 LT75 vT75 XT75 hQT75
    obtain ⟨rfl, eT75, rfl⟩ := hQT75
    show own_Go p e below _ T75 (mkF m 249 #[oI i0, oI i1, oI i2, oI i3, oI (5 : Int32), oD y1, .second, oD x3, .second, oD x5, .second, oD x7, .second, oD x9, .second, oD x11, .second, oD x13, .second, oD x16, .second, oR h0.size, .unset, .unset] [(.int (own_one (5 : Int32) (5 : Int32) x11 x16)), (.int (((((own_one (5 : Int32) (0 : Int32) y1 x16) + (own_one (5 : Int32) (1 : Int32) x3 x16)) + (own_one (5 : Int32) (2 : Int32) x5 x16)) + (own_one (5 : Int32) (3 : Int32) x7 x16)) + (own_one (5 : Int32) (4 : Int32) x9 x16)))])
    refine own_by (fun t_ k_ => XS.iadd XT75.here hx rfl (hb hby at_249) rfl k_) ?_
    show own_Go p e below _ T75 (mkF m 250 #[oI i0, oI i1, oI i2, oI i3, oI (5 : Int32), oD y1, .second, oD x3, .second, oD x5, .second, oD x7, .second, oD x9, .second, oD x11, .second, oD x13, .second, oD x16, .second, oR h0.size, .unset, .unset] [(.int ((((((own_one (5 : Int32) (0 : Int32) y1 x16) + (own_one (5 : Int32) (1 : Int32) x3 x16)) + (own_one (5 : Int32) (2 : Int32) x5 x16)) + (own_one (5 : Int32) (3 : Int32) x7 x16)) + (own_one (5 : Int32) (4 : Int32) x9 x16)) + (own_one (5 : Int32) (5 : Int32) x11 x16)))])
    refine own_by (fun t_ k_ => XS.iload XT75.here hx rfl (hb hby at_250) rfl  k_) ?_
    show own_Go p e below _ T75 (mkF m 252 #[oI i0, oI i1, oI i2, oI i3, oI (5 : Int32), oD y1, .second, oD x3, .second, oD x5, .second, oD x7, .second, oD x9, .second, oD x11, .second, oD x13, .second, oD x16, .second, oR h0.size, .unset, .unset] [(.int (5 : Int32)), (.int ((((((own_one (5 : Int32) (0 : Int32) y1 x16) + (own_one (5 : Int32) (1 : Int32) x3 x16)) + (own_one (5 : Int32) (2 : Int32) x5 x16)) + (own_one (5 : Int32) (3 : Int32) x7 x16)) + (own_one (5 : Int32) (4 : Int32) x9 x16)) + (own_one (5 : Int32) (5 : Int32) x11 x16)))])
    refine own_by (fun t_ k_ => XT.bipushV XT75.here hx rfl (6 : Int32) (hb hby at_252) (by decide) k_) ?_
    show own_Go p e below _ T75 (mkF m 254 #[oI i0, oI i1, oI i2, oI i3, oI (5 : Int32), oD y1, .second, oD x3, .second, oD x5, .second, oD x7, .second, oD x9, .second, oD x11, .second, oD x13, .second, oD x16, .second, oR h0.size, .unset, .unset] [(.int (6 : Int32)), (.int (5 : Int32)), (.int ((((((own_one (5 : Int32) (0 : Int32) y1 x16) + (own_one (5 : Int32) (1 : Int32) x3 x16)) + (own_one (5 : Int32) (2 : Int32) x5 x16)) + (own_one (5 : Int32) (3 : Int32) x7 x16)) + (own_one (5 : Int32) (4 : Int32) x9 x16)) + (own_one (5 : Int32) (5 : Int32) x11 x16)))])
    refine own_by (fun t_ k_ => XS.dload XT75.here hx rfl (hb hby at_254) rfl  k_) ?_
    show own_Go p e below _ T75 (mkF m 256 #[oI i0, oI i1, oI i2, oI i3, oI (5 : Int32), oD y1, .second, oD x3, .second, oD x5, .second, oD x7, .second, oD x9, .second, oD x11, .second, oD x13, .second, oD x16, .second, oR h0.size, .unset, .unset] [(.double x13), (.int (6 : Int32)), (.int (5 : Int32)), (.int ((((((own_one (5 : Int32) (0 : Int32) y1 x16) + (own_one (5 : Int32) (1 : Int32) x3 x16)) + (own_one (5 : Int32) (2 : Int32) x5 x16)) + (own_one (5 : Int32) (3 : Int32) x7 x16)) + (own_one (5 : Int32) (4 : Int32) x9 x16)) + (own_one (5 : Int32) (5 : Int32) x11 x16)))])
    refine own_by (fun t_ k_ => XS.dload XT75.here hx rfl (hb hby at_256) rfl  k_) ?_
    show own_Go p e below _ T75 (mkF m 258 #[oI i0, oI i1, oI i2, oI i3, oI (5 : Int32), oD y1, .second, oD x3, .second, oD x5, .second, oD x7, .second, oD x9, .second, oD x11, .second, oD x13, .second, oD x16, .second, oR h0.size, .unset, .unset] [(.double x16), (.double x13), (.int (6 : Int32)), (.int (5 : Int32)), (.int ((((((own_one (5 : Int32) (0 : Int32) y1 x16) + (own_one (5 : Int32) (1 : Int32) x3 x16)) + (own_one (5 : Int32) (2 : Int32) x5 x16)) + (own_one (5 : Int32) (3 : Int32) x7 x16)) + (own_one (5 : Int32) (4 : Int32) x9 x16)) + (own_one (5 : Int32) (5 : Int32) x11 x16)))])
    refine own_callS XT75 hx hZ hown (hw _ (List.mem_of_getElem? (i := 2) rfl)) (hw _ (List.mem_of_getElem? (i := 3) rfl)) (hw _ (List.mem_of_getElem? (i := 4) rfl)) (hw _ (List.mem_of_getElem? (i := 5) rfl)) (by decide) eT75 (argsL := [(.int (5 : Int32)), (.int (6 : Int32)), (.double x13), (.double x16)]) (rest := [(.int ((((((own_one (5 : Int32) (0 : Int32) y1 x16) + (own_one (5 : Int32) (1 : Int32) x3 x16)) + (own_one (5 : Int32) (2 : Int32) x5 x16)) + (own_one (5 : Int32) (3 : Int32) x7 x16)) + (own_one (5 : Int32) (4 : Int32) x9 x16)) + (own_one (5 : Int32) (5 : Int32) x11 x16)))]) (own_one_met l Z a0 hw (5 : Int32) (6 : Int32) x13 x16 hT69) 1 (by decide) (by decide) (by rw [hml]; rfl) (lenOf pd_0 rfl) (Nat.le_of_eq rfl) (hb hby at_258) (by decide) (by decide) (st := [(.double x16), (.double x13), (.int (6 : Int32)), (.int (5 : Int32)), (.int ((((((own_one (5 : Int32) (0 : Int32) y1 x16) + (own_one (5 : Int32) (1 : Int32) x3 x16)) + (own_one (5 : Int32) (2 : Int32) x5 x16)) + (own_one (5 : Int32) (3 : Int32) x7 x16)) + (own_one (5 : Int32) (4 : Int32) x9 x16)) + (own_one (5 : Int32) (5 : Int32) x11 x16)))]) rfl ?_
    intro T76 LT76 vT76 XT76 hQT76
    obtain ⟨rfl, eT76, rfl⟩ := hQT76
    show own_Go p e below _ T76 (mkF m 261 #[oI i0, oI i1, oI i2, oI i3, oI (5 : Int32), oD y1, .second, oD x3, .second, oD x5, .second, oD x7, .second, oD x9, .second, oD x11, .second, oD x13, .second, oD x16, .second, oR h0.size, .unset, .unset] [(.int (own_one (5 : Int32) (6 : Int32) x13 x16)), (.int ((((((own_one (5 : Int32) (0 : Int32) y1 x16) + (own_one (5 : Int32) (1 : Int32) x3 x16)) + (own_one (5 : Int32) (2 : Int32) x5 x16)) + (own_one (5 : Int32) (3 : Int32) x7 x16)) + (own_one (5 : Int32) (4 : Int32) x9 x16)) + (own_one (5 : Int32) (5 : Int32) x11 x16)))])
    refine own_by (fun t_ k_ => XS.iadd XT76.here hx rfl (hb hby at_261) rfl k_) ?_
    show own_Go p e below _ T76 (mkF m 262 #[oI i0, oI i1, oI i2, oI i3, oI (5 : Int32), oD y1, .second, oD x3, .second, oD x5, .second, oD x7, .second, oD x9, .second, oD x11, .second, oD x13, .second, oD x16, .second, oR h0.size, .unset, .unset] [(.int (((((((own_one (5 : Int32) (0 : Int32) y1 x16) + (own_one (5 : Int32) (1 : Int32) x3 x16)) + (own_one (5 : Int32) (2 : Int32) x5 x16)) + (own_one (5 : Int32) (3 : Int32) x7 x16)) + (own_one (5 : Int32) (4 : Int32) x9 x16)) + (own_one (5 : Int32) (5 : Int32) x11 x16)) + (own_one (5 : Int32) (6 : Int32) x13 x16)))])
    refine own_by (fun t_ k_ => XS.istore XT76.here hx rfl (hb hby at_262) rfl (l' := #[oI i0, oI i1, oI i2, oI i3, oI (5 : Int32), oD y1, .second, oD x3, .second, oD x5, .second, oD x7, .second, oD x9, .second, oD x11, .second, oD x13, .second, oD x16, .second, oR h0.size, oI (((((((own_one (5 : Int32) (0 : Int32) y1 x16) + (own_one (5 : Int32) (1 : Int32) x3 x16)) + (own_one (5 : Int32) (2 : Int32) x5 x16)) + (own_one (5 : Int32) (3 : Int32) x7 x16)) + (own_one (5 : Int32) (4 : Int32) x9 x16)) + (own_one (5 : Int32) (5 : Int32) x11 x16)) + (own_one (5 : Int32) (6 : Int32) x13 x16)), .unset]) rfl k_) ?_
    show own_Go p e below _ T76 (mkF m 264 #[oI i0, oI i1, oI i2, oI i3, oI (5 : Int32), oD y1, .second, oD x3, .second, oD x5, .second, oD x7, .second, oD x9, .second, oD x11, .second, oD x13, .second, oD x16, .second, oR h0.size, oI (((((((own_one (5 : Int32) (0 : Int32) y1 x16) + (own_one (5 : Int32) (1 : Int32) x3 x16)) + (own_one (5 : Int32) (2 : Int32) x5 x16)) + (own_one (5 : Int32) (3 : Int32) x7 x16)) + (own_one (5 : Int32) (4 : Int32) x9 x16)) + (own_one (5 : Int32) (5 : Int32) x11 x16)) + (own_one (5 : Int32) (6 : Int32) x13 x16)), .unset] [])
    refine own_by (fun t_ k_ => XS.aload XT76.here hx rfl (hb hby at_264) rfl rfl  k_) ?_
    show own_Go p e below _ T76 (mkF m 266 #[oI i0, oI i1, oI i2, oI i3, oI (5 : Int32), oD y1, .second, oD x3, .second, oD x5, .second, oD x7, .second, oD x9, .second, oD x11, .second, oD x13, .second, oD x16, .second, oR h0.size, oI (((((((own_one (5 : Int32) (0 : Int32) y1 x16) + (own_one (5 : Int32) (1 : Int32) x3 x16)) + (own_one (5 : Int32) (2 : Int32) x5 x16)) + (own_one (5 : Int32) (3 : Int32) x7 x16)) + (own_one (5 : Int32) (4 : Int32) x9 x16)) + (own_one (5 : Int32) (5 : Int32) x11 x16)) + (own_one (5 : Int32) (6 : Int32) x13 x16)), .unset] [(.ref h0.size)])
    refine own_by (fun t_ k_ => XS.dload XT76.here hx rfl (hb hby at_266) rfl  k_) ?_
    show own_Go p e below _ T76 (mkF m 268 #[oI i0, oI i1, oI i2, oI i3, oI (5 : Int32), oD y1, .second, oD x3, .second, oD x5, .second, oD x7, .second, oD x9, .second, oD x11, .second, oD x13, .second, oD x16, .second, oR h0.size, oI (((((((own_one (5 : Int32) (0 : Int32) y1 x16) + (own_one (5 : Int32) (1 : Int32) x3 x16)) + (own_one (5 : Int32) (2 : Int32) x5 x16)) + (own_one (5 : Int32) (3 : Int32) x7 x16)) + (own_one (5 : Int32) (4 : Int32) x9 x16)) + (own_one (5 : Int32) (5 : Int32) x11 x16)) + (own_one (5 : Int32) (6 : Int32) x13 x16)), .unset] [(.double x16), (.ref h0.size)])
    refine own_callS XT76 hx hZ hown (hw _ (List.mem_of_getElem? (i := 6) rfl)) (hw _ (List.mem_of_getElem? (i := 7) rfl)) (hw _ (List.mem_of_getElem? (i := 8) rfl)) (hw _ (List.mem_of_getElem? (i := 9) rfl)) (by decide) eT76 (argsL := [(.ref h0.size), (.double x16)]) (rest := []) (own_cb5_met l Z a0 hw h0.size x16 kA y1 x3 x5 x7 x9 hT69 VT69) 0 (by decide) (by decide) (by rw [hml]; rfl) (lenOf pd_1 rfl) (Nat.le_of_eq rfl) (hb hby at_268) (by decide) (by decide) (st := [(.double x16), (.ref h0.size)]) rfl ?_
    intro T77 LT77 vT77 XT77 hQT77
    obtain ⟨rfl, eT77, rfl⟩ := hQT77
    show own_Go p e below _ T77 (mkF m 271 #[oI i0, oI i1, oI i2, oI i3, oI (5 : Int32), oD y1, .second, oD x3, .second, oD x5, .second, oD x7, .second, oD x9, .second, oD x11, .second, oD x13, .second, oD x16, .second, oR h0.size, oI (((((((own_one (5 : Int32) (0 : Int32) y1 x16) + (own_one (5 : Int32) (1 : Int32) x3 x16)) + (own_one (5 : Int32) (2 : Int32) x5 x16)) + (own_one (5 : Int32) (3 : Int32) x7 x16)) + (own_one (5 : Int32) (4 : Int32) x9 x16)) + (own_one (5 : Int32) (5 : Int32) x11 x16)) + (own_one (5 : Int32) (6 : Int32) x13 x16)), .unset] [(.int (own_cb5 h0.size x16 kA y1 x3 x5 x7 x9))])
    refine own_by (fun t_ k_ => XS.istore XT77.here hx rfl (hb hby at_271) rfl (l' := #[oI i0, oI i1, oI i2, oI i3, oI (5 : Int32), oD y1, .second, oD x3, .second, oD x5, .second, oD x7, .second, oD x9, .second, oD x11, .second, oD x13, .second, oD x16, .second, oR h0.size, oI (((((((own_one (5 : Int32) (0 : Int32) y1 x16) + (own_one (5 : Int32) (1 : Int32) x3 x16)) + (own_one (5 : Int32) (2 : Int32) x5 x16)) + (own_one (5 : Int32) (3 : Int32) x7 x16)) + (own_one (5 : Int32) (4 : Int32) x9 x16)) + (own_one (5 : Int32) (5 : Int32) x11 x16)) + (own_one (5 : Int32) (6 : Int32) x13 x16)), oI (own_cb5 h0.size x16 kA y1 x3 x5 x7 x9)]) rfl k_) ?_
    show own_Go p e below _ T77 (mkF m 273 #[oI i0, oI i1, oI i2, oI i3, oI (5 : Int32), oD y1, .second, oD x3, .second, oD x5, .second, oD x7, .second, oD x9, .second, oD x11, .second, oD x13, .second, oD x16, .second, oR h0.size, oI (((((((own_one (5 : Int32) (0 : Int32) y1 x16) + (own_one (5 : Int32) (1 : Int32) x3 x16)) + (own_one (5 : Int32) (2 : Int32) x5 x16)) + (own_one (5 : Int32) (3 : Int32) x7 x16)) + (own_one (5 : Int32) (4 : Int32) x9 x16)) + (own_one (5 : Int32) (5 : Int32) x11 x16)) + (own_one (5 : Int32) (6 : Int32) x13 x16)), oI (own_cb5 h0.size x16 kA y1 x3 x5 x7 x9)] [])
    refine own_by (fun t_ k_ => XS.iload XT77.here hx rfl (hb hby at_273) rfl  k_) ?_
    show own_Go p e below _ T77 (mkF m 275 #[oI i0, oI i1, oI i2, oI i3, oI (5 : Int32), oD y1, .second, oD x3, .second, oD x5, .second, oD x7, .second, oD x9, .second, oD x11, .second, oD x13, .second, oD x16, .second, oR h0.size, oI (((((((own_one (5 : Int32) (0 : Int32) y1 x16) + (own_one (5 : Int32) (1 : Int32) x3 x16)) + (own_one (5 : Int32) (2 : Int32) x5 x16)) + (own_one (5 : Int32) (3 : Int32) x7 x16)) + (own_one (5 : Int32) (4 : Int32) x9 x16)) + (own_one (5 : Int32) (5 : Int32) x11 x16)) + (own_one (5 : Int32) (6 : Int32) x13 x16)), oI (own_cb5 h0.size x16 kA y1 x3 x5 x7 x9)] [(.int (own_cb5 h0.size x16 kA y1 x3 x5 x7 x9))])
    refine own_by (fun t_ k_ => XS.iload XT77.here hx rfl (hb hby at_275) rfl  k_) ?_
    show own_Go p e below _ T77 (mkF m 277 #[oI i0, oI i1, oI i2, oI i3, oI (5 : Int32), oD y1, .second, oD x3, .second, oD x5, .second, oD x7, .second, oD x9, .second, oD x11, .second, oD x13, .second, oD x16, .second, oR h0.size, oI (((((((own_one (5 : Int32) (0 : Int32) y1 x16) + (own_one (5 : Int32) (1 : Int32) x3 x16)) + (own_one (5 : Int32) (2 : Int32) x5 x16)) + (own_one (5 : Int32) (3 : Int32) x7 x16)) + (own_one (5 : Int32) (4 : Int32) x9 x16)) + (own_one (5 : Int32) (5 : Int32) x11 x16)) + (own_one (5 : Int32) (6 : Int32) x13 x16)), oI (own_cb5 h0.size x16 kA y1 x3 x5 x7 x9)] [(.int (((((((own_one (5 : Int32) (0 : Int32) y1 x16) + (own_one (5 : Int32) (1 : Int32) x3 x16)) + (own_one (5 : Int32) (2 : Int32) x5 x16)) + (own_one (5 : Int32) (3 : Int32) x7 x16)) + (own_one (5 : Int32) (4 : Int32) x9 x16)) + (own_one (5 : Int32) (5 : Int32) x11 x16)) + (own_one (5 : Int32) (6 : Int32) x13 x16))), (.int (own_cb5 h0.size x16 kA y1 x3 x5 x7 x9))])
    have C0 := own_D_cmp (own_D_up Dy1 1) D8
    have C1 := own_D_cmp (own_D_up D1 1) D8
    have C2 := own_D_cmp (own_D_up D2 1) D8
    have C3 := own_D_cmp (own_D_up D3 1) D8
    have C4 := own_D_cmp (own_D_up D4 1) D8
    simp only [show ((2 ^ 1 : Nat) : Int) = 2 from rfl] at C0 C1 C2 C3 C4
    have hfin : (own_cb5 h0.size x16 kA y1 x3 x5 x7 x9) = (((((((own_one (5 : Int32) (0 : Int32) y1 x16) + (own_one (5 : Int32) (1 : Int32) x3 x16)) + (own_one (5 : Int32) (2 : Int32) x5 x16)) + (own_one (5 : Int32) (3 : Int32) x7 x16)) + (own_one (5 : Int32) (4 : Int32) x9 x16)) + (own_one (5 : Int32) (5 : Int32) x11 x16)) + (own_one (5 : Int32) (6 : Int32) x13 x16)) := by
      by_cases q0 : (0 : Int32) < (cmpValue (FP.dcmp y1 x16) .g)
      · have c0 : (0 : Int32) < (cmpValue (FP.dcmp y1 x16) .g) := q0
        have c1 : (0 : Int32) < (cmpValue (FP.dcmp x3 x16) .g) := own_cmp_gt C1 (Decidable.byContradiction fun z => (own_cmp_ngt C0 (by omega)) q0)
        have c2 : (0 : Int32) < (cmpValue (FP.dcmp x5 x16) .g) := own_cmp_gt C2 (Decidable.byContradiction fun z => (own_cmp_ngt C0 (by omega)) q0)
        have c3 : (0 : Int32) < (cmpValue (FP.dcmp x7 x16) .g) := own_cmp_gt C3 (Decidable.byContradiction fun z => (own_cmp_ngt C0 (by omega)) q0)
        have c4 : (0 : Int32) < (cmpValue (FP.dcmp x9 x16) .g) := own_cmp_gt C4 (Decidable.byContradiction fun z => (own_cmp_ngt C0 (by omega)) q0)
        rw [show own_cb5 h0.size x16 kA y1 x3 x5 x7 x9 = (0 : Int32) by rw [own_cb5, if_pos c2, if_pos c1, if_pos c0], show own_one (5 : Int32) (0 : Int32) y1 x16 = (0 : Int32) by rw [own_one, if_pos (by decide), if_pos c0], show own_one (5 : Int32) (1 : Int32) x3 x16 = (0 : Int32) by rw [own_one, if_pos (by decide), if_pos c1], show own_one (5 : Int32) (2 : Int32) x5 x16 = (0 : Int32) by rw [own_one, if_pos (by decide), if_pos c2], show own_one (5 : Int32) (3 : Int32) x7 x16 = (0 : Int32) by rw [own_one, if_pos (by decide), if_pos c3], show own_one (5 : Int32) (4 : Int32) x9 x16 = (0 : Int32) by rw [own_one, if_pos (by decide), if_pos c4], show own_one (5 : Int32) (5 : Int32) x11 x16 = (0 : Int32) by rw [own_one, if_neg (by decide)], show own_one (5 : Int32) (6 : Int32) x13 x16 = (0 : Int32) by rw [own_one, if_neg (by decide)]]
        decide
      · by_cases q1 : (0 : Int32) < (cmpValue (FP.dcmp x3 x16) .g)
        · have c0 : ¬ (0 : Int32) < (cmpValue (FP.dcmp y1 x16) .g) := q0
          have c1 : (0 : Int32) < (cmpValue (FP.dcmp x3 x16) .g) := q1
          have c2 : (0 : Int32) < (cmpValue (FP.dcmp x5 x16) .g) := own_cmp_gt C2 (Decidable.byContradiction fun z => (own_cmp_ngt C1 (by omega)) q1)
          have c3 : (0 : Int32) < (cmpValue (FP.dcmp x7 x16) .g) := own_cmp_gt C3 (Decidable.byContradiction fun z => (own_cmp_ngt C1 (by omega)) q1)
          have c4 : (0 : Int32) < (cmpValue (FP.dcmp x9 x16) .g) := own_cmp_gt C4 (Decidable.byContradiction fun z => (own_cmp_ngt C1 (by omega)) q1)
          rw [show own_cb5 h0.size x16 kA y1 x3 x5 x7 x9 = (1 : Int32) by rw [own_cb5, if_pos c2, if_pos c1, if_neg c0], show own_one (5 : Int32) (0 : Int32) y1 x16 = (1 : Int32) by rw [own_one, if_pos (by decide), if_neg c0], show own_one (5 : Int32) (1 : Int32) x3 x16 = (0 : Int32) by rw [own_one, if_pos (by decide), if_pos c1], show own_one (5 : Int32) (2 : Int32) x5 x16 = (0 : Int32) by rw [own_one, if_pos (by decide), if_pos c2], show own_one (5 : Int32) (3 : Int32) x7 x16 = (0 : Int32) by rw [own_one, if_pos (by decide), if_pos c3], show own_one (5 : Int32) (4 : Int32) x9 x16 = (0 : Int32) by rw [own_one, if_pos (by decide), if_pos c4], show own_one (5 : Int32) (5 : Int32) x11 x16 = (0 : Int32) by rw [own_one, if_neg (by decide)], show own_one (5 : Int32) (6 : Int32) x13 x16 = (0 : Int32) by rw [own_one, if_neg (by decide)]]
          decide
        · by_cases q2 : (0 : Int32) < (cmpValue (FP.dcmp x5 x16) .g)
          · have c0 : ¬ (0 : Int32) < (cmpValue (FP.dcmp y1 x16) .g) := q0
            have c1 : ¬ (0 : Int32) < (cmpValue (FP.dcmp x3 x16) .g) := q1
            have c2 : (0 : Int32) < (cmpValue (FP.dcmp x5 x16) .g) := q2
            have c3 : (0 : Int32) < (cmpValue (FP.dcmp x7 x16) .g) := own_cmp_gt C3 (Decidable.byContradiction fun z => (own_cmp_ngt C2 (by omega)) q2)
            have c4 : (0 : Int32) < (cmpValue (FP.dcmp x9 x16) .g) := own_cmp_gt C4 (Decidable.byContradiction fun z => (own_cmp_ngt C2 (by omega)) q2)
            rw [show own_cb5 h0.size x16 kA y1 x3 x5 x7 x9 = (2 : Int32) by rw [own_cb5, if_pos c2, if_neg c1], show own_one (5 : Int32) (0 : Int32) y1 x16 = (1 : Int32) by rw [own_one, if_pos (by decide), if_neg c0], show own_one (5 : Int32) (1 : Int32) x3 x16 = (1 : Int32) by rw [own_one, if_pos (by decide), if_neg c1], show own_one (5 : Int32) (2 : Int32) x5 x16 = (0 : Int32) by rw [own_one, if_pos (by decide), if_pos c2], show own_one (5 : Int32) (3 : Int32) x7 x16 = (0 : Int32) by rw [own_one, if_pos (by decide), if_pos c3], show own_one (5 : Int32) (4 : Int32) x9 x16 = (0 : Int32) by rw [own_one, if_pos (by decide), if_pos c4], show own_one (5 : Int32) (5 : Int32) x11 x16 = (0 : Int32) by rw [own_one, if_neg (by decide)], show own_one (5 : Int32) (6 : Int32) x13 x16 = (0 : Int32) by rw [own_one, if_neg (by decide)]]
            decide
          · by_cases q3 : (0 : Int32) < (cmpValue (FP.dcmp x7 x16) .g)
            · have c0 : ¬ (0 : Int32) < (cmpValue (FP.dcmp y1 x16) .g) := q0
              have c1 : ¬ (0 : Int32) < (cmpValue (FP.dcmp x3 x16) .g) := q1
              have c2 : ¬ (0 : Int32) < (cmpValue (FP.dcmp x5 x16) .g) := q2
              have c3 : (0 : Int32) < (cmpValue (FP.dcmp x7 x16) .g) := q3
              have c4 : (0 : Int32) < (cmpValue (FP.dcmp x9 x16) .g) := own_cmp_gt C4 (Decidable.byContradiction fun z => (own_cmp_ngt C3 (by omega)) q3)
              rw [show own_cb5 h0.size x16 kA y1 x3 x5 x7 x9 = (3 : Int32) by rw [own_cb5, if_neg c2, if_pos c4, if_pos c3], show own_one (5 : Int32) (0 : Int32) y1 x16 = (1 : Int32) by rw [own_one, if_pos (by decide), if_neg c0], show own_one (5 : Int32) (1 : Int32) x3 x16 = (1 : Int32) by rw [own_one, if_pos (by decide), if_neg c1], show own_one (5 : Int32) (2 : Int32) x5 x16 = (1 : Int32) by rw [own_one, if_pos (by decide), if_neg c2], show own_one (5 : Int32) (3 : Int32) x7 x16 = (0 : Int32) by rw [own_one, if_pos (by decide), if_pos c3], show own_one (5 : Int32) (4 : Int32) x9 x16 = (0 : Int32) by rw [own_one, if_pos (by decide), if_pos c4], show own_one (5 : Int32) (5 : Int32) x11 x16 = (0 : Int32) by rw [own_one, if_neg (by decide)], show own_one (5 : Int32) (6 : Int32) x13 x16 = (0 : Int32) by rw [own_one, if_neg (by decide)]]
              decide
            · by_cases q4 : (0 : Int32) < (cmpValue (FP.dcmp x9 x16) .g)
              · have c0 : ¬ (0 : Int32) < (cmpValue (FP.dcmp y1 x16) .g) := q0
                have c1 : ¬ (0 : Int32) < (cmpValue (FP.dcmp x3 x16) .g) := q1
                have c2 : ¬ (0 : Int32) < (cmpValue (FP.dcmp x5 x16) .g) := q2
                have c3 : ¬ (0 : Int32) < (cmpValue (FP.dcmp x7 x16) .g) := q3
                have c4 : (0 : Int32) < (cmpValue (FP.dcmp x9 x16) .g) := q4
                rw [show own_cb5 h0.size x16 kA y1 x3 x5 x7 x9 = (4 : Int32) by rw [own_cb5, if_neg c2, if_pos c4, if_neg c3], show own_one (5 : Int32) (0 : Int32) y1 x16 = (1 : Int32) by rw [own_one, if_pos (by decide), if_neg c0], show own_one (5 : Int32) (1 : Int32) x3 x16 = (1 : Int32) by rw [own_one, if_pos (by decide), if_neg c1], show own_one (5 : Int32) (2 : Int32) x5 x16 = (1 : Int32) by rw [own_one, if_pos (by decide), if_neg c2], show own_one (5 : Int32) (3 : Int32) x7 x16 = (1 : Int32) by rw [own_one, if_pos (by decide), if_neg c3], show own_one (5 : Int32) (4 : Int32) x9 x16 = (0 : Int32) by rw [own_one, if_pos (by decide), if_pos c4], show own_one (5 : Int32) (5 : Int32) x11 x16 = (0 : Int32) by rw [own_one, if_neg (by decide)], show own_one (5 : Int32) (6 : Int32) x13 x16 = (0 : Int32) by rw [own_one, if_neg (by decide)]]
                decide
              · have c0 : ¬ (0 : Int32) < (cmpValue (FP.dcmp y1 x16) .g) := q0
                have c1 : ¬ (0 : Int32) < (cmpValue (FP.dcmp x3 x16) .g) := q1
                have c2 : ¬ (0 : Int32) < (cmpValue (FP.dcmp x5 x16) .g) := q2
                have c3 : ¬ (0 : Int32) < (cmpValue (FP.dcmp x7 x16) .g) := q3
                have c4 : ¬ (0 : Int32) < (cmpValue (FP.dcmp x9 x16) .g) := q4
                rw [show own_cb5 h0.size x16 kA y1 x3 x5 x7 x9 = (5 : Int32) by rw [own_cb5, if_neg c2, if_neg c4], show own_one (5 : Int32) (0 : Int32) y1 x16 = (1 : Int32) by rw [own_one, if_pos (by decide), if_neg c0], show own_one (5 : Int32) (1 : Int32) x3 x16 = (1 : Int32) by rw [own_one, if_pos (by decide), if_neg c1], show own_one (5 : Int32) (2 : Int32) x5 x16 = (1 : Int32) by rw [own_one, if_pos (by decide), if_neg c2], show own_one (5 : Int32) (3 : Int32) x7 x16 = (1 : Int32) by rw [own_one, if_pos (by decide), if_neg c3], show own_one (5 : Int32) (4 : Int32) x9 x16 = (1 : Int32) by rw [own_one, if_pos (by decide), if_neg c4], show own_one (5 : Int32) (5 : Int32) x11 x16 = (0 : Int32) by rw [own_one, if_neg (by decide)], show own_one (5 : Int32) (6 : Int32) x13 x16 = (0 : Int32) by rw [own_one, if_neg (by decide)]]
                decide
    refine own_by (fun t_ k_ => XS.icmpNo XT77.here hx rfl (hb hby at_277) rfl (XT.ii_ne_f hfin) k_) ?_
    show own_Go p e below _ T77 (mkF m 280 #[oI i0, oI i1, oI i2, oI i3, oI (5 : Int32), oD y1, .second, oD x3, .second, oD x5, .second, oD x7, .second, oD x9, .second, oD x11, .second, oD x13, .second, oD x16, .second, oR h0.size, oI (((((((own_one (5 : Int32) (0 : Int32) y1 x16) + (own_one (5 : Int32) (1 : Int32) x3 x16)) + (own_one (5 : Int32) (2 : Int32) x5 x16)) + (own_one (5 : Int32) (3 : Int32) x7 x16)) + (own_one (5 : Int32) (4 : Int32) x9 x16)) + (own_one (5 : Int32) (5 : Int32) x11 x16)) + (own_one (5 : Int32) (6 : Int32) x13 x16)), oI (own_cb5 h0.size x16 kA y1 x3 x5 x7 x9)] [])
    refine own_by (fun t_ k_ => XT.iconstV XT77.here hx rfl (1 : Int32) (hb hby at_280) (by decide) k_) ?_
    show own_Go p e below _ T77 (mkF m 281 #[oI i0, oI i1, oI i2, oI i3, oI (5 : Int32), oD y1, .second, oD x3, .second, oD x5, .second, oD x7, .second, oD x9, .second, oD x11, .second, oD x13, .second, oD x16, .second, oR h0.size, oI (((((((own_one (5 : Int32) (0 : Int32) y1 x16) + (own_one (5 : Int32) (1 : Int32) x3 x16)) + (own_one (5 : Int32) (2 : Int32) x5 x16)) + (own_one (5 : Int32) (3 : Int32) x7 x16)) + (own_one (5 : Int32) (4 : Int32) x9 x16)) + (own_one (5 : Int32) (5 : Int32) x11 x16)) + (own_one (5 : Int32) (6 : Int32) x13 x16)), oI (own_cb5 h0.size x16 kA y1 x3 x5 x7 x9)] [(.int (1 : Int32))])
    refine own_by (fun t_ k_ => XS.goto XT77.here hx rfl (pc0 := 281) (pc' := 285) rfl (hb hby at_281) (by decide) (by decide) k_) ?_
    show own_Go p e below _ T77 (mkF m 285 #[oI i0, oI i1, oI i2, oI i3, oI (5 : Int32), oD y1, .second, oD x3, .second, oD x5, .second, oD x7, .second, oD x9, .second, oD x11, .second, oD x13, .second, oD x16, .second, oR h0.size, oI (((((((own_one (5 : Int32) (0 : Int32) y1 x16) + (own_one (5 : Int32) (1 : Int32) x3 x16)) + (own_one (5 : Int32) (2 : Int32) x5 x16)) + (own_one (5 : Int32) (3 : Int32) x7 x16)) + (own_one (5 : Int32) (4 : Int32) x9 x16)) + (own_one (5 : Int32) (5 : Int32) x11 x16)) + (own_one (5 : Int32) (6 : Int32) x13 x16)), oI (own_cb5 h0.size x16 kA y1 x3 x5 x7 x9)] [(.int (1 : Int32))])
    exact own_retN XT77 hx hlk hret (by simp) (w := (1 : Int32)) (hb hby at_285) (by decide) (by decide) (by decide) (⟨rfl, own_fr0 NT69⟩)
  · rw [hk]
    show own_Go p e below _ T0 (mkF m 94 #[oI i0, oI i1, oI i2, oI i3, oI (6 : Int32), oD y1, .second, oD x3, .second, oD x5, .second, oD x7, .second, oD x9, .second, oD x11, .second, oD x13, .second, oD x16, .second, .unset, .unset, .unset] [])
    refine own_by (fun t_ k_ => XS.iload X0.here hx rfl (hb hby at_94) rfl  k_) ?_
    show own_Go p e below _ T0 (mkF m 96 #[oI i0, oI i1, oI i2, oI i3, oI (6 : Int32), oD y1, .second, oD x3, .second, oD x5, .second, oD x7, .second, oD x9, .second, oD x11, .second, oD x13, .second, oD x16, .second, .unset, .unset, .unset] [(.int (6 : Int32))])
    refine own_newP X0 hx hZ (aty := .double) (hw _ (List.mem_of_getElem? (i := 1) rfl)) e0 (hb hby at_96) 6 6 (by decide) (by decide) (by decide) (by decide) (by decide) (by decide) ?_
    intro T78 hT78 kA XT78 eT78 ET78 YT78
    have VT78 : own_A Z hT78 h0.size .double kA [(.double 0), (.double 0), (.double 0), (.double 0), (.double 0), (.double 0)] := YT78
    have NT78 := Fr.nil h0.size
    clear YT78
    show own_Go p e below _ T78 (mkF m 98 #[oI i0, oI i1, oI i2, oI i3, oI (6 : Int32), oD y1, .second, oD x3, .second, oD x5, .second, oD x7, .second, oD x9, .second, oD x11, .second, oD x13, .second, oD x16, .second, .unset, .unset, .unset] [(.ref h0.size)])
    refine own_by (fun t_ k_ => XS.astore XT78.here hx rfl (hb hby at_98) rfl rfl (l' := #[oI i0, oI i1, oI i2, oI i3, oI (6 : Int32), oD y1, .second, oD x3, .second, oD x5, .second, oD x7, .second, oD x9, .second, oD x11, .second, oD x13, .second, oD x16, .second, oR h0.size, .unset, .unset]) rfl k_) ?_
    show own_Go p e below _ T78 (mkF m 100 #[oI i0, oI i1, oI i2, oI i3, oI (6 : Int32), oD y1, .second, oD x3, .second, oD x5, .second, oD x7, .second, oD x9, .second, oD x11, .second, oD x13, .second, oD x16, .second, oR h0.size, .unset, .unset] [])
    refine own_by (fun t_ k_ => XS.iload XT78.here hx rfl (hb hby at_100) rfl  k_) ?_
    show own_Go p e below _ T78 (mkF m 102 #[oI i0, oI i1, oI i2, oI i3, oI (6 : Int32), oD y1, .second, oD x3, .second, oD x5, .second, oD x7, .second, oD x9, .second, oD x11, .second, oD x13, .second, oD x16, .second, oR h0.size, .unset, .unset] [(.int (6 : Int32))])
    refine own_by (fun t_ k_ => XS.ifNo XT78.here hx rfl (hb hby at_102) rfl (XT.i0_le_f (by decide)) k_) ?_
    show own_Go p e below _ T78 (mkF m 105 #[oI i0, oI i1, oI i2, oI i3, oI (6 : Int32), oD y1, .second, oD x3, .second, oD x5, .second, oD x7, .second, oD x9, .second, oD x11, .second, oD x13, .second, oD x16, .second, oR h0.size, .unset, .unset] [])
    refine own_by (fun t_ k_ => XS.aload XT78.here hx rfl (hb hby at_105) rfl rfl  k_) ?_
    show own_Go p e below _ T78 (mkF m 107 #[oI i0, oI i1, oI i2, oI i3, oI (6 : Int32), oD y1, .second, oD x3, .second, oD x5, .second, oD x7, .second, oD x9, .second, oD x11, .second, oD x13, .second, oD x16, .second, oR h0.size, .unset, .unset] [(.ref h0.size)])
    refine own_by (fun t_ k_ => XT.iconstV XT78.here hx rfl (0 : Int32) (hb hby at_107) (by decide) k_) ?_
    show own_Go p e below _ T78 (mkF m 108 #[oI i0, oI i1, oI i2, oI i3, oI (6 : Int32), oD y1, .second, oD x3, .second, oD x5, .second, oD x7, .second, oD x9, .second, oD x11, .second, oD x13, .second, oD x16, .second, oR h0.size, .unset, .unset] [(.int (0 : Int32)), (.ref h0.size)])
    refine own_by (fun t_ k_ => XS.dload XT78.here hx rfl (hb hby at_108) rfl  k_) ?_
    show own_Go p e below _ T78 (mkF m 110 #[oI i0, oI i1, oI i2, oI i3, oI (6 : Int32), oD y1, .second, oD x3, .second, oD x5, .second, oD x7, .second, oD x9, .second, oD x11, .second, oD x13, .second, oD x16, .second, oR h0.size, .unset, .unset] [(.double y1), (.int (0 : Int32)), (.ref h0.size)])
    refine own_stD XT78 hx hZ eT78 VT78 0 (by decide) (by decide) (by simp) (hb hby at_110) ?_
    intro T79 hT79 XT79 eT79 WT79 YT79
    have VT79 : own_A Z hT79 h0.size .double kA [(.double y1), (.double 0), (.double 0), (.double 0), (.double 0), (.double 0)] := YT79
    have NT79 := own_frs (i := 0) NT78 (Nat.le_refl h0.size)
    clear YT79
    show own_Go p e below _ T79 (mkF m 111 #[oI i0, oI i1, oI i2, oI i3, oI (6 : Int32), oD y1, .second, oD x3, .second, oD x5, .second, oD x7, .second, oD x9, .second, oD x11, .second, oD x13, .second, oD x16, .second, oR h0.size, .unset, .unset] [])
    refine own_by (fun t_ k_ => XS.iload XT79.here hx rfl (hb hby at_111) rfl  k_) ?_
    show own_Go p e below _ T79 (mkF m 113 #[oI i0, oI i1, oI i2, oI i3, oI (6 : Int32), oD y1, .second, oD x3, .second, oD x5, .second, oD x7, .second, oD x9, .second, oD x11, .second, oD x13, .second, oD x16, .second, oR h0.size, .unset, .unset] [(.int (6 : Int32))])
    refine own_by (fun t_ k_ => XT.iconstV XT79.here hx rfl (1 : Int32) (hb hby at_113) (by decide) k_) ?_
    show own_Go p e below _ T79 (mkF m 114 #[oI i0, oI i1, oI i2, oI i3, oI (6 : Int32), oD y1, .second, oD x3, .second, oD x5, .second, oD x7, .second, oD x9, .second, oD x11, .second, oD x13, .second, oD x16, .second, oR h0.size, .unset, .unset] [(.int (1 : Int32)), (.int (6 : Int32))])
    refine own_by (fun t_ k_ => XS.icmpNo XT79.here hx rfl (hb hby at_114) rfl (XT.ii_le_f (by decide)) k_) ?_
    show own_Go p e below _ T79 (mkF m 117 #[oI i0, oI i1, oI i2, oI i3, oI (6 : Int32), oD y1, .second, oD x3, .second, oD x5, .second, oD x7, .second, oD x9, .second, oD x11, .second, oD x13, .second, oD x16, .second, oR h0.size, .unset, .unset] [])
    refine own_by (fun t_ k_ => XS.aload XT79.here hx rfl (hb hby at_117) rfl rfl  k_) ?_
    show own_Go p e below _ T79 (mkF m 119 #[oI i0, oI i1, oI i2, oI i3, oI (6 : Int32), oD y1, .second, oD x3, .second, oD x5, .second, oD x7, .second, oD x9, .second, oD x11, .second, oD x13, .second, oD x16, .second, oR h0.size, .unset, .unset] [(.ref h0.size)])
    refine own_by (fun t_ k_ => XT.iconstV XT79.here hx rfl (1 : Int32) (hb hby at_119) (by decide) k_) ?_
    show own_Go p e below _ T79 (mkF m 120 #[oI i0, oI i1, oI i2, oI i3, oI (6 : Int32), oD y1, .second, oD x3, .second, oD x5, .second, oD x7, .second, oD x9, .second, oD x11, .second, oD x13, .second, oD x16, .second, oR h0.size, .unset, .unset] [(.int (1 : Int32)), (.ref h0.size)])
    refine own_by (fun t_ k_ => XS.dload XT79.here hx rfl (hb hby at_120) rfl  k_) ?_
    show own_Go p e below _ T79 (mkF m 122 #[oI i0, oI i1, oI i2, oI i3, oI (6 : Int32), oD y1, .second, oD x3, .second, oD x5, .second, oD x7, .second, oD x9, .second, oD x11, .second, oD x13, .second, oD x16, .second, oR h0.size, .unset, .unset] [(.double x3), (.int (1 : Int32)), (.ref h0.size)])
    refine own_stD XT79 hx hZ eT79 VT79 1 (by decide) (by decide) (by simp) (hb hby at_122) ?_
    intro T80 hT80 XT80 eT80 WT80 YT80
    have VT80 : own_A Z hT80 h0.size .double kA [(.double y1), (.double x3), (.double 0), (.double 0), (.double 0), (.double 0)] := YT80
    have NT80 := own_frs (i := 1) NT79 (Nat.le_refl h0.size)
    clear YT80
    show own_Go p e below _ T80 (mkF m 123 #[oI i0, oI i1, oI i2, oI i3, oI (6 : Int32), oD y1, .second, oD x3, .second, oD x5, .second, oD x7, .second, oD x9, .second, oD x11, .second, oD x13, .second, oD x16, .second, oR h0.size, .unset, .unset] [])
    refine own_by (fun t_ k_ => XS.iload XT80.here hx rfl (hb hby at_123) rfl  k_) ?_
    show own_Go p e below _ T80 (mkF m 125 #[oI i0, oI i1, oI i2, oI i3, oI (6 : Int32), oD y1, .second, oD x3, .second, oD x5, .second, oD x7, .second, oD x9, .second, oD x11, .second, oD x13, .second, oD x16, .second, oR h0.size, .unset, .unset] [(.int (6 : Int32))])
    refine own_by (fun t_ k_ => XT.iconstV XT80.here hx rfl (2 : Int32) (hb hby at_125) (by decide) k_) ?_
    show own_Go p e below _ T80 (mkF m 126 #[oI i0, oI i1, oI i2, oI i3, oI (6 : Int32), oD y1, .second, oD x3, .second, oD x5, .second, oD x7, .second, oD x9, .second, oD x11, .second, oD x13, .second, oD x16, .second, oR h0.size, .unset, .unset] [(.int (2 : Int32)), (.int (6 : Int32))])
    refine own_by (fun t_ k_ => XS.icmpNo XT80.here hx rfl (hb hby at_126) rfl (XT.ii_le_f (by decide)) k_) ?_
    show own_Go p e below _ T80 (mkF m 129 #[oI i0, oI i1, oI i2, oI i3, oI (6 : Int32), oD y1, .second, oD x3, .second, oD x5, .second, oD x7, .second, oD x9, .second, oD x11, .second, oD x13, .second, oD x16, .second, oR h0.size, .unset, .unset] [])
    refine own_by (fun t_ k_ => XS.aload XT80.here hx rfl (hb hby at_129) rfl rfl  k_) ?_
    show own_Go p e below _ T80 (mkF m 131 #[oI i0, oI i1, oI i2, oI i3, oI (6 : Int32), oD y1, .second, oD x3, .second, oD x5, .second, oD x7, .second, oD x9, .second, oD x11, .second, oD x13, .second, oD x16, .second, oR h0.size, .unset, .unset] [(.ref h0.size)])
    refine own_by (fun t_ k_ => XT.iconstV XT80.here hx rfl (2 : Int32) (hb hby at_131) (by decide) k_) ?_
    show own_Go p e below _ T80 (mkF m 132 #[oI i0, oI i1, oI i2, oI i3, oI (6 : Int32), oD y1, .second, oD x3, .second, oD x5, .second, oD x7, .second, oD x9, .second, oD x11, .second, oD x13, .second, oD x16, .second, oR h0.size, .unset, .unset] [(.int (2 : Int32)), (.ref h0.size)])
    refine own_by (fun t_ k_ => XS.dload XT80.here hx rfl (hb hby at_132) rfl  k_) ?_
    show own_Go p e below _ T80 (mkF m 134 #[oI i0, oI i1, oI i2, oI i3, oI (6 : Int32), oD y1, .second, oD x3, .second, oD x5, .second, oD x7, .second, oD x9, .second, oD x11, .second, oD x13, .second, oD x16, .second, oR h0.size, .unset, .unset] [(.double x5), (.int (2 : Int32)), (.ref h0.size)])
    refine own_stD XT80 hx hZ eT80 VT80 2 (by decide) (by decide) (by simp) (hb hby at_134) ?_
    intro T81 hT81 XT81 eT81 WT81 YT81
    have VT81 : own_A Z hT81 h0.size .double kA [(.double y1), (.double x3), (.double x5), (.double 0), (.double 0), (.double 0)] := YT81
    have NT81 := own_frs (i := 2) NT80 (Nat.le_refl h0.size)
    clear YT81
    show own_Go p e below _ T81 (mkF m 135 #[oI i0, oI i1, oI i2, oI i3, oI (6 : Int32), oD y1, .second, oD x3, .second, oD x5, .second, oD x7, .second, oD x9, .second, oD x11, .second, oD x13, .second, oD x16, .second, oR h0.size, .unset, .unset] [])
    refine own_by (fun t_ k_ => XS.iload XT81.here hx rfl (hb hby at_135) rfl  k_) ?_
    show own_Go p e below _ T81 (mkF m 137 #[oI i0, oI i1, oI i2, oI i3, oI (6 : Int32), oD y1, .second, oD x3, .second, oD x5, .second, oD x7, .second, oD x9, .second, oD x11, .second, oD x13, .second, oD x16, .second, oR h0.size, .unset, .unset] [(.int (6 : Int32))])
    refine own_by (fun t_ k_ => XT.iconstV XT81.here hx rfl (3 : Int32) (hb hby at_137) (by decide) k_) ?_
    show own_Go p e below _ T81 (mkF m 138 #[oI i0, oI i1, oI i2, oI i3, oI (6 : Int32), oD y1, .second, oD x3, .second, oD x5, .second, oD x7, .second, oD x9, .second, oD x11, .second, oD x13, .second, oD x16, .second, oR h0.size, .unset, .unset] [(.int (3 : Int32)), (.int (6 : Int32))])
    refine own_by (fun t_ k_ => XS.icmpNo XT81.here hx rfl (hb hby at_138) rfl (XT.ii_le_f (by decide)) k_) ?_
    show own_Go p e below _ T81 (mkF m 141 #[oI i0, oI i1, oI i2, oI i3, oI (6 : Int32), oD y1, .second, oD x3, .second, oD x5, .second, oD x7, .second, oD x9, .second, oD x11, .second, oD x13, .second, oD x16, .second, oR h0.size, .unset, .unset] [])
    refine own_by (fun t_ k_ => XS.aload XT81.here hx rfl (hb hby at_141) rfl rfl  k_) ?_
    show own_Go p e below _ T81 (mkF m 143 #[oI i0, oI i1, oI i2, oI i3, oI (6 : Int32), oD y1, .second, oD x3, .second, oD x5, .second, oD x7, .second, oD x9, .second, oD x11, .second, oD x13, .second, oD x16, .second, oR h0.size, .unset, .unset] [(.ref h0.size)])
    refine own_by (fun t_ k_ => XT.iconstV XT81.here hx rfl (3 : Int32) (hb hby at_143) (by decide) k_) ?_
    show own_Go p e below _ T81 (mkF m 144 #[oI i0, oI i1, oI i2, oI i3, oI (6 : Int32), oD y1, .second, oD x3, .second, oD x5, .second, oD x7, .second, oD x9, .second, oD x11, .second, oD x13, .second, oD x16, .second, oR h0.size, .unset, .unset] [(.int (3 : Int32)), (.ref h0.size)])
    refine own_by (fun t_ k_ => XS.dload XT81.here hx rfl (hb hby at_144) rfl  k_) ?_
    show own_Go p e below _ T81 (mkF m 146 #[oI i0, oI i1, oI i2, oI i3, oI (6 : Int32), oD y1, .second, oD x3, .second, oD x5, .second, oD x7, .second, oD x9, .second, oD x11, .second, oD x13, .second, oD x16, .second, oR h0.size, .unset, .unset] [(.double x7), (.int (3 : Int32)), (.ref h0.size)])
    refine own_stD XT81 hx hZ eT81 VT81 3 (by decide) (by decide) (by simp) (hb hby at_146) ?_
    intro T82 hT82 XT82 eT82 WT82 YT82
    have VT82 : own_A Z hT82 h0.size .double kA [(.double y1), (.double x3), (.double x5), (.double x7), (.double 0), (.double 0)] := YT82
    have NT82 := own_frs (i := 3) NT81 (Nat.le_refl h0.size)
    clear YT82
    show own_Go p e below _ T82 (mkF m 147 #[oI i0, oI i1, oI i2, oI i3, oI (6 : Int32), oD y1, .second, oD x3, .second, oD x5, .second, oD x7, .second, oD x9, .second, oD x11, .second, oD x13, .second, oD x16, .second, oR h0.size, .unset, .unset] [])
    refine own_by (fun t_ k_ => XS.iload XT82.here hx rfl (hb hby at_147) rfl  k_) ?_
    show own_Go p e below _ T82 (mkF m 149 #[oI i0, oI i1, oI i2, oI i3, oI (6 : Int32), oD y1, .second, oD x3, .second, oD x5, .second, oD x7, .second, oD x9, .second, oD x11, .second, oD x13, .second, oD x16, .second, oR h0.size, .unset, .unset] [(.int (6 : Int32))])
    refine own_by (fun t_ k_ => XT.iconstV XT82.here hx rfl (4 : Int32) (hb hby at_149) (by decide) k_) ?_
    show own_Go p e below _ T82 (mkF m 150 #[oI i0, oI i1, oI i2, oI i3, oI (6 : Int32), oD y1, .second, oD x3, .second, oD x5, .second, oD x7, .second, oD x9, .second, oD x11, .second, oD x13, .second, oD x16, .second, oR h0.size, .unset, .unset] [(.int (4 : Int32)), (.int (6 : Int32))])
    refine own_by (fun t_ k_ => XS.icmpNo XT82.here hx rfl (hb hby at_150) rfl (XT.ii_le_f (by decide)) k_) ?_
    show own_Go p e below _ T82 (mkF m 153 #[oI i0, oI i1, oI i2, oI i3, oI (6 : Int32), oD y1, .second, oD x3, .second, oD x5, .second, oD x7, .second, oD x9, .second, oD x11, .second, oD x13, .second, oD x16, .second, oR h0.size, .unset, .unset] [])
    refine own_by (fun t_ k_ => XS.aload XT82.here hx rfl (hb hby at_153) rfl rfl  k_) ?_
    show own_Go p e below _ T82 (mkF m 155 #[oI i0, oI i1, oI i2, oI i3, oI (6 : Int32), oD y1, .second, oD x3, .second, oD x5, .second, oD x7, .second, oD x9, .second, oD x11, .second, oD x13, .second, oD x16, .second, oR h0.size, .unset, .unset] [(.ref h0.size)])
    refine own_by (fun t_ k_ => XT.iconstV XT82.here hx rfl (4 : Int32) (hb hby at_155) (by decide) k_) ?_
    show own_Go p e below _ T82 (mkF m 156 #[oI i0, oI i1, oI i2, oI i3, oI (6 : Int32), oD y1, .second, oD x3, .second, oD x5, .second, oD x7, .second, oD x9, .second, oD x11, .second, oD x13, .second, oD x16, .second, oR h0.size, .unset, .unset] [(.int (4 : Int32)), (.ref h0.size)])
    refine own_by (fun t_ k_ => XS.dload XT82.here hx rfl (hb hby at_156) rfl  k_) ?_
    show own_Go p e below _ T82 (mkF m 158 #[oI i0, oI i1, oI i2, oI i3, oI (6 : Int32), oD y1, .second, oD x3, .second, oD x5, .second, oD x7, .second, oD x9, .second, oD x11, .second, oD x13, .second, oD x16, .second, oR h0.size, .unset, .unset] [(.double x9), (.int (4 : Int32)), (.ref h0.size)])
    refine own_stD XT82 hx hZ eT82 VT82 4 (by decide) (by decide) (by simp) (hb hby at_158) ?_
    intro T83 hT83 XT83 eT83 WT83 YT83
    have VT83 : own_A Z hT83 h0.size .double kA [(.double y1), (.double x3), (.double x5), (.double x7), (.double x9), (.double 0)] := YT83
    have NT83 := own_frs (i := 4) NT82 (Nat.le_refl h0.size)
    clear YT83
    show own_Go p e below _ T83 (mkF m 159 #[oI i0, oI i1, oI i2, oI i3, oI (6 : Int32), oD y1, .second, oD x3, .second, oD x5, .second, oD x7, .second, oD x9, .second, oD x11, .second, oD x13, .second, oD x16, .second, oR h0.size, .unset, .unset] [])
    refine own_by (fun t_ k_ => XS.iload XT83.here hx rfl (hb hby at_159) rfl  k_) ?_
    show own_Go p e below _ T83 (mkF m 161 #[oI i0, oI i1, oI i2, oI i3, oI (6 : Int32), oD y1, .second, oD x3, .second, oD x5, .second, oD x7, .second, oD x9, .second, oD x11, .second, oD x13, .second, oD x16, .second, oR h0.size, .unset, .unset] [(.int (6 : Int32))])
    refine own_by (fun t_ k_ => XT.iconstV XT83.here hx rfl (5 : Int32) (hb hby at_161) (by decide) k_) ?_
    show own_Go p e below _ T83 (mkF m 162 #[oI i0, oI i1, oI i2, oI i3, oI (6 : Int32), oD y1, .second, oD x3, .second, oD x5, .second, oD x7, .second, oD x9, .second, oD x11, .second, oD x13, .second, oD x16, .second, oR h0.size, .unset, .unset] [(.int (5 : Int32)), (.int (6 : Int32))])
    refine own_by (fun t_ k_ => XS.icmpNo XT83.here hx rfl (hb hby at_162) rfl (XT.ii_le_f (by decide)) k_) ?_
    show own_Go p e below _ T83 (mkF m 165 #[oI i0, oI i1, oI i2, oI i3, oI (6 : Int32), oD y1, .second, oD x3, .second, oD x5, .second, oD x7, .second, oD x9, .second, oD x11, .second, oD x13, .second, oD x16, .second, oR h0.size, .unset, .unset] [])
    refine own_by (fun t_ k_ => XS.aload XT83.here hx rfl (hb hby at_165) rfl rfl  k_) ?_
    show own_Go p e below _ T83 (mkF m 167 #[oI i0, oI i1, oI i2, oI i3, oI (6 : Int32), oD y1, .second, oD x3, .second, oD x5, .second, oD x7, .second, oD x9, .second, oD x11, .second, oD x13, .second, oD x16, .second, oR h0.size, .unset, .unset] [(.ref h0.size)])
    refine own_by (fun t_ k_ => XT.iconstV XT83.here hx rfl (5 : Int32) (hb hby at_167) (by decide) k_) ?_
    show own_Go p e below _ T83 (mkF m 168 #[oI i0, oI i1, oI i2, oI i3, oI (6 : Int32), oD y1, .second, oD x3, .second, oD x5, .second, oD x7, .second, oD x9, .second, oD x11, .second, oD x13, .second, oD x16, .second, oR h0.size, .unset, .unset] [(.int (5 : Int32)), (.ref h0.size)])
    refine own_by (fun t_ k_ => XS.dload XT83.here hx rfl (hb hby at_168) rfl  k_) ?_
    show own_Go p e below _ T83 (mkF m 170 #[oI i0, oI i1, oI i2, oI i3, oI (6 : Int32), oD y1, .second, oD x3, .second, oD x5, .second, oD x7, .second, oD x9, .second, oD x11, .second, oD x13, .second, oD x16, .second, oR h0.size, .unset, .unset] [(.double x11), (.int (5 : Int32)), (.ref h0.size)])
    refine own_stD XT83 hx hZ eT83 VT83 5 (by decide) (by decide) (by simp) (hb hby at_170) ?_
    intro T84 hT84 XT84 eT84 WT84 YT84
    have VT84 : own_A Z hT84 h0.size .double kA [(.double y1), (.double x3), (.double x5), (.double x7), (.double x9), (.double x11)] := YT84
    have NT84 := own_frs (i := 5) NT83 (Nat.le_refl h0.size)
    clear YT84
    show own_Go p e below _ T84 (mkF m 171 #[oI i0, oI i1, oI i2, oI i3, oI (6 : Int32), oD y1, .second, oD x3, .second, oD x5, .second, oD x7, .second, oD x9, .second, oD x11, .second, oD x13, .second, oD x16, .second, oR h0.size, .unset, .unset] [])
    refine own_by (fun t_ k_ => XS.iload XT84.here hx rfl (hb hby at_171) rfl  k_) ?_
    show own_Go p e below _ T84 (mkF m 173 #[oI i0, oI i1, oI i2, oI i3, oI (6 : Int32), oD y1, .second, oD x3, .second, oD x5, .second, oD x7, .second, oD x9, .second, oD x11, .second, oD x13, .second, oD x16, .second, oR h0.size, .unset, .unset] [(.int (6 : Int32))])
    refine own_by (fun t_ k_ => XT.bipushV XT84.here hx rfl (6 : Int32) (hb hby at_173) (by decide) k_) ?_
    show own_Go p e below _ T84 (mkF m 175 #[oI i0, oI i1, oI i2, oI i3, oI (6 : Int32), oD y1, .second, oD x3, .second, oD x5, .second, oD x7, .second, oD x9, .second, oD x11, .second, oD x13, .second, oD x16, .second, oR h0.size, .unset, .unset] [(.int (6 : Int32)), (.int (6 : Int32))])
    refine own_by (fun t_ k_ => XS.icmpYes XT84.here hx rfl (pc0 := 175) (pc' := 185) rfl (hb hby at_175) rfl (XT.ii_le_t (by decide)) (by decide) (by decide) k_) ?_
    show own_Go p e below _ T84 (mkF m 185 #[oI i0, oI i1, oI i2, oI i3, oI (6 : Int32), oD y1, .second, oD x3, .second, oD x5, .second, oD x7, .second, oD x9, .second, oD x11, .second, oD x13, .second, oD x16, .second, oR h0.size, .unset, .unset] [])
    refine own_by (fun t_ k_ => XS.iload XT84.here hx rfl (hb hby at_185) rfl  k_) ?_
    show own_Go p e below _ T84 (mkF m 187 #[oI i0, oI i1, oI i2, oI i3, oI (6 : Int32), oD y1, .second, oD x3, .second, oD x5, .second, oD x7, .second, oD x9, .second, oD x11, .second, oD x13, .second, oD x16, .second, oR h0.size, .unset, .unset] [(.int (6 : Int32))])
    refine own_by (fun t_ k_ => XT.iconstV XT84.here hx rfl (0 : Int32) (hb hby at_187) (by decide) k_) ?_
    show own_Go p e below _ T84 (mkF m 188 #[oI i0, oI i1, oI i2, oI i3, oI (6 : Int32), oD y1, .second, oD x3, .second, oD x5, .second, oD x7, .second, oD x9, .second, oD x11, .second, oD x13, .second, oD x16, .second, oR h0.size, .unset, .unset] [(.int (0 : Int32)), (.int (6 : Int32))])
    refine own_by (fun t_ k_ => XS.dload XT84.here hx rfl (hb hby at_188) rfl  k_) ?_
    show own_Go p e below _ T84 (mkF m 190 #[oI i0, oI i1, oI i2, oI i3, oI (6 : Int32), oD y1, .second, oD x3, .second, oD x5, .second, oD x7, .second, oD x9, .second, oD x11, .second, oD x13, .second, oD x16, .second, oR h0.size, .unset, .unset] [(.double y1), (.int (0 : Int32)), (.int (6 : Int32))])
    refine own_by (fun t_ k_ => XS.dload XT84.here hx rfl (hb hby at_190) rfl  k_) ?_
    show own_Go p e below _ T84 (mkF m 192 #[oI i0, oI i1, oI i2, oI i3, oI (6 : Int32), oD y1, .second, oD x3, .second, oD x5, .second, oD x7, .second, oD x9, .second, oD x11, .second, oD x13, .second, oD x16, .second, oR h0.size, .unset, .unset] [(.double x16), (.double y1), (.int (0 : Int32)), (.int (6 : Int32))])
    refine own_callS XT84 hx hZ hown (hw _ (List.mem_of_getElem? (i := 2) rfl)) (hw _ (List.mem_of_getElem? (i := 3) rfl)) (hw _ (List.mem_of_getElem? (i := 4) rfl)) (hw _ (List.mem_of_getElem? (i := 5) rfl)) (by decide) eT84 (argsL := [(.int (6 : Int32)), (.int (0 : Int32)), (.double y1), (.double x16)]) (rest := []) (own_one_met l Z a0 hw (6 : Int32) (0 : Int32) y1 x16 hT84) 0 (by decide) (by decide) (by rw [hml]; rfl) (lenOf pd_0 rfl) (Nat.le_of_eq rfl) (hb hby at_192) (by decide) (by decide) (st := [(.double x16), (.double y1), (.int (0 : Int32)), (.int (6 : Int32))]) rfl ?_
    intro T85 LT85 vT85 XT85 hQT85
    obtain ⟨rfl, eT85, rfl⟩ := hQT85
    show own_Go p e below _ T85 (mkF m 195 #[oI i0, oI i1, oI i2, oI i3, oI (6 : Int32), oD y1, .second, oD x3, .second, oD x5, .second, oD x7, .second, oD x9, .second, oD x11, .second, oD x13, .second, oD x16, .second, oR h0.size, .unset, .unset] [(.int (own_one (6 : Int32) (0 : Int32) y1 x16))])
    refine own_by (fun t_ k_ => XS.iload XT85.here hx rfl (hb hby at_195) rfl  k_) ?_
    show own_Go p e below _ T85 (mkF m 197 #[oI i0, oI i1, oI i2, oI i3, oI (6 : Int32), oD y1, .second, oD x3, .second, oD x5, .second, oD x7, .second, oD x9, .second, oD x11, .second, oD x13, .second, oD x16, .second, oR h0.size, .unset, .unset] [(.int (6 : Int32)), (.int (own_one (6 : Int32) (0 : Int32) y1 x16))])
    refine own_by (fun t_ k_ => XT.iconstV XT85.here hx rfl (1 : Int32) (hb hby at_197) (by decide) k_) ?_
    show own_Go p e below _ T85 (mkF m 198 #[oI i0, oI i1, oI i2, oI i3, oI (6 : Int32), oD y1, .second, oD x3, .second, oD x5, .second, oD x7, .second, oD x9, .second, oD x11, .second, oD x13, .second, oD x16, .second, oR h0.size, .unset, .unset] [(.int (1 : Int32)), (.int (6 : Int32)), (.int (own_one (6 : Int32) (0 : Int32) y1 x16))])
    refine own_by (fun t_ k_ => XS.dload XT85.here hx rfl (hb hby at_198) rfl  k_) ?_
    show own_Go p e below _ T85 (mkF m 200 #[oI i0, oI i1, oI i2, oI i3, oI (6 : Int32), oD y1, .second, oD x3, .second, oD x5, .second, oD x7, .second, oD x9, .second, oD x11, .second, oD x13, .second, oD x16, .second, oR h0.size, .unset, .unset] [(.double x3), (.int (1 : Int32)), (.int (6 : Int32)), (.int (own_one (6 : Int32) (0 : Int32) y1 x16))])
    refine own_by (fun t_ k_ => XS.dload XT85.here hx rfl (hb hby at_200) rfl  k_) ?_
    show own_Go p e below _ T85 (mkF m 202 #[oI i0, oI i1, oI i2, oI i3, oI (6 : Int32), oD y1, .second, oD x3, .second, oD x5, .second, oD x7, .second, oD x9, .second, oD x11, .second, oD x13, .second, oD x16, .second, oR h0.size, .unset, .unset] [(.double x16), (.double x3), (.int (1 : Int32)), (.int (6 : Int32)), (.int (own_one (6 : Int32) (0 : Int32) y1 x16))])
    refine own_callS XT85 hx hZ hown (hw _ (List.mem_of_getElem? (i := 2) rfl)) (hw _ (List.mem_of_getElem? (i := 3) rfl)) (hw _ (List.mem_of_getElem? (i := 4) rfl)) (hw _ (List.mem_of_getElem? (i := 5) rfl)) (by decide) eT85 (argsL := [(.int (6 : Int32)), (.int (1 : Int32)), (.double x3), (.double x16)]) (rest := [(.int (own_one (6 : Int32) (0 : Int32) y1 x16))]) (own_one_met l Z a0 hw (6 : Int32) (1 : Int32) x3 x16 hT84) 1 (by decide) (by decide) (by rw [hml]; rfl) (lenOf pd_0 rfl) (Nat.le_of_eq rfl) (hb hby at_202) (by decide) (by decide) (st := [(.double x16), (.double x3), (.int (1 : Int32)), (.int (6 : Int32)), (.int (own_one (6 : Int32) (0 : Int32) y1 x16))]) rfl ?_
    intro T86 LT86 vT86 XT86 hQT86
    obtain ⟨rfl, eT86, rfl⟩ := hQT86
    show own_Go p e below _ T86 (mkF m 205 #[oI i0, oI i1, oI i2, oI i3, oI (6 : Int32), oD y1, .second, oD x3, .second, oD x5, .second, oD x7, .second, oD x9, .second, oD x11, .second, oD x13, .second, oD x16, .second, oR h0.size, .unset, .unset] [(.int (own_one (6 : Int32) (1 : Int32) x3 x16)), (.int (own_one (6 : Int32) (0 : Int32) y1 x16))])
    refine own_by (fun t_ k_ => XS.iadd XT86.here hx rfl (hb hby at_205) rfl k_) ?_
    show own_Go p e below _ T86 (mkF m 206 #[oI i0, oI i1, oI i2, oI i3, oI (6 : Int32), oD y1, .second, oD x3, .second, oD x5, .second, oD x7, .second, oD x9, .second, oD x11, .second, oD x13, .second, oD x16, .second, oR h0.size, .unset, .unset] [(.int ((own_one (6 : Int32) (0 : Int32) y1 x16) + (own_one (6 : Int32) (1 : Int32) x3 x16)))])
    refine own_by (fun t_ k_ => XS.iload XT86.here hx rfl (hb hby at_206) rfl  k_) ?_
    show own_Go p e below _ T86 (mkF m 208 #[oI i0, oI i1, oI i2, oI i3, oI (6 : Int32), oD y1, .second, oD x3, .second, oD x5, .second, oD x7, .second, oD x9, .second, oD x11, .second, oD x13, .second, oD x16, .second, oR h0.size, .unset, .unset] [(.int (6 : Int32)), (.int ((own_one (6 : Int32) (0 : Int32) y1 x16) + (own_one (6 : Int32) (1 : Int32) x3 x16)))])
    refine own_by (fun t_ k_ => XT.iconstV XT86.here hx rfl (2 : Int32) (hb hby at_208) (by decide) k_) ?_
    show own_Go p e below _ T86 (mkF m 209 #[oI i0, oI i1, oI i2, oI i3, oI (6 : Int32), oD y1, .second, oD x3, .second, oD x5, .second, oD x7, .second, oD x9, .second, oD x11, .second, oD x13, .second, oD x16, .second, oR h0.size, .unset, .unset] [(.int (2 : Int32)), (.int (6 : Int32)), (.int ((own_one (6 : Int32) (0 : Int32) y1 x16) + (own_one (6 : Int32) (1 : Int32) x3 x16)))])
    refine own_by (fun t_ k_ => XS.dload XT86.here hx rfl (hb hby at_209) rfl  k_) ?_
    show own_Go p e below _ T86 (mkF m 211 #[oI i0, oI i1, oI i2, oI i3, oI (6 : Int32), oD y1, .second, oD x3, .second, oD x5, .second, oD x7, .second, oD x9, .second, oD x11, .second, oD x13, .second, oD x16, .second, oR h0.size, .unset, .unset] [(.double x5), (.int (2 : Int32)), (.int (6 : Int32)), (.int ((own_one (6 : Int32) (0 : Int32) y1 x16) + (own_one (6 : Int32) (1 : Int32) x3 x16)))])
    refine own_by (fun t_ k_ => XS.dload XT86.here hx rfl (hb hby at_211) rfl  k_) ?_
    show own_Go p e below _ T86 (mkF m 213 #[oI i0, oI i1, oI i2, oI i3, oI (6 : Int32), oD y1, .second, oD x3, .second, oD x5, .second, oD x7, .second, oD x9, .second, oD x11, .second, oD x13, .second, oD x16, .second, oR h0.size, .unset, .unset] [(.double x16), (.double x5), (.int (2 : Int32)), (.int (6 : Int32)), (.int ((own_one (6 : Int32) (0 : Int32) y1 x16) + (own_one (6 : Int32) (1 : Int32) x3 x16)))])
    refine own_callS XT86 hx hZ hown (hw _ (List.mem_of_getElem? (i := 2) rfl)) (hw _ (List.mem_of_getElem? (i := 3) rfl)) (hw _ (List.mem_of_getElem? (i := 4) rfl)) (hw _ (List.mem_of_getElem? (i := 5) rfl)) (by decide) eT86 (argsL := [(.int (6 : Int32)), (.int (2 : Int32)), (.double x5), (.double x16)]) (rest := [(.int ((own_one (6 : Int32) (0 : Int32) y1 x16) + (own_one (6 : Int32) (1 : Int32) x3 x16)))]) (own_one_met l Z a0 hw (6 : Int32) (2 : Int32) x5 x16 hT84) 1 (by decide) (by decide) (by rw [hml]; rfl) (lenOf pd_0 rfl) (Nat.le_of_eq rfl) (hb hby at_213) (by decide) (by decide) (st := [(.double x16), (.double x5), (.int (2 : Int32)), (.int (6 : Int32)), (.int ((own_one (6 : Int32) (0 : Int32) y1 x16) + (own_one (6 : Int32) (1 : Int32) x3 x16)))]) rfl ?_
    intro T87 LT87 vT87 XT87 hQT87
    obtain ⟨rfl, eT87, rfl⟩ := hQT87
    show own_Go p e below _ T87 (mkF m 216 #[oI i0, oI i1, oI i2, oI i3, oI (6 : Int32), oD y1, .second, oD x3, .second, oD x5, .second, oD x7, .second, oD x9, .second, oD x11, .second, oD x13, .second, oD x16, .second, oR h0.size, .unset, .unset] [(.int (own_one (6 : Int32) (2 : Int32) x5 x16)), (.int ((own_one (6 : Int32) (0 : Int32) y1 x16) + (own_one (6 : Int32) (1 : Int32) x3 x16)))])
    refine own_by (fun t_ k_ => XS.iadd XT87.here hx rfl (hb hby at_216) rfl k_) ?_
    show own_Go p e below _ T87 (mkF m 217 #[oI i0, oI i1, oI i2, oI i3, oI (6 : Int32), oD y1, .second, oD x3, .second, oD x5, .second, oD x7, .second, oD x9, .second, oD x11, .second, oD x13, .second, oD x16, .second, oR h0.size, .unset, .unset] [(.int (((own_one (6 : Int32) (0 : Int32) y1 x16) + (own_one (6 : Int32) (1 : Int32) x3 x16)) + (own_one (6 : Int32) (2 : Int32) x5 x16)))])
    refine own_by (fun t_ k_ => XS.iload XT87.here hx rfl (hb hby at_217) rfl  k_) ?_
    show own_Go p e below _ T87 (mkF m 219 #[oI i0, oI i1, oI i2, oI i3, oI (6 : Int32), oD y1, .second, oD x3, .second, oD x5, .second, oD x7, .second, oD x9, .second, oD x11, .second, oD x13, .second, oD x16, .second, oR h0.size, .unset, .unset] [(.int (6 : Int32)), (.int (((own_one (6 : Int32) (0 : Int32) y1 x16) + (own_one (6 : Int32) (1 : Int32) x3 x16)) + (own_one (6 : Int32) (2 : Int32) x5 x16)))])
    refine own_by (fun t_ k_ => XT.iconstV XT87.here hx rfl (3 : Int32) (hb hby at_219) (by decide) k_) ?_
    show own_Go p e below _ T87 (mkF m 220 #[oI i0, oI i1, oI i2, oI i3, oI (6 : Int32), oD y1, .second, oD x3, .second, oD x5, .second, oD x7, .second, oD x9, .second, oD x11, .second, oD x13, .second, oD x16, .second, oR h0.size, .unset, .unset] [(.int (3 : Int32)), (.int (6 : Int32)), (.int (((own_one (6 : Int32) (0 : Int32) y1 x16) + (own_one (6 : Int32) (1 : Int32) x3 x16)) + (own_one (6 : Int32) (2 : Int32) x5 x16)))])
    refine own_by (fun t_ k_ => XS.dload XT87.here hx rfl (hb hby at_220) rfl  k_) ?_
    show own_Go p e below _ T87 (mkF m 222 #[oI i0, oI i1, oI i2, oI i3, oI (6 : Int32), oD y1, .second, oD x3, .second, oD x5, .second, oD x7, .second, oD x9, .second, oD x11, .second, oD x13, .second, oD x16, .second, oR h0.size, .unset, .unset] [(.double x7), (.int (3 : Int32)), (.int (6 : Int32)), (.int (((own_one (6 : Int32) (0 : Int32) y1 x16) + (own_one (6 : Int32) (1 : Int32) x3 x16)) + (own_one (6 : Int32) (2 : Int32) x5 x16)))])
    refine own_by (fun t_ k_ => XS.dload XT87.here hx rfl (hb hby at_222) rfl  k_) ?_
    show own_Go p e below _ T87 (mkF m 224 #[oI i0, oI i1, oI i2, oI i3, oI (6 : Int32), oD y1, .second, oD x3, .second, oD x5, .second, oD x7, .second, oD x9, .second, oD x11, .second, oD x13, .second, oD x16, .second, oR h0.size, .unset, .unset] [(.double x16), (.double x7), (.int (3 : Int32)), (.int (6 : Int32)), (.int (((own_one (6 : Int32) (0 : Int32) y1 x16) + (own_one (6 : Int32) (1 : Int32) x3 x16)) + (own_one (6 : Int32) (2 : Int32) x5 x16)))])
    refine own_callS XT87 hx hZ hown (hw _ (List.mem_of_getElem? (i := 2) rfl)) (hw _ (List.mem_of_getElem? (i := 3) rfl)) (hw _ (List.mem_of_getElem? (i := 4) rfl)) (hw _ (List.mem_of_getElem? (i := 5) rfl)) (by decide) eT87 (argsL := [(.int (6 : Int32)), (.int (3 : Int32)), (.double x7), (.double x16)]) (rest := [(.int (((own_one (6 : Int32) (0 : Int32) y1 x16) + (own_one (6 : Int32) (1 : Int32) x3 x16)) + (own_one (6 : Int32) (2 : Int32) x5 x16)))]) (own_one_met l Z a0 hw (6 : Int32) (3 : Int32) x7 x16 hT84) 1 (by decide) (by decide) (by rw [hml]; rfl) (lenOf pd_0 rfl) (Nat.le_of_eq rfl) (hb hby at_224) (by decide) (by decide) (st := [(.double x16), (.double x7), (.int (3 : Int32)), (.int (6 : Int32)), (.int (((own_one (6 : Int32) (0 : Int32) y1 x16) + (own_one (6 : Int32) (1 : Int32) x3 x16)) + (own_one (6 : Int32) (2 : Int32) x5 x16)))]) rfl ?_
    intro T88 LT88 vT88 XT88 hQT88
    obtain ⟨rfl, eT88, rfl⟩ := hQT88
    show own_Go p e below _ T88 (mkF m 227 #[oI i0, oI i1, oI i2, oI i3, oI (6 : Int32), oD y1, .second, oD x3, .second, oD x5, .second, oD x7, .second, oD x9, .second, oD x11, .second, oD x13, .second, oD x16, .second, oR h0.size, .unset, .unset] [(.int (own_one (6 : Int32) (3 : Int32) x7 x16)), (.int (((own_one (6 : Int32) (0 : Int32) y1 x16) + (own_one (6 : Int32) (1 : Int32) x3 x16)) + (own_one (6 : Int32) (2 : Int32) x5 x16)))])
    refine own_by (fun t_ k_ => XS.iadd XT88.here hx rfl (hb hby at_227) rfl k_) ?_
    show own_Go p e below _ T88 (mkF m 228 #[oI i0, oI i1, oI i2, oI i3, oI (6 : Int32), oD y1, .second, oD x3, .second, oD x5, .second, oD x7, .second, oD x9, .second, oD x11, .second, oD x13, .second, oD x16, .second, oR h0.size, .unset, .unset] [(.int ((((own_one (6 : Int32) (0 : Int32) y1 x16) + (own_one (6 : Int32) (1 : Int32) x3 x16)) + (own_one (6 : Int32) (2 : Int32) x5 x16)) + (own_one (6 : Int32) (3 : Int32) x7 x16)))])
    refine own_by (fun t_ k_ => XS.iload XT88.here hx rfl (hb hby at_228) rfl  k_) ?_
    show own_Go p e below _ T88 (mkF m 230 #[oI i0, oI i1, oI i2, oI i3, oI (6 : Int32), oD y1, .second, oD x3, .second, oD x5, .second, oD x7, .second, oD x9, .second, oD x11, .second, oD x13, .second, oD x16, .second, oR h0.size, .unset, .unset] [(.int (6 : Int32)), (.int ((((own_one (6 : Int32) (0 : Int32) y1 x16) + (own_one (6 : Int32) (1 : Int32) x3 x16)) + (own_one (6 : Int32) (2 : Int32) x5 x16)) + (own_one (6 : Int32) (3 : Int32) x7 x16)))])
    refine own_by (fun t_ k_ => XT.iconstV XT88.here hx rfl (4 : Int32) (hb hby at_230) (by decide) k_) ?_
    show own_Go p e below _ T88 (mkF m 231 #[oI i0, oI i1, oI i2, oI i3, oI (6 : Int32), oD y1, .second, oD x3, .second, oD x5, .second, oD x7, .second, oD x9, .second, oD x11, .second, oD x13, .second, oD x16, .second, oR h0.size, .unset, .unset] [(.int (4 : Int32)), (.int (6 : Int32)), (.int ((((own_one (6 : Int32) (0 : Int32) y1 x16) + (own_one (6 : Int32) (1 : Int32) x3 x16)) + (own_one (6 : Int32) (2 : Int32) x5 x16)) + (own_one (6 : Int32) (3 : Int32) x7 x16)))])
    refine own_by (fun t_ k_ => XS.dload XT88.here hx rfl (hb hby at_231) rfl  k_) ?_
    show own_Go p e below _ T88 (mkF m 233 #[oI i0, oI i1, oI i2, oI i3, oI (6 : Int32), oD y1, .second, oD x3, .second, oD x5, .second, oD x7, .second, oD x9, .second, oD x11, .second, oD x13, .second, oD x16, .second, oR h0.size, .unset, .unset] [(.double x9), (.int (4 : Int32)), (.int (6 : Int32)), (.int ((((own_one (6 : Int32) (0 : Int32) y1 x16) + (own_one (6 : Int32) (1 : Int32) x3 x16)) + (own_one (6 : Int32) (2 : Int32) x5 x16)) + (own_one (6 : Int32) (3 : Int32) x7 x16)))])
    refine own_by (fun t_ k_ => XS.dload XT88.here hx rfl (hb hby at_233) rfl  k_) ?_
    show own_Go p e below _ T88 (mkF m 235 #[oI i0, oI i1, oI i2, oI i3, oI (6 : Int32), oD y1, .second, oD x3, .second, oD x5, .second, oD x7, .second, oD x9, .second, oD x11, .second, oD x13, .second, oD x16, .second, oR h0.size, .unset, .unset] [(.double x16), (.double x9), (.int (4 : Int32)), (.int (6 : Int32)), (.int ((((own_one (6 : Int32) (0 : Int32) y1 x16) + (own_one (6 : Int32) (1 : Int32) x3 x16)) + (own_one (6 : Int32) (2 : Int32) x5 x16)) + (own_one (6 : Int32) (3 : Int32) x7 x16)))])
    refine own_callS XT88 hx hZ hown (hw _ (List.mem_of_getElem? (i := 2) rfl)) (hw _ (List.mem_of_getElem? (i := 3) rfl)) (hw _ (List.mem_of_getElem? (i := 4) rfl)) (hw _ (List.mem_of_getElem? (i := 5) rfl)) (by decide) eT88 (argsL := [(.int (6 : Int32)), (.int (4 : Int32)), (.double x9), (.double x16)]) (rest := [(.int ((((own_one (6 : Int32) (0 : Int32) y1 x16) + (own_one (6 : Int32) (1 : Int32) x3 x16)) + (own_one (6 : Int32) (2 : Int32) x5 x16)) + (own_one (6 : Int32) (3 : Int32) x7 x16)))]) (own_one_met l Z a0 hw (6 : Int32) (4 : Int32) x9 x16 hT84) 1 (by decide) (by decide) (by rw [hml]; rfl) (lenOf pd_0 rfl) (Nat.le_of_eq rfl) (hb hby at_235) (by decide) (by decide) (st := [(.double x16), (.double x9), (.int (4 : Int32)), (.int (6 : Int32)), (.int ((((own_one (6 : Int32) (0 : Int32) y1 x16) + (own_one (6 : Int32) (1 : Int32) x3 x16)) + (own_one (6 : Int32) (2 : Int32) x5 x16)) + (own_one (6 : Int32) (3 : Int32) x7 x16)))]) rfl ?_
    intro T89 LT89 vT89 XT89 hQT89
    obtain ⟨rfl, eT89, rfl⟩ := hQT89
    show own_Go p e below _ T89 (mkF m 238 #[oI i0, oI i1, oI i2, oI i3, oI (6 : Int32), oD y1, .second, oD x3, .second, oD x5, .second, oD x7, .second, oD x9, .second, oD x11, .second, oD x13, .second, oD x16, .second, oR h0.size, .unset, .unset] [(.int (own_one (6 : Int32) (4 : Int32) x9 x16)), (.int ((((own_one (6 : Int32) (0 : Int32) y1 x16) + (own_one (6 : Int32) (1 : Int32) x3 x16)) + (own_one (6 : Int32) (2 : Int32) x5 x16)) + (own_one (6 : Int32) (3 : Int32) x7 x16)))])
    refine own_by (fun t_ k_ => XS.iadd XT89.here hx rfl (hb hby at_238) rfl k_) ?_
    show own_Go p e below _ T89 (mkF m 239 #[oI i0, oI i1, oI i2, oI i3, oI (6 : Int32), oD y1, .second, oD x3, .second, oD x5, .second, oD x7, .second, oD x9, .second, oD x11, .second, oD x13, .second, oD x16, .second, oR h0.size, .unset, .unset] [(.int (((((own_one (6 : Int32) (0 : Int32) y1 x16) + (own_one (6 : Int32) (1 : Int32) x3 x16)) + (own_one (6 : Int32) (2 : Int32) x5 x16)) + (own_one (6 : Int32) (3 : Int32) x7 x16)) + (own_one (6 : Int32) (4 : Int32) x9 x16)))])
    refine own_by (fun t_ k_ => XS.iload XT89.here hx rfl (hb hby at_239) rfl  k_) ?_
    show own_Go p e below _ T89 (mkF m 241 #[oI i0, oI i1, oI i2, oI i3, oI (6 : Int32), oD y1, .second, oD x3, .second, oD x5, .second, oD x7, .second, oD x9, .second, oD x11, .second, oD x13, .second, oD x16, .second, oR h0.size, .unset, .unset] [(.int (6 : Int32)), (.int (((((own_one (6 : Int32) (0 : Int32) y1 x16) + (own_one (6 : Int32) (1 : Int32) x3 x16)) + (own_one (6 : Int32) (2 : Int32) x5 x16)) + (own_one (6 : Int32) (3 : Int32) x7 x16)) + (own_one (6 : Int32) (4 : Int32) x9 x16)))])
    refine own_by (fun t_ k_ => XT.iconstV XT89.here hx rfl (5 : Int32) (hb hby at_241) (by decide) k_) ?_
    show own_Go p e below _ T89 (mkF m 242 #[oI i0, oI i1, oI i2, oI i3, oI (6 : Int32), oD y1, .second, oD x3, .second, oD x5, .second, oD x7, .second, oD x9, .second, oD x11, .second, oD x13, .second, oD x16, .second, oR h0.size, .unset, .unset] [(.int (5 : Int32)), (.int (6 : Int32)), (.int (((((own_one (6 : Int32) (0 : Int32) y1 x16) + (own_one (6 : Int32) (1 : Int32) x3 x16)) + (own_one (6 : Int32) (2 : Int32) x5 x16)) + (own_one (6 : Int32) (3 : Int32) x7 x16)) + (own_one (6 : Int32) (4 : Int32) x9 x16)))])
    refine own_by (fun t_ k_ => XS.dload XT89.here hx rfl (hb hby at_242) rfl  k_) ?_
    show own_Go p e below _ T89 (mkF m 244 #[oI i0, oI i1, oI i2, oI i3, oI (6 : Int32), oD y1, .second, oD x3, .second, oD x5, .second, oD x7, .second, oD x9, .second, oD x11, .second, oD x13, .second, oD x16, .second, oR h0.size, .unset, .unset] [(.double x11), (.int (5 : Int32)), (.int (6 : Int32)), (.int (((((own_one (6 : Int32) (0 : Int32) y1 x16) + (own_one (6 : Int32) (1 : Int32) x3 x16)) + (own_one (6 : Int32) (2 : Int32) x5 x16)) + (own_one (6 : Int32) (3 : Int32) x7 x16)) + (own_one (6 : Int32) (4 : Int32) x9 x16)))])
    refine own_by (fun t_ k_ => XS.dload XT89.here hx rfl (hb hby at_244) rfl  k_) ?_
    show own_Go p e below _ T89 (mkF m 246 #[oI i0, oI i1, oI i2, oI i3, oI (6 : Int32), oD y1, .second, oD x3, .second, oD x5, .second, oD x7, .second, oD x9, .second, oD x11, .second, oD x13, .second, oD x16, .second, oR h0.size, .unset, .unset] [(.double x16), (.double x11), (.int (5 : Int32)), (.int (6 : Int32)), (.int (((((own_one (6 : Int32) (0 : Int32) y1 x16) + (own_one (6 : Int32) (1 : Int32) x3 x16)) + (own_one (6 : Int32) (2 : Int32) x5 x16)) + (own_one (6 : Int32) (3 : Int32) x7 x16)) + (own_one (6 : Int32) (4 : Int32) x9 x16)))])
    refine own_callS XT89 hx hZ hown (hw _ (List.mem_of_getElem? (i := 2) rfl)) (hw _ (List.mem_of_getElem? (i := 3) rfl)) (hw _ (List.mem_of_getElem? (i := 4) rfl)) (hw _ (List.mem_of_getElem? (i := 5) rfl)) (by decide) eT89 (argsL := [(.int (6 : Int32)), (.int (5 : Int32)), (.double x11), (.double x16)]) (rest := [(.int (((((own_one (6 : Int32) (0 : Int32) y1 x16) + (own_one (6 : Int32) (1 : Int32) x3 x16)) + (own_one (6 : Int32) (2 : Int32) x5 x16)) + (own_one (6 : Int32) (3 : Int32) x7 x16)) + (own_one (6 : Int32) (4 : Int32) x9 x16)))]) (own_one_met l Z a0 hw (6 : Int32) (5 : Int32) x11 x16 hT84) 1 (by decide) (by decide) (by rw [hml]; rfl) (lenOf pd_0 rfl) (Nat.le_of_eq rfl) (hb hby at_246) (by decide) (by decide) (st := [(.double x16), (.double x11), (.int (5 : Int32)), (.int (6 : Int32)), (.int (((((own_one (6 : Int32) (0 : Int32) y1 x16) + (own_one (6 : Int32) (1 : Int32) x3 x16)) + (own_one (6 : Int32) (2 : Int32) x5 x16)) + (own_one (6 : Int32) (3 : Int32) x7 x16)) + (own_one (6 : Int32) (4 : Int32) x9 x16)))]) rfl ?_
    intro T90 LT90 vT90 XT90 hQT90
    obtain ⟨rfl, eT90, rfl⟩ := hQT90
    show own_Go p e below _ T90 (mkF m 249 #[oI i0, oI i1, oI i2, oI i3, oI (6 : Int32), oD y1, .second, oD x3, .second, oD x5, .second, oD x7, .second, oD x9, .second, oD x11, .second, oD x13, .second, oD x16, .second, oR h0.size, .unset, .unset] [(.int (own_one (6 : Int32) (5 : Int32) x11 x16)), (.int (((((own_one (6 : Int32) (0 : Int32) y1 x16) + (own_one (6 : Int32) (1 : Int32) x3 x16)) + (own_one (6 : Int32) (2 : Int32) x5 x16)) + (own_one (6 : Int32) (3 : Int32) x7 x16)) + (own_one (6 : Int32) (4 : Int32) x9 x16)))])
    refine own_by (fun t_ k_ => XS.iadd XT90.here hx rfl (hb hby at_249) rfl k_) ?_
    show own_Go p e below _ T90 (mkF m 250 #[oI i0, oI i1, oI i2, oI i3, oI (6 : Int32), oD y1, .second, oD x3, .second, oD x5, .second, oD x7, .second, oD x9, .second, oD x11, .second, oD x13, .second, oD x16, .second, oR h0.size, .unset, .unset] [(.int ((((((own_one (6 : Int32) (0 : Int32) y1 x16) + (own_one (6 : Int32) (1 : Int32) x3 x16)) + (own_one (6 : Int32) (2 : Int32) x5 x16)) + (own_one (6 : Int32) (3 : Int32) x7 x16)) + (own_one (6 : Int32) (4 : Int32) x9 x16)) + (own_one (6 : Int32) (5 : Int32) x11 x16)))])
    refine own_by (fun t_ k_ => XS.iload XT90.here hx rfl (hb hby at_250) rfl  k_) ?_
    show own_Go p e below _ T90 (mkF m 252 #[oI i0, oI i1, oI i2, oI i3, oI (6 : Int32), oD y1, .second, oD x3, .second, oD x5, .second, oD x7, .second, oD x9, .second, oD x11, .second, oD x13, .second, oD x16, .second, oR h0.size, .unset, .unset] [(.int (6 : Int32)), (.int ((((((own_one (6 : Int32) (0 : Int32) y1 x16) + (own_one (6 : Int32) (1 : Int32) x3 x16)) + (own_one (6 : Int32) (2 : Int32) x5 x16)) + (own_one (6 : Int32) (3 : Int32) x7 x16)) + (own_one (6 : Int32) (4 : Int32) x9 x16)) + (own_one (6 : Int32) (5 : Int32) x11 x16)))])
    refine own_by (fun t_ k_ => XT.bipushV XT90.here hx rfl (6 : Int32) (hb hby at_252) (by decide) k_) ?_
    show own_Go p e below _ T90 (mkF m 254 #[oI i0, oI i1, oI i2, oI i3, oI (6 : Int32), oD y1, .second, oD x3, .second, oD x5, .second, oD x7, .second, oD x9, .second, oD x11, .second, oD x13, .second, oD x16, .second, oR h0.size, .unset, .unset] [(.int (6 : Int32)), (.int (6 : Int32)), (.int ((((((own_one (6 : Int32) (0 : Int32) y1 x16) + (own_one (6 : Int32) (1 : Int32) x3 x16)) + (own_one (6 : Int32) (2 : Int32) x5 x16)) + (own_one (6 : Int32) (3 : Int32) x7 x16)) + (own_one (6 : Int32) (4 : Int32) x9 x16)) + (own_one (6 : Int32) (5 : Int32) x11 x16)))])
    refine own_by (fun t_ k_ => XS.dload XT90.here hx rfl (hb hby at_254) rfl  k_) ?_
    show own_Go p e below _ T90 (mkF m 256 #[oI i0, oI i1, oI i2, oI i3, oI (6 : Int32), oD y1, .second, oD x3, .second, oD x5, .second, oD x7, .second, oD x9, .second, oD x11, .second, oD x13, .second, oD x16, .second, oR h0.size, .unset, .unset] [(.double x13), (.int (6 : Int32)), (.int (6 : Int32)), (.int ((((((own_one (6 : Int32) (0 : Int32) y1 x16) + (own_one (6 : Int32) (1 : Int32) x3 x16)) + (own_one (6 : Int32) (2 : Int32) x5 x16)) + (own_one (6 : Int32) (3 : Int32) x7 x16)) + (own_one (6 : Int32) (4 : Int32) x9 x16)) + (own_one (6 : Int32) (5 : Int32) x11 x16)))])
    refine own_by (fun t_ k_ => XS.dload XT90.here hx rfl (hb hby at_256) rfl  k_) ?_
    show own_Go p e below _ T90 (mkF m 258 #[oI i0, oI i1, oI i2, oI i3, oI (6 : Int32), oD y1, .second, oD x3, .second, oD x5, .second, oD x7, .second, oD x9, .second, oD x11, .second, oD x13, .second, oD x16, .second, oR h0.size, .unset, .unset] [(.double x16), (.double x13), (.int (6 : Int32)), (.int (6 : Int32)), (.int ((((((own_one (6 : Int32) (0 : Int32) y1 x16) + (own_one (6 : Int32) (1 : Int32) x3 x16)) + (own_one (6 : Int32) (2 : Int32) x5 x16)) + (own_one (6 : Int32) (3 : Int32) x7 x16)) + (own_one (6 : Int32) (4 : Int32) x9 x16)) + (own_one (6 : Int32) (5 : Int32) x11 x16)))])
    refine own_callS XT90 hx hZ hown (hw _ (List.mem_of_getElem? (i := 2) rfl)) (hw _ (List.mem_of_getElem? (i := 3) rfl)) (hw _ (List.mem_of_getElem? (i := 4) rfl)) (hw _ (List.mem_of_getElem? (i := 5) rfl)) (by decide) eT90 (argsL := [(.int (6 : Int32)), (.int (6 : Int32)), (.double x13), (.double x16)]) (rest := [(.int ((((((own_one (6 : Int32) (0 : Int32) y1 x16) + (own_one (6 : Int32) (1 : Int32) x3 x16)) + (own_one (6 : Int32) (2 : Int32) x5 x16)) + (own_one (6 : Int32) (3 : Int32) x7 x16)) + (own_one (6 : Int32) (4 : Int32) x9 x16)) + (own_one (6 : Int32) (5 : Int32) x11 x16)))]) (own_one_met l Z a0 hw (6 : Int32) (6 : Int32) x13 x16 hT84) 1 (by decide) (by decide) (by rw [hml]; rfl) (lenOf pd_0 rfl) (Nat.le_of_eq rfl) (hb hby at_258) (by decide) (by decide) (st := [(.double x16), (.double x13), (.int (6 : Int32)), (.int (6 : Int32)), (.int ((((((own_one (6 : Int32) (0 : Int32) y1 x16) + (own_one (6 : Int32) (1 : Int32) x3 x16)) + (own_one (6 : Int32) (2 : Int32) x5 x16)) + (own_one (6 : Int32) (3 : Int32) x7 x16)) + (own_one (6 : Int32) (4 : Int32) x9 x16)) + (own_one (6 : Int32) (5 : Int32) x11 x16)))]) rfl ?_
    intro T91 LT91 vT91 XT91 hQT91
    obtain ⟨rfl, eT91, rfl⟩ := hQT91
    show own_Go p e below _ T91 (mkF m 261 #[oI i0, oI i1, oI i2, oI i3, oI (6 : Int32), oD y1, .second, oD x3, .second, oD x5, .second, oD x7, .second, oD x9, .second, oD x11, .second, oD x13, .second, oD x16, .second, oR h0.size, .unset, .unset] [(.int (own_one (6 : Int32) (6 : Int32) x13 x16)), (.int ((((((own_one (6 : Int32) (0 : Int32) y1 x16) + (own_one (6 : Int32) (1 : Int32) x3 x16)) + (own_one (6 : Int32) (2 : Int32) x5 x16)) + (own_one (6 : Int32) (3 : Int32) x7 x16)) + (own_one (6 : Int32) (4 : Int32) x9 x16)) + (own_one (6 : Int32) (5 : Int32) x11 x16)))])
    refine own_by (fun t_ k_ => XS.iadd XT91.here hx rfl (hb hby at_261) rfl k_) ?_
    show own_Go p e below _ T91 (mkF m 262 #[oI i0, oI i1, oI i2, oI i3, oI (6 : Int32), oD y1, .second, oD x3, .second, oD x5, .second, oD x7, .second, oD x9, .second, oD x11, .second, oD x13, .second, oD x16, .second, oR h0.size, .unset, .unset] [(.int (((((((own_one (6 : Int32) (0 : Int32) y1 x16) + (own_one (6 : Int32) (1 : Int32) x3 x16)) + (own_one (6 : Int32) (2 : Int32) x5 x16)) + (own_one (6 : Int32) (3 : Int32) x7 x16)) + (own_one (6 : Int32) (4 : Int32) x9 x16)) + (own_one (6 : Int32) (5 : Int32) x11 x16)) + (own_one (6 : Int32) (6 : Int32) x13 x16)))])
    refine own_by (fun t_ k_ => XS.istore XT91.here hx rfl (hb hby at_262) rfl (l' := #[oI i0, oI i1, oI i2, oI i3, oI (6 : Int32), oD y1, .second, oD x3, .second, oD x5, .second, oD x7, .second, oD x9, .second, oD x11, .second, oD x13, .second, oD x16, .second, oR h0.size, oI (((((((own_one (6 : Int32) (0 : Int32) y1 x16) + (own_one (6 : Int32) (1 : Int32) x3 x16)) + (own_one (6 : Int32) (2 : Int32) x5 x16)) + (own_one (6 : Int32) (3 : Int32) x7 x16)) + (own_one (6 : Int32) (4 : Int32) x9 x16)) + (own_one (6 : Int32) (5 : Int32) x11 x16)) + (own_one (6 : Int32) (6 : Int32) x13 x16)), .unset]) rfl k_) ?_
    show own_Go p e below _ T91 (mkF m 264 #[oI i0, oI i1, oI i2, oI i3, oI (6 : Int32), oD y1, .second, oD x3, .second, oD x5, .second, oD x7, .second, oD x9, .second, oD x11, .second, oD x13, .second, oD x16, .second, oR h0.size, oI (((((((own_one (6 : Int32) (0 : Int32) y1 x16) + (own_one (6 : Int32) (1 : Int32) x3 x16)) + (own_one (6 : Int32) (2 : Int32) x5 x16)) + (own_one (6 : Int32) (3 : Int32) x7 x16)) + (own_one (6 : Int32) (4 : Int32) x9 x16)) + (own_one (6 : Int32) (5 : Int32) x11 x16)) + (own_one (6 : Int32) (6 : Int32) x13 x16)), .unset] [])
    refine own_by (fun t_ k_ => XS.aload XT91.here hx rfl (hb hby at_264) rfl rfl  k_) ?_
    show own_Go p e below _ T91 (mkF m 266 #[oI i0, oI i1, oI i2, oI i3, oI (6 : Int32), oD y1, .second, oD x3, .second, oD x5, .second, oD x7, .second, oD x9, .second, oD x11, .second, oD x13, .second, oD x16, .second, oR h0.size, oI (((((((own_one (6 : Int32) (0 : Int32) y1 x16) + (own_one (6 : Int32) (1 : Int32) x3 x16)) + (own_one (6 : Int32) (2 : Int32) x5 x16)) + (own_one (6 : Int32) (3 : Int32) x7 x16)) + (own_one (6 : Int32) (4 : Int32) x9 x16)) + (own_one (6 : Int32) (5 : Int32) x11 x16)) + (own_one (6 : Int32) (6 : Int32) x13 x16)), .unset] [(.ref h0.size)])
    refine own_by (fun t_ k_ => XS.dload XT91.here hx rfl (hb hby at_266) rfl  k_) ?_
    show own_Go p e below _ T91 (mkF m 268 #[oI i0, oI i1, oI i2, oI i3, oI (6 : Int32), oD y1, .second, oD x3, .second, oD x5, .second, oD x7, .second, oD x9, .second, oD x11, .second, oD x13, .second, oD x16, .second, oR h0.size, oI (((((((own_one (6 : Int32) (0 : Int32) y1 x16) + (own_one (6 : Int32) (1 : Int32) x3 x16)) + (own_one (6 : Int32) (2 : Int32) x5 x16)) + (own_one (6 : Int32) (3 : Int32) x7 x16)) + (own_one (6 : Int32) (4 : Int32) x9 x16)) + (own_one (6 : Int32) (5 : Int32) x11 x16)) + (own_one (6 : Int32) (6 : Int32) x13 x16)), .unset] [(.double x16), (.ref h0.size)])
    refine own_callS XT91 hx hZ hown (hw _ (List.mem_of_getElem? (i := 6) rfl)) (hw _ (List.mem_of_getElem? (i := 7) rfl)) (hw _ (List.mem_of_getElem? (i := 8) rfl)) (hw _ (List.mem_of_getElem? (i := 9) rfl)) (by decide) eT91 (argsL := [(.ref h0.size), (.double x16)]) (rest := []) (own_cb6_met l Z a0 hw h0.size x16 kA y1 x3 x5 x7 x9 x11 hT84 VT84) 0 (by decide) (by decide) (by rw [hml]; rfl) (lenOf pd_1 rfl) (Nat.le_of_eq rfl) (hb hby at_268) (by decide) (by decide) (st := [(.double x16), (.ref h0.size)]) rfl ?_
    intro T92 LT92 vT92 XT92 hQT92
    obtain ⟨rfl, eT92, rfl⟩ := hQT92
    show own_Go p e below _ T92 (mkF m 271 #[oI i0, oI i1, oI i2, oI i3, oI (6 : Int32), oD y1, .second, oD x3, .second, oD x5, .second, oD x7, .second, oD x9, .second, oD x11, .second, oD x13, .second, oD x16, .second, oR h0.size, oI (((((((own_one (6 : Int32) (0 : Int32) y1 x16) + (own_one (6 : Int32) (1 : Int32) x3 x16)) + (own_one (6 : Int32) (2 : Int32) x5 x16)) + (own_one (6 : Int32) (3 : Int32) x7 x16)) + (own_one (6 : Int32) (4 : Int32) x9 x16)) + (own_one (6 : Int32) (5 : Int32) x11 x16)) + (own_one (6 : Int32) (6 : Int32) x13 x16)), .unset] [(.int (own_cb6 h0.size x16 kA y1 x3 x5 x7 x9 x11))])
    refine own_by (fun t_ k_ => XS.istore XT92.here hx rfl (hb hby at_271) rfl (l' := #[oI i0, oI i1, oI i2, oI i3, oI (6 : Int32), oD y1, .second, oD x3, .second, oD x5, .second, oD x7, .second, oD x9, .second, oD x11, .second, oD x13, .second, oD x16, .second, oR h0.size, oI (((((((own_one (6 : Int32) (0 : Int32) y1 x16) + (own_one (6 : Int32) (1 : Int32) x3 x16)) + (own_one (6 : Int32) (2 : Int32) x5 x16)) + (own_one (6 : Int32) (3 : Int32) x7 x16)) + (own_one (6 : Int32) (4 : Int32) x9 x16)) + (own_one (6 : Int32) (5 : Int32) x11 x16)) + (own_one (6 : Int32) (6 : Int32) x13 x16)), oI (own_cb6 h0.size x16 kA y1 x3 x5 x7 x9 x11)]) rfl k_) ?_
    show own_Go p e below _ T92 (mkF m 273 #[oI i0, oI i1, oI i2, oI i3, oI (6 : Int32), oD y1, .second, oD x3, .second, oD x5, .second, oD x7, .second, oD x9, .second, oD x11, .second, oD x13, .second, oD x16, .second, oR h0.size, oI (((((((own_one (6 : Int32) (0 : Int32) y1 x16) + (own_one (6 : Int32) (1 : Int32) x3 x16)) + (own_one (6 : Int32) (2 : Int32) x5 x16)) + (own_one (6 : Int32) (3 : Int32) x7 x16)) + (own_one (6 : Int32) (4 : Int32) x9 x16)) + (own_one (6 : Int32) (5 : Int32) x11 x16)) + (own_one (6 : Int32) (6 : Int32) x13 x16)), oI (own_cb6 h0.size x16 kA y1 x3 x5 x7 x9 x11)] [])
    refine own_by (fun t_ k_ => XS.iload XT92.here hx rfl (hb hby at_273) rfl  k_) ?_
    show own_Go p e below _ T92 (mkF m 275 #[oI i0, oI i1, oI i2, oI i3, oI (6 : Int32), oD y1, .second, oD x3, .second, oD x5, .second, oD x7, .second, oD x9, .second, oD x11, .second, oD x13, .second, oD x16, .second, oR h0.size, oI (((((((own_one (6 : Int32) (0 : Int32) y1 x16) + (own_one (6 : Int32) (1 : Int32) x3 x16)) + (own_one (6 : Int32) (2 : Int32) x5 x16)) + (own_one (6 : Int32) (3 : Int32) x7 x16)) + (own_one (6 : Int32) (4 : Int32) x9 x16)) + (own_one (6 : Int32) (5 : Int32) x11 x16)) + (own_one (6 : Int32) (6 : Int32) x13 x16)), oI (own_cb6 h0.size x16 kA y1 x3 x5 x7 x9 x11)] [(.int (own_cb6 h0.size x16 kA y1 x3 x5 x7 x9 x11))])
    refine own_by (fun t_ k_ => XS.iload XT92.here hx rfl (hb hby at_275) rfl  k_) ?_
    show own_Go p e below _ T92 (mkF m 277 #[oI i0, oI i1, oI i2, oI i3, oI (6 : Int32), oD y1, .second, oD x3, .second, oD x5, .second, oD x7, .second, oD x9, .second, oD x11, .second, oD x13, .second, oD x16, .second, oR h0.size, oI (((((((own_one (6 : Int32) (0 : Int32) y1 x16) + (own_one (6 : Int32) (1 : Int32) x3 x16)) + (own_one (6 : Int32) (2 : Int32) x5 x16)) + (own_one (6 : Int32) (3 : Int32) x7 x16)) + (own_one (6 : Int32) (4 : Int32) x9 x16)) + (own_one (6 : Int32) (5 : Int32) x11 x16)) + (own_one (6 : Int32) (6 : Int32) x13 x16)), oI (own_cb6 h0.size x16 kA y1 x3 x5 x7 x9 x11)] [(.int (((((((own_one (6 : Int32) (0 : Int32) y1 x16) + (own_one (6 : Int32) (1 : Int32) x3 x16)) + (own_one (6 : Int32) (2 : Int32) x5 x16)) + (own_one (6 : Int32) (3 : Int32) x7 x16)) + (own_one (6 : Int32) (4 : Int32) x9 x16)) + (own_one (6 : Int32) (5 : Int32) x11 x16)) + (own_one (6 : Int32) (6 : Int32) x13 x16))), (.int (own_cb6 h0.size x16 kA y1 x3 x5 x7 x9 x11))])
    have C0 := own_D_cmp (own_D_up Dy1 1) D8
    have C1 := own_D_cmp (own_D_up D1 1) D8
    have C2 := own_D_cmp (own_D_up D2 1) D8
    have C3 := own_D_cmp (own_D_up D3 1) D8
    have C4 := own_D_cmp (own_D_up D4 1) D8
    have C5 := own_D_cmp (own_D_up D5 1) D8
    simp only [show ((2 ^ 1 : Nat) : Int) = 2 from rfl] at C0 C1 C2 C3 C4 C5
    have hfin : (own_cb6 h0.size x16 kA y1 x3 x5 x7 x9 x11) = (((((((own_one (6 : Int32) (0 : Int32) y1 x16) + (own_one (6 : Int32) (1 : Int32) x3 x16)) + (own_one (6 : Int32) (2 : Int32) x5 x16)) + (own_one (6 : Int32) (3 : Int32) x7 x16)) + (own_one (6 : Int32) (4 : Int32) x9 x16)) + (own_one (6 : Int32) (5 : Int32) x11 x16)) + (own_one (6 : Int32) (6 : Int32) x13 x16)) := by
      by_cases q0 : (0 : Int32) < (cmpValue (FP.dcmp y1 x16) .g)
      · have c0 : (0 : Int32) < (cmpValue (FP.dcmp y1 x16) .g) := q0
        have c1 : (0 : Int32) < (cmpValue (FP.dcmp x3 x16) .g) := own_cmp_gt C1 (Decidable.byContradiction fun z => (own_cmp_ngt C0 (by omega)) q0)
        have c2 : (0 : Int32) < (cmpValue (FP.dcmp x5 x16) .g) := own_cmp_gt C2 (Decidable.byContradiction fun z => (own_cmp_ngt C0 (by omega)) q0)
        have c3 : (0 : Int32) < (cmpValue (FP.dcmp x7 x16) .g) := own_cmp_gt C3 (Decidable.byContradiction fun z => (own_cmp_ngt C0 (by omega)) q0)
        have c4 : (0 : Int32) < (cmpValue (FP.dcmp x9 x16) .g) := own_cmp_gt C4 (Decidable.byContradiction fun z => (own_cmp_ngt C0 (by omega)) q0)
        have c5 : (0 : Int32) < (cmpValue (FP.dcmp x11 x16) .g) := own_cmp_gt C5 (Decidable.byContradiction fun z => (own_cmp_ngt C0 (by omega)) q0)
        rw [show own_cb6 h0.size x16 kA y1 x3 x5 x7 x9 x11 = (0 : Int32) by rw [own_cb6, if_pos c3, if_pos c1, if_pos c0], show own_one (6 : Int32) (0 : Int32) y1 x16 = (0 : Int32) by rw [own_one, if_pos (by decide), if_pos c0], show own_one (6 : Int32) (1 : Int32) x3 x16 = (0 : Int32) by rw [own_one, if_pos (by decide), if_pos c1], show own_one (6 : Int32) (2 : Int32) x5 x16 = (0 : Int32) by rw [own_one, if_pos (by decide), if_pos c2], show own_one (6 : Int32) (3 : Int32) x7 x16 = (0 : Int32) by rw [own_one, if_pos (by decide), if_pos c3], show own_one (6 : Int32) (4 : Int32) x9 x16 = (0 : Int32) by rw [own_one, if_pos (by decide), if_pos c4], show own_one (6 : Int32) (5 : Int32) x11 x16 = (0 : Int32) by rw [own_one, if_pos (by decide), if_pos c5], show own_one (6 : Int32) (6 : Int32) x13 x16 = (0 : Int32) by rw [own_one, if_neg (by decide)]]
        decide
      · by_cases q1 : (0 : Int32) < (cmpValue (FP.dcmp x3 x16) .g)
        · have c0 : ¬ (0 : Int32) < (cmpValue (FP.dcmp y1 x16) .g) := q0
          have c1 : (0 : Int32) < (cmpValue (FP.dcmp x3 x16) .g) := q1
          have c2 : (0 : Int32) < (cmpValue (FP.dcmp x5 x16) .g) := own_cmp_gt C2 (Decidable.byContradiction fun z => (own_cmp_ngt C1 (by omega)) q1)
          have c3 : (0 : Int32) < (cmpValue (FP.dcmp x7 x16) .g) := own_cmp_gt C3 (Decidable.byContradiction fun z => (own_cmp_ngt C1 (by omega)) q1)
          have c4 : (0 : Int32) < (cmpValue (FP.dcmp x9 x16) .g) := own_cmp_gt C4 (Decidable.byContradiction fun z => (own_cmp_ngt C1 (by omega)) q1)
          have c5 : (0 : Int32) < (cmpValue (FP.dcmp x11 x16) .g) := own_cmp_gt C5 (Decidable.byContradiction fun z => (own_cmp_ngt C1 (by omega)) q1)
          rw [show own_cb6 h0.size x16 kA y1 x3 x5 x7 x9 x11 = (1 : Int32) by rw [own_cb6, if_pos c3, if_pos c1, if_neg c0], show own_one (6 : Int32) (0 : Int32) y1 x16 = (1 : Int32) by rw [own_one, if_pos (by decide), if_neg c0], show own_one (6 : Int32) (1 : Int32) x3 x16 = (0 : Int32) by rw [own_one, if_pos (by decide), if_pos c1], show own_one (6 : Int32) (2 : Int32) x5 x16 = (0 : Int32) by rw [own_one, if_pos (by decide), if_pos c2], show own_one (6 : Int32) (3 : Int32) x7 x16 = (0 : Int32) by rw [own_one, if_pos (by decide), if_pos c3], show own_one (6 : Int32) (4 : Int32) x9 x16 = (0 : Int32) by rw [own_one, if_pos (by decide), if_pos c4], show own_one (6 : Int32) (5 : Int32) x11 x16 = (0 : Int32) by rw [own_one, if_pos (by decide), if_pos c5], show own_one (6 : Int32) (6 : Int32) x13 x16 = (0 : Int32) by rw [own_one, if_neg (by decide)]]
          decide
        · by_cases q2 : (0 : Int32) < (cmpValue (FP.dcmp x5 x16) .g)
          · have c0 : ¬ (0 : Int32) < (cmpValue (FP.dcmp y1 x16) .g) := q0
            have c1 : ¬ (0 : Int32) < (cmpValue (FP.dcmp x3 x16) .g) := q1
            have c2 : (0 : Int32) < (cmpValue (FP.dcmp x5 x16) .g) := q2
            have c3 : (0 : Int32) < (cmpValue (FP.dcmp x7 x16) .g) := own_cmp_gt C3 (Decidable.byContradiction fun z => (own_cmp_ngt C2 (by omega)) q2)
            have c4 : (0 : Int32) < (cmpValue (FP.dcmp x9 x16) .g) := own_cmp_gt C4 (Decidable.byContradiction fun z => (own_cmp_ngt C2 (by omega)) q2)
            have c5 : (0 : Int32) < (cmpValue (FP.dcmp x11 x16) .g) := own_cmp_gt C5 (Decidable.byContradiction fun z => (own_cmp_ngt C2 (by omega)) q2)
            rw [show own_cb6 h0.size x16 kA y1 x3 x5 x7 x9 x11 = (2 : Int32) by rw [own_cb6, if_pos c3, if_neg c1, if_pos c2], show own_one (6 : Int32) (0 : Int32) y1 x16 = (1 : Int32) by rw [own_one, if_pos (by decide), if_neg c0], show own_one (6 : Int32) (1 : Int32) x3 x16 = (1 : Int32) by rw [own_one, if_pos (by decide), if_neg c1], show own_one (6 : Int32) (2 : Int32) x5 x16 = (0 : Int32) by rw [own_one, if_pos (by decide), if_pos c2], show own_one (6 : Int32) (3 : Int32) x7 x16 = (0 : Int32) by rw [own_one, if_pos (by decide), if_pos c3], show own_one (6 : Int32) (4 : Int32) x9 x16 = (0 : Int32) by rw [own_one, if_pos (by decide), if_pos c4], show own_one (6 : Int32) (5 : Int32) x11 x16 = (0 : Int32) by rw [own_one, if_pos (by decide), if_pos c5], show own_one (6 : Int32) (6 : Int32) x13 x16 = (0 : Int32) by rw [own_one, if_neg (by decide)]]
            decide
          · by_cases q3 : (0 : Int32) < (cmpValue (FP.dcmp x7 x16) .g)
            · have c0 : ¬ (0 : Int32) < (cmpValue (FP.dcmp y1 x16) .g) := q0
              have c1 : ¬ (0 : Int32) < (cmpValue (FP.dcmp x3 x16) .g) := q1
              have c2 : ¬ (0 : Int32) < (cmpValue (FP.dcmp x5 x16) .g) := q2
              have c3 : (0 : Int32) < (cmpValue (FP.dcmp x7 x16) .g) := q3
              have c4 : (0 : Int32) < (cmpValue (FP.dcmp x9 x16) .g) := own_cmp_gt C4 (Decidable.byContradiction fun z => (own_cmp_ngt C3 (by omega)) q3)
              have c5 : (0 : Int32) < (cmpValue (FP.dcmp x11 x16) .g) := own_cmp_gt C5 (Decidable.byContradiction fun z => (own_cmp_ngt C3 (by omega)) q3)
              rw [show own_cb6 h0.size x16 kA y1 x3 x5 x7 x9 x11 = (3 : Int32) by rw [own_cb6, if_pos c3, if_neg c1, if_neg c2], show own_one (6 : Int32) (0 : Int32) y1 x16 = (1 : Int32) by rw [own_one, if_pos (by decide), if_neg c0], show own_one (6 : Int32) (1 : Int32) x3 x16 = (1 : Int32) by rw [own_one, if_pos (by decide), if_neg c1], show own_one (6 : Int32) (2 : Int32) x5 x16 = (1 : Int32) by rw [own_one, if_pos (by decide), if_neg c2], show own_one (6 : Int32) (3 : Int32) x7 x16 = (0 : Int32) by rw [own_one, if_pos (by decide), if_pos c3], show own_one (6 : Int32) (4 : Int32) x9 x16 = (0 : Int32) by rw [own_one, if_pos (by decide), if_pos c4], show own_one (6 : Int32) (5 : Int32) x11 x16 = (0 : Int32) by rw [own_one, if_pos (by decide), if_pos c5], show own_one (6 : Int32) (6 : Int32) x13 x16 = (0 : Int32) by rw [own_one, if_neg (by decide)]]
              decide
            · by_cases q4 : (0 : Int32) < (cmpValue (FP.dcmp x9 x16) .g)
              · have c0 : ¬ (0 : Int32) < (cmpValue (FP.dcmp y1 x16) .g) := q0
                have c1 : ¬ (0 : Int32) < (cmpValue (FP.dcmp x3 x16) .g) := q1
                have c2 : ¬ (0 : Int32) < (cmpValue (FP.dcmp x5 x16) .g) := q2
                have c3 : ¬ (0 : Int32) < (cmpValue (FP.dcmp x7 x16) .g) := q3
                have c4 : (0 : Int32) < (cmpValue (FP.dcmp x9 x16) .g) := q4
                have c5 : (0 : Int32) < (cmpValue (FP.dcmp x11 x16) .g) := own_cmp_gt C5 (Decidable.byContradiction fun z => (own_cmp_ngt C4 (by omega)) q4)
                rw [show own_cb6 h0.size x16 kA y1 x3 x5 x7 x9 x11 = (4 : Int32) by rw [own_cb6, if_neg c3, if_pos c5, if_pos c4], show own_one (6 : Int32) (0 : Int32) y1 x16 = (1 : Int32) by rw [own_one, if_pos (by decide), if_neg c0], show own_one (6 : Int32) (1 : Int32) x3 x16 = (1 : Int32) by rw [own_one, if_pos (by decide), if_neg c1], show own_one (6 : Int32) (2 : Int32) x5 x16 = (1 : Int32) by rw [own_one, if_pos (by decide), if_neg c2], show own_one (6 : Int32) (3 : Int32) x7 x16 = (1 : Int32) by rw [own_one, if_pos (by decide), if_neg c3], show own_one (6 : Int32) (4 : Int32) x9 x16 = (0 : Int32) by rw [own_one, if_pos (by decide), if_pos c4], show own_one (6 : Int32) (5 : Int32) x11 x16 = (0 : Int32) by rw [own_one, if_pos (by decide), if_pos c5], show own_one (6 : Int32) (6 : Int32) x13 x16 = (0 : Int32) by rw [own_one, if_neg (by decide)]]
                decide
              · by_cases q5 : (0 : Int32) < (cmpValue (FP.dcmp x11 x16) .g)
                · have c0 : ¬ (0 : Int32) < (cmpValue (FP.dcmp y1 x16) .g) := q0
                  have c1 : ¬ (0 : Int32) < (cmpValue (FP.dcmp x3 x16) .g) := q1
                  have c2 : ¬ (0 : Int32) < (cmpValue (FP.dcmp x5 x16) .g) := q2
                  have c3 : ¬ (0 : Int32) < (cmpValue (FP.dcmp x7 x16) .g) := q3
                  have c4 : ¬ (0 : Int32) < (cmpValue (FP.dcmp x9 x16) .g) := q4
                  have c5 : (0 : Int32) < (cmpValue (FP.dcmp x11 x16) .g) := q5
                  rw [show own_cb6 h0.size x16 kA y1 x3 x5 x7 x9 x11 = (5 : Int32) by rw [own_cb6, if_neg c3, if_pos c5, if_neg c4], show own_one (6 : Int32) (0 : Int32) y1 x16 = (1 : Int32) by rw [own_one, if_pos (by decide), if_neg c0], show own_one (6 : Int32) (1 : Int32) x3 x16 = (1 : Int32) by rw [own_one, if_pos (by decide), if_neg c1], show own_one (6 : Int32) (2 : Int32) x5 x16 = (1 : Int32) by rw [own_one, if_pos (by decide), if_neg c2], show own_one (6 : Int32) (3 : Int32) x7 x16 = (1 : Int32) by rw [own_one, if_pos (by decide), if_neg c3], show own_one (6 : Int32) (4 : Int32) x9 x16 = (1 : Int32) by rw [own_one, if_pos (by decide), if_neg c4], show own_one (6 : Int32) (5 : Int32) x11 x16 = (0 : Int32) by rw [own_one, if_pos (by decide), if_pos c5], show own_one (6 : Int32) (6 : Int32) x13 x16 = (0 : Int32) by rw [own_one, if_neg (by decide)]]
                  decide
                · have c0 : ¬ (0 : Int32) < (cmpValue (FP.dcmp y1 x16) .g) := q0
                  have c1 : ¬ (0 : Int32) < (cmpValue (FP.dcmp x3 x16) .g) := q1
                  have c2 : ¬ (0 : Int32) < (cmpValue (FP.dcmp x5 x16) .g) := q2
                  have c3 : ¬ (0 : Int32) < (cmpValue (FP.dcmp x7 x16) .g) := q3
                  have c4 : ¬ (0 : Int32) < (cmpValue (FP.dcmp x9 x16) .g) := q4
                  have c5 : ¬ (0 : Int32) < (cmpValue (FP.dcmp x11 x16) .g) := q5
                  rw [show own_cb6 h0.size x16 kA y1 x3 x5 x7 x9 x11 = (6 : Int32) by rw [own_cb6, if_neg c3, if_neg c5], show own_one (6 : Int32) (0 : Int32) y1 x16 = (1 : Int32) by rw [own_one, if_pos (by decide), if_neg c0], show own_one (6 : Int32) (1 : Int32) x3 x16 = (1 : Int32) by rw [own_one, if_pos (by decide), if_neg c1], show own_one (6 : Int32) (2 : Int32) x5 x16 = (1 : Int32) by rw [own_one, if_pos (by decide), if_neg c2], show own_one (6 : Int32) (3 : Int32) x7 x16 = (1 : Int32) by rw [own_one, if_pos (by decide), if_neg c3], show own_one (6 : Int32) (4 : Int32) x9 x16 = (1 : Int32) by rw [own_one, if_pos (by decide), if_neg c4], show own_one (6 : Int32) (5 : Int32) x11 x16 = (1 : Int32) by rw [own_one, if_pos (by decide), if_neg c5], show own_one (6 : Int32) (6 : Int32) x13 x16 = (0 : Int32) by rw [own_one, if_neg (by decide)]]
                  decide
    refine own_by (fun t_ k_ => XS.icmpNo XT92.here hx rfl (hb hby at_277) rfl (XT.ii_ne_f hfin) k_) ?_
    show own_Go p e below _ T92 (mkF m 280 #[oI i0, oI i1, oI i2, oI i3, oI (6 : Int32), oD y1, .second, oD x3, .second, oD x5, .second, oD x7, .second, oD x9, .second, oD x11, .second, oD x13, .second, oD x16, .second, oR h0.size, oI (((((((own_one (6 : Int32) (0 : Int32) y1 x16) + (own_one (6 : Int32) (1 : Int32) x3 x16)) + (own_one (6 : Int32) (2 : Int32) x5 x16)) + (own_one (6 : Int32) (3 : Int32) x7 x16)) + (own_one (6 : Int32) (4 : Int32) x9 x16)) + (own_one (6 : Int32) (5 : Int32) x11 x16)) + (own_one (6 : Int32) (6 : Int32) x13 x16)), oI (own_cb6 h0.size x16 kA y1 x3 x5 x7 x9 x11)] [])
    refine own_by (fun t_ k_ => XT.iconstV XT92.here hx rfl (1 : Int32) (hb hby at_280) (by decide) k_) ?_
    show own_Go p e below _ T92 (mkF m 281 #[oI i0, oI i1, oI i2, oI i3, oI (6 : Int32), oD y1, .second, oD x3, .second, oD x5, .second, oD x7, .second, oD x9, .second, oD x11, .second, oD x13, .second, oD x16, .second, oR h0.size, oI (((((((own_one (6 : Int32) (0 : Int32) y1 x16) + (own_one (6 : Int32) (1 : Int32) x3 x16)) + (own_one (6 : Int32) (2 : Int32) x5 x16)) + (own_one (6 : Int32) (3 : Int32) x7 x16)) + (own_one (6 : Int32) (4 : Int32) x9 x16)) + (own_one (6 : Int32) (5 : Int32) x11 x16)) + (own_one (6 : Int32) (6 : Int32) x13 x16)), oI (own_cb6 h0.size x16 kA y1 x3 x5 x7 x9 x11)] [(.int (1 : Int32))])
    refine own_by (fun t_ k_ => XS.goto XT92.here hx rfl (pc0 := 281) (pc' := 285) rfl (hb hby at_281) (by decide) (by decide) k_) ?_
    show own_Go p e below _ T92 (mkF m 285 #[oI i0, oI i1, oI i2, oI i3, oI (6 : Int32), oD y1, .second, oD x3, .second, oD x5, .second, oD x7, .second, oD x9, .second, oD x11, .second, oD x13, .second, oD x16, .second, oR h0.size, oI (((((((own_one (6 : Int32) (0 : Int32) y1 x16) + (own_one (6 : Int32) (1 : Int32) x3 x16)) + (own_one (6 : Int32) (2 : Int32) x5 x16)) + (own_one (6 : Int32) (3 : Int32) x7 x16)) + (own_one (6 : Int32) (4 : Int32) x9 x16)) + (own_one (6 : Int32) (5 : Int32) x11 x16)) + (own_one (6 : Int32) (6 : Int32) x13 x16)), oI (own_cb6 h0.size x16 kA y1 x3 x5 x7 x9 x11)] [(.int (1 : Int32))])
    exact own_retN XT92 hx hlk hret (by simp) (w := (1 : Int32)) (hb hby at_285) (by decide) (by decide) (by decide) (⟨rfl, own_fr0 NT84⟩)
  · rw [hk]
    show own_Go p e below _ T0 (mkF m 94 #[oI i0, oI i1, oI i2, oI i3, oI (7 : Int32), oD y1, .second, oD x3, .second, oD x5, .second, oD x7, .second, oD x9, .second, oD x11, .second, oD x13, .second, oD x16, .second, .unset, .unset, .unset] [])
    refine own_by (fun t_ k_ => XS.iload X0.here hx rfl (hb hby at_94) rfl  k_) ?_
    show own_Go p e below _ T0 (mkF m 96 #[oI i0, oI i1, oI i2, oI i3, oI (7 : Int32), oD y1, .second, oD x3, .second, oD x5, .second, oD x7, .second, oD x9, .second, oD x11, .second, oD x13, .second, oD x16, .second, .unset, .unset, .unset] [(.int (7 : Int32))])
    refine own_newP X0 hx hZ (aty := .double) (hw _ (List.mem_of_getElem? (i := 1) rfl)) e0 (hb hby at_96) 7 7 (by decide) (by decide) (by decide) (by decide) (by decide) (by decide) ?_
    intro T93 hT93 kA XT93 eT93 ET93 YT93
    have VT93 : own_A Z hT93 h0.size .double kA [(.double 0), (.double 0), (.double 0), (.double 0), (.double 0), (.double 0), (.double 0)] := YT93
    have NT93 := Fr.nil h0.size
    clear YT93
    show own_Go p e below _ T93 (mkF m 98 #[oI i0, oI i1, oI i2, oI i3, oI (7 : Int32), oD y1, .second, oD x3, .second, oD x5, .second, oD x7, .second, oD x9, .second, oD x11, .second, oD x13, .second, oD x16, .second, .unset, .unset, .unset] [(.ref h0.size)])
    refine own_by (fun t_ k_ => XS.astore XT93.here hx rfl (hb hby at_98) rfl rfl (l' := #[oI i0, oI i1, oI i2, oI i3, oI (7 : Int32), oD y1, .second, oD x3, .second, oD x5, .second, oD x7, .second, oD x9, .second, oD x11, .second, oD x13, .second, oD x16, .second, oR h0.size, .unset, .unset]) rfl k_) ?_
    show own_Go p e below _ T93 (mkF m 100 #[oI i0, oI i1, oI i2, oI i3, oI (7 : Int32), oD y1, .second, oD x3, .second, oD x5, .second, oD x7, .second, oD x9, .second, oD x11, .second, oD x13, .second, oD x16, .second, oR h0.size, .unset, .unset] [])
    refine own_by (fun t_ k_ => XS.iload XT93.here hx rfl (hb hby at_100) rfl  k_) ?_
    show own_Go p e below _ T93 (mkF m 102 #[oI i0, oI i1, oI i2, oI i3, oI (7 : Int32), oD y1, .second, oD x3, .second, oD x5, .second, oD x7, .second, oD x9, .second, oD x11, .second, oD x13, .second, oD x16, .second, oR h0.size, .unset, .unset] [(.int (7 : Int32))])
    refine own_by (fun t_ k_ => XS.ifNo XT93.here hx rfl (hb hby at_102) rfl (XT.i0_le_f (by decide)) k_) ?_
    show own_Go p e below _ T93 (mkF m 105 #[oI i0, oI i1, oI i2, oI i3, oI (7 : Int32), oD y1, .second, oD x3, .second, oD x5, .second, oD x7, .second, oD x9, .second, oD x11, .second, oD x13, .second, oD x16, .second, oR h0.size, .unset, .unset] [])
    refine own_by (fun t_ k_ => XS.aload XT93.here hx rfl (hb hby at_105) rfl rfl  k_) ?_
    show own_Go p e below _ T93 (mkF m 107 #[oI i0, oI i1, oI i2, oI i3, oI (7 : Int32), oD y1, .second, oD x3, .second, oD x5, .second, oD x7, .second, oD x9, .second, oD x11, .second, oD x13, .second, oD x16, .second, oR h0.size, .unset, .unset] [(.ref h0.size)])
    refine own_by (fun t_ k_ => XT.iconstV XT93.here hx rfl (0 : Int32) (hb hby at_107) (by decide) k_) ?_
    show own_Go p e below _ T93 (mkF m 108 #[oI i0, oI i1, oI i2, oI i3, oI (7 : Int32), oD y1, .second, oD x3, .second, oD x5, .second, oD x7, .second, oD x9, .second, oD x11, .second, oD x13, .second, oD x16, .second, oR h0.size, .unset, .unset] [(.int (0 : Int32)), (.ref h0.size)])
    refine own_by (fun t_ k_ => XS.dload XT93.here hx rfl (hb hby at_108) rfl  k_) ?_
    show own_Go p e below _ T93 (mkF m 110 #[oI i0, oI i1, oI i2, oI i3, oI (7 : Int32), oD y1, .second, oD x3, .second, oD x5, .second, oD x7, .second, oD x9, .second, oD x11, .second, oD x13, .second, oD x16, .second, oR h0.size, .unset, .unset] [(.double y1), (.int (0 : Int32)), (.ref h0.size)])
    refine own_stD XT93 hx hZ eT93 VT93 0 (by decide) (by decide) (by simp) (hb hby at_110) ?_
    intro T94 hT94 XT94 eT94 WT94 YT94
    have VT94 : own_A Z hT94 h0.size .double kA [(.double y1), (.double 0), (.double 0), (.double 0), (.double 0), (.double 0), (.double 0)] := YT94
    have NT94 := own_frs (i := 0) NT93 (Nat.le_refl h0.size)
    clear YT94
    show own_Go p e below _ T94 (mkF m 111 #[oI i0, oI i1, oI i2, oI i3, oI (7 : Int32), oD y1, .second, oD x3, .second, oD x5, .second, oD x7, .second, oD x9, .second, oD x11, .second, oD x13, .second, oD x16, .second, oR h0.size, .unset, .unset] [])
    refine own_by (fun t_ k_ => XS.iload XT94.here hx rfl (hb hby at_111) rfl  k_) ?_
    show own_Go p e below _ T94 (mkF m 113 #[oI i0, oI i1, oI i2, oI i3, oI (7 : Int32), oD y1, .second, oD x3, .second, oD x5, .second, oD x7, .second, oD x9, .second, oD x11, .second, oD x13, .second, oD x16, .second, oR h0.size, .unset, .unset] [(.int (7 : Int32))])
    refine own_by (fun t_ k_ => XT.iconstV XT94.here hx rfl (1 : Int32) (hb hby at_113) (by decide) k_) ?_
    show own_Go p e below _ T94 (mkF m 114 #[oI i0, oI i1, oI i2, oI i3, oI (7 : Int32), oD y1, .second, oD x3, .second, oD x5, .second, oD x7, .second, oD x9, .second, oD x11, .second, oD x13, .second, oD x16, .second, oR h0.size, .unset, .unset] [(.int (1 : Int32)), (.int (7 : Int32))])
    refine own_by (fun t_ k_ => XS.icmpNo XT94.here hx rfl (hb hby at_114) rfl (XT.ii_le_f (by decide)) k_) ?_
    show own_Go p e below _ T94 (mkF m 117 #[oI i0, oI i1, oI i2, oI i3, oI (7 : Int32), oD y1, .second, oD x3, .second, oD x5, .second, oD x7, .second, oD x9, .second, oD x11, .second, oD x13, .second, oD x16, .second, oR h0.size, .unset, .unset] [])
    refine own_by (fun t_ k_ => XS.aload XT94.here hx rfl (hb hby at_117) rfl rfl  k_) ?_
    show own_Go p e below _ T94 (mkF m 119 #[oI i0, oI i1, oI i2, oI i3, oI (7 : Int32), oD y1, .second, oD x3, .second, oD x5, .second, oD x7, .second, oD x9, .second, oD x11, .second, oD x13, .second, oD x16, .second, oR h0.size, .unset, .unset] [(.ref h0.size)])
    refine own_by (fun t_ k_ => XT.iconstV XT94.here hx rfl (1 : Int32) (hb hby at_119) (by decide) k_) ?_
    show own_Go p e below _ T94 (mkF m 120 #[oI i0, oI i1, oI i2, oI i3, oI (7 : Int32), oD y1, .second, oD x3, .second, oD x5, .second, oD x7, .second, oD x9, .second, oD x11, .second, oD x13, .second, oD x16, .second, oR h0.size, .unset, .unset] [(.int (1 : Int32)), (.ref h0.size)])
    refine own_by (fun t_ k_ => XS.dload XT94.here hx rfl (hb hby at_120) rfl  k_) ?_
    show own_Go p e below _ T94 (mkF m 122 #[oI i0, oI i1, oI i2, oI i3, oI (7 : Int32), oD y1, .second, oD x3, .second, oD x5, .second, oD x7, .second, oD x9, .second, oD x11, .second, oD x13, .second, oD x16, .second, oR h0.size, .unset, .unset] [(.double x3), (.int (1 : Int32)), (.ref h0.size)])
    refine own_stD XT94 hx hZ eT94 VT94 1 (by decide) (by decide) (by simp) (hb hby at_122) ?_
    intro T95 hT95 XT95 eT95 WT95 YT95
    have VT95 : own_A Z hT95 h0.size .double kA [(.double y1), (.double x3), (.double 0), (.double 0), (.double 0), (.double 0), (.double 0)] := YT95
    have NT95 := own_frs (i := 1) NT94 (Nat.le_refl h0.size)
    clear YT95
    show own_Go p e below _ T95 (mkF m 123 #[oI i0, oI i1, oI i2, oI i3, oI (7 : Int32), oD y1, .second, oD x3, .second, oD x5, .second, oD x7, .second, oD x9, .second, oD x11, .second, oD x13, .second, oD x16, .second, oR h0.size, .unset, .unset] [])
    refine own_by (fun t_ k_ => XS.iload XT95.here hx rfl (hb hby at_123) rfl  k_) ?_
    show own_Go p e below _ T95 (mkF m 125 #[oI i0, oI i1, oI i2, oI i3, oI (7 : Int32), oD y1, .second, oD x3, .second, oD x5, .second, oD x7, .second, oD x9, .second, oD x11, .second, oD x13, .second, oD x16, .second, oR h0.size, .unset, .unset] [(.int (7 : Int32))])
    refine own_by (fun t_ k_ => XT.iconstV XT95.here hx rfl (2 : Int32) (hb hby at_125) (by decide) k_) ?_
    show own_Go p e below _ T95 (mkF m 126 #[oI i0, oI i1, oI i2, oI i3, oI (7 : Int32), oD y1, .second, oD x3, .second, oD x5, .second, oD x7, .second, oD x9, .second, oD x11, .second, oD x13, .second, oD x16, .second, oR h0.size, .unset, .unset] [(.int (2 : Int32)), (.int (7 : Int32))])
    refine own_by (fun t_ k_ => XS.icmpNo XT95.here hx rfl (hb hby at_126) rfl (XT.ii_le_f (by decide)) k_) ?_
    show own_Go p e below _ T95 (mkF m 129 #[oI i0, oI i1, oI i2, oI i3, oI (7 : Int32), oD y1, .second, oD x3, .second, oD x5, .second, oD x7, .second, oD x9, .second, oD x11, .second, oD x13, .second, oD x16, .second, oR h0.size, .unset, .unset] [])
    refine own_by (fun t_ k_ => XS.aload XT95.here hx rfl (hb hby at_129) rfl rfl  k_) ?_
    show own_Go p e below _ T95 (mkF m 131 #[oI i0, oI i1, oI i2, oI i3, oI (7 : Int32), oD y1, .second, oD x3, .second, oD x5, .second, oD x7, .second, oD x9, .second, oD x11, .second, oD x13, .second, oD x16, .second, oR h0.size, .unset, .unset] [(.ref h0.size)])
    refine own_by (fun t_ k_ => XT.iconstV XT95.here hx rfl (2 : Int32) (hb hby at_131) (by decide) k_) ?_
    show own_Go p e below _ T95 (mkF m 132 #[oI i0, oI i1, oI i2, oI i3, oI (7 : Int32), oD y1, .second, oD x3, .second, oD x5, .second, oD x7, .second, oD x9, .second, oD x11, .second, oD x13, .second, oD x16, .second, oR h0.size, .unset, .unset] [(.int (2 : Int32)), (.ref h0.size)])
    refine own_by (fun t_ k_ => XS.dload XT95.here hx rfl (hb hby at_132) rfl  k_) ?_
    show own_Go p e below _ T95 (mkF m 134 #[oI i0, oI i1, oI i2, oI i3, oI (7 : Int32), oD y1, .second, oD x3, .second, oD x5, .second, oD x7, .second, oD x9, .second, oD x11, .second, oD x13, .second, oD x16, .second, oR h0.size, .unset, .unset] [(.double x5), (.int (2 : Int32)), (.ref h0.size)])
    refine own_stD XT95 hx hZ eT95 VT95 2 (by decide) (by decide) (by simp) (hb hby at_134) ?_
    intro T96 hT96 XT96 eT96 WT96 YT96
    have VT96 : own_A Z hT96 h0.size .double kA [(.double y1), (.double x3), (.double x5), (.double 0), (.double 0), (.double 0), (.double 0)] := YT96
    have NT96 := own_frs (i := 2) NT95 (Nat.le_refl h0.size)
    clear YT96
    show own_Go p e below _ T96 (mkF m 135 #[oI i0, oI i1, oI i2, oI i3, oI (7 : Int32), oD y1, .second, oD x3, .second, oD x5, .second, oD x7, .second, oD x9, .second, oD x11, .second, oD x13, .second, oD x16, .second, oR h0.size, .unset, .unset] [])
    refine own_by (fun t_ k_ => XS.iload XT96.here hx rfl (hb hby at_135) rfl  k_) ?_
    show own_Go p e below _ T96 (mkF m 137 #[oI i0, oI i1, oI i2, oI i3, oI (7 : Int32), oD y1, .second, oD x3, .second, oD x5, .second, oD x7, .second, oD x9, .second, oD x11, .second, oD x13, .second, oD x16, .second, oR h0.size, .unset, .unset] [(.int (7 : Int32))])
    refine own_by (fun t_ k_ => XT.iconstV XT96.here hx rfl (3 : Int32) (hb hby at_137) (by decide) k_) ?_
    show own_Go p e below _ T96 (mkF m 138 #[oI i0, oI i1, oI i2, oI i3, oI (7 : Int32), oD y1, .second, oD x3, .second, oD x5, .second, oD x7, .second, oD x9, .second, oD x11, .second, oD x13, .second, oD x16, .second, oR h0.size, .unset, .unset] [(.int (3 : Int32)), (.int (7 : Int32))])
    refine own_by (fun t_ k_ => XS.icmpNo XT96.here hx rfl (hb hby at_138) rfl (XT.ii_le_f (by decide)) k_) ?_
    show own_Go p e below _ T96 (mkF m 141 #[oI i0, oI i1, oI i2, oI i3, oI (7 : Int32), oD y1, .second, oD x3, .second, oD x5, .second, oD x7, .second, oD x9, .second, oD x11, .second, oD x13, .second, oD x16, .second, oR h0.size, .unset, .unset] [])
    refine own_by (fun t_ k_ => XS.aload XT96.here hx rfl (hb hby at_141) rfl rfl  k_) ?_
    show own_Go p e below _ T96 (mkF m 143 #[oI i0, oI i1, oI i2, oI i3, oI (7 : Int32), oD y1, .second, oD x3, .second, oD x5, .second, oD x7, .second, oD x9, .second, oD x11, .second, oD x13, .second, oD x16, .second, oR h0.size, .unset, .unset] [(.ref h0.size)])
    refine own_by (fun t_ k_ => XT.iconstV XT96.here hx rfl (3 : Int32) (hb hby at_143) (by decide) k_) ?_
    show own_Go p e below _ T96 (mkF m 144 #[oI i0, oI i1, oI i2, oI i3, oI (7 : Int32), oD y1, .second, oD x3, .second, oD x5, .second, oD x7, .second, oD x9, .second, oD x11, .second, oD x13, .second, oD x16, .second, oR h0.size, .unset, .unset] [(.int (3 : Int32)), (.ref h0.size)])
    refine own_by (fun t_ k_ => XS.dload XT96.here hx rfl (hb hby at_144) rfl  k_) ?_
    show own_Go p e below _ T96 (mkF m 146 #[oI i0, oI i1, oI i2, oI i3, oI (7 : Int32), oD y1, .second, oD x3, .second, oD x5, .second, oD x7, .second, oD x9, .second, oD x11, .second, oD x13, .second, oD x16, .second, oR h0.size, .unset, .unset] [(.double x7), (.int (3 : Int32)), (.ref h0.size)])
    refine own_stD XT96 hx hZ eT96 VT96 3 (by decide) (by decide) (by simp) (hb hby at_146) ?_
    intro T97 hT97 XT97 eT97 WT97 YT97
    have VT97 : own_A Z hT97 h0.size .double kA [(.double y1), (.double x3), (.double x5), (.double x7), (.double 0), (.double 0), (.double 0)] := YT97
    have NT97 := own_frs (i := 3) NT96 (Nat.le_refl h0.size)
    clear YT97
    show own_Go p e below _ T97 (mkF m 147 #[oI i0, oI i1, oI i2, oI i3, oI (7 : Int32), oD y1, .second, oD x3, .second, oD x5, .second, oD x7, .second, oD x9, .second, oD x11, .second, oD x13, .second, oD x16, .second, oR h0.size, .unset, .unset] [])
    refine own_by (fun t_ k_ => XS.iload XT97.here hx rfl (hb hby at_147) rfl  k_) ?_
    show own_Go p e below _ T97 (mkF m 149 #[oI i0, oI i1, oI i2, oI i3, oI (7 : Int32), oD y1, .second, oD x3, .second, oD x5, .second, oD x7, .second, oD x9, .second, oD x11, .second, oD x13, .second, oD x16, .second, oR h0.size, .unset, .unset] [(.int (7 : Int32))])
    refine own_by (fun t_ k_ => XT.iconstV XT97.here hx rfl (4 : Int32) (hb hby at_149) (by decide) k_) ?_
    show own_Go p e below _ T97 (mkF m 150 #[oI i0, oI i1, oI i2, oI i3, oI (7 : Int32), oD y1, .second, oD x3, .second, oD x5, .second, oD x7, .second, oD x9, .second, oD x11, .second, oD x13, .second, oD x16, .second, oR h0.size, .unset, .unset] [(.int (4 : Int32)), (.int (7 : Int32))])
    refine own_by (fun t_ k_ => XS.icmpNo XT97.here hx rfl (hb hby at_150) rfl (XT.ii_le_f (by decide)) k_) ?_
    show own_Go p e below _ T97 (mkF m 153 #[oI i0, oI i1, oI i2, oI i3, oI (7 : Int32), oD y1, .second, oD x3, .second, oD x5, .second, oD x7, .second, oD x9, .second, oD x11, .second, oD x13, .second, oD x16, .second, oR h0.size, .unset, .unset] [])
    refine own_by (fun t_ k_ => XS.aload XT97.here hx rfl (hb hby at_153) rfl rfl  k_) ?_
    show own_Go p e below _ T97 (mkF m 155 #[oI i0, oI i1, oI i2, oI i3, oI (7 : Int32), oD y1, .second, oD x3, .second, oD x5, .second, oD x7, .second, oD x9, .second, oD x11, .second, oD x13, .second, oD x16, .second, oR h0.size, .unset, .unset] [(.ref h0.size)])
    refine own_by (fun t_ k_ => XT.iconstV XT97.here hx rfl (4 : Int32) (hb hby at_155) (by decide) k_) ?_
    show own_Go p e below _ T97 (mkF m 156 #[oI i0, oI i1, oI i2, oI i3, oI (7 : Int32), oD y1, .second, oD x3, .second, oD x5, .second, oD x7, .second, oD x9, .second, oD x11, .second, oD x13, .second, oD x16, .second, oR h0.size, .unset, .unset] [(.int (4 : Int32)), (.ref h0.size)])
    refine own_by (fun t_ k_ => XS.dload XT97.here hx rfl (hb hby at_156) rfl  k_) ?_
    show own_Go p e below _ T97 (mkF m 158 #[oI i0, oI i1, oI i2, oI i3, oI (7 : Int32), oD y1, .second, oD x3, .second, oD x5, .second, oD x7, .second, oD x9, .second, oD x11, .second, oD x13, .second, oD x16, .second, oR h0.size, .unset, .unset] [(.double x9), (.int (4 : Int32)), (.ref h0.size)])
    refine own_stD XT97 hx hZ eT97 VT97 4 (by decide) (by decide) (by simp) (hb hby at_158) ?_
    intro T98 hT98 XT98 eT98 WT98 YT98
    have VT98 : own_A Z hT98 h0.size .double kA [(.double y1), (.double x3), (.double x5), (.double x7), (.double x9), (.double 0), (.double 0)] := YT98
    have NT98 := own_frs (i := 4) NT97 (Nat.le_refl h0.size)
    clear YT98
    show own_Go p e below _ T98 (mkF m 159 #[oI i0, oI i1, oI i2, oI i3, oI (7 : Int32), oD y1, .second, oD x3, .second, oD x5, .second, oD x7, .second, oD x9, .second, oD x11, .second, oD x13, .second, oD x16, .second, oR h0.size, .unset, .unset] [])
    refine own_by (fun t_ k_ => XS.iload XT98.here hx rfl (hb hby at_159) rfl  k_) ?_
    show own_Go p e below _ T98 (mkF m 161 #[oI i0, oI i1, oI i2, oI i3, oI (7 : Int32), oD y1, .second, oD x3, .second, oD x5, .second, oD x7, .second, oD x9, .second, oD x11, .second, oD x13, .second, oD x16, .second, oR h0.size, .unset, .unset] [(.int (7 : Int32))])
    refine own_by (fun t_ k_ => XT.iconstV XT98.here hx rfl (5 : Int32) (hb hby at_161) (by decide) k_) ?_
    show own_Go p e below _ T98 (mkF m 162 #[oI i0, oI i1, oI i2, oI i3, oI (7 : Int32), oD y1, .second, oD x3, .second, oD x5, .second, oD x7, .second, oD x9, .second, oD x11, .second, oD x13, .second, oD x16, .second, oR h0.size, .unset, .unset] [(.int (5 : Int32)), (.int (7 : Int32))])
    refine own_by (fun t_ k_ => XS.icmpNo XT98.here hx rfl (hb hby at_162) rfl (XT.ii_le_f (by decide)) k_) ?_
    show own_Go p e below _ T98 (mkF m 165 #[oI i0, oI i1, oI i2, oI i3, oI (7 : Int32), oD y1, .second, oD x3, .second, oD x5, .second, oD x7, .second, oD x9, .second, oD x11, .second, oD x13, .second, oD x16, .second, oR h0.size, .unset, .unset] [])
    refine own_by (fun t_ k_ => XS.aload XT98.here hx rfl (hb hby at_165) rfl rfl  k_) ?_
    show own_Go p e below _ T98 (mkF m 167 #[oI i0, oI i1, oI i2, oI i3, oI (7 : Int32), oD y1, .second, oD x3, .second, oD x5, .second, oD x7, .second, oD x9, .second, oD x11, .second, oD x13, .second, oD x16, .second, oR h0.size, .unset, .unset] [(.ref h0.size)])
    refine own_by (fun t_ k_ => XT.iconstV XT98.here hx rfl (5 : Int32) (hb hby at_167) (by decide) k_) ?_
    show own_Go p e below _ T98 (mkF m 168 #[oI i0, oI i1, oI i2, oI i3, oI (7 : Int32), oD y1, .second, oD x3, .second, oD x5, .second, oD x7, .second, oD x9, .second, oD x11, .second, oD x13, .second, oD x16, .second, oR h0.size, .unset, .unset] [(.int (5 : Int32)), (.ref h0.size)])
    refine own_by (fun t_ k_ => XS.dload XT98.here hx rfl (hb hby at_168) rfl  k_) ?_
    show own_Go p e below _ T98 (mkF m 170 #[oI i0, oI i1, oI i2, oI i3, oI (7 : Int32), oD y1, .second, oD x3, .second, oD x5, .second, oD x7, .second, oD x9, .second, oD x11, .second, oD x13, .second, oD x16, .second, oR h0.size, .unset, .unset] [(.double x11), (.int (5 : Int32)), (.ref h0.size)])
    refine own_stD XT98 hx hZ eT98 VT98 5 (by decide) (by decide) (by simp) (hb hby at_170) ?_
    intro T99 hT99 XT99 eT99 WT99 YT99
    have VT99 : own_A Z hT99 h0.size .double kA [(.double y1), (.double x3), (.double x5), (.double x7), (.double x9), (.double x11), (.double 0)] := YT99
    have NT99 := own_frs (i := 5) NT98 (Nat.le_refl h0.size)
    clear YT99
    show own_Go p e below _ T99 (mkF m 171 #[oI i0, oI i1, oI i2, oI i3, oI (7 : Int32), oD y1, .second, oD x3, .second, oD x5, .second, oD x7, .second, oD x9, .second, oD x11, .second, oD x13, .second, oD x16, .second, oR h0.size, .unset, .unset] [])
    refine own_by (fun t_ k_ => XS.iload XT99.here hx rfl (hb hby at_171) rfl  k_) ?_
    show own_Go p e below _ T99 (mkF m 173 #[oI i0, oI i1, oI i2, oI i3, oI (7 : Int32), oD y1, .second, oD x3, .second, oD x5, .second, oD x7, .second, oD x9, .second, oD x11, .second, oD x13, .second, oD x16, .second, oR h0.size, .unset, .unset] [(.int (7 : Int32))])
    refine own_by (fun t_ k_ => XT.bipushV XT99.here hx rfl (6 : Int32) (hb hby at_173) (by decide) k_) ?_
    show own_Go p e below _ T99 (mkF m 175 #[oI i0, oI i1, oI i2, oI i3, oI (7 : Int32), oD y1, .second, oD x3, .second, oD x5, .second, oD x7, .second, oD x9, .second, oD x11, .second, oD x13, .second, oD x16, .second, oR h0.size, .unset, .unset] [(.int (6 : Int32)), (.int (7 : Int32))])
    refine own_by (fun t_ k_ => XS.icmpNo XT99.here hx rfl (hb hby at_175) rfl (XT.ii_le_f (by decide)) k_) ?_
    show own_Go p e below _ T99 (mkF m 178 #[oI i0, oI i1, oI i2, oI i3, oI (7 : Int32), oD y1, .second, oD x3, .second, oD x5, .second, oD x7, .second, oD x9, .second, oD x11, .second, oD x13, .second, oD x16, .second, oR h0.size, .unset, .unset] [])
    refine own_by (fun t_ k_ => XS.aload XT99.here hx rfl (hb hby at_178) rfl rfl  k_) ?_
    show own_Go p e below _ T99 (mkF m 180 #[oI i0, oI i1, oI i2, oI i3, oI (7 : Int32), oD y1, .second, oD x3, .second, oD x5, .second, oD x7, .second, oD x9, .second, oD x11, .second, oD x13, .second, oD x16, .second, oR h0.size, .unset, .unset] [(.ref h0.size)])
    refine own_by (fun t_ k_ => XT.bipushV XT99.here hx rfl (6 : Int32) (hb hby at_180) (by decide) k_) ?_
    show own_Go p e below _ T99 (mkF m 182 #[oI i0, oI i1, oI i2, oI i3, oI (7 : Int32), oD y1, .second, oD x3, .second, oD x5, .second, oD x7, .second, oD x9, .second, oD x11, .second, oD x13, .second, oD x16, .second, oR h0.size, .unset, .unset] [(.int (6 : Int32)), (.ref h0.size)])
    refine own_by (fun t_ k_ => XS.dload XT99.here hx rfl (hb hby at_182) rfl  k_) ?_
    show own_Go p e below _ T99 (mkF m 184 #[oI i0, oI i1, oI i2, oI i3, oI (7 : Int32), oD y1, .second, oD x3, .second, oD x5, .second, oD x7, .second, oD x9, .second, oD x11, .second, oD x13, .second, oD x16, .second, oR h0.size, .unset, .unset] [(.double x13), (.int (6 : Int32)), (.ref h0.size)])
    refine own_stD XT99 hx hZ eT99 VT99 6 (by decide) (by decide) (by simp) (hb hby at_184) ?_
    intro T100 hT100 XT100 eT100 WT100 YT100
    have VT100 : own_A Z hT100 h0.size .double kA [(.double y1), (.double x3), (.double x5), (.double x7), (.double x9), (.double x11), (.double x13)] := YT100
    have NT100 := own_frs (i := 6) NT99 (Nat.le_refl h0.size)
    clear YT100
    show own_Go p e below _ T100 (mkF m 185 #[oI i0, oI i1, oI i2, oI i3, oI (7 : Int32), oD y1, .second, oD x3, .second, oD x5, .second, oD x7, .second, oD x9, .second, oD x11, .second, oD x13, .second, oD x16, .second, oR h0.size, .unset, .unset] [])
    refine own_by (fun t_ k_ => XS.iload XT100.here hx rfl (hb hby at_185) rfl  k_) ?_
    show own_Go p e below _ T100 (mkF m 187 #[oI i0, oI i1, oI i2, oI i3, oI (7 : Int32), oD y1, .second, oD x3, .second, oD x5, .second, oD x7, .second, oD x9, .second, oD x11, .second, oD x13, .second, oD x16, .second, oR h0.size, .unset, .unset] [(.int (7 : Int32))])
    refine own_by (fun t_ k_ => XT.iconstV XT100.here hx rfl (0 : Int32) (hb hby at_187) (by decide) k_) ?_
    show own_Go p e below _ T100 (mkF m 188 #[oI i0, oI i1, oI i2, oI i3, oI (7 : Int32), oD y1, .second, oD x3, .second, oD x5, .second, oD x7, .second, oD x9, .second, oD x11, .second, oD x13, .second, oD x16, .second, oR h0.size, .unset, .unset] [(.int (0 : Int32)), (.int (7 : Int32))])
    refine own_by (fun t_ k_ => XS.dload XT100.here hx rfl (hb hby at_188) rfl  k_) ?_
    show own_Go p e below _ T100 (mkF m 190 #[oI i0, oI i1, oI i2, oI i3, oI (7 : Int32), oD y1, .second, oD x3, .second, oD x5, .second, oD x7, .second, oD x9, .second, oD x11, .second, oD x13, .second, oD x16, .second, oR h0.size, .unset, .unset] [(.double y1), (.int (0 : Int32)), (.int (7 : Int32))])
    refine own_by (fun t_ k_ => XS.dload XT100.here hx rfl (hb hby at_190) rfl  k_) ?_
    show own_Go p e below _ T100 (mkF m 192 #[oI i0, oI i1, oI i2, oI i3, oI (7 : Int32), oD y1, .second, oD x3, .second, oD x5, .second, oD x7, .second, oD x9, .second, oD x11, .second, oD x13, .second, oD x16, .second, oR h0.size, .unset, .unset] [(.double x16), (.double y1), (.int (0 : Int32)), (.int (7 : Int32))])
    refine own_callS XT100 hx hZ hown (hw _ (List.mem_of_getElem? (i := 2) rfl)) (hw _ (List.mem_of_getElem? (i := 3) rfl)) (hw _ (List.mem_of_getElem? (i := 4) rfl)) (hw _ (List.mem_of_getElem? (i := 5) rfl)) (by decide) eT100 (argsL := [(.int (7 : Int32)), (.int (0 : Int32)), (.double y1), (.double x16)]) (rest := []) (own_one_met l Z a0 hw (7 : Int32) (0 : Int32) y1 x16 hT100) 0 (by decide) (by decide) (by rw [hml]; rfl) (lenOf pd_0 rfl) (Nat.le_of_eq rfl) (hb hby at_192) (by decide) (by decide) (st := [(.double x16), (.double y1), (.int (0 : Int32)), (.int (7 : Int32))]) rfl ?_
    intro T101 LT101 vT101 XT101 hQT101
    obtain ⟨rfl, eT101, rfl⟩ := hQT101
    show own_Go p e below _ T101 (mkF m 195 #[oI i0, oI i1, oI i2, oI i3, oI (7 : Int32), oD y1, .second, oD x3, .second, oD x5, .second, oD x7, .second, oD x9, .second, oD x11, .second, oD x13, .second, oD x16, .second, oR h0.size, .unset, .unset] [(.int (own_one (7 : Int32) (0 : Int32) y1 x16))])
    refine own_by (fun t_ k_ => XS.iload XT101.here hx rfl (hb hby at_195) rfl  k_) ?_
    show own_Go p e below _ T101 (mkF m 197 #[oI i0, oI i1, oI i2, oI i3, oI (7 : Int32), oD y1, .second, oD x3, .second, oD x5, .second, oD x7, .second, oD x9, .second, oD x11, .second, oD x13, .second, oD x16, .second, oR h0.size, .unset, .unset] [(.int (7 : Int32)), (.int (own_one (7 : Int32) (0 : Int32) y1 x16))])
    refine own_by (fun t_ k_ => XT.iconstV XT101.here hx rfl (1 : Int32) (hb hby at_197) (by decide) k_) ?_
    show own_Go p e below _ T101 (mkF m 198 #[oI i0, oI i1, oI i2, oI i3, oI (7 : Int32), oD y1, .second, oD x3, .second, oD x5, .second, oD x7, .second, oD x9, .second, oD x11, .second, oD x13, .second, oD x16, .second, oR h0.size, .unset, .unset] [(.int (1 : Int32)), (.int (7 : Int32)), (.int (own_one (7 : Int32) (0 : Int32) y1 x16))])
    refine own_by (fun t_ k_ => XS.dload XT101.here hx rfl (hb hby at_198) rfl  k_) ?_
    show own_Go p e below _ T101 (mkF m 200 #[oI i0, oI i1, oI i2, oI i3, oI (7 : Int32), oD y1, .second, oD x3, .second, oD x5, .second, oD x7, .second, oD x9, .second, oD x11, .second, oD x13, .second, oD x16, .second, oR h0.size, .unset, .unset] [(.double x3), (.int (1 : Int32)), (.int (7 : Int32)), (.int (own_one (7 : Int32) (0 : Int32) y1 x16))])
    refine own_by (fun t_ k_ => XS.dload XT101.here hx rfl (hb hby at_200) rfl  k_) ?_
    show own_Go p e below _ T101 (mkF m 202 #[oI i0, oI i1, oI i2, oI i3, oI (7 : Int32), oD y1, .second, oD x3, .second, oD x5, .second, oD x7, .second, oD x9, .second, oD x11, .second, oD x13, .second, oD x16, .second, oR h0.size, .unset, .unset] [(.double x16), (.double x3), (.int (1 : Int32)), (.int (7 : Int32)), (.int (own_one (7 : Int32) (0 : Int32) y1 x16))])
    refine own_callS XT101 hx hZ hown (hw _ (List.mem_of_getElem? (i := 2) rfl)) (hw _ (List.mem_of_getElem? (i := 3) rfl)) (hw _ (List.mem_of_getElem? (i := 4) rfl)) (hw _ (List.mem_of_getElem? (i := 5) rfl)) (by decide) eT101 (argsL := [(.int (7 : Int32)), (.int (1 : Int32)), (.double x3), (.double x16)]) (rest := [(.int (own_one (7 : Int32) (0 : Int32) y1 x16))]) (own_one_met l Z a0 hw (7 : Int32) (1 : Int32) x3 x16 hT100) 1 (by decide) (by decide) (by rw [hml]; rfl) (lenOf pd_0 rfl) (Nat.le_of_eq rfl) (hb hby at_202) (by decide) (by decide) (st := [(.double x16), (.double x3), (.int (1 : Int32)), (.int (7 : Int32)), (.int (own_one (7 : Int32) (0 : Int32) y1 x16))]) rfl ?_
    intro T102 LT102 vT102 XT102 hQT102
    obtain ⟨rfl, eT102, rfl⟩ := hQT102
    show own_Go p e below _ T102 (mkF m 205 #[oI i0, oI i1, oI i2, oI i3, oI (7 : Int32), oD y1, .second, oD x3, .second, oD x5, .second, oD x7, .second, oD x9, .second, oD x11, .second, oD x13, .second, oD x16, .second, oR h0.size, .unset, .unset] [(.int (own_one (7 : Int32) (1 : Int32) x3 x16)), (.int (own_one (7 : Int32) (0 : Int32) y1 x16))])
    refine own_by (fun t_ k_ => XS.iadd XT102.here hx rfl (hb hby at_205) rfl k_) ?_
    show own_Go p e below _ T102 (mkF m 206 #[oI i0, oI i1, oI i2, oI i3, oI (7 : Int32), oD y1, .second, oD x3, .second, oD x5, .second, oD x7, .second, oD x9, .second, oD x11, .second, oD x13, .second, oD x16, .second, oR h0.size, .unset, .unset] [(.int ((own_one (7 : Int32) (0 : Int32) y1 x16) + (own_one (7 : Int32) (1 : Int32) x3 x16)))])
    refine own_by (fun t_ k_ => XS.iload XT102.here hx rfl (hb hby at_206) rfl  k_) ?_
    show own_Go p e below _ T102 (mkF m 208 #[oI i0, oI i1, oI i2, oI i3, oI (7 : Int32), oD y1, .second, oD x3, .second, oD x5, .second, oD x7, .second, oD x9, .second, oD x11, .second, oD x13, .second, oD x16, .second, oR h0.size, .unset, .unset] [(.int (7 : Int32)), (.int ((own_one (7 : Int32) (0 : Int32) y1 x16) + (own_one (7 : Int32) (1 : Int32) x3 x16)))])
    refine own_by (fun t_ k_ => XT.iconstV XT102.here hx rfl (2 : Int32) (hb hby at_208) (by decide) k_) ?_
    show own_Go p e below _ T102 (mkF m 209 #[oI i0, oI i1, oI i2, oI i3, oI (7 : Int32), oD y1, .second, oD x3, .second, oD x5, .second, oD x7, .second, oD x9, .second, oD x11, .second, oD x13, .second, oD x16, .second, oR h0.size, .unset, .unset] [(.int (2 : Int32)), (.int (7 : Int32)), (.int ((own_one (7 : Int32) (0 : Int32) y1 x16) + (own_one (7 : Int32) (1 : Int32) x3 x16)))])
    refine own_by (fun t_ k_ => XS.dload XT102.here hx rfl (hb hby at_209) rfl  k_) ?_
    show own_Go p e below _ T102 (mkF m 211 #[oI i0, oI i1, oI i2, oI i3, oI (7 : Int32), oD y1, .second, oD x3, .second, oD x5, .second, oD x7, .second, oD x9, .second, oD x11, .second, oD x13, .second, oD x16, .second, oR h0.size, .unset, .unset] [(.double x5), (.int (2 : Int32)), (.int (7 : Int32)), (.int ((own_one (7 : Int32) (0 : Int32) y1 x16) + (own_one (7 : Int32) (1 : Int32) x3 x16)))])
    refine own_by (fun t_ k_ => XS.dload XT102.here hx rfl (hb hby at_211) rfl  k_) ?_
    show own_Go p e below _ T102 (mkF m 213 #[oI i0, oI i1, oI i2, oI i3, oI (7 : Int32), oD y1, .second, oD x3, .second, oD x5, .second, oD x7, .second, oD x9, .second, oD x11, .second, oD x13, .second, oD x16, .second, oR h0.size, .unset, .unset] [(.double x16), (.double x5), (.int (2 : Int32)), (.int (7 : Int32)), (.int ((own_one (7 : Int32) (0 : Int32) y1 x16) + (own_one (7 : Int32) (1 : Int32) x3 x16)))])
    refine own_callS XT102 hx hZ hown (hw _ (List.mem_of_getElem? (i := 2) rfl)) (hw _ (List.mem_of_getElem? (i := 3) rfl)) (hw _ (List.mem_of_getElem? (i := 4) rfl)) (hw _ (List.mem_of_getElem? (i := 5) rfl)) (by decide) eT102 (argsL := [(.int (7 : Int32)), (.int (2 : Int32)), (.double x5), (.double x16)]) (rest := [(.int ((own_one (7 : Int32) (0 : Int32) y1 x16) + (own_one (7 : Int32) (1 : Int32) x3 x16)))]) (own_one_met l Z a0 hw (7 : Int32) (2 : Int32) x5 x16 hT100) 1 (by decide) (by decide) (by rw [hml]; rfl) (lenOf pd_0 rfl) (Nat.le_of_eq rfl) (hb hby at_213) (by decide) (by decide) (st := [(.double x16), (.double x5), (.int (2 : Int32)), (.int (7 : Int32)), (.int ((own_one (7 : Int32) (0 : Int32) y1 x16) + (own_one (7 : Int32) (1 : Int32) x3 x16)))]) rfl ?_
    intro T103 LT103 vT103 XT103 hQT103
    obtain ⟨rfl, eT103, rfl⟩ := hQT103
    show own_Go p e below _ T103 (mkF m 216 #[oI i0, oI i1, oI i2, oI i3, oI (7 : Int32), oD y1, .second, oD x3, .second, oD x5, .second, oD x7, .second, oD x9, .second, oD x11, .second, oD x13, .second, oD x16, .second, oR h0.size, .unset, .unset] [(.int (own_one (7 : Int32) (2 : Int32) x5 x16)), (.int ((own_one (7 : Int32) (0 : Int32) y1 x16) + (own_one (7 : Int32) (1 : Int32) x3 x16)))])
    refine own_by (fun t_ k_ => XS.iadd XT103.here hx rfl (hb hby at_216) rfl k_) ?_
    show own_Go p e below _ T103 (mkF m 217 #[oI i0, oI i1, oI i2, oI i3, oI (7 : Int32), oD y1, .second, oD x3, .second, oD x5, .second, oD x7, .second, oD x9, .second, oD x11, .second, oD x13, .second, oD x16, .second, oR h0.size, .unset, .unset] [(.int (((own_one (7 : Int32) (0 : Int32) y1 x16) + (own_one (7 : Int32) (1 : Int32) x3 x16)) + (own_one (7 : Int32) (2 : Int32) x5 x16)))])
    refine own_by (fun t_ k_ => XS.iload XT103.here hx rfl (hb hby at_217) rfl  k_) ?_
    show own_Go p e below _ T103 (mkF m 219 #[oI i0, oI i1, oI i2, oI i3, oI (7 : Int32), oD y1, .second, oD x3, .second, oD x5, .second, oD x7, .second, oD x9, .second, oD x11, .second, oD x13, .second, oD x16, .second, oR h0.size, .unset, .unset] [(.int (7 : Int32)), (.int (((own_one (7 : Int32) (0 : Int32) y1 x16) + (own_one (7 : Int32) (1 : Int32) x3 x16)) + (own_one (7 : Int32) (2 : Int32) x5 x16)))])
    refine own_by (fun t_ k_ => XT.iconstV XT103.here hx rfl (3 : Int32) (hb hby at_219) (by decide) k_) ?_
    show own_Go p e below _ T103 (mkF m 220 #[oI i0, oI i1, oI i2, oI i3, oI (7 : Int32), oD y1, .second, oD x3, .second, oD x5, .second, oD x7, .second, oD x9, .second, oD x11, .second, oD x13, .second, oD x16, .second, oR h0.size, .unset, .unset] [(.int (3 : Int32)), (.int (7 : Int32)), (.int (((own_one (7 : Int32) (0 : Int32) y1 x16) + (own_one (7 : Int32) (1 : Int32) x3 x16)) + (own_one (7 : Int32) (2 : Int32) x5 x16)))])
    refine own_by (fun t_ k_ => XS.dload XT103.here hx rfl (hb hby at_220) rfl  k_) ?_
    show own_Go p e below _ T103 (mkF m 222 #[oI i0, oI i1, oI i2, oI i3, oI (7 : Int32), oD y1, .second, oD x3, .second, oD x5, .second, oD x7, .second, oD x9, .second, oD x11, .second, oD x13, .second, oD x16, .second, oR h0.size, .unset, .unset] [(.double x7), (.int (3 : Int32)), (.int (7 : Int32)), (.int (((own_one (7 : Int32) (0 : Int32) y1 x16) + (own_one (7 : Int32) (1 : Int32) x3 x16)) + (own_one (7 : Int32) (2 : Int32) x5 x16)))])
    refine own_by (fun t_ k_ => XS.dload XT103.here hx rfl (hb hby at_222) rfl  k_) ?_
    show own_Go p e below _ T103 (mkF m 224 #[oI i0, oI i1, oI i2, oI i3, oI (7 : Int32), oD y1, .second, oD x3, .second, oD x5, .second, oD x7, .second, oD x9, .second, oD x11, .second, oD x13, .second, oD x16, .second, oR h0.size, .unset, .unset] [(.double x16), (.double x7), (.int (3 : Int32)), (.int (7 : Int32)), (.int (((own_one (7 : Int32) (0 : Int32) y1 x16) + (own_one (7 : Int32) (1 : Int32) x3 x16)) + (own_one (7 : Int32) (2 : Int32) x5 x16)))])
    refine own_callS XT103 hx hZ hown (hw _ (List.mem_of_getElem? (i := 2) rfl)) (hw _ (List.mem_of_getElem? (i := 3) rfl)) (hw _ (List.mem_of_getElem? (i := 4) rfl)) (hw _ (List.mem_of_getElem? (i := 5) rfl)) (by decide) eT103 (argsL := [(.int (7 : Int32)), (.int (3 : Int32)), (.double x7), (.double x16)]) (rest := [(.int (((own_one (7 : Int32) (0 : Int32) y1 x16) + (own_one (7 : Int32) (1 : Int32) x3 x16)) + (own_one (7 : Int32) (2 : Int32) x5 x16)))]) (own_one_met l Z a0 hw (7 : Int32) (3 : Int32) x7 x16 hT100) 1 (by decide) (by decide) (by rw [hml]; rfl) (lenOf pd_0 rfl) (Nat.le_of_eq rfl) (hb hby at_224) (by decide) (by decide) (st := [(.double x16), (.double x7), (.int (3 : Int32)), (.int (7 : Int32)), (.int (((own_one (7 : Int32) (0 : Int32) y1 x16) + (own_one (7 : Int32) (1 : Int32) x3 x16)) + (own_one (7 : Int32) (2 : Int32) x5 x16)))]) rfl ?_
    intro T104 LT104 vT104 XT104 hQT104
    obtain ⟨rfl, eT104, rfl⟩ := hQT104
    show own_Go p e below _ T104 (mkF m 227 #[oI i0, oI i1, oI i2, oI i3, oI (7 : Int32), oD y1, .second, oD x3, .second, oD x5, .second, oD x7, .second, oD x9, .second, oD x11, .second, oD x13, .second, oD x16, .second, oR h0.size, .unset, .unset] [(.int (own_one (7 : Int32) (3 : Int32) x7 x16)), (.int (((own_one (7 : Int32) (0 : Int32) y1 x16) + (own_one (7 : Int32) (1 : Int32) x3 x16)) + (own_one (7 : Int32) (2 : Int32) x5 x16)))])
    refine own_by (fun t_ k_ => XS.iadd XT104.here hx rfl (hb hby at_227) rfl k_) ?_
    show own_Go p e below _ T104 (mkF m 228 #[oI i0, oI i1, oI i2, oI i3, oI (7 : Int32), oD y1, .second, oD x3, .second, oD x5, .second, oD x7, .second, oD x9, .second, oD x11, .second, oD x13, .second, oD x16, .second, oR h0.size, .unset, .unset] [(.int ((((own_one (7 : Int32) (0 : Int32) y1 x16) + (own_one (7 : Int32) (1 : Int32) x3 x16)) + (own_one (7 : Int32) (2 : Int32) x5 x16)) + (own_one (7 : Int32) (3 : Int32) x7 x16)))])
    refine own_by (fun t_ k_ => XS.iload XT104.here hx rfl (hb hby at_228) rfl  k_) ?_
    show own_Go p e below _ T104 (mkF m 230 #[oI i0, oI i1, oI i2, oI i3, oI (7 : Int32), oD y1, .second, oD x3, .second, oD x5, .second, oD x7, .second, oD x9, .second, oD x11, .second, oD x13, .second, oD x16, .second, oR h0.size, .unset, .unset] [(.int (7 : Int32)), (.int ((((own_one (7 : Int32) (0 : Int32) y1 x16) + (own_one (7 : Int32) (1 : Int32) x3 x16)) + (own_one (7 : Int32) (2 : Int32) x5 x16)) + (own_one (7 : Int32) (3 : Int32) x7 x16)))])
    refine own_by (fun t_ k_ => XT.iconstV XT104.here hx rfl (4 : Int32) (hb hby at_230) (by decide) k_) ?_
    show own_Go p e below _ T104 (mkF m 231 #[oI i0, oI i1, oI i2, oI i3, oI (7 : Int32), oD y1, .second, oD x3, .second, oD x5, .second, oD x7, .second, oD x9, .second, oD x11, .second, oD x13, .second, oD x16, .second, oR h0.size, .unset, .unset] [(.int (4 : Int32)), (.int (7 : Int32)), (.int ((((own_one (7 : Int32) (0 : Int32) y1 x16) + (own_one (7 : Int32) (1 : Int32) x3 x16)) + (own_one (7 : Int32) (2 : Int32) x5 x16)) + (own_one (7 : Int32) (3 : Int32) x7 x16)))])
    refine own_by (fun t_ k_ => XS.dload XT104.here hx rfl (hb hby at_231) rfl  k_) ?_
    show own_Go p e below _ T104 (mkF m 233 #[oI i0, oI i1, oI i2, oI i3, oI (7 : Int32), oD y1, .second, oD x3, .second, oD x5, .second, oD x7, .second, oD x9, .second, oD x11, .second, oD x13, .second, oD x16, .second, oR h0.size, .unset, .unset] [(.double x9), (.int (4 : Int32)), (.int (7 : Int32)), (.int ((((own_one (7 : Int32) (0 : Int32) y1 x16) + (own_one (7 : Int32) (1 : Int32) x3 x16)) + (own_one (7 : Int32) (2 : Int32) x5 x16)) + (own_one (7 : Int32) (3 : Int32) x7 x16)))])
    refine own_by (fun t_ k_ => XS.dload XT104.here hx rfl (hb hby at_233) rfl  k_) ?_
    show own_Go p e below _ T104 (mkF m 235 #[oI i0, oI i1, oI i2, oI i3, oI (7 : Int32), oD y1, .second, oD x3, .second, oD x5, .second, oD x7, .second, oD x9, .second, oD x11, .second, oD x13, .second, oD x16, .second, oR h0.size, .unset, .unset] [(.double x16), (.double x9), (.int (4 : Int32)), (.int (7 : Int32)), (.int ((((own_one (7 : Int32) (0 : Int32) y1 x16) + (own_one (7 : Int32) (1 : Int32) x3 x16)) + (own_one (7 : Int32) (2 : Int32) x5 x16)) + (own_one (7 : Int32) (3 : Int32) x7 x16)))])
    refine own_callS XT104 hx hZ hown (hw _ (List.mem_of_getElem? (i := 2) rfl)) (hw _ (List.mem_of_getElem? (i := 3) rfl)) (hw _ (List.mem_of_getElem? (i := 4) rfl)) (hw _ (List.mem_of_getElem? (i := 5) rfl)) (by decide) eT104 (argsL := [(.int (7 : Int32)), (.int (4 : Int32)), (.double x9), (.double x16)]) (rest := [(.int ((((own_one (7 : Int32) (0 : Int32) y1 x16) + (own_one (7 : Int32) (1 : Int32) x3 x16)) + (own_one (7 : Int32) (2 : Int32) x5 x16)) + (own_one (7 : Int32) (3 : Int32) x7 x16)))]) (own_one_met l Z a0 hw (7 : Int32) (4 : Int32) x9 x16 hT100) 1 (by decide) (by decide) (by rw [hml]; rfl) (lenOf pd_0 rfl) (Nat.le_of_eq rfl) (hb hby at_235) (by decide) (by decide) (st := [(.double x16), (.double x9), (.int (4 : Int32)), (.int (7 : Int32)), (.int ((((own_one (7 : Int32) (0 : Int32) y1 x16) + (own_one (7 : Int32) (1 : Int32) x3 x16)) + (own_one (7 : Int32) (2 : Int32) x5 x16)) + (own_one (7 : Int32) (3 : Int32) x7 x16)))]) rfl ?_
    intro T105 LT105 vT105 XT105 hQT105
    obtain ⟨rfl, eT105, rfl⟩ := hQT105
    show own_Go p e below _ T105 (mkF m 238 #[oI i0, oI i1, oI i2, oI i3, oI (7 : Int32), oD y1, .second, oD x3, .second, oD x5, .second, oD x7, .second, oD x9, .second, oD x11, .second, oD x13, .second, oD x16, .second, oR h0.size, .unset, .unset] [(.int (own_one (7 : Int32) (4 : Int32) x9 x16)), (.int ((((own_one (7 : Int32) (0 : Int32) y1 x16) + (own_one (7 : Int32) (1 : Int32) x3 x16)) + (own_one (7 : Int32) (2 : Int32) x5 x16)) + (own_one (7 : Int32) (3 : Int32) x7 x16)))])
    refine own_by (fun t_ k_ => XS.iadd XT105.here hx rfl (hb hby at_238) rfl k_) ?_
    show own_Go p e below _ T105 (mkF m 239 #[oI i0, oI i1, oI i2, oI i3, oI (7 : Int32), oD y1, .second, oD x3, .second, oD x5, .second, oD x7, .second, oD x9, .second, oD x11, .second, oD x13, .second, oD x16, .second, oR h0.size, .unset, .unset] [(.int (((((own_one (7 : Int32) (0 : Int32) y1 x16) + (own_one (7 : Int32) (1 : Int32) x3 x16)) + (own_one (7 : Int32) (2 : Int32) x5 x16)) + (own_one (7 : Int32) (3 : Int32) x7 x16)) + (own_one (7 : Int32) (4 : Int32) x9 x16)))])
    refine own_by (fun t_ k_ => XS.iload XT105.here hx rfl (hb hby at_239) rfl  k_) ?_
    show own_Go p e below _ T105 (mkF m 241 #[oI i0, oI i1, oI i2, oI i3, oI (7 : Int32), oD y1, .second, oD x3, .second, oD x5, .second, oD x7, .second, oD x9, .second, oD x11, .second, oD x13, .second, oD x16, .second, oR h0.size, .unset, .unset] [(.int (7 : Int32)), (.int (((((own_one (7 : Int32) (0 : Int32) y1 x16) + (own_one (7 : Int32) (1 : Int32) x3 x16)) + (own_one (7 : Int32) (2 : Int32) x5 x16)) + (own_one (7 : Int32) (3 : Int32) x7 x16)) + (own_one (7 : Int32) (4 : Int32) x9 x16)))])
    refine own_by (fun t_ k_ => XT.iconstV XT105.here hx rfl (5 : Int32) (hb hby at_241) (by decide) k_) ?_
    show own_Go p e below _ T105 (mkF m 242 #[oI i0, oI i1, oI i2, oI i3, oI (7 : Int32), oD y1, .second, oD x3, .second, oD x5, .second, oD x7, .second, oD x9, .second, oD x11, .second, oD x13, .second, oD x16, .second, oR h0.size, .unset, .unset] [(.int (5 : Int32)), (.int (7 : Int32)), (.int (((((own_one (7 : Int32) (0 : Int32) y1 x16) + (own_one (7 : Int32) (1 : Int32) x3 x16)) + (own_one (7 : Int32) (2 : Int32) x5 x16)) + (own_one (7 : Int32) (3 : Int32) x7 x16)) + (own_one (7 : Int32) (4 : Int32) x9 x16)))])
    refine own_by (fun t_ k_ => XS.dload XT105.here hx rfl (hb hby at_242) rfl  k_) ?_
    show own_Go p e below _ T105 (mkF m 244 #[oI i0, oI i1, oI i2, oI i3, oI (7 : Int32), oD y1, .second, oD x3, .second, oD x5, .second, oD x7, .second, oD x9, .second, oD x11, .second, oD x13, .second, oD x16, .second, oR h0.size, .unset, .unset] [(.double x11), (.int (5 : Int32)), (.int (7 : Int32)), (.int (((((own_one (7 : Int32) (0 : Int32) y1 x16) + (own_one (7 : Int32) (1 : Int32) x3 x16)) + (own_one (7 : Int32) (2 : Int32) x5 x16)) + (own_one (7 : Int32) (3 : Int32) x7 x16)) + (own_one (7 : Int32) (4 : Int32) x9 x16)))])
    refine own_by (fun t_ k_ => XS.dload XT105.here hx rfl (hb hby at_244) rfl  k_) ?_
    show own_Go p e below _ T105 (mkF m 246 #[oI i0, oI i1, oI i2, oI i3, oI (7 : Int32), oD y1, .second, oD x3, .second, oD x5, .second, oD x7, .second, oD x9, .second, oD x11, .second, oD x13, .second, oD x16, .second, oR h0.size, .unset, .unset] [(.double x16), (.double x11), (.int (5 : Int32)), (.int (7 : Int32)), (.int (((((own_one (7 : Int32) (0 : Int32) y1 x16) + (own_one (7 : Int32) (1 : Int32) x3 x16)) + (own_one (7 : Int32) (2 : Int32) x5 x16)) + (own_one (7 : Int32) (3 : Int32) x7 x16)) + (own_one (7 : Int32) (4 : Int32) x9 x16)))])
    refine own_callS XT105 hx hZ hown (hw _ (List.mem_of_getElem? (i := 2) rfl)) (hw _ (List.mem_of_getElem? (i := 3) rfl)) (hw _ (List.mem_of_getElem? (i := 4) rfl)) (hw _ (List.mem_of_getElem? (i := 5) rfl)) (by decide) eT105 (argsL := [(.int (7 : Int32)), (.int (5 : Int32)), (.double x11), (.double x16)]) (rest := [(.int (((((own_one (7 : Int32) (0 : Int32) y1 x16) + (own_one (7 : Int32) (1 : Int32) x3 x16)) + (own_one (7 : Int32) (2 : Int32) x5 x16)) + (own_one (7 : Int32) (3 : Int32) x7 x16)) + (own_one (7 : Int32) (4 : Int32) x9 x16)))]) (own_one_met l Z a0 hw (7 : Int32) (5 : Int32) x11 x16 hT100) 1 (by decide) (by decide) (by rw [hml]; rfl) (lenOf pd_0 rfl) (Nat.le_of_eq rfl) (hb hby at_246) (by decide) (by decide) (st := [(.double x16), (.double x11), (.int (5 : Int32)), (.int (7 : Int32)), (.int (((((own_one (7 : Int32) (0 : Int32) y1 x16) + (own_one (7 : Int32) (1 : Int32) x3 x16)) + (own_one (7 : Int32) (2 : Int32) x5 x16)) + (own_one (7 : Int32) (3 : Int32) x7 x16)) + (own_one (7 : Int32) (4 : Int32) x9 x16)))]) rfl ?_
    intro T106 LT106 vT106 XT106 hQT106
    obtain ⟨rfl, eT106, rfl⟩ := hQT106
    show own_Go p e below _ T106 (mkF m 249 #[oI i0, oI i1, oI i2, oI i3, oI (7 : Int32), oD y1, .second, oD x3, .second, oD x5, .second, oD x7, .second, oD x9, .second, oD x11, .second, oD x13, .second, oD x16, .second, oR h0.size, .unset, .unset] [(.int (own_one (7 : Int32) (5 : Int32) x11 x16)), (.int (((((own_one (7 : Int32) (0 : Int32) y1 x16) + (own_one (7 : Int32) (1 : Int32) x3 x16)) + (own_one (7 : Int32) (2 : Int32) x5 x16)) + (own_one (7 : Int32) (3 : Int32) x7 x16)) + (own_one (7 : Int32) (4 : Int32) x9 x16)))])
    refine own_by (fun t_ k_ => XS.iadd XT106.here hx rfl (hb hby at_249) rfl k_) ?_
    show own_Go p e below _ T106 (mkF m 250 #[oI i0, oI i1, oI i2, oI i3, oI (7 : Int32), oD y1, .second, oD x3, .second, oD x5, .second, oD x7, .second, oD x9, .second, oD x11, .second, oD x13, .second, oD x16, .second, oR h0.size, .unset, .unset] [(.int ((((((own_one (7 : Int32) (0 : Int32) y1 x16) + (own_one (7 : Int32) (1 : Int32) x3 x16)) + (own_one (7 : Int32) (2 : Int32) x5 x16)) + (own_one (7 : Int32) (3 : Int32) x7 x16)) + (own_one (7 : Int32) (4 : Int32) x9 x16)) + (own_one (7 : Int32) (5 : Int32) x11 x16)))])
    refine own_by (fun t_ k_ => XS.iload XT106.here hx rfl (hb hby at_250) rfl  k_) ?_
    show own_Go p e below _ T106 (mkF m 252 #[oI i0, oI i1, oI i2, oI i3, oI (7 : Int32), oD y1, .second, oD x3, .second, oD x5, .second, oD x7, .second, oD x9, .second, oD x11, .second, oD x13, .second, oD x16, .second, oR h0.size, .unset, .unset] [(.int (7 : Int32)), (.int ((((((own_one (7 : Int32) (0 : Int32) y1 x16) + (own_one (7 : Int32) (1 : Int32) x3 x16)) + (own_one (7 : Int32) (2 : Int32) x5 x16)) + (own_one (7 : Int32) (3 : Int32) x7 x16)) + (own_one (7 : Int32) (4 : Int32) x9 x16)) + (own_one (7 : Int32) (5 : Int32) x11 x16)))])
    refine own_by (fun t_ k_ => XT.bipushV XT106.here hx rfl (6 : Int32) (hb hby at_252) (by decide) k_) ?_
    show own_Go p e below _ T106 (mkF m 254 #[oI i0, oI i1, oI i2, oI i3, oI (7 : Int32), oD y1, .second, oD x3, .second, oD x5, .second, oD x7, .second, oD x9, .second, oD x11, .second, oD x13, .second, oD x16, .second, oR h0.size, .unset, .unset] [(.int (6 : Int32)), (.int (7 : Int32)), (.int ((((((own_one (7 : Int32) (0 : Int32) y1 x16) + (own_one (7 : Int32) (1 : Int32) x3 x16)) + (own_one (7 : Int32) (2 : Int32) x5 x16)) + (own_one (7 : Int32) (3 : Int32) x7 x16)) + (own_one (7 : Int32) (4 : Int32) x9 x16)) + (own_one (7 : Int32) (5 : Int32) x11 x16)))])
    refine own_by (fun t_ k_ => XS.dload XT106.here hx rfl (hb hby at_254) rfl  k_) ?_
    show own_Go p e below _ T106 (mkF m 256 #[oI i0, oI i1, oI i2, oI i3, oI (7 : Int32), oD y1, .second, oD x3, .second, oD x5, .second, oD x7, .second, oD x9, .second, oD x11, .second, oD x13, .second, oD x16, .second, oR h0.size, .unset, .unset] [(.double x13), (.int (6 : Int32)), (.int (7 : Int32)), (.int ((((((own_one (7 : Int32) (0 : Int32) y1 x16) + (own_one (7 : Int32) (1 : Int32) x3 x16)) + (own_one (7 : Int32) (2 : Int32) x5 x16)) + (own_one (7 : Int32) (3 : Int32) x7 x16)) + (own_one (7 : Int32) (4 : Int32) x9 x16)) + (own_one (7 : Int32) (5 : Int32) x11 x16)))])
    refine own_by (fun t_ k_ => XS.dload XT106.here hx rfl (hb hby at_256) rfl  k_) ?_
    show own_Go p e below _ T106 (mkF m 258 #[oI i0, oI i1, oI i2, oI i3, oI (7 : Int32), oD y1, .second, oD x3, .second, oD x5, .second, oD x7, .second, oD x9, .second, oD x11, .second, oD x13, .second, oD x16, .second, oR h0.size, .unset, .unset] [(.double x16), (.double x13), (.int (6 : Int32)), (.int (7 : Int32)), (.int ((((((own_one (7 : Int32) (0 : Int32) y1 x16) + (own_one (7 : Int32) (1 : Int32) x3 x16)) + (own_one (7 : Int32) (2 : Int32) x5 x16)) + (own_one (7 : Int32) (3 : Int32) x7 x16)) + (own_one (7 : Int32) (4 : Int32) x9 x16)) + (own_one (7 : Int32) (5 : Int32) x11 x16)))])
    refine own_callS XT106 hx hZ hown (hw _ (List.mem_of_getElem? (i := 2) rfl)) (hw _ (List.mem_of_getElem? (i := 3) rfl)) (hw _ (List.mem_of_getElem? (i := 4) rfl)) (hw _ (List.mem_of_getElem? (i := 5) rfl)) (by decide) eT106 (argsL := [(.int (7 : Int32)), (.int (6 : Int32)), (.double x13), (.double x16)]) (rest := [(.int ((((((own_one (7 : Int32) (0 : Int32) y1 x16) + (own_one (7 : Int32) (1 : Int32) x3 x16)) + (own_one (7 : Int32) (2 : Int32) x5 x16)) + (own_one (7 : Int32) (3 : Int32) x7 x16)) + (own_one (7 : Int32) (4 : Int32) x9 x16)) + (own_one (7 : Int32) (5 : Int32) x11 x16)))]) (own_one_met l Z a0 hw (7 : Int32) (6 : Int32) x13 x16 hT100) 1 (by decide) (by decide) (by rw [hml]; rfl) (lenOf pd_0 rfl) (Nat.le_of_eq rfl) (hb hby at_258) (by decide) (by decide) (st := [(.double x16), (.double x13), (.int (6 : Int32)), (.int (7 : Int32)), (.int ((((((own_one (7 : Int32) (0 : Int32) y1 x16) + (own_one (7 : Int32) (1 : Int32) x3 x16)) + (own_one (7 : Int32) (2 : Int32) x5 x16)) + (own_one (7 : Int32) (3 : Int32) x7 x16)) + (own_one (7 : Int32) (4 : Int32) x9 x16)) + (own_one (7 : Int32) (5 : Int32) x11 x16)))]) rfl ?_
    intro T107 LT107 vT107 XT107 hQT107
    obtain ⟨rfl, eT107, rfl⟩ := hQT107
    show own_Go p e below _ T107 (mkF m 261 #[oI i0, oI i1, oI i2, oI i3, oI (7 : Int32), oD y1, .second, oD x3, .second, oD x5, .second, oD x7, .second, oD x9, .second, oD x11, .second, oD x13, .second, oD x16, .second, oR h0.size, .unset, .unset] [(.int (own_one (7 : Int32) (6 : Int32) x13 x16)), (.int ((((((own_one (7 : Int32) (0 : Int32) y1 x16) + (own_one (7 : Int32) (1 : Int32) x3 x16)) + (own_one (7 : Int32) (2 : Int32) x5 x16)) + (own_one (7 : Int32) (3 : Int32) x7 x16)) + (own_one (7 : Int32) (4 : Int32) x9 x16)) + (own_one (7 : Int32) (5 : Int32) x11 x16)))])
    refine own_by (fun t_ k_ => XS.iadd XT107.here hx rfl (hb hby at_261) rfl k_) ?_
    show own_Go p e below _ T107 (mkF m 262 #[oI i0, oI i1, oI i2, oI i3, oI (7 : Int32), oD y1, .second, oD x3, .second, oD x5, .second, oD x7, .second, oD x9, .second, oD x11, .second, oD x13, .second, oD x16, .second, oR h0.size, .unset, .unset] [(.int (((((((own_one (7 : Int32) (0 : Int32) y1 x16) + (own_one (7 : Int32) (1 : Int32) x3 x16)) + (own_one (7 : Int32) (2 : Int32) x5 x16)) + (own_one (7 : Int32) (3 : Int32) x7 x16)) + (own_one (7 : Int32) (4 : Int32) x9 x16)) + (own_one (7 : Int32) (5 : Int32) x11 x16)) + (own_one (7 : Int32) (6 : Int32) x13 x16)))])
    refine own_by (fun t_ k_ => XS.istore XT107.here hx rfl (hb hby at_262) rfl (l' := #[oI i0, oI i1, oI i2, oI i3, oI (7 : Int32), oD y1, .second, oD x3, .second, oD x5, .second, oD x7, .second, oD x9, .second, oD x11, .second, oD x13, .second, oD x16, .second, oR h0.size, oI (((((((own_one (7 : Int32) (0 : Int32) y1 x16) + (own_one (7 : Int32) (1 : Int32) x3 x16)) + (own_one (7 : Int32) (2 : Int32) x5 x16)) + (own_one (7 : Int32) (3 : Int32) x7 x16)) + (own_one (7 : Int32) (4 : Int32) x9 x16)) + (own_one (7 : Int32) (5 : Int32) x11 x16)) + (own_one (7 : Int32) (6 : Int32) x13 x16)), .unset]) rfl k_) ?_
    show own_Go p e below _ T107 (mkF m 264 #[oI i0, oI i1, oI i2, oI i3, oI (7 : Int32), oD y1, .second, oD x3, .second, oD x5, .second, oD x7, .second, oD x9, .second, oD x11, .second, oD x13, .second, oD x16, .second, oR h0.size, oI (((((((own_one (7 : Int32) (0 : Int32) y1 x16) + (own_one (7 : Int32) (1 : Int32) x3 x16)) + (own_one (7 : Int32) (2 : Int32) x5 x16)) + (own_one (7 : Int32) (3 : Int32) x7 x16)) + (own_one (7 : Int32) (4 : Int32) x9 x16)) + (own_one (7 : Int32) (5 : Int32) x11 x16)) + (own_one (7 : Int32) (6 : Int32) x13 x16)), .unset] [])
    refine own_by (fun t_ k_ => XS.aload XT107.here hx rfl (hb hby at_264) rfl rfl  k_) ?_
    show own_Go p e below _ T107 (mkF m 266 #[oI i0, oI i1, oI i2, oI i3, oI (7 : Int32), oD y1, .second, oD x3, .second, oD x5, .second, oD x7, .second, oD x9, .second, oD x11, .second, oD x13, .second, oD x16, .second, oR h0.size, oI (((((((own_one (7 : Int32) (0 : Int32) y1 x16) + (own_one (7 : Int32) (1 : Int32) x3 x16)) + (own_one (7 : Int32) (2 : Int32) x5 x16)) + (own_one (7 : Int32) (3 : Int32) x7 x16)) + (own_one (7 : Int32) (4 : Int32) x9 x16)) + (own_one (7 : Int32) (5 : Int32) x11 x16)) + (own_one (7 : Int32) (6 : Int32) x13 x16)), .unset] [(.ref h0.size)])
    refine own_by (fun t_ k_ => XS.dload XT107.here hx rfl (hb hby at_266) rfl  k_) ?_
    show own_Go p e below _ T107 (mkF m 268 #[oI i0, oI i1, oI i2, oI i3, oI (7 : Int32), oD y1, .second, oD x3, .second, oD x5, .second, oD x7, .second, oD x9, .second, oD x11, .second, oD x13, .second, oD x16, .second, oR h0.size, oI (((((((own_one (7 : Int32) (0 : Int32) y1 x16) + (own_one (7 : Int32) (1 : Int32) x3 x16)) + (own_one (7 : Int32) (2 : Int32) x5 x16)) + (own_one (7 : Int32) (3 : Int32) x7 x16)) + (own_one (7 : Int32) (4 : Int32) x9 x16)) + (own_one (7 : Int32) (5 : Int32) x11 x16)) + (own_one (7 : Int32) (6 : Int32) x13 x16)), .unset] [(.double x16), (.ref h0.size)])
    refine own_callS XT107 hx hZ hown (hw _ (List.mem_of_getElem? (i := 6) rfl)) (hw _ (List.mem_of_getElem? (i := 7) rfl)) (hw _ (List.mem_of_getElem? (i := 8) rfl)) (hw _ (List.mem_of_getElem? (i := 9) rfl)) (by decide) eT107 (argsL := [(.ref h0.size), (.double x16)]) (rest := []) (own_cb7_met l Z a0 hw h0.size x16 kA y1 x3 x5 x7 x9 x11 x13 hT100 VT100) 0 (by decide) (by decide) (by rw [hml]; rfl) (lenOf pd_1 rfl) (Nat.le_of_eq rfl) (hb hby at_268) (by decide) (by decide) (st := [(.double x16), (.ref h0.size)]) rfl ?_
    intro T108 LT108 vT108 XT108 hQT108
    obtain ⟨rfl, eT108, rfl⟩ := hQT108
    show own_Go p e below _ T108 (mkF m 271 #[oI i0, oI i1, oI i2, oI i3, oI (7 : Int32), oD y1, .second, oD x3, .second, oD x5, .second, oD x7, .second, oD x9, .second, oD x11, .second, oD x13, .second, oD x16, .second, oR h0.size, oI (((((((own_one (7 : Int32) (0 : Int32) y1 x16) + (own_one (7 : Int32) (1 : Int32) x3 x16)) + (own_one (7 : Int32) (2 : Int32) x5 x16)) + (own_one (7 : Int32) (3 : Int32) x7 x16)) + (own_one (7 : Int32) (4 : Int32) x9 x16)) + (own_one (7 : Int32) (5 : Int32) x11 x16)) + (own_one (7 : Int32) (6 : Int32) x13 x16)), .unset] [(.int (own_cb7 h0.size x16 kA y1 x3 x5 x7 x9 x11 x13))])
    refine own_by (fun t_ k_ => XS.istore XT108.here hx rfl (hb hby at_271) rfl (l' := #[oI i0, oI i1, oI i2, oI i3, oI (7 : Int32), oD y1, .second, oD x3, .second, oD x5, .second, oD x7, .second, oD x9, .second, oD x11, .second, oD x13, .second, oD x16, .second, oR h0.size, oI (((((((own_one (7 : Int32) (0 : Int32) y1 x16) + (own_one (7 : Int32) (1 : Int32) x3 x16)) + (own_one (7 : Int32) (2 : Int32) x5 x16)) + (own_one (7 : Int32) (3 : Int32) x7 x16)) + (own_one (7 : Int32) (4 : Int32) x9 x16)) + (own_one (7 : Int32) (5 : Int32) x11 x16)) + (own_one (7 : Int32) (6 : Int32) x13 x16)), oI (own_cb7 h0.size x16 kA y1 x3 x5 x7 x9 x11 x13)]) rfl k_) ?_
    show own_Go p e below _ T108 (mkF m 273 #[oI i0, oI i1, oI i2, oI i3, oI (7 : Int32), oD y1, .second, oD x3, .second, oD x5, .second, oD x7, .second, oD x9, .second, oD x11, .second, oD x13, .second, oD x16, .second, oR h0.size, oI (((((((own_one (7 : Int32) (0 : Int32) y1 x16) + (own_one (7 : Int32) (1 : Int32) x3 x16)) + (own_one (7 : Int32) (2 : Int32) x5 x16)) + (own_one (7 : Int32) (3 : Int32) x7 x16)) + (own_one (7 : Int32) (4 : Int32) x9 x16)) + (own_one (7 : Int32) (5 : Int32) x11 x16)) + (own_one (7 : Int32) (6 : Int32) x13 x16)), oI (own_cb7 h0.size x16 kA y1 x3 x5 x7 x9 x11 x13)] [])
    refine own_by (fun t_ k_ => XS.iload XT108.here hx rfl (hb hby at_273) rfl  k_) ?_
    show own_Go p e below _ T108 (mkF m 275 #[oI i0, oI i1, oI i2, oI i3, oI (7 : Int32), oD y1, .second, oD x3, .second, oD x5, .second, oD x7, .second, oD x9, .second, oD x11, .second, oD x13, .second, oD x16, .second, oR h0.size, oI (((((((own_one (7 : Int32) (0 : Int32) y1 x16) + (own_one (7 : Int32) (1 : Int32) x3 x16)) + (own_one (7 : Int32) (2 : Int32) x5 x16)) + (own_one (7 : Int32) (3 : Int32) x7 x16)) + (own_one (7 : Int32) (4 : Int32) x9 x16)) + (own_one (7 : Int32) (5 : Int32) x11 x16)) + (own_one (7 : Int32) (6 : Int32) x13 x16)), oI (own_cb7 h0.size x16 kA y1 x3 x5 x7 x9 x11 x13)] [(.int (own_cb7 h0.size x16 kA y1 x3 x5 x7 x9 x11 x13))])
    refine own_by (fun t_ k_ => XS.iload XT108.here hx rfl (hb hby at_275) rfl  k_) ?_
    show own_Go p e below _ T108 (mkF m 277 #[oI i0, oI i1, oI i2, oI i3, oI (7 : Int32), oD y1, .second, oD x3, .second, oD x5, .second, oD x7, .second, oD x9, .second, oD x11, .second, oD x13, .second, oD x16, .second, oR h0.size, oI (((((((own_one (7 : Int32) (0 : Int32) y1 x16) + (own_one (7 : Int32) (1 : Int32) x3 x16)) + (own_one (7 : Int32) (2 : Int32) x5 x16)) + (own_one (7 : Int32) (3 : Int32) x7 x16)) + (own_one (7 : Int32) (4 : Int32) x9 x16)) + (own_one (7 : Int32) (5 : Int32) x11 x16)) + (own_one (7 : Int32) (6 : Int32) x13 x16)), oI (own_cb7 h0.size x16 kA y1 x3 x5 x7 x9 x11 x13)] [(.int (((((((own_one (7 : Int32) (0 : Int32) y1 x16) + (own_one (7 : Int32) (1 : Int32) x3 x16)) + (own_one (7 : Int32) (2 : Int32) x5 x16)) + (own_one (7 : Int32) (3 : Int32) x7 x16)) + (own_one (7 : Int32) (4 : Int32) x9 x16)) + (own_one (7 : Int32) (5 : Int32) x11 x16)) + (own_one (7 : Int32) (6 : Int32) x13 x16))), (.int (own_cb7 h0.size x16 kA y1 x3 x5 x7 x9 x11 x13))])
    have C0 := own_D_cmp (own_D_up Dy1 1) D8
    have C1 := own_D_cmp (own_D_up D1 1) D8
    have C2 := own_D_cmp (own_D_up D2 1) D8
    have C3 := own_D_cmp (own_D_up D3 1) D8
    have C4 := own_D_cmp (own_D_up D4 1) D8
    have C5 := own_D_cmp (own_D_up D5 1) D8
    have C6 := own_D_cmp (own_D_up D6 1) D8
    simp only [show ((2 ^ 1 : Nat) : Int) = 2 from rfl] at C0 C1 C2 C3 C4 C5 C6
    have hfin : (own_cb7 h0.size x16 kA y1 x3 x5 x7 x9 x11 x13) = (((((((own_one (7 : Int32) (0 : Int32) y1 x16) + (own_one (7 : Int32) (1 : Int32) x3 x16)) + (own_one (7 : Int32) (2 : Int32) x5 x16)) + (own_one (7 : Int32) (3 : Int32) x7 x16)) + (own_one (7 : Int32) (4 : Int32) x9 x16)) + (own_one (7 : Int32) (5 : Int32) x11 x16)) + (own_one (7 : Int32) (6 : Int32) x13 x16)) := by
      by_cases q0 : (0 : Int32) < (cmpValue (FP.dcmp y1 x16) .g)
      · have c0 : (0 : Int32) < (cmpValue (FP.dcmp y1 x16) .g) := q0
        have c1 : (0 : Int32) < (cmpValue (FP.dcmp x3 x16) .g) := own_cmp_gt C1 (Decidable.byContradiction fun z => (own_cmp_ngt C0 (by omega)) q0)
        have c2 : (0 : Int32) < (cmpValue (FP.dcmp x5 x16) .g) := own_cmp_gt C2 (Decidable.byContradiction fun z => (own_cmp_ngt C0 (by omega)) q0)
        have c3 : (0 : Int32) < (cmpValue (FP.dcmp x7 x16) .g) := own_cmp_gt C3 (Decidable.byContradiction fun z => (own_cmp_ngt C0 (by omega)) q0)
        have c4 : (0 : Int32) < (cmpValue (FP.dcmp x9 x16) .g) := own_cmp_gt C4 (Decidable.byContradiction fun z => (own_cmp_ngt C0 (by omega)) q0)
        have c5 : (0 : Int32) < (cmpValue (FP.dcmp x11 x16) .g) := own_cmp_gt C5 (Decidable.byContradiction fun z => (own_cmp_ngt C0 (by omega)) q0)
        have c6 : (0 : Int32) < (cmpValue (FP.dcmp x13 x16) .g) := own_cmp_gt C6 (Decidable.byContradiction fun z => (own_cmp_ngt C0 (by omega)) q0)
        rw [show own_cb7 h0.size x16 kA y1 x3 x5 x7 x9 x11 x13 = (0 : Int32) by rw [own_cb7, if_pos c3, if_pos c1, if_pos c0], show own_one (7 : Int32) (0 : Int32) y1 x16 = (0 : Int32) by rw [own_one, if_pos (by decide), if_pos c0], show own_one (7 : Int32) (1 : Int32) x3 x16 = (0 : Int32) by rw [own_one, if_pos (by decide), if_pos c1], show own_one (7 : Int32) (2 : Int32) x5 x16 = (0 : Int32) by rw [own_one, if_pos (by decide), if_pos c2], show own_one (7 : Int32) (3 : Int32) x7 x16 = (0 : Int32) by rw [own_one, if_pos (by decide), if_pos c3], show own_one (7 : Int32) (4 : Int32) x9 x16 = (0 : Int32) by rw [own_one, if_pos (by decide), if_pos c4], show own_one (7 : Int32) (5 : Int32) x11 x16 = (0 : Int32) by rw [own_one, if_pos (by decide), if_pos c5], show own_one (7 : Int32) (6 : Int32) x13 x16 = (0 : Int32) by rw [own_one, if_pos (by decide), if_pos c6]]
        decide
      · by_cases q1 : (0 : Int32) < (cmpValue (FP.dcmp x3 x16) .g)
        · have c0 : ¬ (0 : Int32) < (cmpValue (FP.dcmp y1 x16) .g) := q0
          have c1 : (0 : Int32) < (cmpValue (FP.dcmp x3 x16) .g) := q1
          have c2 : (0 : Int32) < (cmpValue (FP.dcmp x5 x16) .g) := own_cmp_gt C2 (Decidable.byContradiction fun z => (own_cmp_ngt C1 (by omega)) q1)
          have c3 : (0 : Int32) < (cmpValue (FP.dcmp x7 x16) .g) := own_cmp_gt C3 (Decidable.byContradiction fun z => (own_cmp_ngt C1 (by omega)) q1)
          have c4 : (0 : Int32) < (cmpValue (FP.dcmp x9 x16) .g) := own_cmp_gt C4 (Decidable.byContradiction fun z => (own_cmp_ngt C1 (by omega)) q1)
          have c5 : (0 : Int32) < (cmpValue (FP.dcmp x11 x16) .g) := own_cmp_gt C5 (Decidable.byContradiction fun z => (own_cmp_ngt C1 (by omega)) q1)
          have c6 : (0 : Int32) < (cmpValue (FP.dcmp x13 x16) .g) := own_cmp_gt C6 (Decidable.byContradiction fun z => (own_cmp_ngt C1 (by omega)) q1)
          rw [show own_cb7 h0.size x16 kA y1 x3 x5 x7 x9 x11 x13 = (1 : Int32) by rw [own_cb7, if_pos c3, if_pos c1, if_neg c0], show own_one (7 : Int32) (0 : Int32) y1 x16 = (1 : Int32) by rw [own_one, if_pos (by decide), if_neg c0], show own_one (7 : Int32) (1 : Int32) x3 x16 = (0 : Int32) by rw [own_one, if_pos (by decide), if_pos c1], show own_one (7 : Int32) (2 : Int32) x5 x16 = (0 : Int32) by rw [own_one, if_pos (by decide), if_pos c2], show own_one (7 : Int32) (3 : Int32) x7 x16 = (0 : Int32) by rw [own_one, if_pos (by decide), if_pos c3], show own_one (7 : Int32) (4 : Int32) x9 x16 = (0 : Int32) by rw [own_one, if_pos (by decide), if_pos c4], show own_one (7 : Int32) (5 : Int32) x11 x16 = (0 : Int32) by rw [own_one, if_pos (by decide), if_pos c5], show own_one (7 : Int32) (6 : Int32) x13 x16 = (0 : Int32) by rw [own_one, if_pos (by decide), if_pos c6]]
          decide
        · by_cases q2 : (0 : Int32) < (cmpValue (FP.dcmp x5 x16) .g)
          · have c0 : ¬ (0 : Int32) < (cmpValue (FP.dcmp y1 x16) .g) := q0
            have c1 : ¬ (0 : Int32) < (cmpValue (FP.dcmp x3 x16) .g) := q1
            have c2 : (0 : Int32) < (cmpValue (FP.dcmp x5 x16) .g) := q2
            have c3 : (0 : Int32) < (cmpValue (FP.dcmp x7 x16) .g) := own_cmp_gt C3 (Decidable.byContradiction fun z => (own_cmp_ngt C2 (by omega)) q2)
            have c4 : (0 : Int32) < (cmpValue (FP.dcmp x9 x16) .g) := own_cmp_gt C4 (Decidable.byContradiction fun z => (own_cmp_ngt C2 (by omega)) q2)
            have c5 : (0 : Int32) < (cmpValue (FP.dcmp x11 x16) .g) := own_cmp_gt C5 (Decidable.byContradiction fun z => (own_cmp_ngt C2 (by omega)) q2)
            have c6 : (0 : Int32) < (cmpValue (FP.dcmp x13 x16) .g) := own_cmp_gt C6 (Decidable.byContradiction fun z => (own_cmp_ngt C2 (by omega)) q2)
            rw [show own_cb7 h0.size x16 kA y1 x3 x5 x7 x9 x11 x13 = (2 : Int32) by rw [own_cb7, if_pos c3, if_neg c1, if_pos c2], show own_one (7 : Int32) (0 : Int32) y1 x16 = (1 : Int32) by rw [own_one, if_pos (by decide), if_neg c0], show own_one (7 : Int32) (1 : Int32) x3 x16 = (1 : Int32) by rw [own_one, if_pos (by decide), if_neg c1], show own_one (7 : Int32) (2 : Int32) x5 x16 = (0 : Int32) by rw [own_one, if_pos (by decide), if_pos c2], show own_one (7 : Int32) (3 : Int32) x7 x16 = (0 : Int32) by rw [own_one, if_pos (by decide), if_pos c3], show own_one (7 : Int32) (4 : Int32) x9 x16 = (0 : Int32) by rw [own_one, if_pos (by decide), if_pos c4], show own_one (7 : Int32) (5 : Int32) x11 x16 = (0 : Int32) by rw [own_one, if_pos (by decide), if_pos c5], show own_one (7 : Int32) (6 : Int32) x13 x16 = (0 : Int32) by rw [own_one, if_pos (by decide), if_pos c6]]
            decide
          · by_cases q3 : (0 : Int32) < (cmpValue (FP.dcmp x7 x16) .g)
            · have c0 : ¬ (0 : Int32) < (cmpValue (FP.dcmp y1 x16) .g) := q0
              have c1 : ¬ (0 : Int32) < (cmpValue (FP.dcmp x3 x16) .g) := q1
              have c2 : ¬ (0 : Int32) < (cmpValue (FP.dcmp x5 x16) .g) := q2
              have c3 : (0 : Int32) < (cmpValue (FP.dcmp x7 x16) .g) := q3
              have c4 : (0 : Int32) < (cmpValue (FP.dcmp x9 x16) .g) := own_cmp_gt C4 (Decidable.byContradiction fun z => (own_cmp_ngt C3 (by omega)) q3)
              have c5 : (0 : Int32) < (cmpValue (FP.dcmp x11 x16) .g) := own_cmp_gt C5 (Decidable.byContradiction fun z => (own_cmp_ngt C3 (by omega)) q3)
              have c6 : (0 : Int32) < (cmpValue (FP.dcmp x13 x16) .g) := own_cmp_gt C6 (Decidable.byContradiction fun z => (own_cmp_ngt C3 (by omega)) q3)
              rw [show own_cb7 h0.size x16 kA y1 x3 x5 x7 x9 x11 x13 = (3 : Int32) by rw [own_cb7, if_pos c3, if_neg c1, if_neg c2], show own_one (7 : Int32) (0 : Int32) y1 x16 = (1 : Int32) by rw [own_one, if_pos (by decide), if_neg c0], show own_one (7 : Int32) (1 : Int32) x3 x16 = (1 : Int32) by rw [own_one, if_pos (by decide), if_neg c1], show own_one (7 : Int32) (2 : Int32) x5 x16 = (1 : Int32) by rw [own_one, if_pos (by decide), if_neg c2], show own_one (7 : Int32) (3 : Int32) x7 x16 = (0 : Int32) by rw [own_one, if_pos (by decide), if_pos c3], show own_one (7 : Int32) (4 : Int32) x9 x16 = (0 : Int32) by rw [own_one, if_pos (by decide), if_pos c4], show own_one (7 : Int32) (5 : Int32) x11 x16 = (0 : Int32) by rw [own_one, if_pos (by decide), if_pos c5], show own_one (7 : Int32) (6 : Int32) x13 x16 = (0 : Int32) by rw [own_one, if_pos (by decide), if_pos c6]]
              decide
            · by_cases q4 : (0 : Int32) < (cmpValue (FP.dcmp x9 x16) .g)
              · have c0 : ¬ (0 : Int32) < (cmpValue (FP.dcmp y1 x16) .g) := q0
                have c1 : ¬ (0 : Int32) < (cmpValue (FP.dcmp x3 x16) .g) := q1
                have c2 : ¬ (0 : Int32) < (cmpValue (FP.dcmp x5 x16) .g) := q2
                have c3 : ¬ (0 : Int32) < (cmpValue (FP.dcmp x7 x16) .g) := q3
                have c4 : (0 : Int32) < (cmpValue (FP.dcmp x9 x16) .g) := q4
                have c5 : (0 : Int32) < (cmpValue (FP.dcmp x11 x16) .g) := own_cmp_gt C5 (Decidable.byContradiction fun z => (own_cmp_ngt C4 (by omega)) q4)
                have c6 : (0 : Int32) < (cmpValue (FP.dcmp x13 x16) .g) := own_cmp_gt C6 (Decidable.byContradiction fun z => (own_cmp_ngt C4 (by omega)) q4)
                rw [show own_cb7 h0.size x16 kA y1 x3 x5 x7 x9 x11 x13 = (4 : Int32) by rw [own_cb7, if_neg c3, if_pos c5, if_pos c4], show own_one (7 : Int32) (0 : Int32) y1 x16 = (1 : Int32) by rw [own_one, if_pos (by decide), if_neg c0], show own_one (7 : Int32) (1 : Int32) x3 x16 = (1 : Int32) by rw [own_one, if_pos (by decide), if_neg c1], show own_one (7 : Int32) (2 : Int32) x5 x16 = (1 : Int32) by rw [own_one, if_pos (by decide), if_neg c2], show own_one (7 : Int32) (3 : Int32) x7 x16 = (1 : Int32) by rw [own_one, if_pos (by decide), if_neg c3], show own_one (7 : Int32) (4 : Int32) x9 x16 = (0 : Int32) by rw [own_one, if_pos (by decide), if_pos c4], show own_one (7 : Int32) (5 : Int32) x11 x16 = (0 : Int32) by rw [own_one, if_pos (by decide), if_pos c5], show own_one (7 : Int32) (6 : Int32) x13 x16 = (0 : Int32) by rw [own_one, if_pos (by decide), if_pos c6]]
                decide
              · by_cases q5 : (0 : Int32) < (cmpValue (FP.dcmp x11 x16) .g)
                · have c0 : ¬ (0 : Int32) < (cmpValue (FP.dcmp y1 x16) .g) := q0
                  have c1 : ¬ (0 : Int32) < (cmpValue (FP.dcmp x3 x16) .g) := q1
                  have c2 : ¬ (0 : Int32) < (cmpValue (FP.dcmp x5 x16) .g) := q2
                  have c3 : ¬ (0 : Int32) < (cmpValue (FP.dcmp x7 x16) .g) := q3
                  have c4 : ¬ (0 : Int32) < (cmpValue (FP.dcmp x9 x16) .g) := q4
                  have c5 : (0 : Int32) < (cmpValue (FP.dcmp x11 x16) .g) := q5
                  have c6 : (0 : Int32) < (cmpValue (FP.dcmp x13 x16) .g) := own_cmp_gt C6 (Decidable.byContradiction fun z => (own_cmp_ngt C5 (by omega)) q5)
                  rw [show own_cb7 h0.size x16 kA y1 x3 x5 x7 x9 x11 x13 = (5 : Int32) by rw [own_cb7, if_neg c3, if_pos c5, if_neg c4], show own_one (7 : Int32) (0 : Int32) y1 x16 = (1 : Int32) by rw [own_one, if_pos (by decide), if_neg c0], show own_one (7 : Int32) (1 : Int32) x3 x16 = (1 : Int32) by rw [own_one, if_pos (by decide), if_neg c1], show own_one (7 : Int32) (2 : Int32) x5 x16 = (1 : Int32) by rw [own_one, if_pos (by decide), if_neg c2], show own_one (7 : Int32) (3 : Int32) x7 x16 = (1 : Int32) by rw [own_one, if_pos (by decide), if_neg c3], show own_one (7 : Int32) (4 : Int32) x9 x16 = (1 : Int32) by rw [own_one, if_pos (by decide), if_neg c4], show own_one (7 : Int32) (5 : Int32) x11 x16 = (0 : Int32) by rw [own_one, if_pos (by decide), if_pos c5], show own_one (7 : Int32) (6 : Int32) x13 x16 = (0 : Int32) by rw [own_one, if_pos (by decide), if_pos c6]]
                  decide
                · by_cases q6 : (0 : Int32) < (cmpValue (FP.dcmp x13 x16) .g)
                  · have c0 : ¬ (0 : Int32) < (cmpValue (FP.dcmp y1 x16) .g) := q0
                    have c1 : ¬ (0 : Int32) < (cmpValue (FP.dcmp x3 x16) .g) := q1
                    have c2 : ¬ (0 : Int32) < (cmpValue (FP.dcmp x5 x16) .g) := q2
                    have c3 : ¬ (0 : Int32) < (cmpValue (FP.dcmp x7 x16) .g) := q3
                    have c4 : ¬ (0 : Int32) < (cmpValue (FP.dcmp x9 x16) .g) := q4
                    have c5 : ¬ (0 : Int32) < (cmpValue (FP.dcmp x11 x16) .g) := q5
                    have c6 : (0 : Int32) < (cmpValue (FP.dcmp x13 x16) .g) := q6
                    rw [show own_cb7 h0.size x16 kA y1 x3 x5 x7 x9 x11 x13 = (6 : Int32) by rw [own_cb7, if_neg c3, if_neg c5, if_pos c6], show own_one (7 : Int32) (0 : Int32) y1 x16 = (1 : Int32) by rw [own_one, if_pos (by decide), if_neg c0], show own_one (7 : Int32) (1 : Int32) x3 x16 = (1 : Int32) by rw [own_one, if_pos (by decide), if_neg c1], show own_one (7 : Int32) (2 : Int32) x5 x16 = (1 : Int32) by rw [own_one, if_pos (by decide), if_neg c2], show own_one (7 : Int32) (3 : Int32) x7 x16 = (1 : Int32) by rw [own_one, if_pos (by decide), if_neg c3], show own_one (7 : Int32) (4 : Int32) x9 x16 = (1 : Int32) by rw [own_one, if_pos (by decide), if_neg c4], show own_one (7 : Int32) (5 : Int32) x11 x16 = (1 : Int32) by rw [own_one, if_pos (by decide), if_neg c5], show own_one (7 : Int32) (6 : Int32) x13 x16 = (0 : Int32) by rw [own_one, if_pos (by decide), if_pos c6]]
                    decide
                  · have c0 : ¬ (0 : Int32) < (cmpValue (FP.dcmp y1 x16) .g) := q0
                    have c1 : ¬ (0 : Int32) < (cmpValue (FP.dcmp x3 x16) .g) := q1
                    have c2 : ¬ (0 : Int32) < (cmpValue (FP.dcmp x5 x16) .g) := q2
                    have c3 : ¬ (0 : Int32) < (cmpValue (FP.dcmp x7 x16) .g) := q3
                    have c4 : ¬ (0 : Int32) < (cmpValue (FP.dcmp x9 x16) .g) := q4
                    have c5 : ¬ (0 : Int32) < (cmpValue (FP.dcmp x11 x16) .g) := q5
                    have c6 : ¬ (0 : Int32) < (cmpValue (FP.dcmp x13 x16) .g) := q6
                    rw [show own_cb7 h0.size x16 kA y1 x3 x5 x7 x9 x11 x13 = (7 : Int32) by rw [own_cb7, if_neg c3, if_neg c5, if_neg c6], show own_one (7 : Int32) (0 : Int32) y1 x16 = (1 : Int32) by rw [own_one, if_pos (by decide), if_neg c0], show own_one (7 : Int32) (1 : Int32) x3 x16 = (1 : Int32) by rw [own_one, if_pos (by decide), if_neg c1], show own_one (7 : Int32) (2 : Int32) x5 x16 = (1 : Int32) by rw [own_one, if_pos (by decide), if_neg c2], show own_one (7 : Int32) (3 : Int32) x7 x16 = (1 : Int32) by rw [own_one, if_pos (by decide), if_neg c3], show own_one (7 : Int32) (4 : Int32) x9 x16 = (1 : Int32) by rw [own_one, if_pos (by decide), if_neg c4], show own_one (7 : Int32) (5 : Int32) x11 x16 = (1 : Int32) by rw [own_one, if_pos (by decide), if_neg c5], show own_one (7 : Int32) (6 : Int32) x13 x16 = (1 : Int32) by rw [own_one, if_pos (by decide), if_neg c6]]
                    decide
    refine own_by (fun t_ k_ => XS.icmpNo XT108.here hx rfl (hb hby at_277) rfl (XT.ii_ne_f hfin) k_) ?_
    show own_Go p e below _ T108 (mkF m 280 #[oI i0, oI i1, oI i2, oI i3, oI (7 : Int32), oD y1, .second, oD x3, .second, oD x5, .second, oD x7, .second, oD x9, .second, oD x11, .second, oD x13, .second, oD x16, .second, oR h0.size, oI (((((((own_one (7 : Int32) (0 : Int32) y1 x16) + (own_one (7 : Int32) (1 : Int32) x3 x16)) + (own_one (7 : Int32) (2 : Int32) x5 x16)) + (own_one (7 : Int32) (3 : Int32) x7 x16)) + (own_one (7 : Int32) (4 : Int32) x9 x16)) + (own_one (7 : Int32) (5 : Int32) x11 x16)) + (own_one (7 : Int32) (6 : Int32) x13 x16)), oI (own_cb7 h0.size x16 kA y1 x3 x5 x7 x9 x11 x13)] [])
    refine own_by (fun t_ k_ => XT.iconstV XT108.here hx rfl (1 : Int32) (hb hby at_280) (by decide) k_) ?_
    show own_Go p e below _ T108 (mkF m 281 #[oI i0, oI i1, oI i2, oI i3, oI (7 : Int32), oD y1, .second, oD x3, .second, oD x5, .second, oD x7, .second, oD x9, .second, oD x11, .second, oD x13, .second, oD x16, .second, oR h0.size, oI (((((((own_one (7 : Int32) (0 : Int32) y1 x16) + (own_one (7 : Int32) (1 : Int32) x3 x16)) + (own_one (7 : Int32) (2 : Int32) x5 x16)) + (own_one (7 : Int32) (3 : Int32) x7 x16)) + (own_one (7 : Int32) (4 : Int32) x9 x16)) + (own_one (7 : Int32) (5 : Int32) x11 x16)) + (own_one (7 : Int32) (6 : Int32) x13 x16)), oI (own_cb7 h0.size x16 kA y1 x3 x5 x7 x9 x11 x13)] [(.int (1 : Int32))])
    refine own_by (fun t_ k_ => XS.goto XT108.here hx rfl (pc0 := 281) (pc' := 285) rfl (hb hby at_281) (by decide) (by decide) k_) ?_
    show own_Go p e below _ T108 (mkF m 285 #[oI i0, oI i1, oI i2, oI i3, oI (7 : Int32), oD y1, .second, oD x3, .second, oD x5, .second, oD x7, .second, oD x9, .second, oD x11, .second, oD x13, .second, oD x16, .second, oR h0.size, oI (((((((own_one (7 : Int32) (0 : Int32) y1 x16) + (own_one (7 : Int32) (1 : Int32) x3 x16)) + (own_one (7 : Int32) (2 : Int32) x5 x16)) + (own_one (7 : Int32) (3 : Int32) x7 x16)) + (own_one (7 : Int32) (4 : Int32) x9 x16)) + (own_one (7 : Int32) (5 : Int32) x11 x16)) + (own_one (7 : Int32) (6 : Int32) x13 x16)), oI (own_cb7 h0.size x16 kA y1 x3 x5 x7 x9 x11 x13)] [(.int (1 : Int32))])
    exact own_retN XT108 hx hlk hret (by simp) (w := (1 : Int32)) (hb hby at_285) (by decide) (by decide) (by decide) (⟨rfl, own_fr0 NT100⟩)
set_option maxRecDepth 65536 in
set_option maxHeartbeats 40000000 in
theorem comes_1 {Post : Tables → Env → Array Value → State → Outcome → State → Prop} (hpost : ∀ tb e args s v u, (limb_1_1.after args s (.returned v) u = true ∧ limb_1_2.after args s (.returned v) u = true ∧ True) → FrameEnd s (.returned v) u (Jvm.fieldLocs frame_1_writes args s ++ Jvm.arrayLocs frame_1_arrays args s ++ Jvm.staticLocs frame_1_statics s) 16 128 → Post tb e args s (.returned v) u) :
    ArmFor flags0 classFile x code maxLocals ret World_1 tables_1 room_1 Calls_1 rest_1 Pre_1 Post := by
  intro l hfl _ _ p e ha hc hk s m args below hf hA hF happ hP
  obtain ⟨hcalls, hrest, hpre⟩ := hP
  obtain ⟨-, -, -, hnamed, -, -, -, hat⟩ := (Spec.applies_iff hf).mp happ
  obtain ⟨hg, hn⟩ := and_e (Cond.before_iff.mp (show (Jvm.Cond.and given_1 narrow_1).before args s = true from hpre))
  obtain ⟨g0, rg0⟩ := and_e hg
  obtain ⟨g1, rg1⟩ := and_e rg0
  obtain ⟨g2, rg2⟩ := and_e rg1
  obtain ⟨g3, rg3⟩ := and_e rg2
  have g4 := rg3
  obtain ⟨w0, w1, w2, w3, rfl⟩ : ∃ w0 w1 w2 w3 : Value, args = #[w0, w1, w2, w3] := by
    have hs : args.size = 4 := by simpa [Cond.value] using g0
    obtain ⟨L⟩ := args
    match L, hs with
    | [w0, w1, w2, w3], _ => exact ⟨w0, w1, w2, w3, rfl⟩
  have hw := fun d (hd : d ∈ tables_1) => atoms_spec (ws := Jvm.Cond.code x code maxLocals ret :: tables_1) hat d (List.mem_cons_of_mem _ hd)
  obtain ⟨i0, ei0⟩ := is_v g1
  obtain rfl : w0 = (.int i0) := Option.some.inj ei0
  obtain ⟨i1, ei1⟩ := is_v g2
  obtain rfl : w1 = (.int i1) := Option.some.inj ei1
  obtain ⟨i2, ei2⟩ := is_v g3
  obtain rfl : w2 = (.int i2) := Option.some.inj ei2
  obtain ⟨i3, ei3⟩ := is_v g4
  obtain rfl : w3 = (.int i3) := Option.some.inj ei3
  obtain ⟨n, o, h1, h2, h3, _, L, rfl, ⟨rfl, N⟩, hq⟩ := own_law l s _ hw i0 i1 i2 i3 s.heap p e ha hc hk s m _ below hf ((Spec.applies_iff_loose hf).mp happ).1 ⟨rfl, State.Warmed39.refl s, rfl⟩ trivial
  refine ⟨n, _, h1, h2, h3, hpost _ _ _ _ _ _ ⟨Cond.after_iff.mpr rfl, Cond.after_iff.mpr (eq_i res_at (Term.int_eval (1)) rfl), trivial⟩ ⟨hq.1, hq.2.1, (hq.2.2.sift fun y hy => Or.inr (N y hy)).mono (by decide) (by decide)⟩⟩
theorem main_1_1 : Claimed_1_1 := comes_1 fun _ _ _ _ _ _ h hF => ⟨h.1, hF⟩
theorem main_1_2 : Claimed_1_2 := comes_1 fun _ _ _ _ _ _ h hF => ⟨h.2.1, hF⟩
end Jvm.Pilot.@@N@@
namespace Jvm.Pilot.@@N@@
open Jvm Jvm.ClassFile Sem Op Lib Jvm.Free Jvm.Stand Jvm.Pilot.@@N@@.Jvm.D
/-! MADE BY PROGRAM (witnessworld.py) out of the Statement's table words and the real class files: 11 classes; the members and pool entries that the words name. The judged class is class 1, her method 2. -/
namespace start1
open Jvm.ClassFile
def u (s : String) : CpInfo := .utf8 (stringToUtf16 s)
/-- a pool by its gaps: so many unusable entries, then the entry; so many at the end -/
def gap : Nat → List CpInfo → List CpInfo
  | 0, r => r
  | n + 1, r => .unusable :: gap n r
def poolList (es : List (Nat × CpInfo)) (last : Nat) : List CpInfo := es.foldr (fun e r => gap e.1 (e.2 :: r)) (gap last [])
def pool (es : List (Nat × CpInfo)) (last : Nat) : Array CpInfo := ⟨poolList es last⟩
def fileOf (pool : Array CpInfo) (this : Nat) (attrs : Array Attribute := #[]) (ms : Array MethodInfo := #[]) (fl : Nat := 33) (sup : Nat := 0) (ifs : Array Nat := #[]) (fds : Array FieldInfo := #[]) : ClassFile where
  minorVersion := 0
  majorVersion := 65
  constantPool := pool
  accessFlags := fl
  thisClass := this
  superClass := sup
  interfaces := ifs
  fields := fds
  methods := ms
  attributes := attrs
def plain (name : String) (sup : Option ClassId) : Class where
  name := name
  kind := .ordinary
  loader := none
  accessFlags := 33
  super := sup
  interfaces := #[]
  cf := none
  fields := #[]
  methods := #[]
  instanceTypes := #[]
  staticTypes := #[]
  resolved := #[]
  callSites := []
  init := .initialized
  statics := none
  mirror := none

def pool0 : Array CpInfo := pool [(5, u "<init>"), (0, u "()V"), (1, .class_ 10), (1, u "java/lang/Object")] 113

def k0m0 : Method := { name := "<init>", desc := "()V", sig := { parameters := [], returnType := none }, accessFlags := 1, code := none }
/-- java/lang/Object -/
def k0 : Class := { plain "java/lang/Object" none with
  accessFlags := 33
  interfaces := #[]
  cf := some (fileOf pool0 8 #[] #[{ accessFlags := 1, nameIndex := 5, descriptorIndex := 6, attributes := #[] }] 33 0 #[] #[])
  fields := #[]
  methods := #[k0m0]
  instanceTypes := #[]
  staticTypes := #[]
  resolved := Array.replicate 124 none
  statics := none }

def pool1 : Array CpInfo := pool [(2, .class_ 4), (1, u "java/lang/Object"), (0, u "<init>"), (0, u "()V"), (0, .double 4611686018427387904), (1, .methodref 10 11), (0, .class_ 12), (0, .nameAndType 13 14), (0, u "com/example/biclique/biclique/draw/AscendingCountAtMostPinLaw"), (0, u "cnt"), (0, u "(IIDD)I"), (0, .methodref 16 17), (0, .class_ 18), (0, .nameAndType 19 20), (0, u "com/example/biclique/biclique/draw/Ascending"), (0, u "countAtMost"), (0, u "([DD)I"), (3, u "law"), (0, u "(IIII)Z")] 4

def k1m0 : Method := { name := "<init>", desc := "()V", sig := { parameters := [], returnType := none }, accessFlags := 2, code := none }
def k1c1 : Code := { maxStack := 4, maxLocals := 6, code := method_2_code, exceptionTable := #[], attributes := #[] }
def k1m1 : Method := { name := "cnt", desc := "(IIDD)I", sig := { parameters := [.int, .int, .double, .double], returnType := some .int }, accessFlags := 10, code := some k1c1 }
def k1c2 : Code := { maxStack := 7, maxLocals := 24, code := code, exceptionTable := #[], attributes := #[] }
def k1m2 : Method := { name := "law", desc := "(IIII)Z", sig := { parameters := [.int, .int, .int, .int], returnType := some .boolean }, accessFlags := 9, code := some k1c2 }
/-- com/example/biclique/biclique/draw/AscendingCountAtMostPinLaw -/
def k1 : Class := { plain "com/example/biclique/biclique/draw/AscendingCountAtMostPinLaw" (some 0) with
  accessFlags := 49
  interfaces := #[]
  cf := some (fileOf pool1 10 #[] #[{ accessFlags := 2, nameIndex := 5, descriptorIndex := 6, attributes := #[] }, { accessFlags := 10, nameIndex := 13, descriptorIndex := 14, attributes := #[] }, { accessFlags := 9, nameIndex := 24, descriptorIndex := 25, attributes := #[] }] 49 2 #[] #[])
  fields := #[]
  methods := #[k1m0, k1m1, k1m2]
  instanceTypes := #[]
  staticTypes := #[]
  resolved := Array.replicate 30 none
  statics := none }

def pool2 : Array CpInfo := pool [(2, .class_ 4), (1, u "java/lang/Object"), (0, u "<init>"), (0, u "()V"), (16, .class_ 24), (0, u "com/example/biclique/biclique/draw/Ascending"), (5, u "countAtMost"), (0, u "([DD)I")] 3

def k2m0 : Method := { name := "<init>", desc := "()V", sig := { parameters := [], returnType := none }, accessFlags := 2, code := none }
def k2c1 : Code := { maxStack := 4, maxLocals := 6, code := prog_41_method_3_code, exceptionTable := #[], attributes := #[] }
def k2m1 : Method := { name := "countAtMost", desc := "([DD)I", sig := { parameters := [(.array .double), .double], returnType := some .int }, accessFlags := 8, code := some k2c1 }
/-- com/example/biclique/biclique/draw/Ascending -/
def k2 : Class := { plain "com/example/biclique/biclique/draw/Ascending" (some 0) with
  accessFlags := 32
  interfaces := #[]
  cf := some (fileOf pool2 23 #[] #[{ accessFlags := 2, nameIndex := 5, descriptorIndex := 6, attributes := #[] }, { accessFlags := 8, nameIndex := 30, descriptorIndex := 31, attributes := #[] }] 32 2 #[] #[])
  fields := #[]
  methods := #[k2m0, k2m1]
  instanceTypes := #[]
  staticTypes := #[]
  resolved := Array.replicate 35 none
  statics := none }

def pool3 : Array CpInfo := pool [(1, u "java/lang/Cloneable"), (0, .class_ 1), (0, u "java/lang/Object"), (0, .class_ 3)] 3

/-- java/lang/Cloneable -/
def k3 : Class := { plain "java/lang/Cloneable" (some 0) with
  accessFlags := 1537
  interfaces := #[]
  cf := some (fileOf pool3 2 #[] #[] 1537 4 #[] #[])
  fields := #[]
  methods := #[]
  instanceTypes := #[]
  staticTypes := #[]
  resolved := Array.replicate 8 none
  statics := none }

def pool4 : Array CpInfo := pool [(1, u "java/io/Serializable"), (0, .class_ 1), (0, u "java/lang/Object"), (0, .class_ 3)] 3

/-- java/io/Serializable -/
def k4 : Class := { plain "java/io/Serializable" (some 0) with
  accessFlags := 1537
  interfaces := #[]
  cf := some (fileOf pool4 2 #[] #[] 1537 4 #[] #[])
  fields := #[]
  methods := #[]
  instanceTypes := #[]
  staticTypes := #[]
  resolved := Array.replicate 8 none
  statics := none }

/-- the primitive byte -/
def k5 : Class := { plain "byte" none with kind := .primitive 'B', accessFlags := 0x411 }
/-- [B -/
def k6 : Class := { plain "[B" (some 0) with kind := .array 5 .byte, interfaces := #[3, 4], accessFlags := 1041 }

/-- the primitive double -/
def k7 : Class := { plain "double" none with kind := .primitive 'D', accessFlags := 0x411 }
/-- [D -/
def k8 : Class := { plain "[D" (some 0) with kind := .array 7 .double, interfaces := #[3, 4], accessFlags := 1041 }

/-- the primitive int -/
def k9 : Class := { plain "int" none with kind := .primitive 'I', accessFlags := 0x411 }
/-- [I -/
def k10 : Class := { plain "[I" (some 0) with kind := .array 9 .int, interfaces := #[3, 4], accessFlags := 1041 }

def heap : Heap := #[]
def classes : Array Class := #[k0, k1, k2, k3, k4, k5, k6, k7, k8, k9, k10]
def interned : List (Array UInt16 × Addr) := []
def slotsUsed : Nat := 0
def theMethod : MethodId := ⟨1, 2⟩
def args0 : Array Value := #[.int 5, .int 3, .int 4, .int 7]
def aboutOver (below : List Frame) : State where
  vm := { classes := classes, interned := interned.toArray }
  heap := heap
  slotsUsed := slotsUsed
  threads := #[{ frames := .invoking theMethod args0 :: below }]
def below0 : List Frame := [.native { method := ⟨0, 0⟩, args := #[] }]
def about1 : State := aboutOver below0
def p0 : Program := .bare "" "" ""
def e0 : Env := launch0.env 0 0 0
theorem w_frames : about1.frames = Frame.invoking theMethod args0 :: below0 := rfl
set_option maxRecDepth 65536 in
theorem w_args : argsFit about1.vm theMethod args0 = true := by decide +kernel
set_option maxRecDepth 65536 in
theorem w_heap : heapFits about1 = true := by decide +kernel
set_option maxRecDepth 65536 in
theorem w_runnable : about1.curStatus? = some .runnable := by decide +kernel
set_option maxRecDepth 65536 in
theorem w_alone : about1.alone = true := by decide +kernel
set_option maxRecDepth 65536 in
theorem w_named : about1.methodNamed? x = some theMethod := by decide +kernel
set_option maxRecDepth 65536 in
theorem w_hears : about1.hears theMethod below0 = true := by decide +kernel
set_option maxRecDepth 65536 in
theorem w_ripe : about1.ripe theMethod args0 below0 = true := by decide +kernel
theorem w_running : about1.status = .running := rfl
set_option maxRecDepth 65536 in
theorem w_room : about1.hasRoom e0.platform room_1 = true :=
  launch0.hasRoom_least _ room_1 (by decide +kernel) (by decide +kernel) (by decide +kernel) (by decide +kernel) (by decide +kernel) (by decide +kernel)
theorem allAtoms_all (ts : List Jvm.Cond) (a : Array Jvm.Value) (st : Jvm.State) : (allAtoms ts).before a st = ts.all (fun c => c.before a st) := by
  induction ts with
  | nil => rfl
  | cons c t ih =>
    show (Jvm.Cond.and c (allAtoms t)).before a st = _
    rw [Jvm.Cond.before_and, ih, List.all_cons]
def words1 : List Jvm.Cond := Jvm.Cond.code x code maxLocals ret :: tables_1
/-- a 'code' word, met by the world's own term for the bytes: nothing is compared byte by byte -/
theorem code_word {y : MethodName} {bytes : ByteArray} {mx : Nat} {rt : Option FieldType} {a : Array Value} {s : State} {m : MethodId} {meth : Method} {c : Code} (h1 : s.methodNamed? y = some m) (h2 : s.vm.method? m = some meth) (h3 : meth.code = some c) (h4 : c.code = bytes)
    (h5 : (c.maxLocals == mx && c.exceptionTable.isEmpty && decide (c.maxStack ≤ mostOperands) && decide (meth.sig.returnType = rt) && !meth.locks && decide (parseMethodDescriptor y.desc = some meth.sig)) = true) : (Jvm.Cond.code y bytes mx rt).before a s = true := by
  simp only [Bool.and_eq_true, beq_iff_eq, Bool.not_eq_true', decide_eq_true_eq] at h5
  obtain ⟨⟨⟨⟨⟨g1, g2⟩, g3⟩, g4⟩, g5⟩, g6⟩ := h5
  simp [Cond.before, Cond.holds, Cond.value, h1, h2, h3, h4, g1, g2, g3, g4, g5, g6]
def isCode : Jvm.Cond → Bool
  | .code _ _ _ _ => true
  | _ => false
theorem all_split {L : List Jvm.Cond} {P : Jvm.Cond → Bool} (h1 : L.all (fun c => isCode c || P c) = true) (h2 : ∀ c ∈ L.filter isCode, P c = true) : L.all P = true := by
  refine List.all_eq_true.mpr fun c hc => ?_
  have h := List.all_eq_true.mp h1 c hc
  rcases Bool.eq_false_or_eq_true (isCode c) with hi | hi
  · exact h2 c (List.mem_filter.mpr ⟨hc, hi⟩)
  · simpa [hi] using h
set_option maxRecDepth 65536 in
theorem w_c0 : (Jvm.Cond.code x code maxLocals ret).before args0 about1 = true := code_word (m := ⟨1, 2⟩) (meth := k1m2) (c := k1c2) (by decide +kernel) rfl rfl rfl (by decide +kernel)
set_option maxRecDepth 65536 in
theorem w_c1 : (Jvm.Cond.code ({ cls := "com/example/biclique/biclique/draw/AscendingCountAtMostPinLaw", name := "cnt", desc := "(IIDD)I" } : Jvm.MethodName) method_2_code (6 : Nat) (Option.some Jvm.ClassFile.FieldType.int)).before args0 about1 = true := code_word (m := ⟨1, 1⟩) (meth := k1m1) (c := k1c1) (by decide +kernel) rfl rfl rfl (by decide +kernel)
set_option maxRecDepth 65536 in
theorem w_c2 : (Jvm.Cond.code ({ cls := "com/example/biclique/biclique/draw/Ascending", name := "countAtMost", desc := "([DD)I" } : Jvm.MethodName) prog_41_method_3_code (6 : Nat) (Option.some Jvm.ClassFile.FieldType.int)).before args0 about1 = true := code_word (m := ⟨2, 1⟩) (meth := k2m1) (c := k2c1) (by decide +kernel) rfl rfl rfl (by decide +kernel)
def codes1 : List Jvm.Cond := [Jvm.Cond.code x code maxLocals ret, Jvm.Cond.code ({ cls := "com/example/biclique/biclique/draw/AscendingCountAtMostPinLaw", name := "cnt", desc := "(IIDD)I" } : Jvm.MethodName) method_2_code (6 : Nat) (Option.some Jvm.ClassFile.FieldType.int), Jvm.Cond.code ({ cls := "com/example/biclique/biclique/draw/Ascending", name := "countAtMost", desc := "([DD)I" } : Jvm.MethodName) prog_41_method_3_code (6 : Nat) (Option.some Jvm.ClassFile.FieldType.int)]
set_option maxRecDepth 65536 in
theorem codes_eq : words1.filter isCode = codes1 := rfl
theorem w_codes : ∀ c ∈ words1.filter isCode, c.before args0 about1 = true := by
  rw [codes_eq]
  intro c hc
  simp only [codes1, List.mem_cons, List.not_mem_nil, or_false] at hc
  rcases hc with rfl | rfl | rfl
  · exact w_c0
  · exact w_c1
  · exact w_c2
set_option maxRecDepth 65536 in
theorem w_t1 : words1.all (fun c => isCode c || c.before args0 about1) = true := by decide +kernel
theorem w_tables : (allAtoms (Jvm.Cond.code x code maxLocals ret :: tables_1)).before args0 about1 = true := by
  rw [allAtoms_all]
  show words1.all (fun c => c.before args0 about1) = true
  refine all_split ?_ w_codes
  rw [w_t1]
set_option maxRecDepth 65536 in
theorem w_case : (Jvm.Cond.and given_1 narrow_1).before args0 about1 = true := by decide +kernel
theorem w_applies : (headSpec (Jvm.Cond.code x code maxLocals ret :: tables_1) room_1).applies x e0.platform about1 = true :=
  (Spec.applies_iff w_frames).mpr ⟨w_running, w_runnable, w_alone, w_named, w_hears, w_ripe, w_room, w_tables⟩
theorem atStart : AtStart classFile x code maxLocals ret World_1 tables_1 room_1 Calls_1 rest_1 Pre_1 launch0 p0 e0 about1 theMethod args0 below0 :=
  ⟨lists_1, trivial, launch0.admits_env _ _ _, launch0.least_env, fairChoices_fair.cas, fairChoices_fair.clock, w_frames, w_args, w_heap, w_applies, trivial, trivial, w_case⟩
end start1
theorem witness_1 : WitnessClaimed_1 := ⟨start1.p0, start1.e0, start1.about1, start1.theMethod, start1.args0, start1.below0, start1.atStart⟩
end Jvm.Pilot.@@N@@
