import JvmDerived
import JvmDerived.Pilot.@@N@@Statement
import JvmDerived.Pilot.@@N@@Code
set_option linter.unusedVariables false
set_option linter.unusedSimpArgs false
namespace Jvm.Pilot.@@N@@
open Jvm Jvm.ClassFile Sem Op Lib Jvm.Free Jvm.Stand Jvm.LawKit Jvm.RoadKit Bundle Jvm.Pilot.@@N@@.Jvm.D
abbrev oI (x : Int32) : Slot := .val (.int x)
abbrev oR (x : Addr) : Slot := .val (.ref x)
abbrev oD (x : UInt64) : Slot := .val (.double x)
abbrev oF (x : UInt32) : Slot := .val (.float x)
abbrev oJ (x : Int64) : Slot := .val (.long x)
section Own
variable {p : Program} {l : Launch} {e : Env} {R : Room} {s : State} {m : MethodId} {args : Array Value} {below : List Frame} {meth : Method} {c : Code} {T T' : State} {locs : List Loc} {cells slots : Nat} {Z : State} {a0 : Array Value} {h h0 : Heap} {K : State → Outcome → Prop} {Q : Option Value → Heap → List Loc → Prop}
/-- from the frame g over the state T the run comes to an end that K takes -/
def own_Go (p : Program) (e : Env) (below : List Frame) (K : State → Outcome → Prop) (T : State) (g : JFrame) : Prop :=
  ∃ s₂ o, Steps p.tables e below (T.setTop g) s₂ ∧ s₂.status = .running ∧ Ended s₂ below o ∧ K s₂ o
theorem own_by {g g' : JFrame} (h : ∀ t, Steps p.tables e below (T'.setTop g') t → Steps p.tables e below (T.setTop g) t) (k : own_Go p e below K T' g') : own_Go p e below K T g := by
  obtain ⟨s2, o, h1, h2⟩ := k
  exact ⟨s2, o, h _ h1, h2⟩
def own_K (s : State) (k n : Nat) (Q : Option Value → Heap → List Loc → Prop) (t : State) (o : Outcome) : Prop := ∃ v L, o = .returned v ∧ Q v t.heap L ∧ FrameEnd s o t L k n
def own_Met (l : Launch) (y : MethodName) (bytes : ByteArray) (mx : Nat) (ret : Option FieldType) (ws : List Jvm.Cond) (rm : Room) (Z : State) (as' : Array Value) (h0 : Heap) (Q : Option Value → Heap → List Loc → Prop) : Prop :=
  MetFree l y (head1 (Jvm.Cond.code y bytes mx ret :: ws) rm) (fun a U => a = as' ∧ Z.Warmed39 U.vm ∧ U.heap = h0) (fun _ _ _ _ _ => True) (fun _ U o U' => ∃ v L, o = .returned v ∧ Q v U'.heap L ∧ FrameEnd U o U' L rm.cells rm.slots)
theorem own_enter {y : MethodName} {bytes : ByteArray} {mx : Nat} {ret : Option FieldType} {ws : List Jvm.Cond} {rm : Room} {as' : Array Value} (hn : plainFor y = true)
    (body : ∀ (p : Program) (e : Env) (s : State) (m : MethodId) (below : List Frame) (meth : Method) (c : Code) (T0 : State), p.tables.exec = Jvm.exec → c.code = bytes → c.maxLocals = mx → meth.sig.returnType = ret → meth.locks = false → s.vm.findClass y.cls = some m.cls → meth.name = y.name → Z.Warmed39 s.vm →
      Stand p l e rm s m as' below meth c T0 [] 0 0 → T0.heap = h0 → own_Go p e below (own_K s rm.cells rm.slots Q) T0 (entryFrame m as' mx)) : own_Met l y bytes mx ret ws rm Z as' h0 Q := by
  refine MetFree.of_bodySF hn hisR ?_
  intro p e s m args below meth c s₁ Bd hml hP hK
  obtain ⟨rfl, hZ, hh⟩ := hP
  obtain ⟨s2, o, h1, h2, h3, h4⟩ := body p e s m below meth c s₁ Bd.exec Bd.bytes hml Bd.returns Bd.notSynchronized (findClass_of_methodNamed Bd.named) (name_of_methodNamed Bd.named Bd.method).1 hZ (Stand.of_body Bd) (by rw [← hh, Bd.state]; rfl)
  exact ⟨s2, o, h1, h2, h3, h4⟩
theorem own_at {g g' : JFrame} (q : g = g') (k : own_Go p e below K T g') : own_Go p e below K T g := q ▸ k
theorem own_leave (X : Stand p l e R s m args below meth c T locs cells slots) (hlk : meth.locks = false) {v : Option Value} {k n : Nat} (hv : meth.sig.returnType = none → v = none) {g : JFrame}
    (step : ∀ fs, (∀ (f : JFrame) (acts : List Action), f.method = m → f.locked = none → f.entered = [] → (doReturn e (T.setTop f) acts v).1 = T.setFrames fs) → Steps p.tables e below (T.setTop g) (T.setFrames fs)) (hk : cells ≤ k) (hn : slots ≤ n) (hQ : Q v T.heap locs) : own_Go p e below (own_K s k n Q) T g := by
  obtain ⟨fs, hr, hrun, hended, hW, hsame⟩ := X.leave (v := v) hv hlk
  exact ⟨_, _, step fs hr, hrun, hended, v, locs, rfl, hQ, ⟨_, rfl⟩, hW, hsame.mono hk hn⟩
theorem own_retI (X : Stand p l e R s m args below meth c T locs cells slots) (hx : p.tables.exec = Jvm.exec) (hlk : meth.locks = false) (hret : meth.sig.returnType = some .int) {pc : Nat} {Ls : Array Slot} {z : Int32} {rest : List Value} {k n : Nat} (hd : decode c.code pc = .ok (.ireturn, 1)) (hk : cells ≤ k) (hn : slots ≤ n) (hQ : Q (some (.int z)) T.heap locs) :
    own_Go p e below (own_K s k n Q) T (mkF m pc Ls (.int z :: rest)) := by
  refine own_leave X hlk (v := some (.int z)) (fun h => by rw [hret] at h; cases h) (fun fs hl => ?_) hk hn hQ
  have hm' : T.vm.method? m = some meth := X.method'
  have hn : narrow .int (.int z) = .int z := rfl
  show Steps p.tables e below (T.setTop { method := m, pc := pc, locals := Ls, stack := _ :: rest, locked := none }) _
  jvm_step X.here [X.here.top, hx, hd, hm', hret, hn]
  first | (intro acts; rw [hl _ acts rfl rfl rfl]) | rw [hl _ _ rfl rfl rfl]
  exact Steps.refl _
theorem own_retN (X : Stand p l e R s m args below meth c T locs cells slots) (hx : p.tables.exec = Jvm.exec) (hlk : meth.locks = false) {t : FieldType} (hret : meth.sig.returnType = some t) (ht : t = .boolean ∨ t = .byte ∨ t = .char ∨ t = .short) {pc : Nat} {Ls : Array Slot} {z w : Int32} {rest : List Value} {k n : Nat} (hd : decode c.code pc = .ok (.ireturn, 1)) (hw : nar t z = w) (hk : cells ≤ k) (hn : slots ≤ n) (hQ : Q (some (.int w)) T.heap locs) :
    own_Go p e below (own_K s k n Q) T (mkF m pc Ls (.int z :: rest)) := by
  subst hw
  exact own_leave X hlk (v := some (.int (nar t z))) (fun h => by rw [hret] at h; cases h) (fun fs hl => retN X hx hret ht hd hl) hk hn hQ
theorem own_retA (X : Stand p l e R s m args below meth c T locs cells slots) (hx : p.tables.exec = Jvm.exec) (hlk : meth.locks = false) {t : FieldType} (hret : meth.sig.returnType = some t) (ht : t.isReference = true) {pc : Nat} {Ls : Array Slot} {v : Value} (hv : v.isRef = true) {rest : List Value} {k n : Nat} (hd : decode c.code pc = .ok (.areturn, 1)) (hk : cells ≤ k) (hn : slots ≤ n) (hQ : Q (some v) T.heap locs) :
    own_Go p e below (own_K s k n Q) T (mkF m pc Ls (v :: rest)) :=
  own_leave X hlk (v := some v) (fun h => by rw [hret] at h; cases h) (fun fs hl => retOut X hx hret (by cases t <;> first | (cases ht; done) | (rcases ref_cases hv with rfl | ⟨a, rfl⟩ <;> rfl)) (Or.inr (Or.inr (Or.inr (Or.inr ⟨rfl, ht, hv⟩)))) hd hl) hk hn hQ
theorem own_retV (X : Stand p l e R s m args below meth c T locs cells slots) (hx : p.tables.exec = Jvm.exec) (hlk : meth.locks = false) (hret : meth.sig.returnType = none) {pc : Nat} {Ls : Array Slot} {k n : Nat} (hd : decode c.code pc = .ok (.return_, 1)) (hk : cells ≤ k) (hn : slots ≤ n) (hQ : Q none T.heap locs) :
    own_Go p e below (own_K s k n Q) T (mkF m pc Ls []) :=
  own_leave X hlk (v := none) (fun _ => rfl) (fun fs hl => X.returnOut hx hret hd hl) hk hn hQ
theorem own_callS (X : Stand p l e R s m args below meth c T locs cells slots) (hx : p.tables.exec = Jvm.exec) (hZ : Z.Warmed39 s.vm) {own : String} {index : Nat} {y : MethodName} {bytes : ByteArray} {mx : Nat} {ret : Option FieldType} {rm : Room} (hown : s.vm.findClass own = some m.cls) (w1 : (Jvm.Cond.methodLink own index y).before a0 Z = true) (w2 : (Jvm.Cond.static y).before a0 Z = true) (w3 : (Jvm.Cond.initialized y.cls).before a0 Z = true) (w4 : (Jvm.Cond.code y bytes mx ret).before a0 Z = true)
    (hy : y.cls ≠ "java/lang/invoke/MethodHandle" ∧ y.cls ≠ "java/lang/invoke/VarHandle") (eT : T.heap = h) {argsL rest : List Value} (M : own_Met l y bytes mx ret [] rm Z argsL.toArray h Q) (W : Nat) (hf : rm.frames + 1 ≤ R.frames) (hl : W + (mx + 11) + rm.locals ≤ R.locals) {pc : Nat} {Ls : Array Slot} (hsize : Ls.size = c.maxLocals)
    (hlen : ∀ sig, parseMethodDescriptor y.desc = some sig → argsL.length = sig.parameters.length) (hW : (rest.map fun v => v.category).sum ≤ W) (hd : decode c.code pc = .ok (.invokestatic index, 3)) (hc : cells + rm.cells ≤ R.cells) (hs : slots + rm.slots ≤ R.slots) {st : List Value} (hst : st = argsL.reverse ++ rest)
    (k : ∀ (T' : State) (L : List Loc) (v : Option Value), Stand p l e R s m args below meth c T' (locs ++ L) (cells + rm.cells) (slots + rm.slots) → Q v T'.heap L → own_Go p e below K T' (mkF m (pc + 3) Ls (v.toList ++ rest))) : own_Go p e below K T (mkF m pc Ls st) := by
  obtain ⟨v, _, ⟨T1, L1, k1, n1⟩, -, X1, ⟨Lc, hQ, l1, y1, z1⟩, stp⟩ := Jvm.LawKit.callS X hx hown (mvT hZ w1) (mvT hZ w2) (mvT hZ w3) (mvT hZ w4) hy (backOf (W := W) M hZ w4 w3 hf hl) (g := mkF m pc Ls st) rfl hsize (argsL := argsL) (rest := rest) hlen hst (by show 2 * 0 + _ ≤ _; omega) hd (fun _ _ => ⟨rfl, eT, hc, hs⟩)
  dsimp only [Pt.U, Pt.locs, Pt.cells, Pt.slots] at X1 l1 y1 z1 stp hQ
  subst l1 y1 z1
  exact own_by stp (k T1 Lc v X1 hQ)
theorem own_callV (X : Stand p l e R s m args below meth c T locs cells slots) (hx : p.tables.exec = Jvm.exec) (hZ : Z.Warmed39 s.vm) {own C : String} {index : Nat} {y : MethodName} {bytes : ByteArray} {mx : Nat} {ret : Option FieldType} {rm : Room} (hown : s.vm.findClass own = some m.cls) (w1 : (Jvm.Cond.methodLink own index y).before a0 Z = true) (w2 : (Jvm.Cond.declares y).before a0 Z = true) (w3 : (Jvm.Cond.selects C y y).before a0 Z = true) (w4 : (Jvm.Cond.instanceMethod y).before a0 Z = true) (w5 : (Jvm.Cond.code y bytes mx ret).before a0 Z = true) (w6 : (Jvm.Cond.initialized y.cls).before a0 Z = true)
    (hy : y.cls ≠ "java/lang/invoke/MethodHandle" ∧ y.cls ≠ "java/lang/invoke/VarHandle") (eT : T.heap = h) {b : Addr} (E : Exa Z h b C) {argsL rest : List Value} (M : own_Met l y bytes mx ret [] rm Z (.ref b :: argsL).toArray h Q) (W : Nat) (hf : rm.frames + 1 ≤ R.frames) (hl : W + (mx + 11) + rm.locals ≤ R.locals) {pc : Nat} {Ls : Array Slot} (hsize : Ls.size = c.maxLocals)
    (hlen : ∀ sig, parseMethodDescriptor y.desc = some sig → argsL.length = sig.parameters.length) (hW : (rest.map fun v => v.category).sum ≤ W) (hd : decode c.code pc = .ok (.invokevirtual index, 3)) (hc : cells + rm.cells ≤ R.cells) (hs : slots + rm.slots ≤ R.slots) {st : List Value} (hst : st = argsL.reverse ++ .ref b :: rest)
    (k : ∀ (T' : State) (L : List Loc) (v : Option Value), Stand p l e R s m args below meth c T' (locs ++ L) (cells + rm.cells) (slots + rm.slots) → Q v T'.heap L → own_Go p e below K T' (mkF m (pc + 3) Ls (v.toList ++ rest))) : own_Go p e below K T (mkF m pc Ls st) := by
  obtain ⟨cq, kq, qa, qb, qc⟩ := isOf (T := T) hZ eT E
  obtain ⟨v, _, ⟨T1, L1, k1, n1⟩, -, X1, ⟨Lc, hQ, l1, y1, z1⟩, stp⟩ := X.virtualBack hx hown (mvT hZ w1) (mvT hZ w2) (notFace_of_selects (args := #[]) (mvT hZ w3)) (mvT hZ w3) (mvT hZ w4) hy (backOf (W := W) M hZ w5 w6 hf hl) qa qc (g := mkF m pc Ls st) rfl hsize (Steps.refl _) (argsL := argsL) (rest := rest) hlen hst (by show 2 * 0 + _ ≤ _; omega) hd (fun _ _ => ⟨rfl, eT, hc, hs⟩)
  dsimp only [Pt.U, Pt.locs, Pt.cells, Pt.slots] at X1 l1 y1 z1 stp hQ
  subst l1 y1 z1
  exact own_by (fun t q => stp.trans q) (k T1 Lc v X1 hQ)
theorem own_callN (X : Stand p l e R s m args below meth c T locs cells slots) (hx : p.tables.exec = Jvm.exec) (hZ : Z.Warmed39 s.vm) {own : String} {index : Nat} {y : MethodName} {bytes : ByteArray} {mx : Nat} {rm : Room} (hy1 : y.name = "<init>") (hown : s.vm.findClass own = some m.cls) (w1 : (Jvm.Cond.methodLink own index y).before a0 Z = true) (w2 : (Jvm.Cond.instanceMethod y).before a0 Z = true) (w3 : (Jvm.Cond.code y bytes mx none).before a0 Z = true) (w4 : (Jvm.Cond.initialized y.cls).before a0 Z = true)
    (hy : y.cls ≠ "java/lang/invoke/MethodHandle" ∧ y.cls ≠ "java/lang/invoke/VarHandle") (eT : T.heap = h) {b : Addr} {argsL rest : List Value} (M : own_Met l y bytes mx none [] rm Z (.ref b :: argsL).toArray h Q) (W : Nat) (hf : rm.frames + 1 ≤ R.frames) (hl : W + (mx + 11) + rm.locals ≤ R.locals) {pc : Nat} {Ls : Array Slot} (hsize : Ls.size = c.maxLocals)
    (hlen : ∀ sig, parseMethodDescriptor y.desc = some sig → argsL.length = sig.parameters.length) (hW : (rest.map fun v => v.category).sum ≤ W) (hd : decode c.code pc = .ok (.invokespecial index, 3)) (hc : cells + rm.cells ≤ R.cells) (hs : slots + rm.slots ≤ R.slots) {st : List Value} (hst : st = argsL.reverse ++ .ref b :: rest)
    (k : ∀ (T' : State) (L : List Loc) (v : Option Value), Stand p l e R s m args below meth c T' (locs ++ L) (cells + rm.cells) (slots + rm.slots) → Q v T'.heap L → own_Go p e below K T' (mkF m (pc + 3) Ls (v.toList ++ rest))) : own_Go p e below K T (mkF m pc Ls st) := by
  obtain ⟨v, _, ⟨T1, L1, k1, n1⟩, -, X1, ⟨Lc, hQ, l1, y1, z1⟩, stp⟩ := X.specialBack hx hy1 hown (mvT hZ w1) (mvT hZ w2) (mvT hZ w3) hy (backOf (W := W) M hZ w3 w4 hf hl) (g := mkF m pc Ls st) rfl hsize (Steps.refl _) (a := b) (argsL := argsL) (rest := rest) hlen hst (by show 2 * 0 + _ ≤ _; omega) hd (fun _ _ => ⟨rfl, eT, hc, hs⟩)
  dsimp only [Pt.U, Pt.locs, Pt.cells, Pt.slots] at X1 l1 y1 z1 stp hQ
  subst l1 y1 z1
  exact own_by (fun t q => stp.trans q) (k T1 Lc v X1 hQ)
end Own
section OwnHeap
variable {p : Program} {l : Launch} {e : Env} {R : Room} {s : State} {m : MethodId} {args : Array Value} {below : List Frame} {meth : Method} {c : Code} {T T' : State} {locs : List Loc} {cells slots : Nat} {Z : State} {a0 : Array Value} {h h' h0 : Heap} {K : State → Outcome → Prop} {Q : Option Value → Heap → List Loc → Prop} {a b : Addr} {ty : FieldType} {k : ClassId} {vs : List Value} {ws : List Addr} {sl : Nat} {v w : Value} {C n d : String}
/-- the array at a, of the class k, holds just vs -/
def own_A (Z : State) (h : Heap) (a : Addr) (ty : FieldType) (k : ClassId) (vs : List Value) : Prop := ∃ c : Cell, Arr Z h a c ty ∧ c.cls = k ∧ c.slots.toList = vs
theorem own_A.ext (V : own_A Z h a ty k vs) (E : Ext h h') : own_A Z h' a ty k vs := by obtain ⟨c, A, r⟩ := V; exact ⟨c, A.ext E, r⟩
theorem own_A.keep (V : own_A Z h a ty k vs) (K : Keep h h' ws) (q : a ∉ ws) : own_A Z h' a ty k vs := by obtain ⟨c, A, r⟩ := V; exact ⟨c, ⟨K.2.1 a c A.1 q, A.2⟩, r⟩
theorem own_A.other (V : own_A Z h b ty k vs) (W : Wr h h' a sl v) (q : b ≠ a) : own_A Z h' b ty k vs := by obtain ⟨c, A, r⟩ := V; exact ⟨c, A.other W q, r⟩
theorem own_A.set (V : own_A Z h a ty k vs) (W : Wr h h' a sl v) : own_A Z h' a ty k (vs.set sl v) := by
  obtain ⟨c, A, r1, r2⟩ := V
  exact ⟨_, A.same W, r1, by rw [← r2]; simp [Cell.setSlot]⟩
theorem own_A.lt (V : own_A Z h a ty k vs) : a < h.size := by obtain ⟨c, A, -⟩ := V; exact A.lt
theorem own_ek (E : Ext h h') : Keep h h' [] := (Keep.refl h []).ext E
theorem own_stak (F : Sta Z h C n d v) (K : Keep h h' []) : Sta Z h' C n d v := by
  obtain ⟨cf, i, k, f, st, cell, h1, h2, h3, h4, h5, r⟩ := F
  exact ⟨cf, i, k, f, st, cell, h1, h2, h3, h4, K.2.1 _ _ h5 nin0, r⟩
theorem own_in {c : Cell} (q : c.slots.toList = vs) {j : Int32} (hj : ¬ j < 0) (hi : j.toNatClampNeg < vs.length) : ¬ (j < 0 ∨ c.slots.size ≤ j.toNatClampNeg) := by
  rintro (h | h)
  · exact hj h
  · rw [← q, Array.length_toList] at hi; omega
theorem own_get {c : Cell} (q : c.slots.toList = vs) (i : Nat) : c.slots[i]? = vs[i]? := by rw [← q, Array.getElem?_toList]
theorem own_newP (X : Stand p l e R s m args below meth c T locs cells slots) (hx : p.tables.exec = Jvm.exec) (hZ : Z.Warmed39 s.vm) {aty : ArrayType} (w : (Jvm.Cond.arrayClass (newarray.typeOf aty)).before a0 Z = true) (eT : T.heap = h) {pc : Nat} {Ls : Array Slot} {n : Int32} {rest : List Value} (hd : decode c.code pc = .ok (.newarray aty, 2)) (N cap : Nat) (hN : n.toNatClampNeg = N) (hn : ¬ n < 0) (hcap : N ≤ cap) (hb : cap * 8 ≤ 536870912) (hc : cells + 1 ≤ R.cells) (hl : slots + cap ≤ R.slots)
    (kk : ∀ (T' : State) (h' : Heap) (cA : ClassId), Stand p l e R s m args below meth c T' locs (cells + 1) (slots + cap) → T'.heap = h' → Ext h h' → own_A Z h' h.size (newarray.typeOf aty) cA (List.replicate N (defaultValue (newarray.typeOf aty))) → own_Go p e below K T' (mkF m (pc + 2) Ls (.ref h.size :: rest))) :
    own_Go p e below K T (mkF m pc Ls (.int n :: rest)) := by
  obtain ⟨T', h', cA, X', e', E, A, st⟩ := newP X hx hZ w eT (g := mkF m pc Ls (.int n :: rest)) rfl hd (n := n) (rest := rest) rfl hn (cap := cap) (by rw [hN]; exact hcap) hb hc hl
  exact own_by st (kk T' h' cA X' e' E ⟨_, A, rfl, by simp [newA, hN]⟩)
theorem own_newR (X : Stand p l e R s m args below meth c T locs cells slots) (hx : p.tables.exec = Jvm.exec) (hZ : Z.Warmed39 s.vm) {own C : String} {index : Nat} (hown : s.vm.findClass own = some m.cls) (w1 : (Jvm.Cond.classLink own index C).before a0 Z = true) (w2 : (Jvm.Cond.arrayOver (.object C)).before a0 Z = true) (eT : T.heap = h) {pc : Nat} {Ls : Array Slot} {n : Int32} {rest : List Value} (hd : decode c.code pc = .ok (.anewarray index, 3)) (N cap : Nat) (hN : n.toNatClampNeg = N) (hn : ¬ n < 0) (hcap : N ≤ cap) (hb : cap * 8 ≤ 536870912) (hc : cells + 1 ≤ R.cells) (hl : slots + cap ≤ R.slots)
    (kk : ∀ (T' : State) (h' : Heap) (cA : ClassId), Stand p l e R s m args below meth c T' locs (cells + 1) (slots + cap) → T'.heap = h' → Ext h h' → own_A Z h' h.size (.object C) cA (List.replicate N .null) → Ovr Z cA C → own_Go p e below K T' (mkF m (pc + 3) Ls (.ref h.size :: rest))) :
    own_Go p e below K T (mkF m pc Ls (.int n :: rest)) := by
  obtain ⟨T', h', cA, X', e', E, A, O, st⟩ := newR X hx hZ hown w1 w2 eT (g := mkF m pc Ls (.int n :: rest)) rfl hd (n := n) (rest := rest) rfl hn (cap := cap) (by rw [hN]; exact hcap) hb hc hl
  exact own_by st (kk T' h' cA X' e' E ⟨_, A, rfl, by simp [newA, hN, defaultValue]⟩ O)
theorem own_stI (X : Stand p l e R s m args below meth c T locs cells slots) (hx : p.tables.exec = Jvm.exec) (hZ : Z.Warmed39 s.vm) (eT : T.heap = h) (V : own_A Z h a .int k vs) {j x : Int32} (i : Nat) (hi : j.toNatClampNeg = i) (hj : ¬ j < 0) (hl : i < vs.length) {pc : Nat} {Ls : Array Slot} {rest : List Value} (hd : decode c.code pc = .ok (.iastore, 1))
    (kk : ∀ (T' : State) (h' : Heap), Stand p l e R s m args below meth c T' (locs ++ [⟨a, i⟩]) cells slots → T'.heap = h' → Wr h h' a i (.int x) → own_A Z h' a .int k (vs.set i (.int x)) → own_Go p e below K T' (mkF m (pc + 1) Ls rest)) :
    own_Go p e below K T (mkF m pc Ls (.int x :: .int j :: .ref a :: rest)) := by
  subst hi
  obtain ⟨cl, A, q1, q2⟩ := V
  obtain ⟨T', h', X', e', W, st⟩ := stI X hx hZ eT A (j := j) (x := x) (own_in q2 hj hl) (g := mkF m pc Ls (.int x :: .int j :: .ref a :: rest)) rfl rfl hd
  exact own_by st (kk T' h' X' e' W (own_A.set ⟨cl, A, q1, q2⟩ W))
theorem own_stC (X : Stand p l e R s m args below meth c T locs cells slots) (hx : p.tables.exec = Jvm.exec) (hZ : Z.Warmed39 s.vm) (eT : T.heap = h) (V : own_A Z h a .char k vs) {j x y : Int32} (i : Nat) (hi : j.toNatClampNeg = i) (hj : ¬ j < 0) (hl : i < vs.length) (hy : nar .char x = y) {pc : Nat} {Ls : Array Slot} {rest : List Value} (hd : decode c.code pc = .ok (.castore, 1))
    (kk : ∀ (T' : State) (h' : Heap), Stand p l e R s m args below meth c T' (locs ++ [⟨a, i⟩]) cells slots → T'.heap = h' → Wr h h' a i (.int y) → own_A Z h' a .char k (vs.set i (.int y)) → own_Go p e below K T' (mkF m (pc + 1) Ls rest)) :
    own_Go p e below K T (mkF m pc Ls (.int x :: .int j :: .ref a :: rest)) := by
  subst hi; subst hy
  obtain ⟨cl, A, q1, q2⟩ := V
  obtain ⟨T', h', X', e', W, st⟩ := stC X hx hZ eT A (j := j) (x := x) (own_in q2 hj hl) (g := mkF m pc Ls (.int x :: .int j :: .ref a :: rest)) rfl rfl hd
  exact own_by st (kk T' h' X' e' W (own_A.set ⟨cl, A, q1, q2⟩ W))
theorem own_stZ (X : Stand p l e R s m args below meth c T locs cells slots) (hx : p.tables.exec = Jvm.exec) (hZ : Z.Warmed39 s.vm) (eT : T.heap = h) (V : own_A Z h a .boolean k vs) {j x y : Int32} (i : Nat) (hi : j.toNatClampNeg = i) (hj : ¬ j < 0) (hl : i < vs.length) (hy : nar .boolean x = y) {pc : Nat} {Ls : Array Slot} {rest : List Value} (hd : decode c.code pc = .ok (.bastore, 1))
    (kk : ∀ (T' : State) (h' : Heap), Stand p l e R s m args below meth c T' (locs ++ [⟨a, i⟩]) cells slots → T'.heap = h' → Wr h h' a i (.int y) → own_A Z h' a .boolean k (vs.set i (.int y)) → own_Go p e below K T' (mkF m (pc + 1) Ls rest)) :
    own_Go p e below K T (mkF m pc Ls (.int x :: .int j :: .ref a :: rest)) := by
  subst hi; subst hy
  obtain ⟨cl, A, q1, q2⟩ := V
  obtain ⟨T', h', X', e', W, st⟩ := stZ X hx hZ eT A (j := j) (x := x) (own_in q2 hj hl) (g := mkF m pc Ls (.int x :: .int j :: .ref a :: rest)) rfl rfl hd
  exact own_by st (kk T' h' X' e' W (own_A.set ⟨cl, A, q1, q2⟩ W))
theorem own_stR (X : Stand p l e R s m args below meth c T locs cells slots) (hx : p.tables.exec = Jvm.exec) (hZ : Z.Warmed39 s.vm) (eT : T.heap = h) (V : own_A Z h a ty k vs) (hty : ty.isReference = true) {j : Int32} {v : Value} (i : Nat) (hi : j.toNatClampNeg = i) (hj : ¬ j < 0) (hl : i < vs.length) (F : Sto Z h a v) {pc : Nat} {Ls : Array Slot} {rest : List Value} (hd : decode c.code pc = .ok (.aastore, 1))
    (kk : ∀ (T' : State) (h' : Heap), Stand p l e R s m args below meth c T' (locs ++ [⟨a, i⟩]) cells slots → T'.heap = h' → Wr h h' a i v → own_A Z h' a ty k (vs.set i v) → own_Go p e below K T' (mkF m (pc + 1) Ls rest)) :
    own_Go p e below K T (mkF m pc Ls (v :: .int j :: .ref a :: rest)) := by
  subst hi
  obtain ⟨cl, A, q1, q2⟩ := V
  obtain ⟨T', h', X', e', W, st⟩ := stR X hx hZ eT A (j := j) (v := v) (own_in q2 hj hl) hty F (g := mkF m pc Ls (v :: .int j :: .ref a :: rest)) rfl rfl hd
  exact own_by st (kk T' h' X' e' W (own_A.set ⟨cl, A, q1, q2⟩ W))
theorem own_sto {y : Addr} {C : String} (V : own_A Z h a ty k vs) (O : Ovr Z k C) (E : Exa Z h y C) : Sto Z h a (.ref y) := by
  obtain ⟨cl, A, q1, -⟩ := V
  exact Sto.ofV A q1 O (Ins.self E)
theorem own_ldI (X : Stand p l e R s m args below meth c T locs cells slots) (hx : p.tables.exec = Jvm.exec) (hZ : Z.Warmed39 s.vm) (eT : T.heap = h) (V : own_A Z h a .int k vs) {j : Int32} {v : Value} (i : Nat) (hi : j.toNatClampNeg = i) (hj : ¬ j < 0) (hv : vs[i]? = some v) {pc : Nat} {Ls : Array Slot} {rest : List Value} (hd : decode c.code pc = .ok (.iaload, 1))
    (kk : own_Go p e below K T (mkF m (pc + 1) Ls (v :: rest))) : own_Go p e below K T (mkF m pc Ls (.int j :: .ref a :: rest)) := by
  subst hi
  obtain ⟨cl, A, q1, q2⟩ := V
  exact own_by (fun t q => X.iaload hx (j := j) (v := v) (by rw [eT]; exact A.1) (State.isArrayOf_alike hZ.alike A.2.1) A.2.2 (own_in q2 hj (List.getElem?_eq_some_iff.mp hv).1) (by rw [own_get q2]; exact hv) (g := mkF m pc Ls (.int j :: .ref a :: rest)) rfl rfl hd t q) kk
theorem own_ldC (X : Stand p l e R s m args below meth c T locs cells slots) (hx : p.tables.exec = Jvm.exec) (hZ : Z.Warmed39 s.vm) (eT : T.heap = h) (V : own_A Z h a .char k vs) {j : Int32} {v : Value} (i : Nat) (hi : j.toNatClampNeg = i) (hj : ¬ j < 0) (hv : vs[i]? = some v) {pc : Nat} {Ls : Array Slot} {rest : List Value} (hd : decode c.code pc = .ok (.caload, 1))
    (kk : own_Go p e below K T (mkF m (pc + 1) Ls (v :: rest))) : own_Go p e below K T (mkF m pc Ls (.int j :: .ref a :: rest)) := by
  subst hi
  obtain ⟨cl, A, q1, q2⟩ := V
  exact own_by (fun t q => X.caload hx (j := j) (v := v) (by rw [eT]; exact A.1) (State.isArrayOf_alike hZ.alike A.2.1) A.2.2 (own_in q2 hj (List.getElem?_eq_some_iff.mp hv).1) (by rw [own_get q2]; exact hv) (g := mkF m pc Ls (.int j :: .ref a :: rest)) rfl rfl hd t q) kk
theorem own_ldR (X : Stand p l e R s m args below meth c T locs cells slots) (hx : p.tables.exec = Jvm.exec) (hZ : Z.Warmed39 s.vm) (eT : T.heap = h) (V : own_A Z h a ty k vs) (hty : ty.isReference = true) {j : Int32} {v : Value} (i : Nat) (hi : j.toNatClampNeg = i) (hj : ¬ j < 0) (hv : vs[i]? = some v) {pc : Nat} {Ls : Array Slot} {rest : List Value} (hd : decode c.code pc = .ok (.aaload, 1))
    (kk : own_Go p e below K T (mkF m (pc + 1) Ls (v :: rest))) : own_Go p e below K T (mkF m pc Ls (.int j :: .ref a :: rest)) := by
  subst hi
  obtain ⟨cl, A, q1, q2⟩ := V
  exact own_by (fun t q => X.aaload hx (j := j) (v := v) (by rw [eT]; exact A.1) (State.isArrayOf_alike hZ.alike A.2.1) hty A.2.2 (own_in q2 hj (List.getElem?_eq_some_iff.mp hv).1) (by rw [own_get q2]; exact hv) (g := mkF m pc Ls (.int j :: .ref a :: rest)) rfl rfl hd t q) kk
theorem own_len (X : Stand p l e R s m args below meth c T locs cells slots) (hx : p.tables.exec = Jvm.exec) (hZ : Z.Warmed39 s.vm) (eT : T.heap = h) (V : own_A Z h a ty k vs) (n : Int32) (hn : vs.length.toInt32 = n) {pc : Nat} {Ls : Array Slot} {rest : List Value} (hd : decode c.code pc = .ok (.arraylength, 1))
    (kk : own_Go p e below K T (mkF m (pc + 1) Ls (.int n :: rest))) : own_Go p e below K T (mkF m pc Ls (.ref a :: rest)) := by
  subst hn
  obtain ⟨cl, A, q1, rfl⟩ := V
  refine own_by (fun t q => X.arraylength hx (cell := cl) (by rw [eT]; exact A.1) (State.isArrayOf_alike hZ.alike A.2.1) (g := mkF m pc Ls (.ref a :: rest)) rfl (rest := rest) rfl hd t q) ?_
  rw [Array.length_toList] at kk
  exact kk
theorem own_new (X : Stand p l e R s m args below meth c T locs cells slots) (hx : p.tables.exec = Jvm.exec) (hZ : Z.Warmed39 s.vm) {own C : String} {index n : Nat} (hown : s.vm.findClass own = some m.cls) (w1 : (Jvm.Cond.classLink own index C).before a0 Z = true) (w2 : (Jvm.Cond.instantiable C n).before a0 Z = true) (w3 : (Jvm.Cond.initialized C).before a0 Z = true) (eT : T.heap = h) {pc : Nat} {Ls : Array Slot} {st : List Value} (hd : decode c.code pc = .ok (.new index, 3)) (hc : cells + 1 ≤ R.cells) (hl : slots + n ≤ R.slots)
    (kk : ∀ (T' : State) (h' : Heap), Stand p l e R s m args below meth c T' locs (cells + 1) (slots + n) → T'.heap = h' → Ext h h' → Exa Z h' h.size C → (∀ {O nm d : String} {ty : FieldType}, Laid Z a0 C O nm d → parseFieldDescriptor d = some ty → Fld Z h' h.size O nm d (defaultValue ty)) → own_Go p e below K T' (mkF m (pc + 3) Ls (.ref h.size :: st))) :
    own_Go p e below K T (mkF m pc Ls st) := by
  obtain ⟨T', h', X', e', E, A, D, -, stp⟩ := newO X hx hZ hown w1 w2 w3 eT (g := mkF m pc Ls st) rfl hd hc hl
  exact own_by stp (kk T' h' X' e' E A D)
theorem own_getF (X : Stand p l e R s m args below meth c T locs cells slots) (hx : p.tables.exec = Jvm.exec) (hZ : Z.Warmed39 s.vm) {own O n d : String} {index : Nat} (hown : s.vm.findClass own = some m.cls) (w : (Jvm.Cond.fieldLink own index O n d).before a0 Z = true) (eT : T.heap = h) (F : Fld Z h a O n d v) {pc : Nat} {Ls : Array Slot} {rest : List Value} (hd : decode c.code pc = .ok (.getfield index, 3))
    (kk : ∀ T' : State, Stand p l e R s m args below meth c T' locs cells slots → T'.heap = h → own_Go p e below K T' (mkF m (pc + 3) Ls (v :: rest))) : own_Go p e below K T (mkF m pc Ls (.ref a :: rest)) := by
  obtain ⟨T', X', e', st⟩ := getF X hx hZ hown (host := "") (Or.inl w) Via.refl eT F (g := mkF m pc Ls (.ref a :: rest)) rfl rfl hd
  exact own_by st (kk T' X' e')
theorem own_putF (X : Stand p l e R s m args below meth c T locs cells slots) (hx : p.tables.exec = Jvm.exec) (hZ : Z.Warmed39 s.vm) {own O n d C : String} {index kn : Nat} {ty : FieldType} (hown : s.vm.findClass own = some m.cls) (w : (Jvm.Cond.fieldLink own index O n d).before a0 Z = true) (eT : T.heap = h) {old : Value} (F : Fld Z h a O n d old) (E : Exa Z h a C) (L : (Jvm.Cond.lays C O n d).before a0 Z = true ∨ ((Jvm.Cond.laysFinal C O n d).before a0 Z = true ∧ own = O ∧ meth.name = "<init>")) (wi : (Jvm.Cond.instantiable C kn).before a0 Z = true) (hty : parseFieldDescriptor d = some ty) (hn : narrow ty v = v) (hf : fits ty v = true) {pc : Nat} {Ls : Array Slot} {rest : List Value} (hd : decode c.code pc = .ok (.putfield index, 3))
    (kk : ∀ (T' : State) (h' : Heap), Stand p l e R s m args below meth c T' (locs ++ [⟨a, Jvm.RoadKit.slotOf Z O n d⟩]) cells slots → T'.heap = h' → Wr h h' a (Jvm.RoadKit.slotOf Z O n d) v → own_Go p e below K T' (mkF m (pc + 3) Ls rest)) : own_Go p e below K T (mkF m pc Ls (v :: .ref a :: rest)) := by
  obtain ⟨T', h', X', e', W, st⟩ := putF X hx hZ hown (host := "") (Or.inl w) Via.refl eT F E L wi hty hn hf (g := mkF m pc Ls (v :: .ref a :: rest)) rfl rfl hd
  exact own_by st (kk T' h' X' e' W)
end OwnHeap
section OwnHeapF
variable {p : Program} {l : Launch} {e : Env} {R : Room} {s : State} {m : MethodId} {args : Array Value} {below : List Frame} {meth : Method} {c : Code} {T T' : State} {locs : List Loc} {cells slots : Nat} {Z : State} {a0 : Array Value} {h h' h0 : Heap} {K : State → Outcome → Prop} {a b : Addr} {k : ClassId} {vs : List Value}
theorem own_stD (X : Stand p l e R s m args below meth c T locs cells slots) (hx : p.tables.exec = Jvm.exec) (hZ : Z.Warmed39 s.vm) (eT : T.heap = h) (V : own_A Z h a .double k vs) {j : Int32} {x : UInt64} (i : Nat) (hi : j.toNatClampNeg = i) (hj : ¬ j < 0) (hl : i < vs.length) {pc : Nat} {Ls : Array Slot} {rest : List Value} (hd : decode c.code pc = .ok (.dastore, 1))
    (kk : ∀ (T' : State) (h' : Heap), Stand p l e R s m args below meth c T' (locs ++ [⟨a, i⟩]) cells slots → T'.heap = h' → Wr h h' a i (.double x) → own_A Z h' a .double k (vs.set i (.double x)) → own_Go p e below K T' (mkF m (pc + 1) Ls rest)) :
    own_Go p e below K T (mkF m pc Ls (.double x :: .int j :: .ref a :: rest)) := by
  subst hi
  obtain ⟨cl, A, q1, q2⟩ := V
  obtain ⟨T', h', X', e', W, st⟩ := stD X hx hZ eT A (j := j) (x := x) (own_in q2 hj hl) (g := mkF m pc Ls (.double x :: .int j :: .ref a :: rest)) rfl rfl hd
  exact own_by st (kk T' h' X' e' W (own_A.set ⟨cl, A, q1, q2⟩ W))
theorem own_stF (X : Stand p l e R s m args below meth c T locs cells slots) (hx : p.tables.exec = Jvm.exec) (hZ : Z.Warmed39 s.vm) (eT : T.heap = h) (V : own_A Z h a .float k vs) {j : Int32} {x : UInt32} (i : Nat) (hi : j.toNatClampNeg = i) (hj : ¬ j < 0) (hl : i < vs.length) {pc : Nat} {Ls : Array Slot} {rest : List Value} (hd : decode c.code pc = .ok (.fastore, 1))
    (kk : ∀ (T' : State) (h' : Heap), Stand p l e R s m args below meth c T' (locs ++ [⟨a, i⟩]) cells slots → T'.heap = h' → Wr h h' a i (.float x) → own_A Z h' a .float k (vs.set i (.float x)) → own_Go p e below K T' (mkF m (pc + 1) Ls rest)) :
    own_Go p e below K T (mkF m pc Ls (.float x :: .int j :: .ref a :: rest)) := by
  subst hi
  obtain ⟨cl, A, q1, q2⟩ := V
  obtain ⟨T', h', X', e', W, st⟩ := stF X hx hZ eT A (j := j) (x := x) (own_in q2 hj hl) (g := mkF m pc Ls (.float x :: .int j :: .ref a :: rest)) rfl rfl hd
  exact own_by st (kk T' h' X' e' W (own_A.set ⟨cl, A, q1, q2⟩ W))
theorem own_ldD (X : Stand p l e R s m args below meth c T locs cells slots) (hx : p.tables.exec = Jvm.exec) (hZ : Z.Warmed39 s.vm) (eT : T.heap = h) (V : own_A Z h a .double k vs) {j : Int32} {v : Value} (i : Nat) (hi : j.toNatClampNeg = i) (hj : ¬ j < 0) (hv : vs[i]? = some v) {pc : Nat} {Ls : Array Slot} {rest : List Value} (hd : decode c.code pc = .ok (.daload, 1))
    (kk : own_Go p e below K T (mkF m (pc + 1) Ls (v :: rest))) : own_Go p e below K T (mkF m pc Ls (.int j :: .ref a :: rest)) := by
  subst hi
  obtain ⟨cl, A, q1, q2⟩ := V
  exact own_by (fun t q => X.daload hx (j := j) (v := v) (by rw [eT]; exact A.1) (State.isArrayOf_alike hZ.alike A.2.1) A.2.2 (own_in q2 hj (List.getElem?_eq_some_iff.mp hv).1) (by rw [own_get q2]; exact hv) (g := mkF m pc Ls (.int j :: .ref a :: rest)) rfl rfl hd t q) kk
theorem own_ldF (X : Stand p l e R s m args below meth c T locs cells slots) (hx : p.tables.exec = Jvm.exec) (hZ : Z.Warmed39 s.vm) (eT : T.heap = h) (V : own_A Z h a .float k vs) {j : Int32} {v : Value} (i : Nat) (hi : j.toNatClampNeg = i) (hj : ¬ j < 0) (hv : vs[i]? = some v) {pc : Nat} {Ls : Array Slot} {rest : List Value} (hd : decode c.code pc = .ok (.faload, 1))
    (kk : own_Go p e below K T (mkF m (pc + 1) Ls (v :: rest))) : own_Go p e below K T (mkF m pc Ls (.int j :: .ref a :: rest)) := by
  subst hi
  obtain ⟨cl, A, q1, q2⟩ := V
  exact own_by (fun t q => X.faload hx (j := j) (v := v) (by rw [eT]; exact A.1) (State.isArrayOf_alike hZ.alike A.2.1) A.2.2 (own_in q2 hj (List.getElem?_eq_some_iff.mp hv).1) (by rw [own_get q2]; exact hv) (g := mkF m pc Ls (.int j :: .ref a :: rest)) rfl rfl hd t q) kk
theorem own_retD {Q : Option Value → Heap → List Loc → Prop} (X : Stand p l e R s m args below meth c T locs cells slots) (hx : p.tables.exec = Jvm.exec) (hlk : meth.locks = false) (hret : meth.sig.returnType = some .double) {pc : Nat} {Ls : Array Slot} {z : UInt64} {rest : List Value} {k n : Nat} (hd : decode c.code pc = .ok (.dreturn, 1)) (hk : cells ≤ k) (hn : slots ≤ n) (hQ : Q (some (.double z)) T.heap locs) :
    own_Go p e below (own_K s k n Q) T (mkF m pc Ls (.double z :: rest)) :=
  own_leave X hlk (v := some (.double z)) (fun h => by rw [hret] at h; cases h) (fun fs hl => retOut X hx hret rfl (Or.inr (Or.inr (Or.inl ⟨rfl, rfl, z, rfl⟩))) hd hl) hk hn hQ
theorem own_retF {Q : Option Value → Heap → List Loc → Prop} (X : Stand p l e R s m args below meth c T locs cells slots) (hx : p.tables.exec = Jvm.exec) (hlk : meth.locks = false) (hret : meth.sig.returnType = some .float) {pc : Nat} {Ls : Array Slot} {z : UInt32} {rest : List Value} {k n : Nat} (hd : decode c.code pc = .ok (.freturn, 1)) (hk : cells ≤ k) (hn : slots ≤ n) (hQ : Q (some (.float z)) T.heap locs) :
    own_Go p e below (own_K s k n Q) T (mkF m pc Ls (.float z :: rest)) :=
  own_leave X hlk (v := some (.float z)) (fun h => by rw [hret] at h; cases h) (fun fs hl => retOut X hx hret rfl (Or.inr (Or.inr (Or.inr (Or.inl ⟨rfl, rfl, z, rfl⟩)))) hd hl) hk hn hQ
end OwnHeapF
section OwnScaled
open Jvm.FP.Core
/-- the exponent moved by k -/
def own_sh (k : Int) : Datum → Datum
  | .fin s c q => .fin s c (q + k)
  | .nan => .nan
  | .inf s => .inf s
/-- d is i / 2^k -/
def own_Sc (k : Int) (i : Int) (d : Datum) : Prop := Whole i (own_sh k d)
theorem own_sc_fin {k i : Int} {d : Datum} (h : own_Sc k i d) : ∃ s c q, d = .fin s c q := by
  cases d with
  | nan => exact h.elim
  | inf => exact h.elim
  | fin s c q => exact ⟨s, c, q, rfl⟩
theorem own_sc0 {i : Int} {d : Datum} (h : Whole i d) : own_Sc 0 i d := by
  cases d with
  | nan => exact h.elim
  | inf => exact h.elim
  | fin s c q => show Whole i (.fin s c (q + 0)); rw [Int.add_zero]; exact h
theorem own_sc_sum {k i j : Int} {x y : Datum} (hx : own_Sc k i x) (hy : own_Sc k j y) : own_Sc k (i + j) (exactSum x y) := by
  obtain ⟨s, c, q, rfl⟩ := own_sc_fin hx
  obtain ⟨t, d, r, rfl⟩ := own_sc_fin hy
  have h := whole_sum (x := .fin s c (q + k)) (y := .fin t d (r + k)) hx hy
  have e : exactSum (.fin s c (q + k)) (.fin t d (r + k)) = own_sh k (exactSum (.fin s c q) (.fin t d r)) := by
    have e1 : min (q + k) (r + k) = min q r + k := by omega
    simp only [exactSum, own_sh, sumUnits, inUnits, e1, show ∀ a : Int, a + k - (min q r + k) = a - min q r from fun a => by omega]
  rw [e] at h
  exact h
theorem own_sc_product {k l i j : Int} {x y : Datum} (hx : own_Sc k i x) (hy : own_Sc l j y) : own_Sc (k + l) (i * j) (exactProduct x y) := by
  obtain ⟨s, c, q, rfl⟩ := own_sc_fin hx
  obtain ⟨t, d, r, rfl⟩ := own_sc_fin hy
  have h := whole_product (x := .fin s c (q + k)) (y := .fin t d (r + l)) hx hy
  have e : exactProduct (.fin s c (q + k)) (.fin t d (r + l)) = own_sh (k + l) (exactProduct (.fin s c q) (.fin t d r)) := by
    simp only [exactProduct, own_sh]
    rw [show q + k + (r + l) = q + r + (k + l) by omega]
  rw [e] at h
  exact h
theorem own_sc_negate {k i : Int} {x : Datum} (hx : own_Sc k i x) : own_Sc k (-i) (negate x) := by
  obtain ⟨s, c, q, rfl⟩ := own_sc_fin hx
  exact whole_negate (x := .fin s c (q + k)) hx
theorem own_sc_order {k i j : Int} {x y : Datum} (hx : own_Sc k i x) (hy : own_Sc k j y) : order x y = some (compare i j) := by
  obtain ⟨s, c, q, rfl⟩ := own_sc_fin hx
  obtain ⟨t, d, r, rfl⟩ := own_sc_fin hy
  have h := order_whole (x := .fin s c (q + k)) (y := .fin t d (r + k)) hx hy
  have e1 : min (q + k) (r + k) = min q r + k := by omega
  have e : order (.fin s c (q + k)) (.fin t d (r + k)) = order (.fin s c q) (.fin t d r) := by
    simp only [order, inUnits, e1, show ∀ a : Int, a + k - (min q r + k) = a - min q r from fun a => by omega]
  rw [← e]; exact h
/-- what is n / 2^k in one writing is so in another -/
theorem own_sc_of_units {f : Fmt} {s : Bool} {c' n : Nat} {q' k i : Int} (h1 : f.qmin ≤ q') (h2 : f.qmin ≤ -k) (hu : inUnits c' q' f.qmin = inUnits n (-k) f.qmin) (hs : signed s n = i) : own_Sc k i (.fin s c' q') := by
  show signed s (c' * 2 ^ (q' + k).toNat) = i * ((2 ^ (-(q' + k)).toNat : Nat) : Int)
  have e : c' * 2 ^ (q' + k).toNat = n * 2 ^ (-(q' + k)).toNat := by
    unfold inUnits at hu
    by_cases h : 0 ≤ q' + k
    · rw [show (q' - f.qmin).toNat = (q' + k).toNat + (-k - f.qmin).toNat by omega, Nat.pow_add, ← Nat.mul_assoc] at hu
      rw [show (-(q' + k)).toNat = 0 by omega, Nat.pow_zero, Nat.mul_one]
      exact Nat.eq_of_mul_eq_mul_right (Nat.two_pow_pos _) hu
    · rw [show (-k - f.qmin).toNat = (-(q' + k)).toNat + (q' - f.qmin).toNat by omega, Nat.pow_add, ← Nat.mul_assoc] at hu
      rw [show (q' + k).toNat = 0 by omega, Nat.pow_zero, Nat.mul_one]
      exact Nat.eq_of_mul_eq_mul_right (Nat.two_pow_pos _) hu
  rw [e, signed_mul, hs]
theorem own_signed_abs {s : Bool} {i : Int} (h : i ≠ 0 → s = decide (i < 0)) : signed s i.natAbs = i := by
  by_cases hi : i = 0
  · rw [hi]; exact signed_zero s
  · rw [h hi]; unfold signed
    by_cases h : i < 0 <;> simp [h] <;> omega
theorem own_sc_ratio {f : Fmt} (hf : Good f) {s : Bool} {i k : Int} (hi : i.natAbs ≤ 2 ^ f.p) (h1 : f.qmin ≤ -k) (h2 : -k + f.p ≤ f.qmax) (hs : i ≠ 0 → s = decide (i < 0)) : own_Sc k i (roundRatio f s i.natAbs 1 (-k)) := by
  have hp : 2 ≤ f.p := hf.2
  rcases Nat.lt_or_ge i.natAbs (2 ^ f.p) with hlt | hge
  · obtain ⟨c', q', e, hu⟩ := round_exact hf s hlt h1 (by omega)
    have hfit : FP.Core.fits f (.fin s c' q') := by rw [← e]; exact round_fits hf _
    have e' : roundRatio f s i.natAbs 1 (-k) = .fin s c' q' := e
    rw [e']
    exact own_sc_of_units hfit.2.1 h1 hu (own_signed_abs hs)
  · have he : i.natAbs = 2 ^ f.p := by omega
    have h3 : (1 : Nat) < 2 ^ f.p := Nat.one_lt_two_pow (by omega)
    obtain ⟨c', q', e, hu⟩ := round_exact hf s h3 (q := -k + f.p) (by omega) h2
    have hfit : FP.Core.fits f (.fin s c' q') := by rw [← e]; exact round_fits hf _
    have e' : roundRatio f s i.natAbs 1 (-k) = .fin s c' q' := by
      rw [← e]
      refine roundRatio_congr (by decide) (by decide) ?_
      rw [he, show (-k - (-k + (f.p : Int))).toNat = 0 by omega, show (-k + (f.p : Int) - -k).toNat = f.p by omega]
      simp
    rw [e']
    refine own_sc_of_units hfit.2.1 h1 (hu.trans ?_) (own_signed_abs hs)
    unfold inUnits
    rw [he, show (-k + (f.p : Int) - f.qmin).toNat = f.p + (-k - f.qmin).toNat by omega, Nat.pow_add]
    simp
/-- small enough numbers over 2^k are kept by rounding -/
theorem own_sc_round {f : Fmt} (hf : Good f) {k i : Int} {d : Datum} (h : own_Sc k i d) (hi : i.natAbs ≤ 2 ^ f.p) (h1 : f.qmin ≤ -k) (h2 : -k + f.p ≤ f.qmax) : own_Sc k i (round f d) := by
  obtain ⟨s, c, q, rfl⟩ := own_sc_fin h
  have hn : c * 2 ^ (q + k).toNat = i.natAbs * 2 ^ (-(q + k)).toNat := whole_natAbs h
  have e : round f (.fin s c q) = roundRatio f s i.natAbs 1 (-k) := by
    refine roundRatio_congr (by decide) (by decide) ?_
    rw [show (q - -k).toNat = (q + k).toNat by omega, show (-k - q).toNat = (-(q + k)).toNat by omega]
    simpa using hn
  rw [e]
  exact own_sc_ratio hf hi h1 h2 (fun hz => whole_sign h hz)
/-- a quotient that is j / 2^(k - l) -/
theorem own_sc_quot {f : Fmt} (hf : Good f) {k l i j : Int} {x y : Datum} (hx : own_Sc k (j * i) x) (hy : own_Sc l i y) (hi0 : i ≠ 0) (hj : j.natAbs ≤ 2 ^ f.p) (h1 : f.qmin ≤ -(k - l)) (h2 : -(k - l) + f.p ≤ f.qmax) : own_Sc (k - l) j (quotient f x y) := by
  obtain ⟨s, c, q, rfl⟩ := own_sc_fin hx
  obtain ⟨t, d, r, rfl⟩ := own_sc_fin hy
  have hn : c * 2 ^ (q + k).toNat = (j * i).natAbs * 2 ^ (-(q + k)).toNat := whole_natAbs hx
  have hm : d * 2 ^ (r + l).toNat = i.natAbs * 2 ^ (-(r + l)).toNat := whole_natAbs hy
  have hd : d ≠ 0 := fun q => hi0 ((whole_zero hy).mp q)
  have hs : j ≠ 0 → (s != t) = decide (j < 0) := fun hj0 => by
    rw [whole_sign hx (Int.mul_ne_zero hj0 hi0), whole_sign hy hi0]
    by_cases a : j < 0 <;> by_cases b : i < 0
    · have : 0 < j * i := Int.mul_pos_of_neg_of_neg a b
      simp [a, b, show ¬ j * i < 0 by omega]
    · have : j * i < 0 := Int.mul_neg_of_neg_of_pos a (by omega)
      simp [a, b, this]
    · have : j * i < 0 := Int.mul_neg_of_pos_of_neg (by omega) b
      simp [a, b, this]
    · have : 0 < j * i := Int.mul_pos (by omega) (by omega)
      simp [a, b, show ¬ j * i < 0 by omega]
  have e : quotient f (.fin s c q) (.fin t d r) = roundRatio f (s != t) j.natAbs 1 (-(k - l)) := by
    show (if d = 0 then _ else _) = _
    rw [if_neg hd]
    refine roundRatio_congr (by omega) (by decide) ?_
    rw [Int.natAbs_mul] at hn
    have hip : 0 < i.natAbs := by omega
    -- c 2^(q+k) = |j||i|, d 2^(r+l) = |i|
    have p0 : 0 < i.natAbs * 2 ^ ((-(q + k)).toNat + (-(r + l)).toNat + (q + k).toNat + (r + l).toNat) := Nat.mul_pos hip (Nat.two_pow_pos _)
    refine Nat.eq_of_mul_eq_mul_right p0 ?_
    have a1 : (q - r - -(k - l)).toNat + ((-(q + k)).toNat + (r + l).toNat) = (-(k - l) - (q - r)).toNat + ((q + k).toNat + (-(r + l)).toNat) := by omega
    generalize (q - r - -(k - l)).toNat = u1 at *
    generalize (-(k - l) - (q - r)).toNat = u2 at *
    generalize (q + k).toNat = a at *
    generalize (-(q + k)).toNat = b at *
    generalize (r + l).toNat = cc at *
    generalize (-(r + l)).toNat = dd at *
    generalize i.natAbs = I at *
    generalize j.natAbs = J at *
    have hh : 2 ^ (u1 + (b + cc)) = 2 ^ (u2 + (a + dd)) := by rw [a1]
    simp only [Nat.pow_add] at hh ⊢
    -- both sides by hn, hm
    calc c * 1 * 2 ^ u1 * (I * (2 ^ b * 2 ^ dd * 2 ^ a * 2 ^ cc)) = (c * 2 ^ a) * (I * 2 ^ dd) * (2 ^ u1 * (2 ^ b * 2 ^ cc)) := by simp only [Nat.mul_one]; ac_rfl
      _ = (J * I * 2 ^ b) * (d * 2 ^ cc) * (2 ^ u1 * (2 ^ b * 2 ^ cc)) := by rw [hn, hm]
      _ = (J * I * 2 ^ b) * (d * 2 ^ cc) * (2 ^ u2 * (2 ^ a * 2 ^ dd)) := by rw [hh]
      _ = J * d * 2 ^ u2 * (I * (2 ^ b * 2 ^ dd * 2 ^ a * 2 ^ cc)) := by ac_rfl
  rw [e]
  exact own_sc_ratio hf hj h1 h2 hs
theorem own_q64 {k : Int} (h : k ≤ 900) : k + (b64.p : Int) ≤ b64.qmax := by
  have h1 : b64.qmax = 971 := by decide
  have h2 : (b64.p : Int) = 53 := rfl
  rw [h1, h2]; omega
theorem own_q32 {k : Int} (h : k ≤ 60) : k + (b32.p : Int) ≤ b32.qmax := by
  have h1 : b32.qmax = 104 := by decide
  have h2 : (b32.p : Int) = 24 := rfl
  rw [h1, h2]; omega
/-! ### doubles and floats -/
def own_D (k i : Int) (a : UInt64) : Prop := own_Sc k i (val64 a)
def own_F (k i : Int) (a : UInt32) : Prop := own_Sc k i (val32 a)
theorem own_D_no {k i : Int} {a : UInt64} (h : own_D k i a) : Jvm.Free.Fl.NoNaN64 a := Jvm.Free.Fl.val64_no.mpr fun q => by unfold own_D at h; rw [q] at h; exact h
theorem own_F_no {k i : Int} {a : UInt32} (h : own_F k i a) : Jvm.Free.Fl.NoNaN32 a := Jvm.Free.Fl.val32_no.mpr fun q => by unfold own_F at h; rw [q] at h; exact h
theorem own_v_f2d {k i : Int} {a : UInt32} (ha : own_F k i a) : val64 (FP.f2d a) = round b64 (val32 a) := by
  rw [FP.f2d_core (Jvm.Free.Fl.noNaN32_no.mp (own_F_no ha))]; exact val64_f2d a
theorem own_v_d2f {k i : Int} {a : UInt64} (ha : own_D k i a) : val32 (FP.d2f a) = round b32 (val64 a) := by
  rw [FP.d2f_core (Jvm.Free.Fl.noNaN64_no.mp (own_D_no ha))]; exact val32_d2f a
theorem own_D_i2d (a : Int32) : own_D 0 a.toInt (FP.i2d a) := own_sc0 (i2d_int a)
theorem own_D_l2d {a : Int64} (h : a.toInt.natAbs ≤ 2 ^ 53) : own_D 0 a.toInt (FP.l2d a) := own_sc0 (l2d_int h)
theorem own_F_i2f {a : Int32} (h : a.toInt.natAbs ≤ 2 ^ 24) : own_F 0 a.toInt (FP.i2f a) := own_sc0 (i2f_int h)
theorem own_D_add {k i j : Int} {a b : UInt64} (ha : own_D k i a) (hb : own_D k j b) (h : (i + j).natAbs ≤ 2 ^ 53) (h1 : -900 ≤ -k) (h2 : -k ≤ 900) : own_D k (i + j) (FP.dadd a b) := by
  unfold own_D
  rw [show val64 (FP.dadd a b) = round b64 (exactSum (val64 a) (val64 b)) from val64_dadd a b]
  exact own_sc_round good_b64 (own_sc_sum ha hb) h (by rw [qmin_b64]; omega) (own_q64 (by omega))
theorem own_D_sub {k i j : Int} {a b : UInt64} (ha : own_D k i a) (hb : own_D k j b) (h : (i + -j).natAbs ≤ 2 ^ 53) (h1 : -900 ≤ -k) (h2 : -k ≤ 900) : own_D k (i + -j) (FP.dsub a b) := by
  unfold own_D
  rw [show val64 (FP.dsub a b) = round b64 (exactSum (val64 a) (negate (val64 b))) from val64_dsub a b]
  exact own_sc_round good_b64 (own_sc_sum ha (own_sc_negate hb)) h (by rw [qmin_b64]; omega) (own_q64 (by omega))
theorem own_D_mul {k l i j : Int} {a b : UInt64} (ha : own_D k i a) (hb : own_D l j b) (h : (i * j).natAbs ≤ 2 ^ 53) (h1 : -900 ≤ -(k + l)) (h2 : -(k + l) ≤ 900) : own_D (k + l) (i * j) (FP.dmul a b) := by
  unfold own_D
  rw [show val64 (FP.dmul a b) = round b64 (exactProduct (val64 a) (val64 b)) from val64_dmul a b]
  exact own_sc_round good_b64 (own_sc_product ha hb) h (by rw [qmin_b64]; omega) (own_q64 (by omega))
theorem own_D_div {k l i j : Int} {a b : UInt64} (ha : own_D k (j * i) a) (hb : own_D l i b) (hi : i ≠ 0) (h : j.natAbs ≤ 2 ^ 53) (h1 : -900 ≤ -(k - l)) (h2 : -(k - l) ≤ 900) : own_D (k - l) j (FP.ddiv a b) := by
  unfold own_D
  rw [show val64 (FP.ddiv a b) = quotient b64 (val64 a) (val64 b) from val64_ddiv a b]
  exact own_sc_quot good_b64 ha hb hi h (by rw [qmin_b64]; omega) (own_q64 (by omega))
theorem own_D_cmp {k i j : Int} {a b : UInt64} (ha : own_D k i a) (hb : own_D k j b) : FP.dcmp a b = some (compare i j) := own_sc_order ha hb
theorem own_F_mul {k l i j : Int} {a b : UInt32} (ha : own_F k i a) (hb : own_F l j b) (h : (i * j).natAbs ≤ 2 ^ 24) (h1 : -100 ≤ -(k + l)) (h2 : -(k + l) ≤ 60) : own_F (k + l) (i * j) (FP.fmul a b) := by
  unfold own_F
  rw [show val32 (FP.fmul a b) = round b32 (exactProduct (val32 a) (val32 b)) from val32_fmul a b]
  exact own_sc_round good_b32 (own_sc_product ha hb) h (by rw [qmin_b32]; omega) (own_q32 (by omega))
theorem own_F_div {k l i j : Int} {a b : UInt32} (ha : own_F k (j * i) a) (hb : own_F l i b) (hi : i ≠ 0) (h : j.natAbs ≤ 2 ^ 24) (h1 : -100 ≤ -(k - l)) (h2 : -(k - l) ≤ 60) : own_F (k - l) j (FP.fdiv a b) := by
  unfold own_F
  rw [show val32 (FP.fdiv a b) = quotient b32 (val32 a) (val32 b) from val32_fdiv a b]
  exact own_sc_quot good_b32 ha hb hi h (by rw [qmin_b32]; omega) (own_q32 (by omega))
theorem own_F_cmp {k i j : Int} {a b : UInt32} (ha : own_F k i a) (hb : own_F k j b) : FP.fcmp a b = some (compare i j) := own_sc_order ha hb
theorem own_D_f2d {k i : Int} {a : UInt32} (ha : own_F k i a) (h : i.natAbs ≤ 2 ^ 53) (h1 : -900 ≤ -k) (h2 : -k ≤ 900) : own_D k i (FP.f2d a) := by
  unfold own_D
  rw [own_v_f2d ha]
  exact own_sc_round good_b64 ha h (by rw [qmin_b64]; omega) (own_q64 (by omega))
theorem own_F_d2f {k i : Int} {a : UInt64} (ha : own_D k i a) (h : i.natAbs ≤ 2 ^ 24) (h1 : -100 ≤ -k) (h2 : -k ≤ 60) : own_F k i (FP.d2f a) := by
  unfold own_F
  rw [own_v_d2f ha]
  exact own_sc_round good_b32 ha h (by rw [qmin_b32]; omega) (own_q32 (by omega))
/-- the same value in smaller units -/
theorem own_sc_up {k i : Int} {d : Datum} (h : own_Sc k i d) (n : Nat) : own_Sc (k + n) (i * ((2 ^ n : Nat) : Int)) d := by
  obtain ⟨s, c, q, rfl⟩ := own_sc_fin h
  have h' : signed s (c * 2 ^ (q + k).toNat) = i * ((2 ^ (-(q + k)).toNat : Nat) : Int) := h
  show signed s (c * 2 ^ (q + (k + n)).toNat) = i * ((2 ^ n : Nat) : Int) * ((2 ^ (-(q + (k + n))).toNat : Nat) : Int)
  have e : (q + (k + n)).toNat + (-(q + k)).toNat = (q + k).toNat + (n + (-(q + (k + n))).toNat) := by omega
  have p : ((2 ^ (-(q + k)).toNat : Nat) : Int) ≠ 0 := by have := Nat.two_pow_pos (-(q + k)).toNat; omega
  refine Int.eq_of_mul_eq_mul_right p ?_
  rw [← signed_mul, Nat.mul_assoc, ← Nat.pow_add, e, Nat.pow_add, ← Nat.mul_assoc, signed_mul, h', Nat.pow_add, Int.natCast_mul]
  ac_rfl
theorem own_D_up {k i : Int} {a : UInt64} (h : own_D k i a) (n : Nat) : own_D (k + n) (i * ((2 ^ n : Nat) : Int)) a := own_sc_up h n
theorem own_F_up {k i : Int} {a : UInt32} (h : own_F k i a) (n : Nat) : own_F (k + n) (i * ((2 ^ n : Nat) : Int)) a := own_sc_up h n
/-! ### one rounding of a number of many digits -/
theorem own_leading {n : Nat} (h : n ≠ 0) : leading n 1 = (n.log2 : Int) := by
  have l1 : 2 ^ n.log2 ≤ n := Nat.log2_self_le h
  unfold leading
  have e : (n.log2 : Int) - ((1 : Nat).log2 : Int) = (n.log2 : Int) := by have : (1 : Nat).log2 = 0 := by decide
                                                                          rw [this]; simp
  simp only [e]
  rw [if_pos]
  rw [show ((n.log2 : Int)).toNat = n.log2 by omega, show (-(n.log2 : Int)).toNat = 0 by omega]
  simpa using l1
theorem own_rr {f : Fmt} (hf : Good f) {s : Bool} {n : Nat} (hn : n ≠ 0) {k : Int} (h0 : 0 ≤ k) (h1 : f.qmin < -k - ((f.p : Int) - 1)) (h2 : (n.log2 : Int) + 2 ≤ f.qmax + f.p) :
    ∃ c q, (roundRatio f s n 1 (-k) = .fin s c (q - k) ∧ roundRatio f s n 1 0 = .fin s c q) ∧ c < 2 ^ f.p ∧ -((f.p : Int) - 1) ≤ q ∧ q ≤ f.qmax ∧ f.tails ≤ c := by
  have hp : 2 ≤ f.p := hf.2
  have hL := own_leading hn
  have hq0 : quantum f n 1 0 = (n.log2 : Int) - ((f.p : Int) - 1) := by unfold quantum; rw [hL]; omega
  have hqk : quantum f n 1 (-k) = (n.log2 : Int) - ((f.p : Int) - 1) - k := by unfold quantum; rw [hL]; omega
  have hfit : FP.Core.fits f (roundRatio f s n 1 0) := roundRatio_fits hf s n Nat.one_pos 0
  generalize hQ : (n.log2 : Int) - ((f.p : Int) - 1) = Q at hq0 hqk
  have eN : unitsNum n (-k) (Q - k) = unitsNum n 0 Q := by unfold unitsNum; rw [show (-k - (Q - k)).toNat = (0 - Q).toNat by omega]
  have eD : unitsDen 1 (-k) (Q - k) = unitsDen 1 0 Q := by unfold unitsDen; rw [show (Q - k - -k).toNat = (Q - 0).toNat by omega]
  have r0 : roundRatio f s n 1 0 = settle f s (nearest (unitsNum n 0 Q) (unitsDen 1 0 Q)) Q := by
    unfold roundRatio roundAt; rw [if_neg hn, hq0]
  have rk : roundRatio f s n 1 (-k) = settle f s (nearest (unitsNum n 0 Q) (unitsDen 1 0 Q)) (Q - k) := by
    unfold roundRatio roundAt; rw [if_neg hn, hqk, eN, eD]
  generalize nearest (unitsNum n 0 Q) (unitsDen 1 0 Q) = c0 at r0 rk
  unfold settle bound at r0 rk
  by_cases hc : c0 < 2 ^ f.p
  · rw [if_pos hc, if_pos (by omega)] at r0 rk
    rw [r0] at hfit
    obtain ⟨f1, f2, f3, f4⟩ := hfit
    exact ⟨c0, Q, ⟨rk, r0⟩, f1, by omega, f3, by rcases f4 with f4 | f4 <;> omega⟩
  · rw [if_neg hc, if_pos (by omega)] at r0 rk
    rw [r0] at hfit
    obtain ⟨f1, f2, f3, f4⟩ := hfit
    exact ⟨f.tails, Q + 1, ⟨by rw [rk, show Q - k + 1 = Q + 1 - k by omega], r0⟩, f1, by omega, f3, Nat.le_refl _⟩
/-- i / 2^k, rounded once, is i rounded, over 2^k -/
theorem own_round_ratio {f : Fmt} {k i : Int} {d : Datum} (h : own_Sc k i d) (hi : i ≠ 0) : round f d = roundRatio f (decide (i < 0)) i.natAbs 1 (-k) := by
  obtain ⟨s, c, q, rfl⟩ := own_sc_fin h
  have hn : c * 2 ^ (q + k).toNat = i.natAbs * 2 ^ (-(q + k)).toNat := whole_natAbs h
  rw [← whole_sign h hi]
  refine roundRatio_congr (by decide) (by decide) ?_
  rw [show (q - -k).toNat = (q + k).toNat by omega, show (-k - q).toNat = (-(q + k)).toNat by omega]
  simpa using hn
/-- a datum over 2^k -/
theorem own_quot_pow {f : Fmt} (hf : Good f) {s : Bool} {c : Nat} {q : Int} {k : Nat} {y : Datum} (hy : own_Sc 0 ((2 ^ k : Nat) : Int) y) (h1 : c < 2 ^ f.p) (h2 : f.qmin ≤ q - k) (h3 : q ≤ f.qmax) (h4 : f.tails ≤ c) : quotient f (.fin s c q) y = .fin s c (q - k) := by
  obtain ⟨t, d, r, rfl⟩ := own_sc_fin hy
  have hp := Nat.two_pow_pos k
  have hm : d * 2 ^ (r + 0).toNat = ((2 ^ k : Nat) : Int).natAbs * 2 ^ (-(r + 0)).toNat := whole_natAbs hy
  rw [Int.add_zero, Int.natAbs_natCast] at hm
  have hz : ((2 ^ k : Nat) : Int) ≠ 0 := fun z => by have h9 : 2 ^ k = 0 := Int.ofNat_eq_zero.mp z
                                                     omega
  have ht : t = false := by
    rw [whole_sign hy hz]
    exact decide_eq_false (Int.not_lt.mpr (Int.natCast_nonneg _))
  have hd : d ≠ 0 := fun z => hz ((whole_zero hy).mp z)
  subst ht
  show (if d = 0 then _ else _) = _
  rw [if_neg hd]
  have e1 : (s != false) = s := by cases s <;> rfl
  rw [e1]
  refine roundRatio_exact hf (by omega) ⟨h1, h2, by omega, Or.inr h4⟩ ?_
  rw [show (q - r - (q - (k : Int))).toNat = ((k : Int) - r).toNat by omega, show (q - (k : Int) - (q - r)).toNat = (r - (k : Int)).toNat by omega, Nat.mul_assoc]
  congr 1
  rcases Int.lt_or_le r 0 with hr | hr
  · rw [show r.toNat = 0 by omega, Nat.pow_zero, Nat.mul_one] at hm
    rw [hm, ← Nat.pow_add, ← Nat.pow_add]
    congr 1
    omega
  · rw [show (-r).toNat = 0 by omega, Nat.pow_zero, Nat.mul_one] at hm
    rcases Int.lt_or_le (k : Int) r with h | h
    · have : 2 ^ k = d * 2 ^ (r.toNat - k) * 2 ^ k := by
        rw [Nat.mul_assoc, ← Nat.pow_add, show r.toNat - k + k = r.toNat by omega, hm]
      have h5 : d * 2 ^ (r.toNat - k) = 1 := by
        have h6 : 1 * 2 ^ k = d * 2 ^ (r.toNat - k) * 2 ^ k := by rw [Nat.one_mul]; exact this
        exact (Nat.eq_of_mul_eq_mul_right hp h6).symm
      rw [show ((k : Int) - r).toNat = 0 by omega, show (r - (k : Int)).toNat = r.toNat - k by omega, h5, Nat.pow_zero]
    · have h6 : d = 2 ^ (k - r.toNat) := by
        have : d * 2 ^ r.toNat = 2 ^ (k - r.toNat) * 2 ^ r.toNat := by rw [hm, ← Nat.pow_add]; congr 1; omega
        exact Nat.eq_of_mul_eq_mul_right (Nat.two_pow_pos _) this
      rw [show (r - (k : Int)).toNat = 0 by omega, Nat.pow_zero, Nat.mul_one, h6]
      congr 1
      omega
end OwnScaled
section OwnM1
open Jvm.FP.Core
theorem own_frs {k : Nat} {L : List Loc} {a : Addr} {i : Nat} (N : Fr k L) (q : k ≤ a) : Fr k (L ++ [⟨a, i⟩]) := N.app fun y hy => by cases List.mem_singleton.mp hy; exact q
theorem own_app3 {k : Nat} {L : List Loc} (N : Fr k L) : Fr k (L ++ []) := by simpa using N
theorem own_D_zero (k : Int) : own_D k 0 FP.dconst0 := by
  show Whole 0 (own_sh k (val64 FP.dconst0))
  rw [show val64 FP.dconst0 = .fin false 0 b64.qmin from val64_dconst0]
  show signed false (0 * _) = 0 * _
  rw [Nat.zero_mul, Int.zero_mul]; rfl
theorem own_F_zero (k : Int) : own_F k 0 FP.fconst0 := by
  show Whole 0 (own_sh k (val32 FP.fconst0))
  rw [show val32 FP.fconst0 = .fin false 0 b32.qmin from val32_fconst0]
  show signed false (0 * _) = 0 * _
  rw [Nat.zero_mul, Int.zero_mul]; rfl
theorem own_F_l2f {a : Int64} (h : a.toInt.natAbs ≤ 2 ^ 24) : own_F 0 a.toInt (FP.l2f a) := by
  unfold own_F
  rw [show val32 (FP.l2f a) = round b32 (ofInt a.toInt) from val32_l2f a]
  exact own_sc_round good_b32 (own_sc0 (whole_ofInt _)) h (by decide) (by decide)
theorem own_eight : own_F 0 8 1090519040 := by
  have h : val32 1090519040 = .fin false 8388608 (-20) := by decide +kernel
  show Whole 8 (own_sh 0 (val32 1090519040))
  rw [h]
  show signed false (8388608 * 2 ^ ((-20 : Int) + 0).toNat) = (8 : Int) * ((2 ^ (-((-20 : Int) + 0)).toNat : Nat) : Int)
  decide +kernel
theorem own_fgt {a b : UInt32} {i j k : Int} (ha : own_F k i a) (hb : own_F k j b) : ((0 : Int32) < (cmpValue (FP.fcmp a b) .l)) ↔ j < i := by
  have C := own_F_cmp ha hb
  rw [C]
  rcases Int.lt_trichotomy i j with h | h | h
  · have h2 : compare i j = .lt := by simp [compare, compareOfLessAndEq, h]
    rw [h2]; exact ⟨fun q => absurd q (by decide), fun q => by omega⟩
  · have h2 : compare i j = .eq := by simp [compare, compareOfLessAndEq, h]
    rw [h2]; exact ⟨fun q => absurd q (by decide), fun q => by omega⟩
  · have h2 : compare i j = .gt := by simp [compare, compareOfLessAndEq, show ¬ i < j by omega, show ¬ i = j by omega]
    rw [h2]; exact ⟨fun _ => h, fun _ => by decide⟩
theorem own_feq {a b : UInt32} {i k : Int} (ha : own_F k i a) (hb : own_F k i b) : cmpValue (FP.fcmp a b) .l = (0 : Int32) := by
  rw [own_F_cmp ha hb]
  have h2 : compare i i = .eq := by simp [compare, compareOfLessAndEq]
  rw [h2]; rfl
theorem own_m16 (x : Int32) : 0 ≤ (x &&& (65535 : Int32)).toInt ∧ (x &&& (65535 : Int32)).toInt ≤ 65535 := by
  have h := c_and x 65535 (by decide)
  have h2 : (65535 : Int32).toInt = 65535 := by decide
  omega
theorem own_r9 (x : Int32) : 0 ≤ ((x &&& (2147483647 : Int32)) % (9 : Int32)).toInt ∧ ((x &&& (2147483647 : Int32)) % (9 : Int32)).toInt ≤ 8 := by
  have h := c_mask x (2147483647 : Int32) 31 (by decide) (by decide)
  have h1 := (c_irem (x &&& (2147483647 : Int32)) (9 : Int32) 9 (by decide)).1 (by omega)
  omega
/-- k times o, both small -/
theorem own_small {k o : Int} (h1 : 0 ≤ k) (h2 : k ≤ 8) (h3 : 0 ≤ o) (h4 : o ≤ 131070) : 0 ≤ k * o ∧ k * o ≤ 1048560 := by
  refine ⟨Int.mul_nonneg h1 h3, ?_⟩
  have := Int.mul_le_mul h2 h4 h3 (by omega)
  omega
end OwnM1
theorem own_n (x : Int32) : x &&& (3 : Int32) = (0 : Int32) ∨ x &&& (3 : Int32) = (1 : Int32) ∨ x &&& (3 : Int32) = (2 : Int32) ∨ x &&& (3 : Int32) = (3 : Int32) := by
  have h := c_mask x (3 : Int32) 2 (by decide) (by decide)
  have h2 : (x &&& (3 : Int32)).toInt = 0 ∨ (x &&& (3 : Int32)).toInt = 1 ∨ (x &&& (3 : Int32)).toInt = 2 ∨ (x &&& (3 : Int32)).toInt = 3 := by omega
  rcases h2 with q | q | q | q
  · exact Or.inl (Int32.toInt_inj.mp (q.trans (by decide)))
  · exact Or.inr (Or.inl (Int32.toInt_inj.mp (q.trans (by decide))))
  · exact Or.inr (Or.inr (Or.inl (Int32.toInt_inj.mp (q.trans (by decide)))))
  · exact Or.inr (Or.inr (Or.inr ((Int32.toInt_inj.mp (q.trans (by decide))))))
def own_max (a : Int32) (b : Int32)  : Int32 := (if a < b then b else a)
theorem pf_1 : plainFor (⟨"java/lang/Math", "max", "(II)I"⟩ : MethodName) = true := by decide +kernel
theorem d1_0 : decode jdk_29_method_65_code 0 = .ok (.iload_n 0, 1) := by decide +kernel
theorem d1_1 : decode jdk_29_method_65_code 1 = .ok (.iload_n 1, 1) := by decide +kernel
theorem d1_2 : decode jdk_29_method_65_code 2 = .ok (.if_icmp .lt 7, 3) := by decide +kernel
theorem d1_9 : decode jdk_29_method_65_code 9 = .ok (.iload_n 1, 1) := by decide +kernel
theorem d1_10 : decode jdk_29_method_65_code 10 = .ok (.ireturn, 1) := by decide +kernel
theorem d1_5 : decode jdk_29_method_65_code 5 = .ok (.iload_n 0, 1) := by decide +kernel
theorem d1_6 : decode jdk_29_method_65_code 6 = .ok (.goto 4, 3) := by decide +kernel
set_option maxRecDepth 65536 in
set_option maxHeartbeats 40000000 in
theorem own_max_met (l : Launch) (Z : State) (a0 : Array Value) (hw : ∀ d ∈ tables_1, d.before a0 Z = true) (a : Int32) (b : Int32)  (h0 : Heap)  :
    own_Met l (⟨"java/lang/Math", "max", "(II)I"⟩ : MethodName) jdk_29_method_65_code 2 (some .int) [] ({ frames := 0, cells := 0, slots := 0, locals := 0 } : Room) Z #[(.int a), (.int b)] h0 (fun rv rh rL => rv = some (.int (own_max a b )) ∧ rh = h0 ∧ rL = []) := by
  refine own_enter pf_1 ?_
  intro p e s m below meth c T0 hx hby hml hret hlk hown hnm hZ X0 e0
  refine own_at (g' := (mkF m 0 #[oI a, oI b] [])) (by first | (simp [entryFrame, mkF, argsToLocals, Value.category]; done) | rfl) ?_
  show own_Go p e below _ T0 (mkF m 0 #[oI a, oI b] [])
  refine own_by (fun t_ k_ => XS.iloadN X0.here hx rfl (hb hby d1_0) rfl  k_) ?_
  show own_Go p e below _ T0 (mkF m 1 #[oI a, oI b] [(.int a)])
  refine own_by (fun t_ k_ => XS.iloadN X0.here hx rfl (hb hby d1_1) rfl  k_) ?_
  show own_Go p e below _ T0 (mkF m 2 #[oI a, oI b] [(.int b), (.int a)])
  by_cases c2_0 : a < b
  · refine own_by (fun t_ k_ => XS.icmpYes X0.here hx rfl (pc0 := 2) (pc' := 9) rfl (hb hby d1_2) rfl (XT.ii_lt_t c2_0) (by decide) (by decide) k_) ?_
    show own_Go p e below _ T0 (mkF m 9 #[oI a, oI b] [])
    refine own_by (fun t_ k_ => XS.iloadN X0.here hx rfl (hb hby d1_9) rfl  k_) ?_
    show own_Go p e below _ T0 (mkF m 10 #[oI a, oI b] [(.int b)])
    exact own_retI X0 hx hlk hret (hb hby d1_10) (by decide) (by decide) (⟨by rw [own_max, if_pos c2_0], e0, rfl⟩)
  · refine own_by (fun t_ k_ => XS.icmpNo X0.here hx rfl (hb hby d1_2) rfl (XT.ii_lt_f c2_0) k_) ?_
    show own_Go p e below _ T0 (mkF m 5 #[oI a, oI b] [])
    refine own_by (fun t_ k_ => XS.iloadN X0.here hx rfl (hb hby d1_5) rfl  k_) ?_
    show own_Go p e below _ T0 (mkF m 6 #[oI a, oI b] [(.int a)])
    refine own_by (fun t_ k_ => XS.goto X0.here hx rfl (pc0 := 6) (pc' := 10) rfl (hb hby d1_6) (by decide) (by decide) k_) ?_
    show own_Go p e below _ T0 (mkF m 10 #[oI a, oI b] [(.int a)])
    exact own_retI X0 hx hlk hret (hb hby d1_10) (by decide) (by decide) (⟨by rw [own_max, if_neg c2_0], e0, rfl⟩)
theorem own_max_int (a b : Int32) : (own_max a b).toInt = max a.toInt b.toInt := by
  unfold own_max
  split
  · rename_i h; rw [Int32.lt_iff_toInt_lt] at h; omega
  · rename_i h; rw [Int32.lt_iff_toInt_lt] at h; omega
theorem pn_0 : plainName "com/example/weighted_terms/weightedterms/search/Scores" = true := by first | (simp [plainName, overriddenIn]; done) | decide +kernel
theorem d2_0 : decode prog_41_method_4_code 0 = .ok (.fconst 0, 1) := by decide +kernel
theorem d2_1 : decode prog_41_method_4_code 1 = .ok (.fstore_n 3, 1) := by decide +kernel
theorem d2_2 : decode prog_41_method_4_code 2 = .ok (.dconst 0, 1) := by decide +kernel
theorem d2_3 : decode prog_41_method_4_code 3 = .ok (.dstore 4, 2) := by decide +kernel
theorem d2_5 : decode prog_41_method_4_code 5 = .ok (.iconst 0, 1) := by decide +kernel
theorem d2_6 : decode prog_41_method_4_code 6 = .ok (.istore 6, 2) := by decide +kernel
theorem d2_8 : decode prog_41_method_4_code 8 = .ok (.iload 6, 2) := by decide +kernel
theorem d2_10 : decode prog_41_method_4_code 10 = .ok (.iload_n 1, 1) := by decide +kernel
theorem d2_11 : decode prog_41_method_4_code 11 = .ok (.if_icmp .ge 43, 3) := by decide +kernel
theorem d2_54 : decode prog_41_method_4_code 54 = .ok (.fload_n 3, 1) := by decide +kernel
theorem d2_55 : decode prog_41_method_4_code 55 = .ok (.f2d, 1) := by decide +kernel
theorem d2_56 : decode prog_41_method_4_code 56 = .ok (.fload_n 2, 1) := by decide +kernel
theorem d2_57 : decode prog_41_method_4_code 57 = .ok (.f2d, 1) := by decide +kernel
theorem d2_58 : decode prog_41_method_4_code 58 = .ok (.dload 4, 2) := by decide +kernel
theorem d2_60 : decode prog_41_method_4_code 60 = .ok (.dmul, 1) := by decide +kernel
theorem d2_61 : decode prog_41_method_4_code 61 = .ok (.dadd, 1) := by decide +kernel
theorem d2_62 : decode prog_41_method_4_code 62 = .ok (.d2f, 1) := by decide +kernel
theorem d2_63 : decode prog_41_method_4_code 63 = .ok (.freturn, 1) := by decide +kernel
set_option maxRecDepth 65536 in
set_option maxHeartbeats 40000000 in
theorem own_bp0 (l : Launch) (Z : State) (a0 : Array Value) (hw : ∀ d ∈ tables_1, d.before a0 Z = true) (a : Addr) (kA : ClassId) (kk : Int) (tb d0 d1 d2 : UInt32) (V0 V1 V2 : Int) (h0 : Heap) (V : own_A Z h0 a .float kA [(.float d0), (.float d1), (.float d2)]) (Ft : own_F 3 kk tb) (K1 : 0 ≤ kk) (K2 : kk ≤ 8) (F0 : own_F 0 V0 d0) (F1 : own_F 0 V1 d1) (F2 : own_F 0 V2 d2) (B0 : 0 ≤ V0 ∧ V0 ≤ 65535) (B1 : 0 ≤ V1 ∧ V1 ≤ 65535) (B2 : 0 ≤ V2 ∧ V2 ≤ 65535) :
    own_Met l (⟨"com/example/weighted_terms/weightedterms/search/Scores", "bestPlus", "([FIF)F"⟩ : MethodName) prog_41_method_4_code 8 (some .float) [] ({ frames := 0, cells := 0, slots := 0, locals := 0 } : Room) Z #[(.ref a), (.int (0 : Int32)), (.float tb)] h0 (fun v h L => (∃ r B O, v = some (.float r) ∧ own_F 3 (B * ((2 ^ 3 : Nat) : Int) + kk * O) r ∧ B = 0 ∧ B + O = 0) ∧ h = h0 ∧ L = []) := by
  refine own_enter (plainFor_of_name pn_0) ?_
  intro p e s m below meth c T0 hx hby hml hret hlk hown hnm hZ X0 e0
  refine own_at (g' := (mkF m 0 #[oR a, oI (0 : Int32), oF tb, .unset, .unset, .unset, .unset, .unset] [])) (by first | (simp [entryFrame, mkF, argsToLocals, Value.category]; done) | rfl) ?_
  show own_Go p e below _ T0 (mkF m 0 #[oR a, oI (0 : Int32), oF tb, .unset, .unset, .unset, .unset, .unset] [])
  refine own_by (fun t_ k_ => XS.fconst0 X0.here hx rfl (hb hby d2_0) rfl k_) ?_
  show own_Go p e below _ T0 (mkF m 1 #[oR a, oI (0 : Int32), oF tb, .unset, .unset, .unset, .unset, .unset] [(.float FP.fconst0)])
  refine own_by (fun t_ k_ => XS.fstoreN X0.here hx rfl (hb hby d2_1) rfl (l' := #[oR a, oI (0 : Int32), oF tb, oF FP.fconst0, .unset, .unset, .unset, .unset]) rfl k_) ?_
  show own_Go p e below _ T0 (mkF m 2 #[oR a, oI (0 : Int32), oF tb, oF FP.fconst0, .unset, .unset, .unset, .unset] [])
  refine own_by (fun t_ k_ => XS.dconst0 X0.here hx rfl (hb hby d2_2) rfl k_) ?_
  show own_Go p e below _ T0 (mkF m 3 #[oR a, oI (0 : Int32), oF tb, oF FP.fconst0, .unset, .unset, .unset, .unset] [(.double FP.dconst0)])
  refine own_by (fun t_ k_ => XS.dstore X0.here hx rfl (hb hby d2_3) rfl (l' := #[oR a, oI (0 : Int32), oF tb, oF FP.fconst0, oD FP.dconst0, .second, .unset, .unset]) rfl k_) ?_
  show own_Go p e below _ T0 (mkF m 5 #[oR a, oI (0 : Int32), oF tb, oF FP.fconst0, oD FP.dconst0, .second, .unset, .unset] [])
  refine own_by (fun t_ k_ => XT.iconstV X0.here hx rfl (0 : Int32) (hb hby d2_5) (by decide) k_) ?_
  show own_Go p e below _ T0 (mkF m 6 #[oR a, oI (0 : Int32), oF tb, oF FP.fconst0, oD FP.dconst0, .second, .unset, .unset] [(.int (0 : Int32))])
  refine own_by (fun t_ k_ => XS.istore X0.here hx rfl (hb hby d2_6) rfl (l' := #[oR a, oI (0 : Int32), oF tb, oF FP.fconst0, oD FP.dconst0, .second, oI (0 : Int32), .unset]) rfl k_) ?_
  show own_Go p e below _ T0 (mkF m 8 #[oR a, oI (0 : Int32), oF tb, oF FP.fconst0, oD FP.dconst0, .second, oI (0 : Int32), .unset] [])
  refine own_by (fun t_ k_ => XS.iload X0.here hx rfl (hb hby d2_8) rfl  k_) ?_
  show own_Go p e below _ T0 (mkF m 10 #[oR a, oI (0 : Int32), oF tb, oF FP.fconst0, oD FP.dconst0, .second, oI (0 : Int32), .unset] [(.int (0 : Int32))])
  refine own_by (fun t_ k_ => XS.iloadN X0.here hx rfl (hb hby d2_10) rfl  k_) ?_
  show own_Go p e below _ T0 (mkF m 11 #[oR a, oI (0 : Int32), oF tb, oF FP.fconst0, oD FP.dconst0, .second, oI (0 : Int32), .unset] [(.int (0 : Int32)), (.int (0 : Int32))])
  refine own_by (fun t_ k_ => XS.icmpYes X0.here hx rfl (pc0 := 11) (pc' := 54) rfl (hb hby d2_11) rfl (XT.ii_ge_t (by decide)) (by decide) (by decide) k_) ?_
  show own_Go p e below _ T0 (mkF m 54 #[oR a, oI (0 : Int32), oF tb, oF FP.fconst0, oD FP.dconst0, .second, oI (0 : Int32), .unset] [])
  refine own_by (fun t_ k_ => XS.floadN X0.here hx rfl (hb hby d2_54) rfl  k_) ?_
  show own_Go p e below _ T0 (mkF m 55 #[oR a, oI (0 : Int32), oF tb, oF FP.fconst0, oD FP.dconst0, .second, oI (0 : Int32), .unset] [(.float FP.fconst0)])
  have D1 := own_D_f2d (own_F_zero 0) (by omega) (by decide) (by decide)
  refine own_by (fun t_ k_ => XS.f2dS X0.here hx rfl (hb hby d2_55) rfl (own_D_no D1) rfl k_) ?_
  show own_Go p e below _ T0 (mkF m 56 #[oR a, oI (0 : Int32), oF tb, oF FP.fconst0, oD FP.dconst0, .second, oI (0 : Int32), .unset] [(.double (FP.f2d FP.fconst0))])
  generalize (FP.f2d FP.fconst0) = x1 at D1 ⊢
  show own_Go p e below _ T0 (mkF m 56 #[oR a, oI (0 : Int32), oF tb, oF FP.fconst0, oD FP.dconst0, .second, oI (0 : Int32), .unset] [(.double x1)])
  refine own_by (fun t_ k_ => XS.floadN X0.here hx rfl (hb hby d2_56) rfl  k_) ?_
  show own_Go p e below _ T0 (mkF m 57 #[oR a, oI (0 : Int32), oF tb, oF FP.fconst0, oD FP.dconst0, .second, oI (0 : Int32), .unset] [(.float tb), (.double x1)])
  have D2 := own_D_f2d Ft (by omega) (by decide) (by decide)
  refine own_by (fun t_ k_ => XS.f2dS X0.here hx rfl (hb hby d2_57) rfl (own_D_no D2) rfl k_) ?_
  show own_Go p e below _ T0 (mkF m 58 #[oR a, oI (0 : Int32), oF tb, oF FP.fconst0, oD FP.dconst0, .second, oI (0 : Int32), .unset] [(.double (FP.f2d tb)), (.double x1)])
  generalize (FP.f2d tb) = x2 at D2 ⊢
  show own_Go p e below _ T0 (mkF m 58 #[oR a, oI (0 : Int32), oF tb, oF FP.fconst0, oD FP.dconst0, .second, oI (0 : Int32), .unset] [(.double x2), (.double x1)])
  refine own_by (fun t_ k_ => XS.dload X0.here hx rfl (hb hby d2_58) rfl  k_) ?_
  show own_Go p e below _ T0 (mkF m 60 #[oR a, oI (0 : Int32), oF tb, oF FP.fconst0, oD FP.dconst0, .second, oI (0 : Int32), .unset] [(.double FP.dconst0), (.double x2), (.double x1)])
  have hsm := own_small (o := 0) K1 K2 (by omega) (by omega)
  have D3 := own_D_mul (l := 0) D2 (own_D_zero 0) (by omega) (by decide) (by decide)
  refine own_by (fun t_ k_ => XS.dmulS X0.here hx rfl (hb hby d2_60) rfl (own_D_no D3) rfl k_) ?_
  show own_Go p e below _ T0 (mkF m 61 #[oR a, oI (0 : Int32), oF tb, oF FP.fconst0, oD FP.dconst0, .second, oI (0 : Int32), .unset] [(.double (FP.dmul x2 FP.dconst0)), (.double x1)])
  generalize (FP.dmul x2 FP.dconst0) = x3 at D3 ⊢
  show own_Go p e below _ T0 (mkF m 61 #[oR a, oI (0 : Int32), oF tb, oF FP.fconst0, oD FP.dconst0, .second, oI (0 : Int32), .unset] [(.double x3), (.double x1)])
  have D4 := own_D_add (own_D_up D1 3) D3 (by simp only [show ((2 ^ 3 : Nat) : Int) = 8 from rfl]; omega) (by decide) (by decide)
  refine own_by (fun t_ k_ => XS.daddS X0.here hx rfl (hb hby d2_61) rfl (own_D_no D4) rfl k_) ?_
  show own_Go p e below _ T0 (mkF m 62 #[oR a, oI (0 : Int32), oF tb, oF FP.fconst0, oD FP.dconst0, .second, oI (0 : Int32), .unset] [(.double (FP.dadd x1 x3))])
  generalize (FP.dadd x1 x3) = x4 at D4 ⊢
  show own_Go p e below _ T0 (mkF m 62 #[oR a, oI (0 : Int32), oF tb, oF FP.fconst0, oD FP.dconst0, .second, oI (0 : Int32), .unset] [(.double x4)])
  have D5 := own_F_d2f D4 (by simp only [show ((2 ^ 3 : Nat) : Int) = 8 from rfl]; omega) (by decide) (by decide)
  refine own_by (fun t_ k_ => XS.d2fS X0.here hx rfl (hb hby d2_62) rfl (own_F_no D5) rfl k_) ?_
  show own_Go p e below _ T0 (mkF m 63 #[oR a, oI (0 : Int32), oF tb, oF FP.fconst0, oD FP.dconst0, .second, oI (0 : Int32), .unset] [(.float (FP.d2f x4))])
  generalize (FP.d2f x4) = r at D5 ⊢
  show own_Go p e below _ T0 (mkF m 63 #[oR a, oI (0 : Int32), oF tb, oF FP.fconst0, oD FP.dconst0, .second, oI (0 : Int32), .unset] [(.float r)])
  exact own_retF X0 hx hlk hret (hb hby d2_63) (by decide) (by decide) (⟨⟨r, 0, 0, rfl, D5, by omega, by omega⟩, e0, rfl⟩)
theorem d2_14 : decode prog_41_method_4_code 14 = .ok (.aload_n 0, 1) := by decide +kernel
theorem d2_15 : decode prog_41_method_4_code 15 = .ok (.iload 6, 2) := by decide +kernel
theorem d2_17 : decode prog_41_method_4_code 17 = .ok (.faload, 1) := by decide +kernel
theorem d2_18 : decode prog_41_method_4_code 18 = .ok (.fstore 7, 2) := by decide +kernel
theorem d2_20 : decode prog_41_method_4_code 20 = .ok (.fload 7, 2) := by decide +kernel
theorem d2_22 : decode prog_41_method_4_code 22 = .ok (.fload_n 3, 1) := by decide +kernel
theorem d2_23 : decode prog_41_method_4_code 23 = .ok (.fcmp .l, 1) := by decide +kernel
theorem d2_24 : decode prog_41_method_4_code 24 = .ok (.ifCond .le 16, 3) := by decide +kernel
theorem d2_27 : decode prog_41_method_4_code 27 = .ok (.dload 4, 2) := by decide +kernel
theorem d2_29 : decode prog_41_method_4_code 29 = .ok (.fload_n 3, 1) := by decide +kernel
theorem d2_30 : decode prog_41_method_4_code 30 = .ok (.f2d, 1) := by decide +kernel
theorem d2_31 : decode prog_41_method_4_code 31 = .ok (.dadd, 1) := by decide +kernel
theorem d2_32 : decode prog_41_method_4_code 32 = .ok (.dstore 4, 2) := by decide +kernel
theorem d2_34 : decode prog_41_method_4_code 34 = .ok (.fload 7, 2) := by decide +kernel
theorem d2_36 : decode prog_41_method_4_code 36 = .ok (.fstore_n 3, 1) := by decide +kernel
theorem d2_37 : decode prog_41_method_4_code 37 = .ok (.goto 11, 3) := by decide +kernel
theorem d2_48 : decode prog_41_method_4_code 48 = .ok (.iinc 6 1, 3) := by decide +kernel
theorem d2_51 : decode prog_41_method_4_code 51 = .ok (.goto (-43), 3) := by decide +kernel
theorem d2_40 : decode prog_41_method_4_code 40 = .ok (.dload 4, 2) := by decide +kernel
theorem d2_42 : decode prog_41_method_4_code 42 = .ok (.fload 7, 2) := by decide +kernel
theorem d2_44 : decode prog_41_method_4_code 44 = .ok (.f2d, 1) := by decide +kernel
theorem d2_45 : decode prog_41_method_4_code 45 = .ok (.dadd, 1) := by decide +kernel
theorem d2_46 : decode prog_41_method_4_code 46 = .ok (.dstore 4, 2) := by decide +kernel
set_option maxRecDepth 65536 in
set_option maxHeartbeats 40000000 in
theorem own_bp1 (l : Launch) (Z : State) (a0 : Array Value) (hw : ∀ d ∈ tables_1, d.before a0 Z = true) (a : Addr) (kA : ClassId) (kk : Int) (tb d0 d1 d2 : UInt32) (V0 V1 V2 : Int) (h0 : Heap) (V : own_A Z h0 a .float kA [(.float d0), (.float d1), (.float d2)]) (Ft : own_F 3 kk tb) (K1 : 0 ≤ kk) (K2 : kk ≤ 8) (F0 : own_F 0 V0 d0) (F1 : own_F 0 V1 d1) (F2 : own_F 0 V2 d2) (B0 : 0 ≤ V0 ∧ V0 ≤ 65535) (B1 : 0 ≤ V1 ∧ V1 ≤ 65535) (B2 : 0 ≤ V2 ∧ V2 ≤ 65535) :
    own_Met l (⟨"com/example/weighted_terms/weightedterms/search/Scores", "bestPlus", "([FIF)F"⟩ : MethodName) prog_41_method_4_code 8 (some .float) [] ({ frames := 0, cells := 0, slots := 0, locals := 0 } : Room) Z #[(.ref a), (.int (1 : Int32)), (.float tb)] h0 (fun v h L => (∃ r B O, v = some (.float r) ∧ own_F 3 (B * ((2 ^ 3 : Nat) : Int) + kk * O) r ∧ B = (max 0 V0) ∧ B + O = 0 + V0) ∧ h = h0 ∧ L = []) := by
  refine own_enter (plainFor_of_name pn_0) ?_
  intro p e s m below meth c T0 hx hby hml hret hlk hown hnm hZ X0 e0
  refine own_at (g' := (mkF m 0 #[oR a, oI (1 : Int32), oF tb, .unset, .unset, .unset, .unset, .unset] [])) (by first | (simp [entryFrame, mkF, argsToLocals, Value.category]; done) | rfl) ?_
  show own_Go p e below _ T0 (mkF m 0 #[oR a, oI (1 : Int32), oF tb, .unset, .unset, .unset, .unset, .unset] [])
  refine own_by (fun t_ k_ => XS.fconst0 X0.here hx rfl (hb hby d2_0) rfl k_) ?_
  show own_Go p e below _ T0 (mkF m 1 #[oR a, oI (1 : Int32), oF tb, .unset, .unset, .unset, .unset, .unset] [(.float FP.fconst0)])
  refine own_by (fun t_ k_ => XS.fstoreN X0.here hx rfl (hb hby d2_1) rfl (l' := #[oR a, oI (1 : Int32), oF tb, oF FP.fconst0, .unset, .unset, .unset, .unset]) rfl k_) ?_
  show own_Go p e below _ T0 (mkF m 2 #[oR a, oI (1 : Int32), oF tb, oF FP.fconst0, .unset, .unset, .unset, .unset] [])
  refine own_by (fun t_ k_ => XS.dconst0 X0.here hx rfl (hb hby d2_2) rfl k_) ?_
  show own_Go p e below _ T0 (mkF m 3 #[oR a, oI (1 : Int32), oF tb, oF FP.fconst0, .unset, .unset, .unset, .unset] [(.double FP.dconst0)])
  refine own_by (fun t_ k_ => XS.dstore X0.here hx rfl (hb hby d2_3) rfl (l' := #[oR a, oI (1 : Int32), oF tb, oF FP.fconst0, oD FP.dconst0, .second, .unset, .unset]) rfl k_) ?_
  show own_Go p e below _ T0 (mkF m 5 #[oR a, oI (1 : Int32), oF tb, oF FP.fconst0, oD FP.dconst0, .second, .unset, .unset] [])
  refine own_by (fun t_ k_ => XT.iconstV X0.here hx rfl (0 : Int32) (hb hby d2_5) (by decide) k_) ?_
  show own_Go p e below _ T0 (mkF m 6 #[oR a, oI (1 : Int32), oF tb, oF FP.fconst0, oD FP.dconst0, .second, .unset, .unset] [(.int (0 : Int32))])
  refine own_by (fun t_ k_ => XS.istore X0.here hx rfl (hb hby d2_6) rfl (l' := #[oR a, oI (1 : Int32), oF tb, oF FP.fconst0, oD FP.dconst0, .second, oI (0 : Int32), .unset]) rfl k_) ?_
  show own_Go p e below _ T0 (mkF m 8 #[oR a, oI (1 : Int32), oF tb, oF FP.fconst0, oD FP.dconst0, .second, oI (0 : Int32), .unset] [])
  refine own_by (fun t_ k_ => XS.iload X0.here hx rfl (hb hby d2_8) rfl  k_) ?_
  show own_Go p e below _ T0 (mkF m 10 #[oR a, oI (1 : Int32), oF tb, oF FP.fconst0, oD FP.dconst0, .second, oI (0 : Int32), .unset] [(.int (0 : Int32))])
  refine own_by (fun t_ k_ => XS.iloadN X0.here hx rfl (hb hby d2_10) rfl  k_) ?_
  show own_Go p e below _ T0 (mkF m 11 #[oR a, oI (1 : Int32), oF tb, oF FP.fconst0, oD FP.dconst0, .second, oI (0 : Int32), .unset] [(.int (1 : Int32)), (.int (0 : Int32))])
  refine own_by (fun t_ k_ => XS.icmpNo X0.here hx rfl (hb hby d2_11) rfl (XT.ii_ge_f (by decide)) k_) ?_
  show own_Go p e below _ T0 (mkF m 14 #[oR a, oI (1 : Int32), oF tb, oF FP.fconst0, oD FP.dconst0, .second, oI (0 : Int32), .unset] [])
  refine own_by (fun t_ k_ => XS.aloadN X0.here hx rfl (hb hby d2_14) rfl rfl  k_) ?_
  show own_Go p e below _ T0 (mkF m 15 #[oR a, oI (1 : Int32), oF tb, oF FP.fconst0, oD FP.dconst0, .second, oI (0 : Int32), .unset] [(.ref a)])
  refine own_by (fun t_ k_ => XS.iload X0.here hx rfl (hb hby d2_15) rfl  k_) ?_
  show own_Go p e below _ T0 (mkF m 17 #[oR a, oI (1 : Int32), oF tb, oF FP.fconst0, oD FP.dconst0, .second, oI (0 : Int32), .unset] [(.int (0 : Int32)), (.ref a)])
  refine own_ldF X0 hx hZ e0 V 0 (by decide) (by decide) (v := (.float d0)) rfl (hb hby d2_17) ?_
  show own_Go p e below _ T0 (mkF m 18 #[oR a, oI (1 : Int32), oF tb, oF FP.fconst0, oD FP.dconst0, .second, oI (0 : Int32), .unset] [(.float d0)])
  refine own_by (fun t_ k_ => XS.fstore X0.here hx rfl (hb hby d2_18) rfl (l' := #[oR a, oI (1 : Int32), oF tb, oF FP.fconst0, oD FP.dconst0, .second, oI (0 : Int32), oF d0]) rfl k_) ?_
  show own_Go p e below _ T0 (mkF m 20 #[oR a, oI (1 : Int32), oF tb, oF FP.fconst0, oD FP.dconst0, .second, oI (0 : Int32), oF d0] [])
  refine own_by (fun t_ k_ => XS.fload X0.here hx rfl (hb hby d2_20) rfl  k_) ?_
  show own_Go p e below _ T0 (mkF m 22 #[oR a, oI (1 : Int32), oF tb, oF FP.fconst0, oD FP.dconst0, .second, oI (0 : Int32), oF d0] [(.float d0)])
  refine own_by (fun t_ k_ => XS.floadN X0.here hx rfl (hb hby d2_22) rfl  k_) ?_
  show own_Go p e below _ T0 (mkF m 23 #[oR a, oI (1 : Int32), oF tb, oF FP.fconst0, oD FP.dconst0, .second, oI (0 : Int32), oF d0] [(.float FP.fconst0), (.float d0)])
  refine own_by (fun t_ k_ => XS.fcmpS X0.here hx rfl (hb hby d2_23) rfl rfl k_) ?_
  show own_Go p e below _ T0 (mkF m 24 #[oR a, oI (1 : Int32), oF tb, oF FP.fconst0, oD FP.dconst0, .second, oI (0 : Int32), oF d0] [(.int (cmpValue (FP.fcmp d0 FP.fconst0) .l))])
  by_cases c24_0 : (0 : Int32) < (cmpValue (FP.fcmp d0 FP.fconst0) .l)
  · refine own_by (fun t_ k_ => XS.ifNo X0.here hx rfl (hb hby d2_24) rfl (XT.i0_le_f c24_0) k_) ?_
    show own_Go p e below _ T0 (mkF m 27 #[oR a, oI (1 : Int32), oF tb, oF FP.fconst0, oD FP.dconst0, .second, oI (0 : Int32), oF d0] [])
    have gc24_0 : 0 < V0 := (own_fgt F0 (own_F_zero 0)).mp c24_0
    refine own_by (fun t_ k_ => XS.dload X0.here hx rfl (hb hby d2_27) rfl  k_) ?_
    show own_Go p e below _ T0 (mkF m 29 #[oR a, oI (1 : Int32), oF tb, oF FP.fconst0, oD FP.dconst0, .second, oI (0 : Int32), oF d0] [(.double FP.dconst0)])
    refine own_by (fun t_ k_ => XS.floadN X0.here hx rfl (hb hby d2_29) rfl  k_) ?_
    show own_Go p e below _ T0 (mkF m 30 #[oR a, oI (1 : Int32), oF tb, oF FP.fconst0, oD FP.dconst0, .second, oI (0 : Int32), oF d0] [(.float FP.fconst0), (.double FP.dconst0)])
    have D2 := own_D_f2d (own_F_zero 0) (by omega) (by decide) (by decide)
    refine own_by (fun t_ k_ => XS.f2dS X0.here hx rfl (hb hby d2_30) rfl (own_D_no D2) rfl k_) ?_
    show own_Go p e below _ T0 (mkF m 31 #[oR a, oI (1 : Int32), oF tb, oF FP.fconst0, oD FP.dconst0, .second, oI (0 : Int32), oF d0] [(.double (FP.f2d FP.fconst0)), (.double FP.dconst0)])
    generalize (FP.f2d FP.fconst0) = x1 at D2 ⊢
    show own_Go p e below _ T0 (mkF m 31 #[oR a, oI (1 : Int32), oF tb, oF FP.fconst0, oD FP.dconst0, .second, oI (0 : Int32), oF d0] [(.double x1), (.double FP.dconst0)])
    have D3 := own_D_add (own_D_zero 0) D2 (by omega) (by decide) (by decide)
    refine own_by (fun t_ k_ => XS.daddS X0.here hx rfl (hb hby d2_31) rfl (own_D_no D3) rfl k_) ?_
    show own_Go p e below _ T0 (mkF m 32 #[oR a, oI (1 : Int32), oF tb, oF FP.fconst0, oD FP.dconst0, .second, oI (0 : Int32), oF d0] [(.double (FP.dadd FP.dconst0 x1))])
    generalize (FP.dadd FP.dconst0 x1) = x2 at D3 ⊢
    show own_Go p e below _ T0 (mkF m 32 #[oR a, oI (1 : Int32), oF tb, oF FP.fconst0, oD FP.dconst0, .second, oI (0 : Int32), oF d0] [(.double x2)])
    refine own_by (fun t_ k_ => XS.dstore X0.here hx rfl (hb hby d2_32) rfl (l' := #[oR a, oI (1 : Int32), oF tb, oF FP.fconst0, oD x2, .second, oI (0 : Int32), oF d0]) rfl k_) ?_
    show own_Go p e below _ T0 (mkF m 34 #[oR a, oI (1 : Int32), oF tb, oF FP.fconst0, oD x2, .second, oI (0 : Int32), oF d0] [])
    refine own_by (fun t_ k_ => XS.fload X0.here hx rfl (hb hby d2_34) rfl  k_) ?_
    show own_Go p e below _ T0 (mkF m 36 #[oR a, oI (1 : Int32), oF tb, oF FP.fconst0, oD x2, .second, oI (0 : Int32), oF d0] [(.float d0)])
    refine own_by (fun t_ k_ => XS.fstoreN X0.here hx rfl (hb hby d2_36) rfl (l' := #[oR a, oI (1 : Int32), oF tb, oF d0, oD x2, .second, oI (0 : Int32), oF d0]) rfl k_) ?_
    show own_Go p e below _ T0 (mkF m 37 #[oR a, oI (1 : Int32), oF tb, oF d0, oD x2, .second, oI (0 : Int32), oF d0] [])
    refine own_by (fun t_ k_ => XS.goto X0.here hx rfl (pc0 := 37) (pc' := 48) rfl (hb hby d2_37) (by decide) (by decide) k_) ?_
    show own_Go p e below _ T0 (mkF m 48 #[oR a, oI (1 : Int32), oF tb, oF d0, oD x2, .second, oI (0 : Int32), oF d0] [])
    refine own_by (fun t_ k_ => XT.iincV X0.here hx rfl (1 : Int32) (hb hby d2_48) (by decide) rfl (l' := #[oR a, oI (1 : Int32), oF tb, oF d0, oD x2, .second, oI ((0 : Int32) + (1 : Int32)), oF d0]) rfl k_) ?_
    show own_Go p e below _ T0 (mkF m 51 #[oR a, oI (1 : Int32), oF tb, oF d0, oD x2, .second, oI ((0 : Int32) + (1 : Int32)), oF d0] [])
    rw [show ((0 : Int32) + (1 : Int32)) = (1 : Int32) by decide]
    show own_Go p e below _ T0 (mkF m 51 #[oR a, oI (1 : Int32), oF tb, oF d0, oD x2, .second, oI (1 : Int32), oF d0] [])
    refine own_by (fun t_ k_ => XS.goto X0.here hx rfl (pc0 := 51) (pc' := 8) rfl (hb hby d2_51) (by decide) (by decide) k_) ?_
    show own_Go p e below _ T0 (mkF m 8 #[oR a, oI (1 : Int32), oF tb, oF d0, oD x2, .second, oI (1 : Int32), oF d0] [])
    refine own_by (fun t_ k_ => XS.iload X0.here hx rfl (hb hby d2_8) rfl  k_) ?_
    show own_Go p e below _ T0 (mkF m 10 #[oR a, oI (1 : Int32), oF tb, oF d0, oD x2, .second, oI (1 : Int32), oF d0] [(.int (1 : Int32))])
    refine own_by (fun t_ k_ => XS.iloadN X0.here hx rfl (hb hby d2_10) rfl  k_) ?_
    show own_Go p e below _ T0 (mkF m 11 #[oR a, oI (1 : Int32), oF tb, oF d0, oD x2, .second, oI (1 : Int32), oF d0] [(.int (1 : Int32)), (.int (1 : Int32))])
    refine own_by (fun t_ k_ => XS.icmpYes X0.here hx rfl (pc0 := 11) (pc' := 54) rfl (hb hby d2_11) rfl (XT.ii_ge_t (by decide)) (by decide) (by decide) k_) ?_
    show own_Go p e below _ T0 (mkF m 54 #[oR a, oI (1 : Int32), oF tb, oF d0, oD x2, .second, oI (1 : Int32), oF d0] [])
    refine own_by (fun t_ k_ => XS.floadN X0.here hx rfl (hb hby d2_54) rfl  k_) ?_
    show own_Go p e below _ T0 (mkF m 55 #[oR a, oI (1 : Int32), oF tb, oF d0, oD x2, .second, oI (1 : Int32), oF d0] [(.float d0)])
    have D4 := own_D_f2d F0 (by omega) (by decide) (by decide)
    refine own_by (fun t_ k_ => XS.f2dS X0.here hx rfl (hb hby d2_55) rfl (own_D_no D4) rfl k_) ?_
    show own_Go p e below _ T0 (mkF m 56 #[oR a, oI (1 : Int32), oF tb, oF d0, oD x2, .second, oI (1 : Int32), oF d0] [(.double (FP.f2d d0))])
    generalize (FP.f2d d0) = x3 at D4 ⊢
    show own_Go p e below _ T0 (mkF m 56 #[oR a, oI (1 : Int32), oF tb, oF d0, oD x2, .second, oI (1 : Int32), oF d0] [(.double x3)])
    refine own_by (fun t_ k_ => XS.floadN X0.here hx rfl (hb hby d2_56) rfl  k_) ?_
    show own_Go p e below _ T0 (mkF m 57 #[oR a, oI (1 : Int32), oF tb, oF d0, oD x2, .second, oI (1 : Int32), oF d0] [(.float tb), (.double x3)])
    have D5 := own_D_f2d Ft (by omega) (by decide) (by decide)
    refine own_by (fun t_ k_ => XS.f2dS X0.here hx rfl (hb hby d2_57) rfl (own_D_no D5) rfl k_) ?_
    show own_Go p e below _ T0 (mkF m 58 #[oR a, oI (1 : Int32), oF tb, oF d0, oD x2, .second, oI (1 : Int32), oF d0] [(.double (FP.f2d tb)), (.double x3)])
    generalize (FP.f2d tb) = x4 at D5 ⊢
    show own_Go p e below _ T0 (mkF m 58 #[oR a, oI (1 : Int32), oF tb, oF d0, oD x2, .second, oI (1 : Int32), oF d0] [(.double x4), (.double x3)])
    refine own_by (fun t_ k_ => XS.dload X0.here hx rfl (hb hby d2_58) rfl  k_) ?_
    show own_Go p e below _ T0 (mkF m 60 #[oR a, oI (1 : Int32), oF tb, oF d0, oD x2, .second, oI (1 : Int32), oF d0] [(.double x2), (.double x4), (.double x3)])
    have hsm := own_small (o := (0 + 0)) K1 K2 (by omega) (by omega)
    have D6 := own_D_mul (l := 0) D5 D3 (by omega) (by decide) (by decide)
    refine own_by (fun t_ k_ => XS.dmulS X0.here hx rfl (hb hby d2_60) rfl (own_D_no D6) rfl k_) ?_
    show own_Go p e below _ T0 (mkF m 61 #[oR a, oI (1 : Int32), oF tb, oF d0, oD x2, .second, oI (1 : Int32), oF d0] [(.double (FP.dmul x4 x2)), (.double x3)])
    generalize (FP.dmul x4 x2) = x5 at D6 ⊢
    show own_Go p e below _ T0 (mkF m 61 #[oR a, oI (1 : Int32), oF tb, oF d0, oD x2, .second, oI (1 : Int32), oF d0] [(.double x5), (.double x3)])
    have D7 := own_D_add (own_D_up D4 3) D6 (by simp only [show ((2 ^ 3 : Nat) : Int) = 8 from rfl]; omega) (by decide) (by decide)
    refine own_by (fun t_ k_ => XS.daddS X0.here hx rfl (hb hby d2_61) rfl (own_D_no D7) rfl k_) ?_
    show own_Go p e below _ T0 (mkF m 62 #[oR a, oI (1 : Int32), oF tb, oF d0, oD x2, .second, oI (1 : Int32), oF d0] [(.double (FP.dadd x3 x5))])
    generalize (FP.dadd x3 x5) = x6 at D7 ⊢
    show own_Go p e below _ T0 (mkF m 62 #[oR a, oI (1 : Int32), oF tb, oF d0, oD x2, .second, oI (1 : Int32), oF d0] [(.double x6)])
    have D8 := own_F_d2f D7 (by simp only [show ((2 ^ 3 : Nat) : Int) = 8 from rfl]; omega) (by decide) (by decide)
    refine own_by (fun t_ k_ => XS.d2fS X0.here hx rfl (hb hby d2_62) rfl (own_F_no D8) rfl k_) ?_
    show own_Go p e below _ T0 (mkF m 63 #[oR a, oI (1 : Int32), oF tb, oF d0, oD x2, .second, oI (1 : Int32), oF d0] [(.float (FP.d2f x6))])
    generalize (FP.d2f x6) = r at D8 ⊢
    show own_Go p e below _ T0 (mkF m 63 #[oR a, oI (1 : Int32), oF tb, oF d0, oD x2, .second, oI (1 : Int32), oF d0] [(.float r)])
    exact own_retF X0 hx hlk hret (hb hby d2_63) (by decide) (by decide) (⟨⟨r, V0, (0 + 0), rfl, D8, by omega, by omega⟩, e0, rfl⟩)
  · refine own_by (fun t_ k_ => XS.ifYes X0.here hx rfl (pc0 := 24) (pc' := 40) rfl (hb hby d2_24) rfl (XT.i0_le_t c24_0) (by decide) (by decide) k_) ?_
    show own_Go p e below _ T0 (mkF m 40 #[oR a, oI (1 : Int32), oF tb, oF FP.fconst0, oD FP.dconst0, .second, oI (0 : Int32), oF d0] [])
    have gc24_0 : ¬ 0 < V0 := fun z => c24_0 ((own_fgt F0 (own_F_zero 0)).mpr z)
    refine own_by (fun t_ k_ => XS.dload X0.here hx rfl (hb hby d2_40) rfl  k_) ?_
    show own_Go p e below _ T0 (mkF m 42 #[oR a, oI (1 : Int32), oF tb, oF FP.fconst0, oD FP.dconst0, .second, oI (0 : Int32), oF d0] [(.double FP.dconst0)])
    refine own_by (fun t_ k_ => XS.fload X0.here hx rfl (hb hby d2_42) rfl  k_) ?_
    show own_Go p e below _ T0 (mkF m 44 #[oR a, oI (1 : Int32), oF tb, oF FP.fconst0, oD FP.dconst0, .second, oI (0 : Int32), oF d0] [(.float d0), (.double FP.dconst0)])
    have D9 := own_D_f2d F0 (by omega) (by decide) (by decide)
    refine own_by (fun t_ k_ => XS.f2dS X0.here hx rfl (hb hby d2_44) rfl (own_D_no D9) rfl k_) ?_
    show own_Go p e below _ T0 (mkF m 45 #[oR a, oI (1 : Int32), oF tb, oF FP.fconst0, oD FP.dconst0, .second, oI (0 : Int32), oF d0] [(.double (FP.f2d d0)), (.double FP.dconst0)])
    generalize (FP.f2d d0) = x1 at D9 ⊢
    show own_Go p e below _ T0 (mkF m 45 #[oR a, oI (1 : Int32), oF tb, oF FP.fconst0, oD FP.dconst0, .second, oI (0 : Int32), oF d0] [(.double x1), (.double FP.dconst0)])
    have D10 := own_D_add (own_D_zero 0) D9 (by omega) (by decide) (by decide)
    refine own_by (fun t_ k_ => XS.daddS X0.here hx rfl (hb hby d2_45) rfl (own_D_no D10) rfl k_) ?_
    show own_Go p e below _ T0 (mkF m 46 #[oR a, oI (1 : Int32), oF tb, oF FP.fconst0, oD FP.dconst0, .second, oI (0 : Int32), oF d0] [(.double (FP.dadd FP.dconst0 x1))])
    generalize (FP.dadd FP.dconst0 x1) = x2 at D10 ⊢
    show own_Go p e below _ T0 (mkF m 46 #[oR a, oI (1 : Int32), oF tb, oF FP.fconst0, oD FP.dconst0, .second, oI (0 : Int32), oF d0] [(.double x2)])
    refine own_by (fun t_ k_ => XS.dstore X0.here hx rfl (hb hby d2_46) rfl (l' := #[oR a, oI (1 : Int32), oF tb, oF FP.fconst0, oD x2, .second, oI (0 : Int32), oF d0]) rfl k_) ?_
    show own_Go p e below _ T0 (mkF m 48 #[oR a, oI (1 : Int32), oF tb, oF FP.fconst0, oD x2, .second, oI (0 : Int32), oF d0] [])
    refine own_by (fun t_ k_ => XT.iincV X0.here hx rfl (1 : Int32) (hb hby d2_48) (by decide) rfl (l' := #[oR a, oI (1 : Int32), oF tb, oF FP.fconst0, oD x2, .second, oI ((0 : Int32) + (1 : Int32)), oF d0]) rfl k_) ?_
    show own_Go p e below _ T0 (mkF m 51 #[oR a, oI (1 : Int32), oF tb, oF FP.fconst0, oD x2, .second, oI ((0 : Int32) + (1 : Int32)), oF d0] [])
    rw [show ((0 : Int32) + (1 : Int32)) = (1 : Int32) by decide]
    show own_Go p e below _ T0 (mkF m 51 #[oR a, oI (1 : Int32), oF tb, oF FP.fconst0, oD x2, .second, oI (1 : Int32), oF d0] [])
    refine own_by (fun t_ k_ => XS.goto X0.here hx rfl (pc0 := 51) (pc' := 8) rfl (hb hby d2_51) (by decide) (by decide) k_) ?_
    show own_Go p e below _ T0 (mkF m 8 #[oR a, oI (1 : Int32), oF tb, oF FP.fconst0, oD x2, .second, oI (1 : Int32), oF d0] [])
    refine own_by (fun t_ k_ => XS.iload X0.here hx rfl (hb hby d2_8) rfl  k_) ?_
    show own_Go p e below _ T0 (mkF m 10 #[oR a, oI (1 : Int32), oF tb, oF FP.fconst0, oD x2, .second, oI (1 : Int32), oF d0] [(.int (1 : Int32))])
    refine own_by (fun t_ k_ => XS.iloadN X0.here hx rfl (hb hby d2_10) rfl  k_) ?_
    show own_Go p e below _ T0 (mkF m 11 #[oR a, oI (1 : Int32), oF tb, oF FP.fconst0, oD x2, .second, oI (1 : Int32), oF d0] [(.int (1 : Int32)), (.int (1 : Int32))])
    refine own_by (fun t_ k_ => XS.icmpYes X0.here hx rfl (pc0 := 11) (pc' := 54) rfl (hb hby d2_11) rfl (XT.ii_ge_t (by decide)) (by decide) (by decide) k_) ?_
    show own_Go p e below _ T0 (mkF m 54 #[oR a, oI (1 : Int32), oF tb, oF FP.fconst0, oD x2, .second, oI (1 : Int32), oF d0] [])
    refine own_by (fun t_ k_ => XS.floadN X0.here hx rfl (hb hby d2_54) rfl  k_) ?_
    show own_Go p e below _ T0 (mkF m 55 #[oR a, oI (1 : Int32), oF tb, oF FP.fconst0, oD x2, .second, oI (1 : Int32), oF d0] [(.float FP.fconst0)])
    have D11 := own_D_f2d (own_F_zero 0) (by omega) (by decide) (by decide)
    refine own_by (fun t_ k_ => XS.f2dS X0.here hx rfl (hb hby d2_55) rfl (own_D_no D11) rfl k_) ?_
    show own_Go p e below _ T0 (mkF m 56 #[oR a, oI (1 : Int32), oF tb, oF FP.fconst0, oD x2, .second, oI (1 : Int32), oF d0] [(.double (FP.f2d FP.fconst0))])
    generalize (FP.f2d FP.fconst0) = x3 at D11 ⊢
    show own_Go p e below _ T0 (mkF m 56 #[oR a, oI (1 : Int32), oF tb, oF FP.fconst0, oD x2, .second, oI (1 : Int32), oF d0] [(.double x3)])
    refine own_by (fun t_ k_ => XS.floadN X0.here hx rfl (hb hby d2_56) rfl  k_) ?_
    show own_Go p e below _ T0 (mkF m 57 #[oR a, oI (1 : Int32), oF tb, oF FP.fconst0, oD x2, .second, oI (1 : Int32), oF d0] [(.float tb), (.double x3)])
    have D12 := own_D_f2d Ft (by omega) (by decide) (by decide)
    refine own_by (fun t_ k_ => XS.f2dS X0.here hx rfl (hb hby d2_57) rfl (own_D_no D12) rfl k_) ?_
    show own_Go p e below _ T0 (mkF m 58 #[oR a, oI (1 : Int32), oF tb, oF FP.fconst0, oD x2, .second, oI (1 : Int32), oF d0] [(.double (FP.f2d tb)), (.double x3)])
    generalize (FP.f2d tb) = x4 at D12 ⊢
    show own_Go p e below _ T0 (mkF m 58 #[oR a, oI (1 : Int32), oF tb, oF FP.fconst0, oD x2, .second, oI (1 : Int32), oF d0] [(.double x4), (.double x3)])
    refine own_by (fun t_ k_ => XS.dload X0.here hx rfl (hb hby d2_58) rfl  k_) ?_
    show own_Go p e below _ T0 (mkF m 60 #[oR a, oI (1 : Int32), oF tb, oF FP.fconst0, oD x2, .second, oI (1 : Int32), oF d0] [(.double x2), (.double x4), (.double x3)])
    have hsm := own_small (o := (0 + V0)) K1 K2 (by omega) (by omega)
    have D13 := own_D_mul (l := 0) D12 D10 (by omega) (by decide) (by decide)
    refine own_by (fun t_ k_ => XS.dmulS X0.here hx rfl (hb hby d2_60) rfl (own_D_no D13) rfl k_) ?_
    show own_Go p e below _ T0 (mkF m 61 #[oR a, oI (1 : Int32), oF tb, oF FP.fconst0, oD x2, .second, oI (1 : Int32), oF d0] [(.double (FP.dmul x4 x2)), (.double x3)])
    generalize (FP.dmul x4 x2) = x5 at D13 ⊢
    show own_Go p e below _ T0 (mkF m 61 #[oR a, oI (1 : Int32), oF tb, oF FP.fconst0, oD x2, .second, oI (1 : Int32), oF d0] [(.double x5), (.double x3)])
    have D14 := own_D_add (own_D_up D11 3) D13 (by simp only [show ((2 ^ 3 : Nat) : Int) = 8 from rfl]; omega) (by decide) (by decide)
    refine own_by (fun t_ k_ => XS.daddS X0.here hx rfl (hb hby d2_61) rfl (own_D_no D14) rfl k_) ?_
    show own_Go p e below _ T0 (mkF m 62 #[oR a, oI (1 : Int32), oF tb, oF FP.fconst0, oD x2, .second, oI (1 : Int32), oF d0] [(.double (FP.dadd x3 x5))])
    generalize (FP.dadd x3 x5) = x6 at D14 ⊢
    show own_Go p e below _ T0 (mkF m 62 #[oR a, oI (1 : Int32), oF tb, oF FP.fconst0, oD x2, .second, oI (1 : Int32), oF d0] [(.double x6)])
    have D15 := own_F_d2f D14 (by simp only [show ((2 ^ 3 : Nat) : Int) = 8 from rfl]; omega) (by decide) (by decide)
    refine own_by (fun t_ k_ => XS.d2fS X0.here hx rfl (hb hby d2_62) rfl (own_F_no D15) rfl k_) ?_
    show own_Go p e below _ T0 (mkF m 63 #[oR a, oI (1 : Int32), oF tb, oF FP.fconst0, oD x2, .second, oI (1 : Int32), oF d0] [(.float (FP.d2f x6))])
    generalize (FP.d2f x6) = r at D15 ⊢
    show own_Go p e below _ T0 (mkF m 63 #[oR a, oI (1 : Int32), oF tb, oF FP.fconst0, oD x2, .second, oI (1 : Int32), oF d0] [(.float r)])
    exact own_retF X0 hx hlk hret (hb hby d2_63) (by decide) (by decide) (⟨⟨r, 0, (0 + V0), rfl, D15, by omega, by omega⟩, e0, rfl⟩)
set_option maxRecDepth 65536 in
set_option maxHeartbeats 40000000 in
theorem own_bp2 (l : Launch) (Z : State) (a0 : Array Value) (hw : ∀ d ∈ tables_1, d.before a0 Z = true) (a : Addr) (kA : ClassId) (kk : Int) (tb d0 d1 d2 : UInt32) (V0 V1 V2 : Int) (h0 : Heap) (V : own_A Z h0 a .float kA [(.float d0), (.float d1), (.float d2)]) (Ft : own_F 3 kk tb) (K1 : 0 ≤ kk) (K2 : kk ≤ 8) (F0 : own_F 0 V0 d0) (F1 : own_F 0 V1 d1) (F2 : own_F 0 V2 d2) (B0 : 0 ≤ V0 ∧ V0 ≤ 65535) (B1 : 0 ≤ V1 ∧ V1 ≤ 65535) (B2 : 0 ≤ V2 ∧ V2 ≤ 65535) :
    own_Met l (⟨"com/example/weighted_terms/weightedterms/search/Scores", "bestPlus", "([FIF)F"⟩ : MethodName) prog_41_method_4_code 8 (some .float) [] ({ frames := 0, cells := 0, slots := 0, locals := 0 } : Room) Z #[(.ref a), (.int (2 : Int32)), (.float tb)] h0 (fun v h L => (∃ r B O, v = some (.float r) ∧ own_F 3 (B * ((2 ^ 3 : Nat) : Int) + kk * O) r ∧ B = (max (max 0 V0) V1) ∧ B + O = 0 + V0 + V1) ∧ h = h0 ∧ L = []) := by
  refine own_enter (plainFor_of_name pn_0) ?_
  intro p e s m below meth c T0 hx hby hml hret hlk hown hnm hZ X0 e0
  refine own_at (g' := (mkF m 0 #[oR a, oI (2 : Int32), oF tb, .unset, .unset, .unset, .unset, .unset] [])) (by first | (simp [entryFrame, mkF, argsToLocals, Value.category]; done) | rfl) ?_
  show own_Go p e below _ T0 (mkF m 0 #[oR a, oI (2 : Int32), oF tb, .unset, .unset, .unset, .unset, .unset] [])
  refine own_by (fun t_ k_ => XS.fconst0 X0.here hx rfl (hb hby d2_0) rfl k_) ?_
  show own_Go p e below _ T0 (mkF m 1 #[oR a, oI (2 : Int32), oF tb, .unset, .unset, .unset, .unset, .unset] [(.float FP.fconst0)])
  refine own_by (fun t_ k_ => XS.fstoreN X0.here hx rfl (hb hby d2_1) rfl (l' := #[oR a, oI (2 : Int32), oF tb, oF FP.fconst0, .unset, .unset, .unset, .unset]) rfl k_) ?_
  show own_Go p e below _ T0 (mkF m 2 #[oR a, oI (2 : Int32), oF tb, oF FP.fconst0, .unset, .unset, .unset, .unset] [])
  refine own_by (fun t_ k_ => XS.dconst0 X0.here hx rfl (hb hby d2_2) rfl k_) ?_
  show own_Go p e below _ T0 (mkF m 3 #[oR a, oI (2 : Int32), oF tb, oF FP.fconst0, .unset, .unset, .unset, .unset] [(.double FP.dconst0)])
  refine own_by (fun t_ k_ => XS.dstore X0.here hx rfl (hb hby d2_3) rfl (l' := #[oR a, oI (2 : Int32), oF tb, oF FP.fconst0, oD FP.dconst0, .second, .unset, .unset]) rfl k_) ?_
  show own_Go p e below _ T0 (mkF m 5 #[oR a, oI (2 : Int32), oF tb, oF FP.fconst0, oD FP.dconst0, .second, .unset, .unset] [])
  refine own_by (fun t_ k_ => XT.iconstV X0.here hx rfl (0 : Int32) (hb hby d2_5) (by decide) k_) ?_
  show own_Go p e below _ T0 (mkF m 6 #[oR a, oI (2 : Int32), oF tb, oF FP.fconst0, oD FP.dconst0, .second, .unset, .unset] [(.int (0 : Int32))])
  refine own_by (fun t_ k_ => XS.istore X0.here hx rfl (hb hby d2_6) rfl (l' := #[oR a, oI (2 : Int32), oF tb, oF FP.fconst0, oD FP.dconst0, .second, oI (0 : Int32), .unset]) rfl k_) ?_
  show own_Go p e below _ T0 (mkF m 8 #[oR a, oI (2 : Int32), oF tb, oF FP.fconst0, oD FP.dconst0, .second, oI (0 : Int32), .unset] [])
  refine own_by (fun t_ k_ => XS.iload X0.here hx rfl (hb hby d2_8) rfl  k_) ?_
  show own_Go p e below _ T0 (mkF m 10 #[oR a, oI (2 : Int32), oF tb, oF FP.fconst0, oD FP.dconst0, .second, oI (0 : Int32), .unset] [(.int (0 : Int32))])
  refine own_by (fun t_ k_ => XS.iloadN X0.here hx rfl (hb hby d2_10) rfl  k_) ?_
  show own_Go p e below _ T0 (mkF m 11 #[oR a, oI (2 : Int32), oF tb, oF FP.fconst0, oD FP.dconst0, .second, oI (0 : Int32), .unset] [(.int (2 : Int32)), (.int (0 : Int32))])
  refine own_by (fun t_ k_ => XS.icmpNo X0.here hx rfl (hb hby d2_11) rfl (XT.ii_ge_f (by decide)) k_) ?_
  show own_Go p e below _ T0 (mkF m 14 #[oR a, oI (2 : Int32), oF tb, oF FP.fconst0, oD FP.dconst0, .second, oI (0 : Int32), .unset] [])
  refine own_by (fun t_ k_ => XS.aloadN X0.here hx rfl (hb hby d2_14) rfl rfl  k_) ?_
  show own_Go p e below _ T0 (mkF m 15 #[oR a, oI (2 : Int32), oF tb, oF FP.fconst0, oD FP.dconst0, .second, oI (0 : Int32), .unset] [(.ref a)])
  refine own_by (fun t_ k_ => XS.iload X0.here hx rfl (hb hby d2_15) rfl  k_) ?_
  show own_Go p e below _ T0 (mkF m 17 #[oR a, oI (2 : Int32), oF tb, oF FP.fconst0, oD FP.dconst0, .second, oI (0 : Int32), .unset] [(.int (0 : Int32)), (.ref a)])
  refine own_ldF X0 hx hZ e0 V 0 (by decide) (by decide) (v := (.float d0)) rfl (hb hby d2_17) ?_
  show own_Go p e below _ T0 (mkF m 18 #[oR a, oI (2 : Int32), oF tb, oF FP.fconst0, oD FP.dconst0, .second, oI (0 : Int32), .unset] [(.float d0)])
  refine own_by (fun t_ k_ => XS.fstore X0.here hx rfl (hb hby d2_18) rfl (l' := #[oR a, oI (2 : Int32), oF tb, oF FP.fconst0, oD FP.dconst0, .second, oI (0 : Int32), oF d0]) rfl k_) ?_
  show own_Go p e below _ T0 (mkF m 20 #[oR a, oI (2 : Int32), oF tb, oF FP.fconst0, oD FP.dconst0, .second, oI (0 : Int32), oF d0] [])
  refine own_by (fun t_ k_ => XS.fload X0.here hx rfl (hb hby d2_20) rfl  k_) ?_
  show own_Go p e below _ T0 (mkF m 22 #[oR a, oI (2 : Int32), oF tb, oF FP.fconst0, oD FP.dconst0, .second, oI (0 : Int32), oF d0] [(.float d0)])
  refine own_by (fun t_ k_ => XS.floadN X0.here hx rfl (hb hby d2_22) rfl  k_) ?_
  show own_Go p e below _ T0 (mkF m 23 #[oR a, oI (2 : Int32), oF tb, oF FP.fconst0, oD FP.dconst0, .second, oI (0 : Int32), oF d0] [(.float FP.fconst0), (.float d0)])
  refine own_by (fun t_ k_ => XS.fcmpS X0.here hx rfl (hb hby d2_23) rfl rfl k_) ?_
  show own_Go p e below _ T0 (mkF m 24 #[oR a, oI (2 : Int32), oF tb, oF FP.fconst0, oD FP.dconst0, .second, oI (0 : Int32), oF d0] [(.int (cmpValue (FP.fcmp d0 FP.fconst0) .l))])
  by_cases c24_0 : (0 : Int32) < (cmpValue (FP.fcmp d0 FP.fconst0) .l)
  · refine own_by (fun t_ k_ => XS.ifNo X0.here hx rfl (hb hby d2_24) rfl (XT.i0_le_f c24_0) k_) ?_
    show own_Go p e below _ T0 (mkF m 27 #[oR a, oI (2 : Int32), oF tb, oF FP.fconst0, oD FP.dconst0, .second, oI (0 : Int32), oF d0] [])
    have gc24_0 : 0 < V0 := (own_fgt F0 (own_F_zero 0)).mp c24_0
    refine own_by (fun t_ k_ => XS.dload X0.here hx rfl (hb hby d2_27) rfl  k_) ?_
    show own_Go p e below _ T0 (mkF m 29 #[oR a, oI (2 : Int32), oF tb, oF FP.fconst0, oD FP.dconst0, .second, oI (0 : Int32), oF d0] [(.double FP.dconst0)])
    refine own_by (fun t_ k_ => XS.floadN X0.here hx rfl (hb hby d2_29) rfl  k_) ?_
    show own_Go p e below _ T0 (mkF m 30 #[oR a, oI (2 : Int32), oF tb, oF FP.fconst0, oD FP.dconst0, .second, oI (0 : Int32), oF d0] [(.float FP.fconst0), (.double FP.dconst0)])
    have D2 := own_D_f2d (own_F_zero 0) (by omega) (by decide) (by decide)
    refine own_by (fun t_ k_ => XS.f2dS X0.here hx rfl (hb hby d2_30) rfl (own_D_no D2) rfl k_) ?_
    show own_Go p e below _ T0 (mkF m 31 #[oR a, oI (2 : Int32), oF tb, oF FP.fconst0, oD FP.dconst0, .second, oI (0 : Int32), oF d0] [(.double (FP.f2d FP.fconst0)), (.double FP.dconst0)])
    generalize (FP.f2d FP.fconst0) = x1 at D2 ⊢
    show own_Go p e below _ T0 (mkF m 31 #[oR a, oI (2 : Int32), oF tb, oF FP.fconst0, oD FP.dconst0, .second, oI (0 : Int32), oF d0] [(.double x1), (.double FP.dconst0)])
    have D3 := own_D_add (own_D_zero 0) D2 (by omega) (by decide) (by decide)
    refine own_by (fun t_ k_ => XS.daddS X0.here hx rfl (hb hby d2_31) rfl (own_D_no D3) rfl k_) ?_
    show own_Go p e below _ T0 (mkF m 32 #[oR a, oI (2 : Int32), oF tb, oF FP.fconst0, oD FP.dconst0, .second, oI (0 : Int32), oF d0] [(.double (FP.dadd FP.dconst0 x1))])
    generalize (FP.dadd FP.dconst0 x1) = x2 at D3 ⊢
    show own_Go p e below _ T0 (mkF m 32 #[oR a, oI (2 : Int32), oF tb, oF FP.fconst0, oD FP.dconst0, .second, oI (0 : Int32), oF d0] [(.double x2)])
    refine own_by (fun t_ k_ => XS.dstore X0.here hx rfl (hb hby d2_32) rfl (l' := #[oR a, oI (2 : Int32), oF tb, oF FP.fconst0, oD x2, .second, oI (0 : Int32), oF d0]) rfl k_) ?_
    show own_Go p e below _ T0 (mkF m 34 #[oR a, oI (2 : Int32), oF tb, oF FP.fconst0, oD x2, .second, oI (0 : Int32), oF d0] [])
    refine own_by (fun t_ k_ => XS.fload X0.here hx rfl (hb hby d2_34) rfl  k_) ?_
    show own_Go p e below _ T0 (mkF m 36 #[oR a, oI (2 : Int32), oF tb, oF FP.fconst0, oD x2, .second, oI (0 : Int32), oF d0] [(.float d0)])
    refine own_by (fun t_ k_ => XS.fstoreN X0.here hx rfl (hb hby d2_36) rfl (l' := #[oR a, oI (2 : Int32), oF tb, oF d0, oD x2, .second, oI (0 : Int32), oF d0]) rfl k_) ?_
    show own_Go p e below _ T0 (mkF m 37 #[oR a, oI (2 : Int32), oF tb, oF d0, oD x2, .second, oI (0 : Int32), oF d0] [])
    refine own_by (fun t_ k_ => XS.goto X0.here hx rfl (pc0 := 37) (pc' := 48) rfl (hb hby d2_37) (by decide) (by decide) k_) ?_
    show own_Go p e below _ T0 (mkF m 48 #[oR a, oI (2 : Int32), oF tb, oF d0, oD x2, .second, oI (0 : Int32), oF d0] [])
    refine own_by (fun t_ k_ => XT.iincV X0.here hx rfl (1 : Int32) (hb hby d2_48) (by decide) rfl (l' := #[oR a, oI (2 : Int32), oF tb, oF d0, oD x2, .second, oI ((0 : Int32) + (1 : Int32)), oF d0]) rfl k_) ?_
    show own_Go p e below _ T0 (mkF m 51 #[oR a, oI (2 : Int32), oF tb, oF d0, oD x2, .second, oI ((0 : Int32) + (1 : Int32)), oF d0] [])
    rw [show ((0 : Int32) + (1 : Int32)) = (1 : Int32) by decide]
    show own_Go p e below _ T0 (mkF m 51 #[oR a, oI (2 : Int32), oF tb, oF d0, oD x2, .second, oI (1 : Int32), oF d0] [])
    refine own_by (fun t_ k_ => XS.goto X0.here hx rfl (pc0 := 51) (pc' := 8) rfl (hb hby d2_51) (by decide) (by decide) k_) ?_
    show own_Go p e below _ T0 (mkF m 8 #[oR a, oI (2 : Int32), oF tb, oF d0, oD x2, .second, oI (1 : Int32), oF d0] [])
    refine own_by (fun t_ k_ => XS.iload X0.here hx rfl (hb hby d2_8) rfl  k_) ?_
    show own_Go p e below _ T0 (mkF m 10 #[oR a, oI (2 : Int32), oF tb, oF d0, oD x2, .second, oI (1 : Int32), oF d0] [(.int (1 : Int32))])
    refine own_by (fun t_ k_ => XS.iloadN X0.here hx rfl (hb hby d2_10) rfl  k_) ?_
    show own_Go p e below _ T0 (mkF m 11 #[oR a, oI (2 : Int32), oF tb, oF d0, oD x2, .second, oI (1 : Int32), oF d0] [(.int (2 : Int32)), (.int (1 : Int32))])
    refine own_by (fun t_ k_ => XS.icmpNo X0.here hx rfl (hb hby d2_11) rfl (XT.ii_ge_f (by decide)) k_) ?_
    show own_Go p e below _ T0 (mkF m 14 #[oR a, oI (2 : Int32), oF tb, oF d0, oD x2, .second, oI (1 : Int32), oF d0] [])
    refine own_by (fun t_ k_ => XS.aloadN X0.here hx rfl (hb hby d2_14) rfl rfl  k_) ?_
    show own_Go p e below _ T0 (mkF m 15 #[oR a, oI (2 : Int32), oF tb, oF d0, oD x2, .second, oI (1 : Int32), oF d0] [(.ref a)])
    refine own_by (fun t_ k_ => XS.iload X0.here hx rfl (hb hby d2_15) rfl  k_) ?_
    show own_Go p e below _ T0 (mkF m 17 #[oR a, oI (2 : Int32), oF tb, oF d0, oD x2, .second, oI (1 : Int32), oF d0] [(.int (1 : Int32)), (.ref a)])
    refine own_ldF X0 hx hZ e0 V 1 (by decide) (by decide) (v := (.float d1)) rfl (hb hby d2_17) ?_
    show own_Go p e below _ T0 (mkF m 18 #[oR a, oI (2 : Int32), oF tb, oF d0, oD x2, .second, oI (1 : Int32), oF d0] [(.float d1)])
    refine own_by (fun t_ k_ => XS.fstore X0.here hx rfl (hb hby d2_18) rfl (l' := #[oR a, oI (2 : Int32), oF tb, oF d0, oD x2, .second, oI (1 : Int32), oF d1]) rfl k_) ?_
    show own_Go p e below _ T0 (mkF m 20 #[oR a, oI (2 : Int32), oF tb, oF d0, oD x2, .second, oI (1 : Int32), oF d1] [])
    refine own_by (fun t_ k_ => XS.fload X0.here hx rfl (hb hby d2_20) rfl  k_) ?_
    show own_Go p e below _ T0 (mkF m 22 #[oR a, oI (2 : Int32), oF tb, oF d0, oD x2, .second, oI (1 : Int32), oF d1] [(.float d1)])
    refine own_by (fun t_ k_ => XS.floadN X0.here hx rfl (hb hby d2_22) rfl  k_) ?_
    show own_Go p e below _ T0 (mkF m 23 #[oR a, oI (2 : Int32), oF tb, oF d0, oD x2, .second, oI (1 : Int32), oF d1] [(.float d0), (.float d1)])
    refine own_by (fun t_ k_ => XS.fcmpS X0.here hx rfl (hb hby d2_23) rfl rfl k_) ?_
    show own_Go p e below _ T0 (mkF m 24 #[oR a, oI (2 : Int32), oF tb, oF d0, oD x2, .second, oI (1 : Int32), oF d1] [(.int (cmpValue (FP.fcmp d1 d0) .l))])
    by_cases c24_3 : (0 : Int32) < (cmpValue (FP.fcmp d1 d0) .l)
    · refine own_by (fun t_ k_ => XS.ifNo X0.here hx rfl (hb hby d2_24) rfl (XT.i0_le_f c24_3) k_) ?_
      show own_Go p e below _ T0 (mkF m 27 #[oR a, oI (2 : Int32), oF tb, oF d0, oD x2, .second, oI (1 : Int32), oF d1] [])
      have gc24_3 : V0 < V1 := (own_fgt F1 F0).mp c24_3
      refine own_by (fun t_ k_ => XS.dload X0.here hx rfl (hb hby d2_27) rfl  k_) ?_
      show own_Go p e below _ T0 (mkF m 29 #[oR a, oI (2 : Int32), oF tb, oF d0, oD x2, .second, oI (1 : Int32), oF d1] [(.double x2)])
      refine own_by (fun t_ k_ => XS.floadN X0.here hx rfl (hb hby d2_29) rfl  k_) ?_
      show own_Go p e below _ T0 (mkF m 30 #[oR a, oI (2 : Int32), oF tb, oF d0, oD x2, .second, oI (1 : Int32), oF d1] [(.float d0), (.double x2)])
      have D5 := own_D_f2d F0 (by omega) (by decide) (by decide)
      refine own_by (fun t_ k_ => XS.f2dS X0.here hx rfl (hb hby d2_30) rfl (own_D_no D5) rfl k_) ?_
      show own_Go p e below _ T0 (mkF m 31 #[oR a, oI (2 : Int32), oF tb, oF d0, oD x2, .second, oI (1 : Int32), oF d1] [(.double (FP.f2d d0)), (.double x2)])
      generalize (FP.f2d d0) = x3 at D5 ⊢
      show own_Go p e below _ T0 (mkF m 31 #[oR a, oI (2 : Int32), oF tb, oF d0, oD x2, .second, oI (1 : Int32), oF d1] [(.double x3), (.double x2)])
      have D6 := own_D_add D3 D5 (by omega) (by decide) (by decide)
      refine own_by (fun t_ k_ => XS.daddS X0.here hx rfl (hb hby d2_31) rfl (own_D_no D6) rfl k_) ?_
      show own_Go p e below _ T0 (mkF m 32 #[oR a, oI (2 : Int32), oF tb, oF d0, oD x2, .second, oI (1 : Int32), oF d1] [(.double (FP.dadd x2 x3))])
      generalize (FP.dadd x2 x3) = x4 at D6 ⊢
      show own_Go p e below _ T0 (mkF m 32 #[oR a, oI (2 : Int32), oF tb, oF d0, oD x2, .second, oI (1 : Int32), oF d1] [(.double x4)])
      refine own_by (fun t_ k_ => XS.dstore X0.here hx rfl (hb hby d2_32) rfl (l' := #[oR a, oI (2 : Int32), oF tb, oF d0, oD x4, .second, oI (1 : Int32), oF d1]) rfl k_) ?_
      show own_Go p e below _ T0 (mkF m 34 #[oR a, oI (2 : Int32), oF tb, oF d0, oD x4, .second, oI (1 : Int32), oF d1] [])
      refine own_by (fun t_ k_ => XS.fload X0.here hx rfl (hb hby d2_34) rfl  k_) ?_
      show own_Go p e below _ T0 (mkF m 36 #[oR a, oI (2 : Int32), oF tb, oF d0, oD x4, .second, oI (1 : Int32), oF d1] [(.float d1)])
      refine own_by (fun t_ k_ => XS.fstoreN X0.here hx rfl (hb hby d2_36) rfl (l' := #[oR a, oI (2 : Int32), oF tb, oF d1, oD x4, .second, oI (1 : Int32), oF d1]) rfl k_) ?_
      show own_Go p e below _ T0 (mkF m 37 #[oR a, oI (2 : Int32), oF tb, oF d1, oD x4, .second, oI (1 : Int32), oF d1] [])
      refine own_by (fun t_ k_ => XS.goto X0.here hx rfl (pc0 := 37) (pc' := 48) rfl (hb hby d2_37) (by decide) (by decide) k_) ?_
      show own_Go p e below _ T0 (mkF m 48 #[oR a, oI (2 : Int32), oF tb, oF d1, oD x4, .second, oI (1 : Int32), oF d1] [])
      refine own_by (fun t_ k_ => XT.iincV X0.here hx rfl (1 : Int32) (hb hby d2_48) (by decide) rfl (l' := #[oR a, oI (2 : Int32), oF tb, oF d1, oD x4, .second, oI ((1 : Int32) + (1 : Int32)), oF d1]) rfl k_) ?_
      show own_Go p e below _ T0 (mkF m 51 #[oR a, oI (2 : Int32), oF tb, oF d1, oD x4, .second, oI ((1 : Int32) + (1 : Int32)), oF d1] [])
      rw [show ((1 : Int32) + (1 : Int32)) = (2 : Int32) by decide]
      show own_Go p e below _ T0 (mkF m 51 #[oR a, oI (2 : Int32), oF tb, oF d1, oD x4, .second, oI (2 : Int32), oF d1] [])
      refine own_by (fun t_ k_ => XS.goto X0.here hx rfl (pc0 := 51) (pc' := 8) rfl (hb hby d2_51) (by decide) (by decide) k_) ?_
      show own_Go p e below _ T0 (mkF m 8 #[oR a, oI (2 : Int32), oF tb, oF d1, oD x4, .second, oI (2 : Int32), oF d1] [])
      refine own_by (fun t_ k_ => XS.iload X0.here hx rfl (hb hby d2_8) rfl  k_) ?_
      show own_Go p e below _ T0 (mkF m 10 #[oR a, oI (2 : Int32), oF tb, oF d1, oD x4, .second, oI (2 : Int32), oF d1] [(.int (2 : Int32))])
      refine own_by (fun t_ k_ => XS.iloadN X0.here hx rfl (hb hby d2_10) rfl  k_) ?_
      show own_Go p e below _ T0 (mkF m 11 #[oR a, oI (2 : Int32), oF tb, oF d1, oD x4, .second, oI (2 : Int32), oF d1] [(.int (2 : Int32)), (.int (2 : Int32))])
      refine own_by (fun t_ k_ => XS.icmpYes X0.here hx rfl (pc0 := 11) (pc' := 54) rfl (hb hby d2_11) rfl (XT.ii_ge_t (by decide)) (by decide) (by decide) k_) ?_
      show own_Go p e below _ T0 (mkF m 54 #[oR a, oI (2 : Int32), oF tb, oF d1, oD x4, .second, oI (2 : Int32), oF d1] [])
      refine own_by (fun t_ k_ => XS.floadN X0.here hx rfl (hb hby d2_54) rfl  k_) ?_
      show own_Go p e below _ T0 (mkF m 55 #[oR a, oI (2 : Int32), oF tb, oF d1, oD x4, .second, oI (2 : Int32), oF d1] [(.float d1)])
      have D7 := own_D_f2d F1 (by omega) (by decide) (by decide)
      refine own_by (fun t_ k_ => XS.f2dS X0.here hx rfl (hb hby d2_55) rfl (own_D_no D7) rfl k_) ?_
      show own_Go p e below _ T0 (mkF m 56 #[oR a, oI (2 : Int32), oF tb, oF d1, oD x4, .second, oI (2 : Int32), oF d1] [(.double (FP.f2d d1))])
      generalize (FP.f2d d1) = x5 at D7 ⊢
      show own_Go p e below _ T0 (mkF m 56 #[oR a, oI (2 : Int32), oF tb, oF d1, oD x4, .second, oI (2 : Int32), oF d1] [(.double x5)])
      refine own_by (fun t_ k_ => XS.floadN X0.here hx rfl (hb hby d2_56) rfl  k_) ?_
      show own_Go p e below _ T0 (mkF m 57 #[oR a, oI (2 : Int32), oF tb, oF d1, oD x4, .second, oI (2 : Int32), oF d1] [(.float tb), (.double x5)])
      have D8 := own_D_f2d Ft (by omega) (by decide) (by decide)
      refine own_by (fun t_ k_ => XS.f2dS X0.here hx rfl (hb hby d2_57) rfl (own_D_no D8) rfl k_) ?_
      show own_Go p e below _ T0 (mkF m 58 #[oR a, oI (2 : Int32), oF tb, oF d1, oD x4, .second, oI (2 : Int32), oF d1] [(.double (FP.f2d tb)), (.double x5)])
      generalize (FP.f2d tb) = x6 at D8 ⊢
      show own_Go p e below _ T0 (mkF m 58 #[oR a, oI (2 : Int32), oF tb, oF d1, oD x4, .second, oI (2 : Int32), oF d1] [(.double x6), (.double x5)])
      refine own_by (fun t_ k_ => XS.dload X0.here hx rfl (hb hby d2_58) rfl  k_) ?_
      show own_Go p e below _ T0 (mkF m 60 #[oR a, oI (2 : Int32), oF tb, oF d1, oD x4, .second, oI (2 : Int32), oF d1] [(.double x4), (.double x6), (.double x5)])
      have hsm := own_small (o := ((0 + 0) + V0)) K1 K2 (by omega) (by omega)
      have D9 := own_D_mul (l := 0) D8 D6 (by omega) (by decide) (by decide)
      refine own_by (fun t_ k_ => XS.dmulS X0.here hx rfl (hb hby d2_60) rfl (own_D_no D9) rfl k_) ?_
      show own_Go p e below _ T0 (mkF m 61 #[oR a, oI (2 : Int32), oF tb, oF d1, oD x4, .second, oI (2 : Int32), oF d1] [(.double (FP.dmul x6 x4)), (.double x5)])
      generalize (FP.dmul x6 x4) = x7 at D9 ⊢
      show own_Go p e below _ T0 (mkF m 61 #[oR a, oI (2 : Int32), oF tb, oF d1, oD x4, .second, oI (2 : Int32), oF d1] [(.double x7), (.double x5)])
      have D10 := own_D_add (own_D_up D7 3) D9 (by simp only [show ((2 ^ 3 : Nat) : Int) = 8 from rfl]; omega) (by decide) (by decide)
      refine own_by (fun t_ k_ => XS.daddS X0.here hx rfl (hb hby d2_61) rfl (own_D_no D10) rfl k_) ?_
      show own_Go p e below _ T0 (mkF m 62 #[oR a, oI (2 : Int32), oF tb, oF d1, oD x4, .second, oI (2 : Int32), oF d1] [(.double (FP.dadd x5 x7))])
      generalize (FP.dadd x5 x7) = x8 at D10 ⊢
      show own_Go p e below _ T0 (mkF m 62 #[oR a, oI (2 : Int32), oF tb, oF d1, oD x4, .second, oI (2 : Int32), oF d1] [(.double x8)])
      have D11 := own_F_d2f D10 (by simp only [show ((2 ^ 3 : Nat) : Int) = 8 from rfl]; omega) (by decide) (by decide)
      refine own_by (fun t_ k_ => XS.d2fS X0.here hx rfl (hb hby d2_62) rfl (own_F_no D11) rfl k_) ?_
      show own_Go p e below _ T0 (mkF m 63 #[oR a, oI (2 : Int32), oF tb, oF d1, oD x4, .second, oI (2 : Int32), oF d1] [(.float (FP.d2f x8))])
      generalize (FP.d2f x8) = r at D11 ⊢
      show own_Go p e below _ T0 (mkF m 63 #[oR a, oI (2 : Int32), oF tb, oF d1, oD x4, .second, oI (2 : Int32), oF d1] [(.float r)])
      exact own_retF X0 hx hlk hret (hb hby d2_63) (by decide) (by decide) (⟨⟨r, V1, ((0 + 0) + V0), rfl, D11, by omega, by omega⟩, e0, rfl⟩)
    · refine own_by (fun t_ k_ => XS.ifYes X0.here hx rfl (pc0 := 24) (pc' := 40) rfl (hb hby d2_24) rfl (XT.i0_le_t c24_3) (by decide) (by decide) k_) ?_
      show own_Go p e below _ T0 (mkF m 40 #[oR a, oI (2 : Int32), oF tb, oF d0, oD x2, .second, oI (1 : Int32), oF d1] [])
      have gc24_3 : ¬ V0 < V1 := fun z => c24_3 ((own_fgt F1 F0).mpr z)
      refine own_by (fun t_ k_ => XS.dload X0.here hx rfl (hb hby d2_40) rfl  k_) ?_
      show own_Go p e below _ T0 (mkF m 42 #[oR a, oI (2 : Int32), oF tb, oF d0, oD x2, .second, oI (1 : Int32), oF d1] [(.double x2)])
      refine own_by (fun t_ k_ => XS.fload X0.here hx rfl (hb hby d2_42) rfl  k_) ?_
      show own_Go p e below _ T0 (mkF m 44 #[oR a, oI (2 : Int32), oF tb, oF d0, oD x2, .second, oI (1 : Int32), oF d1] [(.float d1), (.double x2)])
      have D12 := own_D_f2d F1 (by omega) (by decide) (by decide)
      refine own_by (fun t_ k_ => XS.f2dS X0.here hx rfl (hb hby d2_44) rfl (own_D_no D12) rfl k_) ?_
      show own_Go p e below _ T0 (mkF m 45 #[oR a, oI (2 : Int32), oF tb, oF d0, oD x2, .second, oI (1 : Int32), oF d1] [(.double (FP.f2d d1)), (.double x2)])
      generalize (FP.f2d d1) = x3 at D12 ⊢
      show own_Go p e below _ T0 (mkF m 45 #[oR a, oI (2 : Int32), oF tb, oF d0, oD x2, .second, oI (1 : Int32), oF d1] [(.double x3), (.double x2)])
      have D13 := own_D_add D3 D12 (by omega) (by decide) (by decide)
      refine own_by (fun t_ k_ => XS.daddS X0.here hx rfl (hb hby d2_45) rfl (own_D_no D13) rfl k_) ?_
      show own_Go p e below _ T0 (mkF m 46 #[oR a, oI (2 : Int32), oF tb, oF d0, oD x2, .second, oI (1 : Int32), oF d1] [(.double (FP.dadd x2 x3))])
      generalize (FP.dadd x2 x3) = x4 at D13 ⊢
      show own_Go p e below _ T0 (mkF m 46 #[oR a, oI (2 : Int32), oF tb, oF d0, oD x2, .second, oI (1 : Int32), oF d1] [(.double x4)])
      refine own_by (fun t_ k_ => XS.dstore X0.here hx rfl (hb hby d2_46) rfl (l' := #[oR a, oI (2 : Int32), oF tb, oF d0, oD x4, .second, oI (1 : Int32), oF d1]) rfl k_) ?_
      show own_Go p e below _ T0 (mkF m 48 #[oR a, oI (2 : Int32), oF tb, oF d0, oD x4, .second, oI (1 : Int32), oF d1] [])
      refine own_by (fun t_ k_ => XT.iincV X0.here hx rfl (1 : Int32) (hb hby d2_48) (by decide) rfl (l' := #[oR a, oI (2 : Int32), oF tb, oF d0, oD x4, .second, oI ((1 : Int32) + (1 : Int32)), oF d1]) rfl k_) ?_
      show own_Go p e below _ T0 (mkF m 51 #[oR a, oI (2 : Int32), oF tb, oF d0, oD x4, .second, oI ((1 : Int32) + (1 : Int32)), oF d1] [])
      rw [show ((1 : Int32) + (1 : Int32)) = (2 : Int32) by decide]
      show own_Go p e below _ T0 (mkF m 51 #[oR a, oI (2 : Int32), oF tb, oF d0, oD x4, .second, oI (2 : Int32), oF d1] [])
      refine own_by (fun t_ k_ => XS.goto X0.here hx rfl (pc0 := 51) (pc' := 8) rfl (hb hby d2_51) (by decide) (by decide) k_) ?_
      show own_Go p e below _ T0 (mkF m 8 #[oR a, oI (2 : Int32), oF tb, oF d0, oD x4, .second, oI (2 : Int32), oF d1] [])
      refine own_by (fun t_ k_ => XS.iload X0.here hx rfl (hb hby d2_8) rfl  k_) ?_
      show own_Go p e below _ T0 (mkF m 10 #[oR a, oI (2 : Int32), oF tb, oF d0, oD x4, .second, oI (2 : Int32), oF d1] [(.int (2 : Int32))])
      refine own_by (fun t_ k_ => XS.iloadN X0.here hx rfl (hb hby d2_10) rfl  k_) ?_
      show own_Go p e below _ T0 (mkF m 11 #[oR a, oI (2 : Int32), oF tb, oF d0, oD x4, .second, oI (2 : Int32), oF d1] [(.int (2 : Int32)), (.int (2 : Int32))])
      refine own_by (fun t_ k_ => XS.icmpYes X0.here hx rfl (pc0 := 11) (pc' := 54) rfl (hb hby d2_11) rfl (XT.ii_ge_t (by decide)) (by decide) (by decide) k_) ?_
      show own_Go p e below _ T0 (mkF m 54 #[oR a, oI (2 : Int32), oF tb, oF d0, oD x4, .second, oI (2 : Int32), oF d1] [])
      refine own_by (fun t_ k_ => XS.floadN X0.here hx rfl (hb hby d2_54) rfl  k_) ?_
      show own_Go p e below _ T0 (mkF m 55 #[oR a, oI (2 : Int32), oF tb, oF d0, oD x4, .second, oI (2 : Int32), oF d1] [(.float d0)])
      have D14 := own_D_f2d F0 (by omega) (by decide) (by decide)
      refine own_by (fun t_ k_ => XS.f2dS X0.here hx rfl (hb hby d2_55) rfl (own_D_no D14) rfl k_) ?_
      show own_Go p e below _ T0 (mkF m 56 #[oR a, oI (2 : Int32), oF tb, oF d0, oD x4, .second, oI (2 : Int32), oF d1] [(.double (FP.f2d d0))])
      generalize (FP.f2d d0) = x5 at D14 ⊢
      show own_Go p e below _ T0 (mkF m 56 #[oR a, oI (2 : Int32), oF tb, oF d0, oD x4, .second, oI (2 : Int32), oF d1] [(.double x5)])
      refine own_by (fun t_ k_ => XS.floadN X0.here hx rfl (hb hby d2_56) rfl  k_) ?_
      show own_Go p e below _ T0 (mkF m 57 #[oR a, oI (2 : Int32), oF tb, oF d0, oD x4, .second, oI (2 : Int32), oF d1] [(.float tb), (.double x5)])
      have D15 := own_D_f2d Ft (by omega) (by decide) (by decide)
      refine own_by (fun t_ k_ => XS.f2dS X0.here hx rfl (hb hby d2_57) rfl (own_D_no D15) rfl k_) ?_
      show own_Go p e below _ T0 (mkF m 58 #[oR a, oI (2 : Int32), oF tb, oF d0, oD x4, .second, oI (2 : Int32), oF d1] [(.double (FP.f2d tb)), (.double x5)])
      generalize (FP.f2d tb) = x6 at D15 ⊢
      show own_Go p e below _ T0 (mkF m 58 #[oR a, oI (2 : Int32), oF tb, oF d0, oD x4, .second, oI (2 : Int32), oF d1] [(.double x6), (.double x5)])
      refine own_by (fun t_ k_ => XS.dload X0.here hx rfl (hb hby d2_58) rfl  k_) ?_
      show own_Go p e below _ T0 (mkF m 60 #[oR a, oI (2 : Int32), oF tb, oF d0, oD x4, .second, oI (2 : Int32), oF d1] [(.double x4), (.double x6), (.double x5)])
      have hsm := own_small (o := ((0 + 0) + V1)) K1 K2 (by omega) (by omega)
      have D16 := own_D_mul (l := 0) D15 D13 (by omega) (by decide) (by decide)
      refine own_by (fun t_ k_ => XS.dmulS X0.here hx rfl (hb hby d2_60) rfl (own_D_no D16) rfl k_) ?_
      show own_Go p e below _ T0 (mkF m 61 #[oR a, oI (2 : Int32), oF tb, oF d0, oD x4, .second, oI (2 : Int32), oF d1] [(.double (FP.dmul x6 x4)), (.double x5)])
      generalize (FP.dmul x6 x4) = x7 at D16 ⊢
      show own_Go p e below _ T0 (mkF m 61 #[oR a, oI (2 : Int32), oF tb, oF d0, oD x4, .second, oI (2 : Int32), oF d1] [(.double x7), (.double x5)])
      have D17 := own_D_add (own_D_up D14 3) D16 (by simp only [show ((2 ^ 3 : Nat) : Int) = 8 from rfl]; omega) (by decide) (by decide)
      refine own_by (fun t_ k_ => XS.daddS X0.here hx rfl (hb hby d2_61) rfl (own_D_no D17) rfl k_) ?_
      show own_Go p e below _ T0 (mkF m 62 #[oR a, oI (2 : Int32), oF tb, oF d0, oD x4, .second, oI (2 : Int32), oF d1] [(.double (FP.dadd x5 x7))])
      generalize (FP.dadd x5 x7) = x8 at D17 ⊢
      show own_Go p e below _ T0 (mkF m 62 #[oR a, oI (2 : Int32), oF tb, oF d0, oD x4, .second, oI (2 : Int32), oF d1] [(.double x8)])
      have D18 := own_F_d2f D17 (by simp only [show ((2 ^ 3 : Nat) : Int) = 8 from rfl]; omega) (by decide) (by decide)
      refine own_by (fun t_ k_ => XS.d2fS X0.here hx rfl (hb hby d2_62) rfl (own_F_no D18) rfl k_) ?_
      show own_Go p e below _ T0 (mkF m 63 #[oR a, oI (2 : Int32), oF tb, oF d0, oD x4, .second, oI (2 : Int32), oF d1] [(.float (FP.d2f x8))])
      generalize (FP.d2f x8) = r at D18 ⊢
      show own_Go p e below _ T0 (mkF m 63 #[oR a, oI (2 : Int32), oF tb, oF d0, oD x4, .second, oI (2 : Int32), oF d1] [(.float r)])
      exact own_retF X0 hx hlk hret (hb hby d2_63) (by decide) (by decide) (⟨⟨r, V0, ((0 + 0) + V1), rfl, D18, by omega, by omega⟩, e0, rfl⟩)
  · refine own_by (fun t_ k_ => XS.ifYes X0.here hx rfl (pc0 := 24) (pc' := 40) rfl (hb hby d2_24) rfl (XT.i0_le_t c24_0) (by decide) (by decide) k_) ?_
    show own_Go p e below _ T0 (mkF m 40 #[oR a, oI (2 : Int32), oF tb, oF FP.fconst0, oD FP.dconst0, .second, oI (0 : Int32), oF d0] [])
    have gc24_0 : ¬ 0 < V0 := fun z => c24_0 ((own_fgt F0 (own_F_zero 0)).mpr z)
    refine own_by (fun t_ k_ => XS.dload X0.here hx rfl (hb hby d2_40) rfl  k_) ?_
    show own_Go p e below _ T0 (mkF m 42 #[oR a, oI (2 : Int32), oF tb, oF FP.fconst0, oD FP.dconst0, .second, oI (0 : Int32), oF d0] [(.double FP.dconst0)])
    refine own_by (fun t_ k_ => XS.fload X0.here hx rfl (hb hby d2_42) rfl  k_) ?_
    show own_Go p e below _ T0 (mkF m 44 #[oR a, oI (2 : Int32), oF tb, oF FP.fconst0, oD FP.dconst0, .second, oI (0 : Int32), oF d0] [(.float d0), (.double FP.dconst0)])
    have D19 := own_D_f2d F0 (by omega) (by decide) (by decide)
    refine own_by (fun t_ k_ => XS.f2dS X0.here hx rfl (hb hby d2_44) rfl (own_D_no D19) rfl k_) ?_
    show own_Go p e below _ T0 (mkF m 45 #[oR a, oI (2 : Int32), oF tb, oF FP.fconst0, oD FP.dconst0, .second, oI (0 : Int32), oF d0] [(.double (FP.f2d d0)), (.double FP.dconst0)])
    generalize (FP.f2d d0) = x1 at D19 ⊢
    show own_Go p e below _ T0 (mkF m 45 #[oR a, oI (2 : Int32), oF tb, oF FP.fconst0, oD FP.dconst0, .second, oI (0 : Int32), oF d0] [(.double x1), (.double FP.dconst0)])
    have D20 := own_D_add (own_D_zero 0) D19 (by omega) (by decide) (by decide)
    refine own_by (fun t_ k_ => XS.daddS X0.here hx rfl (hb hby d2_45) rfl (own_D_no D20) rfl k_) ?_
    show own_Go p e below _ T0 (mkF m 46 #[oR a, oI (2 : Int32), oF tb, oF FP.fconst0, oD FP.dconst0, .second, oI (0 : Int32), oF d0] [(.double (FP.dadd FP.dconst0 x1))])
    generalize (FP.dadd FP.dconst0 x1) = x2 at D20 ⊢
    show own_Go p e below _ T0 (mkF m 46 #[oR a, oI (2 : Int32), oF tb, oF FP.fconst0, oD FP.dconst0, .second, oI (0 : Int32), oF d0] [(.double x2)])
    refine own_by (fun t_ k_ => XS.dstore X0.here hx rfl (hb hby d2_46) rfl (l' := #[oR a, oI (2 : Int32), oF tb, oF FP.fconst0, oD x2, .second, oI (0 : Int32), oF d0]) rfl k_) ?_
    show own_Go p e below _ T0 (mkF m 48 #[oR a, oI (2 : Int32), oF tb, oF FP.fconst0, oD x2, .second, oI (0 : Int32), oF d0] [])
    refine own_by (fun t_ k_ => XT.iincV X0.here hx rfl (1 : Int32) (hb hby d2_48) (by decide) rfl (l' := #[oR a, oI (2 : Int32), oF tb, oF FP.fconst0, oD x2, .second, oI ((0 : Int32) + (1 : Int32)), oF d0]) rfl k_) ?_
    show own_Go p e below _ T0 (mkF m 51 #[oR a, oI (2 : Int32), oF tb, oF FP.fconst0, oD x2, .second, oI ((0 : Int32) + (1 : Int32)), oF d0] [])
    rw [show ((0 : Int32) + (1 : Int32)) = (1 : Int32) by decide]
    show own_Go p e below _ T0 (mkF m 51 #[oR a, oI (2 : Int32), oF tb, oF FP.fconst0, oD x2, .second, oI (1 : Int32), oF d0] [])
    refine own_by (fun t_ k_ => XS.goto X0.here hx rfl (pc0 := 51) (pc' := 8) rfl (hb hby d2_51) (by decide) (by decide) k_) ?_
    show own_Go p e below _ T0 (mkF m 8 #[oR a, oI (2 : Int32), oF tb, oF FP.fconst0, oD x2, .second, oI (1 : Int32), oF d0] [])
    refine own_by (fun t_ k_ => XS.iload X0.here hx rfl (hb hby d2_8) rfl  k_) ?_
    show own_Go p e below _ T0 (mkF m 10 #[oR a, oI (2 : Int32), oF tb, oF FP.fconst0, oD x2, .second, oI (1 : Int32), oF d0] [(.int (1 : Int32))])
    refine own_by (fun t_ k_ => XS.iloadN X0.here hx rfl (hb hby d2_10) rfl  k_) ?_
    show own_Go p e below _ T0 (mkF m 11 #[oR a, oI (2 : Int32), oF tb, oF FP.fconst0, oD x2, .second, oI (1 : Int32), oF d0] [(.int (2 : Int32)), (.int (1 : Int32))])
    refine own_by (fun t_ k_ => XS.icmpNo X0.here hx rfl (hb hby d2_11) rfl (XT.ii_ge_f (by decide)) k_) ?_
    show own_Go p e below _ T0 (mkF m 14 #[oR a, oI (2 : Int32), oF tb, oF FP.fconst0, oD x2, .second, oI (1 : Int32), oF d0] [])
    refine own_by (fun t_ k_ => XS.aloadN X0.here hx rfl (hb hby d2_14) rfl rfl  k_) ?_
    show own_Go p e below _ T0 (mkF m 15 #[oR a, oI (2 : Int32), oF tb, oF FP.fconst0, oD x2, .second, oI (1 : Int32), oF d0] [(.ref a)])
    refine own_by (fun t_ k_ => XS.iload X0.here hx rfl (hb hby d2_15) rfl  k_) ?_
    show own_Go p e below _ T0 (mkF m 17 #[oR a, oI (2 : Int32), oF tb, oF FP.fconst0, oD x2, .second, oI (1 : Int32), oF d0] [(.int (1 : Int32)), (.ref a)])
    refine own_ldF X0 hx hZ e0 V 1 (by decide) (by decide) (v := (.float d1)) rfl (hb hby d2_17) ?_
    show own_Go p e below _ T0 (mkF m 18 #[oR a, oI (2 : Int32), oF tb, oF FP.fconst0, oD x2, .second, oI (1 : Int32), oF d0] [(.float d1)])
    refine own_by (fun t_ k_ => XS.fstore X0.here hx rfl (hb hby d2_18) rfl (l' := #[oR a, oI (2 : Int32), oF tb, oF FP.fconst0, oD x2, .second, oI (1 : Int32), oF d1]) rfl k_) ?_
    show own_Go p e below _ T0 (mkF m 20 #[oR a, oI (2 : Int32), oF tb, oF FP.fconst0, oD x2, .second, oI (1 : Int32), oF d1] [])
    refine own_by (fun t_ k_ => XS.fload X0.here hx rfl (hb hby d2_20) rfl  k_) ?_
    show own_Go p e below _ T0 (mkF m 22 #[oR a, oI (2 : Int32), oF tb, oF FP.fconst0, oD x2, .second, oI (1 : Int32), oF d1] [(.float d1)])
    refine own_by (fun t_ k_ => XS.floadN X0.here hx rfl (hb hby d2_22) rfl  k_) ?_
    show own_Go p e below _ T0 (mkF m 23 #[oR a, oI (2 : Int32), oF tb, oF FP.fconst0, oD x2, .second, oI (1 : Int32), oF d1] [(.float FP.fconst0), (.float d1)])
    refine own_by (fun t_ k_ => XS.fcmpS X0.here hx rfl (hb hby d2_23) rfl rfl k_) ?_
    show own_Go p e below _ T0 (mkF m 24 #[oR a, oI (2 : Int32), oF tb, oF FP.fconst0, oD x2, .second, oI (1 : Int32), oF d1] [(.int (cmpValue (FP.fcmp d1 FP.fconst0) .l))])
    by_cases c24_20 : (0 : Int32) < (cmpValue (FP.fcmp d1 FP.fconst0) .l)
    · refine own_by (fun t_ k_ => XS.ifNo X0.here hx rfl (hb hby d2_24) rfl (XT.i0_le_f c24_20) k_) ?_
      show own_Go p e below _ T0 (mkF m 27 #[oR a, oI (2 : Int32), oF tb, oF FP.fconst0, oD x2, .second, oI (1 : Int32), oF d1] [])
      have gc24_20 : 0 < V1 := (own_fgt F1 (own_F_zero 0)).mp c24_20
      refine own_by (fun t_ k_ => XS.dload X0.here hx rfl (hb hby d2_27) rfl  k_) ?_
      show own_Go p e below _ T0 (mkF m 29 #[oR a, oI (2 : Int32), oF tb, oF FP.fconst0, oD x2, .second, oI (1 : Int32), oF d1] [(.double x2)])
      refine own_by (fun t_ k_ => XS.floadN X0.here hx rfl (hb hby d2_29) rfl  k_) ?_
      show own_Go p e below _ T0 (mkF m 30 #[oR a, oI (2 : Int32), oF tb, oF FP.fconst0, oD x2, .second, oI (1 : Int32), oF d1] [(.float FP.fconst0), (.double x2)])
      have D22 := own_D_f2d (own_F_zero 0) (by omega) (by decide) (by decide)
      refine own_by (fun t_ k_ => XS.f2dS X0.here hx rfl (hb hby d2_30) rfl (own_D_no D22) rfl k_) ?_
      show own_Go p e below _ T0 (mkF m 31 #[oR a, oI (2 : Int32), oF tb, oF FP.fconst0, oD x2, .second, oI (1 : Int32), oF d1] [(.double (FP.f2d FP.fconst0)), (.double x2)])
      generalize (FP.f2d FP.fconst0) = x3 at D22 ⊢
      show own_Go p e below _ T0 (mkF m 31 #[oR a, oI (2 : Int32), oF tb, oF FP.fconst0, oD x2, .second, oI (1 : Int32), oF d1] [(.double x3), (.double x2)])
      have D23 := own_D_add D20 D22 (by omega) (by decide) (by decide)
      refine own_by (fun t_ k_ => XS.daddS X0.here hx rfl (hb hby d2_31) rfl (own_D_no D23) rfl k_) ?_
      show own_Go p e below _ T0 (mkF m 32 #[oR a, oI (2 : Int32), oF tb, oF FP.fconst0, oD x2, .second, oI (1 : Int32), oF d1] [(.double (FP.dadd x2 x3))])
      generalize (FP.dadd x2 x3) = x4 at D23 ⊢
      show own_Go p e below _ T0 (mkF m 32 #[oR a, oI (2 : Int32), oF tb, oF FP.fconst0, oD x2, .second, oI (1 : Int32), oF d1] [(.double x4)])
      refine own_by (fun t_ k_ => XS.dstore X0.here hx rfl (hb hby d2_32) rfl (l' := #[oR a, oI (2 : Int32), oF tb, oF FP.fconst0, oD x4, .second, oI (1 : Int32), oF d1]) rfl k_) ?_
      show own_Go p e below _ T0 (mkF m 34 #[oR a, oI (2 : Int32), oF tb, oF FP.fconst0, oD x4, .second, oI (1 : Int32), oF d1] [])
      refine own_by (fun t_ k_ => XS.fload X0.here hx rfl (hb hby d2_34) rfl  k_) ?_
      show own_Go p e below _ T0 (mkF m 36 #[oR a, oI (2 : Int32), oF tb, oF FP.fconst0, oD x4, .second, oI (1 : Int32), oF d1] [(.float d1)])
      refine own_by (fun t_ k_ => XS.fstoreN X0.here hx rfl (hb hby d2_36) rfl (l' := #[oR a, oI (2 : Int32), oF tb, oF d1, oD x4, .second, oI (1 : Int32), oF d1]) rfl k_) ?_
      show own_Go p e below _ T0 (mkF m 37 #[oR a, oI (2 : Int32), oF tb, oF d1, oD x4, .second, oI (1 : Int32), oF d1] [])
      refine own_by (fun t_ k_ => XS.goto X0.here hx rfl (pc0 := 37) (pc' := 48) rfl (hb hby d2_37) (by decide) (by decide) k_) ?_
      show own_Go p e below _ T0 (mkF m 48 #[oR a, oI (2 : Int32), oF tb, oF d1, oD x4, .second, oI (1 : Int32), oF d1] [])
      refine own_by (fun t_ k_ => XT.iincV X0.here hx rfl (1 : Int32) (hb hby d2_48) (by decide) rfl (l' := #[oR a, oI (2 : Int32), oF tb, oF d1, oD x4, .second, oI ((1 : Int32) + (1 : Int32)), oF d1]) rfl k_) ?_
      show own_Go p e below _ T0 (mkF m 51 #[oR a, oI (2 : Int32), oF tb, oF d1, oD x4, .second, oI ((1 : Int32) + (1 : Int32)), oF d1] [])
      rw [show ((1 : Int32) + (1 : Int32)) = (2 : Int32) by decide]
      show own_Go p e below _ T0 (mkF m 51 #[oR a, oI (2 : Int32), oF tb, oF d1, oD x4, .second, oI (2 : Int32), oF d1] [])
      refine own_by (fun t_ k_ => XS.goto X0.here hx rfl (pc0 := 51) (pc' := 8) rfl (hb hby d2_51) (by decide) (by decide) k_) ?_
      show own_Go p e below _ T0 (mkF m 8 #[oR a, oI (2 : Int32), oF tb, oF d1, oD x4, .second, oI (2 : Int32), oF d1] [])
      refine own_by (fun t_ k_ => XS.iload X0.here hx rfl (hb hby d2_8) rfl  k_) ?_
      show own_Go p e below _ T0 (mkF m 10 #[oR a, oI (2 : Int32), oF tb, oF d1, oD x4, .second, oI (2 : Int32), oF d1] [(.int (2 : Int32))])
      refine own_by (fun t_ k_ => XS.iloadN X0.here hx rfl (hb hby d2_10) rfl  k_) ?_
      show own_Go p e below _ T0 (mkF m 11 #[oR a, oI (2 : Int32), oF tb, oF d1, oD x4, .second, oI (2 : Int32), oF d1] [(.int (2 : Int32)), (.int (2 : Int32))])
      refine own_by (fun t_ k_ => XS.icmpYes X0.here hx rfl (pc0 := 11) (pc' := 54) rfl (hb hby d2_11) rfl (XT.ii_ge_t (by decide)) (by decide) (by decide) k_) ?_
      show own_Go p e below _ T0 (mkF m 54 #[oR a, oI (2 : Int32), oF tb, oF d1, oD x4, .second, oI (2 : Int32), oF d1] [])
      refine own_by (fun t_ k_ => XS.floadN X0.here hx rfl (hb hby d2_54) rfl  k_) ?_
      show own_Go p e below _ T0 (mkF m 55 #[oR a, oI (2 : Int32), oF tb, oF d1, oD x4, .second, oI (2 : Int32), oF d1] [(.float d1)])
      have D24 := own_D_f2d F1 (by omega) (by decide) (by decide)
      refine own_by (fun t_ k_ => XS.f2dS X0.here hx rfl (hb hby d2_55) rfl (own_D_no D24) rfl k_) ?_
      show own_Go p e below _ T0 (mkF m 56 #[oR a, oI (2 : Int32), oF tb, oF d1, oD x4, .second, oI (2 : Int32), oF d1] [(.double (FP.f2d d1))])
      generalize (FP.f2d d1) = x5 at D24 ⊢
      show own_Go p e below _ T0 (mkF m 56 #[oR a, oI (2 : Int32), oF tb, oF d1, oD x4, .second, oI (2 : Int32), oF d1] [(.double x5)])
      refine own_by (fun t_ k_ => XS.floadN X0.here hx rfl (hb hby d2_56) rfl  k_) ?_
      show own_Go p e below _ T0 (mkF m 57 #[oR a, oI (2 : Int32), oF tb, oF d1, oD x4, .second, oI (2 : Int32), oF d1] [(.float tb), (.double x5)])
      have D25 := own_D_f2d Ft (by omega) (by decide) (by decide)
      refine own_by (fun t_ k_ => XS.f2dS X0.here hx rfl (hb hby d2_57) rfl (own_D_no D25) rfl k_) ?_
      show own_Go p e below _ T0 (mkF m 58 #[oR a, oI (2 : Int32), oF tb, oF d1, oD x4, .second, oI (2 : Int32), oF d1] [(.double (FP.f2d tb)), (.double x5)])
      generalize (FP.f2d tb) = x6 at D25 ⊢
      show own_Go p e below _ T0 (mkF m 58 #[oR a, oI (2 : Int32), oF tb, oF d1, oD x4, .second, oI (2 : Int32), oF d1] [(.double x6), (.double x5)])
      refine own_by (fun t_ k_ => XS.dload X0.here hx rfl (hb hby d2_58) rfl  k_) ?_
      show own_Go p e below _ T0 (mkF m 60 #[oR a, oI (2 : Int32), oF tb, oF d1, oD x4, .second, oI (2 : Int32), oF d1] [(.double x4), (.double x6), (.double x5)])
      have hsm := own_small (o := ((0 + V0) + 0)) K1 K2 (by omega) (by omega)
      have D26 := own_D_mul (l := 0) D25 D23 (by omega) (by decide) (by decide)
      refine own_by (fun t_ k_ => XS.dmulS X0.here hx rfl (hb hby d2_60) rfl (own_D_no D26) rfl k_) ?_
      show own_Go p e below _ T0 (mkF m 61 #[oR a, oI (2 : Int32), oF tb, oF d1, oD x4, .second, oI (2 : Int32), oF d1] [(.double (FP.dmul x6 x4)), (.double x5)])
      generalize (FP.dmul x6 x4) = x7 at D26 ⊢
      show own_Go p e below _ T0 (mkF m 61 #[oR a, oI (2 : Int32), oF tb, oF d1, oD x4, .second, oI (2 : Int32), oF d1] [(.double x7), (.double x5)])
      have D27 := own_D_add (own_D_up D24 3) D26 (by simp only [show ((2 ^ 3 : Nat) : Int) = 8 from rfl]; omega) (by decide) (by decide)
      refine own_by (fun t_ k_ => XS.daddS X0.here hx rfl (hb hby d2_61) rfl (own_D_no D27) rfl k_) ?_
      show own_Go p e below _ T0 (mkF m 62 #[oR a, oI (2 : Int32), oF tb, oF d1, oD x4, .second, oI (2 : Int32), oF d1] [(.double (FP.dadd x5 x7))])
      generalize (FP.dadd x5 x7) = x8 at D27 ⊢
      show own_Go p e below _ T0 (mkF m 62 #[oR a, oI (2 : Int32), oF tb, oF d1, oD x4, .second, oI (2 : Int32), oF d1] [(.double x8)])
      have D28 := own_F_d2f D27 (by simp only [show ((2 ^ 3 : Nat) : Int) = 8 from rfl]; omega) (by decide) (by decide)
      refine own_by (fun t_ k_ => XS.d2fS X0.here hx rfl (hb hby d2_62) rfl (own_F_no D28) rfl k_) ?_
      show own_Go p e below _ T0 (mkF m 63 #[oR a, oI (2 : Int32), oF tb, oF d1, oD x4, .second, oI (2 : Int32), oF d1] [(.float (FP.d2f x8))])
      generalize (FP.d2f x8) = r at D28 ⊢
      show own_Go p e below _ T0 (mkF m 63 #[oR a, oI (2 : Int32), oF tb, oF d1, oD x4, .second, oI (2 : Int32), oF d1] [(.float r)])
      exact own_retF X0 hx hlk hret (hb hby d2_63) (by decide) (by decide) (⟨⟨r, V1, ((0 + V0) + 0), rfl, D28, by omega, by omega⟩, e0, rfl⟩)
    · refine own_by (fun t_ k_ => XS.ifYes X0.here hx rfl (pc0 := 24) (pc' := 40) rfl (hb hby d2_24) rfl (XT.i0_le_t c24_20) (by decide) (by decide) k_) ?_
      show own_Go p e below _ T0 (mkF m 40 #[oR a, oI (2 : Int32), oF tb, oF FP.fconst0, oD x2, .second, oI (1 : Int32), oF d1] [])
      have gc24_20 : ¬ 0 < V1 := fun z => c24_20 ((own_fgt F1 (own_F_zero 0)).mpr z)
      refine own_by (fun t_ k_ => XS.dload X0.here hx rfl (hb hby d2_40) rfl  k_) ?_
      show own_Go p e below _ T0 (mkF m 42 #[oR a, oI (2 : Int32), oF tb, oF FP.fconst0, oD x2, .second, oI (1 : Int32), oF d1] [(.double x2)])
      refine own_by (fun t_ k_ => XS.fload X0.here hx rfl (hb hby d2_42) rfl  k_) ?_
      show own_Go p e below _ T0 (mkF m 44 #[oR a, oI (2 : Int32), oF tb, oF FP.fconst0, oD x2, .second, oI (1 : Int32), oF d1] [(.float d1), (.double x2)])
      have D29 := own_D_f2d F1 (by omega) (by decide) (by decide)
      refine own_by (fun t_ k_ => XS.f2dS X0.here hx rfl (hb hby d2_44) rfl (own_D_no D29) rfl k_) ?_
      show own_Go p e below _ T0 (mkF m 45 #[oR a, oI (2 : Int32), oF tb, oF FP.fconst0, oD x2, .second, oI (1 : Int32), oF d1] [(.double (FP.f2d d1)), (.double x2)])
      generalize (FP.f2d d1) = x3 at D29 ⊢
      show own_Go p e below _ T0 (mkF m 45 #[oR a, oI (2 : Int32), oF tb, oF FP.fconst0, oD x2, .second, oI (1 : Int32), oF d1] [(.double x3), (.double x2)])
      have D30 := own_D_add D20 D29 (by omega) (by decide) (by decide)
      refine own_by (fun t_ k_ => XS.daddS X0.here hx rfl (hb hby d2_45) rfl (own_D_no D30) rfl k_) ?_
      show own_Go p e below _ T0 (mkF m 46 #[oR a, oI (2 : Int32), oF tb, oF FP.fconst0, oD x2, .second, oI (1 : Int32), oF d1] [(.double (FP.dadd x2 x3))])
      generalize (FP.dadd x2 x3) = x4 at D30 ⊢
      show own_Go p e below _ T0 (mkF m 46 #[oR a, oI (2 : Int32), oF tb, oF FP.fconst0, oD x2, .second, oI (1 : Int32), oF d1] [(.double x4)])
      refine own_by (fun t_ k_ => XS.dstore X0.here hx rfl (hb hby d2_46) rfl (l' := #[oR a, oI (2 : Int32), oF tb, oF FP.fconst0, oD x4, .second, oI (1 : Int32), oF d1]) rfl k_) ?_
      show own_Go p e below _ T0 (mkF m 48 #[oR a, oI (2 : Int32), oF tb, oF FP.fconst0, oD x4, .second, oI (1 : Int32), oF d1] [])
      refine own_by (fun t_ k_ => XT.iincV X0.here hx rfl (1 : Int32) (hb hby d2_48) (by decide) rfl (l' := #[oR a, oI (2 : Int32), oF tb, oF FP.fconst0, oD x4, .second, oI ((1 : Int32) + (1 : Int32)), oF d1]) rfl k_) ?_
      show own_Go p e below _ T0 (mkF m 51 #[oR a, oI (2 : Int32), oF tb, oF FP.fconst0, oD x4, .second, oI ((1 : Int32) + (1 : Int32)), oF d1] [])
      rw [show ((1 : Int32) + (1 : Int32)) = (2 : Int32) by decide]
      show own_Go p e below _ T0 (mkF m 51 #[oR a, oI (2 : Int32), oF tb, oF FP.fconst0, oD x4, .second, oI (2 : Int32), oF d1] [])
      refine own_by (fun t_ k_ => XS.goto X0.here hx rfl (pc0 := 51) (pc' := 8) rfl (hb hby d2_51) (by decide) (by decide) k_) ?_
      show own_Go p e below _ T0 (mkF m 8 #[oR a, oI (2 : Int32), oF tb, oF FP.fconst0, oD x4, .second, oI (2 : Int32), oF d1] [])
      refine own_by (fun t_ k_ => XS.iload X0.here hx rfl (hb hby d2_8) rfl  k_) ?_
      show own_Go p e below _ T0 (mkF m 10 #[oR a, oI (2 : Int32), oF tb, oF FP.fconst0, oD x4, .second, oI (2 : Int32), oF d1] [(.int (2 : Int32))])
      refine own_by (fun t_ k_ => XS.iloadN X0.here hx rfl (hb hby d2_10) rfl  k_) ?_
      show own_Go p e below _ T0 (mkF m 11 #[oR a, oI (2 : Int32), oF tb, oF FP.fconst0, oD x4, .second, oI (2 : Int32), oF d1] [(.int (2 : Int32)), (.int (2 : Int32))])
      refine own_by (fun t_ k_ => XS.icmpYes X0.here hx rfl (pc0 := 11) (pc' := 54) rfl (hb hby d2_11) rfl (XT.ii_ge_t (by decide)) (by decide) (by decide) k_) ?_
      show own_Go p e below _ T0 (mkF m 54 #[oR a, oI (2 : Int32), oF tb, oF FP.fconst0, oD x4, .second, oI (2 : Int32), oF d1] [])
      refine own_by (fun t_ k_ => XS.floadN X0.here hx rfl (hb hby d2_54) rfl  k_) ?_
      show own_Go p e below _ T0 (mkF m 55 #[oR a, oI (2 : Int32), oF tb, oF FP.fconst0, oD x4, .second, oI (2 : Int32), oF d1] [(.float FP.fconst0)])
      have D31 := own_D_f2d (own_F_zero 0) (by omega) (by decide) (by decide)
      refine own_by (fun t_ k_ => XS.f2dS X0.here hx rfl (hb hby d2_55) rfl (own_D_no D31) rfl k_) ?_
      show own_Go p e below _ T0 (mkF m 56 #[oR a, oI (2 : Int32), oF tb, oF FP.fconst0, oD x4, .second, oI (2 : Int32), oF d1] [(.double (FP.f2d FP.fconst0))])
      generalize (FP.f2d FP.fconst0) = x5 at D31 ⊢
      show own_Go p e below _ T0 (mkF m 56 #[oR a, oI (2 : Int32), oF tb, oF FP.fconst0, oD x4, .second, oI (2 : Int32), oF d1] [(.double x5)])
      refine own_by (fun t_ k_ => XS.floadN X0.here hx rfl (hb hby d2_56) rfl  k_) ?_
      show own_Go p e below _ T0 (mkF m 57 #[oR a, oI (2 : Int32), oF tb, oF FP.fconst0, oD x4, .second, oI (2 : Int32), oF d1] [(.float tb), (.double x5)])
      have D32 := own_D_f2d Ft (by omega) (by decide) (by decide)
      refine own_by (fun t_ k_ => XS.f2dS X0.here hx rfl (hb hby d2_57) rfl (own_D_no D32) rfl k_) ?_
      show own_Go p e below _ T0 (mkF m 58 #[oR a, oI (2 : Int32), oF tb, oF FP.fconst0, oD x4, .second, oI (2 : Int32), oF d1] [(.double (FP.f2d tb)), (.double x5)])
      generalize (FP.f2d tb) = x6 at D32 ⊢
      show own_Go p e below _ T0 (mkF m 58 #[oR a, oI (2 : Int32), oF tb, oF FP.fconst0, oD x4, .second, oI (2 : Int32), oF d1] [(.double x6), (.double x5)])
      refine own_by (fun t_ k_ => XS.dload X0.here hx rfl (hb hby d2_58) rfl  k_) ?_
      show own_Go p e below _ T0 (mkF m 60 #[oR a, oI (2 : Int32), oF tb, oF FP.fconst0, oD x4, .second, oI (2 : Int32), oF d1] [(.double x4), (.double x6), (.double x5)])
      have hsm := own_small (o := ((0 + V0) + V1)) K1 K2 (by omega) (by omega)
      have D33 := own_D_mul (l := 0) D32 D30 (by omega) (by decide) (by decide)
      refine own_by (fun t_ k_ => XS.dmulS X0.here hx rfl (hb hby d2_60) rfl (own_D_no D33) rfl k_) ?_
      show own_Go p e below _ T0 (mkF m 61 #[oR a, oI (2 : Int32), oF tb, oF FP.fconst0, oD x4, .second, oI (2 : Int32), oF d1] [(.double (FP.dmul x6 x4)), (.double x5)])
      generalize (FP.dmul x6 x4) = x7 at D33 ⊢
      show own_Go p e below _ T0 (mkF m 61 #[oR a, oI (2 : Int32), oF tb, oF FP.fconst0, oD x4, .second, oI (2 : Int32), oF d1] [(.double x7), (.double x5)])
      have D34 := own_D_add (own_D_up D31 3) D33 (by simp only [show ((2 ^ 3 : Nat) : Int) = 8 from rfl]; omega) (by decide) (by decide)
      refine own_by (fun t_ k_ => XS.daddS X0.here hx rfl (hb hby d2_61) rfl (own_D_no D34) rfl k_) ?_
      show own_Go p e below _ T0 (mkF m 62 #[oR a, oI (2 : Int32), oF tb, oF FP.fconst0, oD x4, .second, oI (2 : Int32), oF d1] [(.double (FP.dadd x5 x7))])
      generalize (FP.dadd x5 x7) = x8 at D34 ⊢
      show own_Go p e below _ T0 (mkF m 62 #[oR a, oI (2 : Int32), oF tb, oF FP.fconst0, oD x4, .second, oI (2 : Int32), oF d1] [(.double x8)])
      have D35 := own_F_d2f D34 (by simp only [show ((2 ^ 3 : Nat) : Int) = 8 from rfl]; omega) (by decide) (by decide)
      refine own_by (fun t_ k_ => XS.d2fS X0.here hx rfl (hb hby d2_62) rfl (own_F_no D35) rfl k_) ?_
      show own_Go p e below _ T0 (mkF m 63 #[oR a, oI (2 : Int32), oF tb, oF FP.fconst0, oD x4, .second, oI (2 : Int32), oF d1] [(.float (FP.d2f x8))])
      generalize (FP.d2f x8) = r at D35 ⊢
      show own_Go p e below _ T0 (mkF m 63 #[oR a, oI (2 : Int32), oF tb, oF FP.fconst0, oD x4, .second, oI (2 : Int32), oF d1] [(.float r)])
      exact own_retF X0 hx hlk hret (hb hby d2_63) (by decide) (by decide) (⟨⟨r, 0, ((0 + V0) + V1), rfl, D35, by omega, by omega⟩, e0, rfl⟩)
set_option maxRecDepth 65536 in
set_option maxHeartbeats 40000000 in
theorem own_bp3 (l : Launch) (Z : State) (a0 : Array Value) (hw : ∀ d ∈ tables_1, d.before a0 Z = true) (a : Addr) (kA : ClassId) (kk : Int) (tb d0 d1 d2 : UInt32) (V0 V1 V2 : Int) (h0 : Heap) (V : own_A Z h0 a .float kA [(.float d0), (.float d1), (.float d2)]) (Ft : own_F 3 kk tb) (K1 : 0 ≤ kk) (K2 : kk ≤ 8) (F0 : own_F 0 V0 d0) (F1 : own_F 0 V1 d1) (F2 : own_F 0 V2 d2) (B0 : 0 ≤ V0 ∧ V0 ≤ 65535) (B1 : 0 ≤ V1 ∧ V1 ≤ 65535) (B2 : 0 ≤ V2 ∧ V2 ≤ 65535) :
    own_Met l (⟨"com/example/weighted_terms/weightedterms/search/Scores", "bestPlus", "([FIF)F"⟩ : MethodName) prog_41_method_4_code 8 (some .float) [] ({ frames := 0, cells := 0, slots := 0, locals := 0 } : Room) Z #[(.ref a), (.int (3 : Int32)), (.float tb)] h0 (fun v h L => (∃ r B O, v = some (.float r) ∧ own_F 3 (B * ((2 ^ 3 : Nat) : Int) + kk * O) r ∧ B = (max (max (max 0 V0) V1) V2) ∧ B + O = 0 + V0 + V1 + V2) ∧ h = h0 ∧ L = []) := by
  refine own_enter (plainFor_of_name pn_0) ?_
  intro p e s m below meth c T0 hx hby hml hret hlk hown hnm hZ X0 e0
  refine own_at (g' := (mkF m 0 #[oR a, oI (3 : Int32), oF tb, .unset, .unset, .unset, .unset, .unset] [])) (by first | (simp [entryFrame, mkF, argsToLocals, Value.category]; done) | rfl) ?_
  show own_Go p e below _ T0 (mkF m 0 #[oR a, oI (3 : Int32), oF tb, .unset, .unset, .unset, .unset, .unset] [])
  refine own_by (fun t_ k_ => XS.fconst0 X0.here hx rfl (hb hby d2_0) rfl k_) ?_
  show own_Go p e below _ T0 (mkF m 1 #[oR a, oI (3 : Int32), oF tb, .unset, .unset, .unset, .unset, .unset] [(.float FP.fconst0)])
  refine own_by (fun t_ k_ => XS.fstoreN X0.here hx rfl (hb hby d2_1) rfl (l' := #[oR a, oI (3 : Int32), oF tb, oF FP.fconst0, .unset, .unset, .unset, .unset]) rfl k_) ?_
  show own_Go p e below _ T0 (mkF m 2 #[oR a, oI (3 : Int32), oF tb, oF FP.fconst0, .unset, .unset, .unset, .unset] [])
  refine own_by (fun t_ k_ => XS.dconst0 X0.here hx rfl (hb hby d2_2) rfl k_) ?_
  show own_Go p e below _ T0 (mkF m 3 #[oR a, oI (3 : Int32), oF tb, oF FP.fconst0, .unset, .unset, .unset, .unset] [(.double FP.dconst0)])
  refine own_by (fun t_ k_ => XS.dstore X0.here hx rfl (hb hby d2_3) rfl (l' := #[oR a, oI (3 : Int32), oF tb, oF FP.fconst0, oD FP.dconst0, .second, .unset, .unset]) rfl k_) ?_
  show own_Go p e below _ T0 (mkF m 5 #[oR a, oI (3 : Int32), oF tb, oF FP.fconst0, oD FP.dconst0, .second, .unset, .unset] [])
  refine own_by (fun t_ k_ => XT.iconstV X0.here hx rfl (0 : Int32) (hb hby d2_5) (by decide) k_) ?_
  show own_Go p e below _ T0 (mkF m 6 #[oR a, oI (3 : Int32), oF tb, oF FP.fconst0, oD FP.dconst0, .second, .unset, .unset] [(.int (0 : Int32))])
  refine own_by (fun t_ k_ => XS.istore X0.here hx rfl (hb hby d2_6) rfl (l' := #[oR a, oI (3 : Int32), oF tb, oF FP.fconst0, oD FP.dconst0, .second, oI (0 : Int32), .unset]) rfl k_) ?_
  show own_Go p e below _ T0 (mkF m 8 #[oR a, oI (3 : Int32), oF tb, oF FP.fconst0, oD FP.dconst0, .second, oI (0 : Int32), .unset] [])
  refine own_by (fun t_ k_ => XS.iload X0.here hx rfl (hb hby d2_8) rfl  k_) ?_
  show own_Go p e below _ T0 (mkF m 10 #[oR a, oI (3 : Int32), oF tb, oF FP.fconst0, oD FP.dconst0, .second, oI (0 : Int32), .unset] [(.int (0 : Int32))])
  refine own_by (fun t_ k_ => XS.iloadN X0.here hx rfl (hb hby d2_10) rfl  k_) ?_
  show own_Go p e below _ T0 (mkF m 11 #[oR a, oI (3 : Int32), oF tb, oF FP.fconst0, oD FP.dconst0, .second, oI (0 : Int32), .unset] [(.int (3 : Int32)), (.int (0 : Int32))])
  refine own_by (fun t_ k_ => XS.icmpNo X0.here hx rfl (hb hby d2_11) rfl (XT.ii_ge_f (by decide)) k_) ?_
  show own_Go p e below _ T0 (mkF m 14 #[oR a, oI (3 : Int32), oF tb, oF FP.fconst0, oD FP.dconst0, .second, oI (0 : Int32), .unset] [])
  refine own_by (fun t_ k_ => XS.aloadN X0.here hx rfl (hb hby d2_14) rfl rfl  k_) ?_
  show own_Go p e below _ T0 (mkF m 15 #[oR a, oI (3 : Int32), oF tb, oF FP.fconst0, oD FP.dconst0, .second, oI (0 : Int32), .unset] [(.ref a)])
  refine own_by (fun t_ k_ => XS.iload X0.here hx rfl (hb hby d2_15) rfl  k_) ?_
  show own_Go p e below _ T0 (mkF m 17 #[oR a, oI (3 : Int32), oF tb, oF FP.fconst0, oD FP.dconst0, .second, oI (0 : Int32), .unset] [(.int (0 : Int32)), (.ref a)])
  refine own_ldF X0 hx hZ e0 V 0 (by decide) (by decide) (v := (.float d0)) rfl (hb hby d2_17) ?_
  show own_Go p e below _ T0 (mkF m 18 #[oR a, oI (3 : Int32), oF tb, oF FP.fconst0, oD FP.dconst0, .second, oI (0 : Int32), .unset] [(.float d0)])
  refine own_by (fun t_ k_ => XS.fstore X0.here hx rfl (hb hby d2_18) rfl (l' := #[oR a, oI (3 : Int32), oF tb, oF FP.fconst0, oD FP.dconst0, .second, oI (0 : Int32), oF d0]) rfl k_) ?_
  show own_Go p e below _ T0 (mkF m 20 #[oR a, oI (3 : Int32), oF tb, oF FP.fconst0, oD FP.dconst0, .second, oI (0 : Int32), oF d0] [])
  refine own_by (fun t_ k_ => XS.fload X0.here hx rfl (hb hby d2_20) rfl  k_) ?_
  show own_Go p e below _ T0 (mkF m 22 #[oR a, oI (3 : Int32), oF tb, oF FP.fconst0, oD FP.dconst0, .second, oI (0 : Int32), oF d0] [(.float d0)])
  refine own_by (fun t_ k_ => XS.floadN X0.here hx rfl (hb hby d2_22) rfl  k_) ?_
  show own_Go p e below _ T0 (mkF m 23 #[oR a, oI (3 : Int32), oF tb, oF FP.fconst0, oD FP.dconst0, .second, oI (0 : Int32), oF d0] [(.float FP.fconst0), (.float d0)])
  refine own_by (fun t_ k_ => XS.fcmpS X0.here hx rfl (hb hby d2_23) rfl rfl k_) ?_
  show own_Go p e below _ T0 (mkF m 24 #[oR a, oI (3 : Int32), oF tb, oF FP.fconst0, oD FP.dconst0, .second, oI (0 : Int32), oF d0] [(.int (cmpValue (FP.fcmp d0 FP.fconst0) .l))])
  by_cases c24_0 : (0 : Int32) < (cmpValue (FP.fcmp d0 FP.fconst0) .l)
  · refine own_by (fun t_ k_ => XS.ifNo X0.here hx rfl (hb hby d2_24) rfl (XT.i0_le_f c24_0) k_) ?_
    show own_Go p e below _ T0 (mkF m 27 #[oR a, oI (3 : Int32), oF tb, oF FP.fconst0, oD FP.dconst0, .second, oI (0 : Int32), oF d0] [])
    have gc24_0 : 0 < V0 := (own_fgt F0 (own_F_zero 0)).mp c24_0
    refine own_by (fun t_ k_ => XS.dload X0.here hx rfl (hb hby d2_27) rfl  k_) ?_
    show own_Go p e below _ T0 (mkF m 29 #[oR a, oI (3 : Int32), oF tb, oF FP.fconst0, oD FP.dconst0, .second, oI (0 : Int32), oF d0] [(.double FP.dconst0)])
    refine own_by (fun t_ k_ => XS.floadN X0.here hx rfl (hb hby d2_29) rfl  k_) ?_
    show own_Go p e below _ T0 (mkF m 30 #[oR a, oI (3 : Int32), oF tb, oF FP.fconst0, oD FP.dconst0, .second, oI (0 : Int32), oF d0] [(.float FP.fconst0), (.double FP.dconst0)])
    have D2 := own_D_f2d (own_F_zero 0) (by omega) (by decide) (by decide)
    refine own_by (fun t_ k_ => XS.f2dS X0.here hx rfl (hb hby d2_30) rfl (own_D_no D2) rfl k_) ?_
    show own_Go p e below _ T0 (mkF m 31 #[oR a, oI (3 : Int32), oF tb, oF FP.fconst0, oD FP.dconst0, .second, oI (0 : Int32), oF d0] [(.double (FP.f2d FP.fconst0)), (.double FP.dconst0)])
    generalize (FP.f2d FP.fconst0) = x1 at D2 ⊢
    show own_Go p e below _ T0 (mkF m 31 #[oR a, oI (3 : Int32), oF tb, oF FP.fconst0, oD FP.dconst0, .second, oI (0 : Int32), oF d0] [(.double x1), (.double FP.dconst0)])
    have D3 := own_D_add (own_D_zero 0) D2 (by omega) (by decide) (by decide)
    refine own_by (fun t_ k_ => XS.daddS X0.here hx rfl (hb hby d2_31) rfl (own_D_no D3) rfl k_) ?_
    show own_Go p e below _ T0 (mkF m 32 #[oR a, oI (3 : Int32), oF tb, oF FP.fconst0, oD FP.dconst0, .second, oI (0 : Int32), oF d0] [(.double (FP.dadd FP.dconst0 x1))])
    generalize (FP.dadd FP.dconst0 x1) = x2 at D3 ⊢
    show own_Go p e below _ T0 (mkF m 32 #[oR a, oI (3 : Int32), oF tb, oF FP.fconst0, oD FP.dconst0, .second, oI (0 : Int32), oF d0] [(.double x2)])
    refine own_by (fun t_ k_ => XS.dstore X0.here hx rfl (hb hby d2_32) rfl (l' := #[oR a, oI (3 : Int32), oF tb, oF FP.fconst0, oD x2, .second, oI (0 : Int32), oF d0]) rfl k_) ?_
    show own_Go p e below _ T0 (mkF m 34 #[oR a, oI (3 : Int32), oF tb, oF FP.fconst0, oD x2, .second, oI (0 : Int32), oF d0] [])
    refine own_by (fun t_ k_ => XS.fload X0.here hx rfl (hb hby d2_34) rfl  k_) ?_
    show own_Go p e below _ T0 (mkF m 36 #[oR a, oI (3 : Int32), oF tb, oF FP.fconst0, oD x2, .second, oI (0 : Int32), oF d0] [(.float d0)])
    refine own_by (fun t_ k_ => XS.fstoreN X0.here hx rfl (hb hby d2_36) rfl (l' := #[oR a, oI (3 : Int32), oF tb, oF d0, oD x2, .second, oI (0 : Int32), oF d0]) rfl k_) ?_
    show own_Go p e below _ T0 (mkF m 37 #[oR a, oI (3 : Int32), oF tb, oF d0, oD x2, .second, oI (0 : Int32), oF d0] [])
    refine own_by (fun t_ k_ => XS.goto X0.here hx rfl (pc0 := 37) (pc' := 48) rfl (hb hby d2_37) (by decide) (by decide) k_) ?_
    show own_Go p e below _ T0 (mkF m 48 #[oR a, oI (3 : Int32), oF tb, oF d0, oD x2, .second, oI (0 : Int32), oF d0] [])
    refine own_by (fun t_ k_ => XT.iincV X0.here hx rfl (1 : Int32) (hb hby d2_48) (by decide) rfl (l' := #[oR a, oI (3 : Int32), oF tb, oF d0, oD x2, .second, oI ((0 : Int32) + (1 : Int32)), oF d0]) rfl k_) ?_
    show own_Go p e below _ T0 (mkF m 51 #[oR a, oI (3 : Int32), oF tb, oF d0, oD x2, .second, oI ((0 : Int32) + (1 : Int32)), oF d0] [])
    rw [show ((0 : Int32) + (1 : Int32)) = (1 : Int32) by decide]
    show own_Go p e below _ T0 (mkF m 51 #[oR a, oI (3 : Int32), oF tb, oF d0, oD x2, .second, oI (1 : Int32), oF d0] [])
    refine own_by (fun t_ k_ => XS.goto X0.here hx rfl (pc0 := 51) (pc' := 8) rfl (hb hby d2_51) (by decide) (by decide) k_) ?_
    show own_Go p e below _ T0 (mkF m 8 #[oR a, oI (3 : Int32), oF tb, oF d0, oD x2, .second, oI (1 : Int32), oF d0] [])
    refine own_by (fun t_ k_ => XS.iload X0.here hx rfl (hb hby d2_8) rfl  k_) ?_
    show own_Go p e below _ T0 (mkF m 10 #[oR a, oI (3 : Int32), oF tb, oF d0, oD x2, .second, oI (1 : Int32), oF d0] [(.int (1 : Int32))])
    refine own_by (fun t_ k_ => XS.iloadN X0.here hx rfl (hb hby d2_10) rfl  k_) ?_
    show own_Go p e below _ T0 (mkF m 11 #[oR a, oI (3 : Int32), oF tb, oF d0, oD x2, .second, oI (1 : Int32), oF d0] [(.int (3 : Int32)), (.int (1 : Int32))])
    refine own_by (fun t_ k_ => XS.icmpNo X0.here hx rfl (hb hby d2_11) rfl (XT.ii_ge_f (by decide)) k_) ?_
    show own_Go p e below _ T0 (mkF m 14 #[oR a, oI (3 : Int32), oF tb, oF d0, oD x2, .second, oI (1 : Int32), oF d0] [])
    refine own_by (fun t_ k_ => XS.aloadN X0.here hx rfl (hb hby d2_14) rfl rfl  k_) ?_
    show own_Go p e below _ T0 (mkF m 15 #[oR a, oI (3 : Int32), oF tb, oF d0, oD x2, .second, oI (1 : Int32), oF d0] [(.ref a)])
    refine own_by (fun t_ k_ => XS.iload X0.here hx rfl (hb hby d2_15) rfl  k_) ?_
    show own_Go p e below _ T0 (mkF m 17 #[oR a, oI (3 : Int32), oF tb, oF d0, oD x2, .second, oI (1 : Int32), oF d0] [(.int (1 : Int32)), (.ref a)])
    refine own_ldF X0 hx hZ e0 V 1 (by decide) (by decide) (v := (.float d1)) rfl (hb hby d2_17) ?_
    show own_Go p e below _ T0 (mkF m 18 #[oR a, oI (3 : Int32), oF tb, oF d0, oD x2, .second, oI (1 : Int32), oF d0] [(.float d1)])
    refine own_by (fun t_ k_ => XS.fstore X0.here hx rfl (hb hby d2_18) rfl (l' := #[oR a, oI (3 : Int32), oF tb, oF d0, oD x2, .second, oI (1 : Int32), oF d1]) rfl k_) ?_
    show own_Go p e below _ T0 (mkF m 20 #[oR a, oI (3 : Int32), oF tb, oF d0, oD x2, .second, oI (1 : Int32), oF d1] [])
    refine own_by (fun t_ k_ => XS.fload X0.here hx rfl (hb hby d2_20) rfl  k_) ?_
    show own_Go p e below _ T0 (mkF m 22 #[oR a, oI (3 : Int32), oF tb, oF d0, oD x2, .second, oI (1 : Int32), oF d1] [(.float d1)])
    refine own_by (fun t_ k_ => XS.floadN X0.here hx rfl (hb hby d2_22) rfl  k_) ?_
    show own_Go p e below _ T0 (mkF m 23 #[oR a, oI (3 : Int32), oF tb, oF d0, oD x2, .second, oI (1 : Int32), oF d1] [(.float d0), (.float d1)])
    refine own_by (fun t_ k_ => XS.fcmpS X0.here hx rfl (hb hby d2_23) rfl rfl k_) ?_
    show own_Go p e below _ T0 (mkF m 24 #[oR a, oI (3 : Int32), oF tb, oF d0, oD x2, .second, oI (1 : Int32), oF d1] [(.int (cmpValue (FP.fcmp d1 d0) .l))])
    by_cases c24_3 : (0 : Int32) < (cmpValue (FP.fcmp d1 d0) .l)
    · refine own_by (fun t_ k_ => XS.ifNo X0.here hx rfl (hb hby d2_24) rfl (XT.i0_le_f c24_3) k_) ?_
      show own_Go p e below _ T0 (mkF m 27 #[oR a, oI (3 : Int32), oF tb, oF d0, oD x2, .second, oI (1 : Int32), oF d1] [])
      have gc24_3 : V0 < V1 := (own_fgt F1 F0).mp c24_3
      refine own_by (fun t_ k_ => XS.dload X0.here hx rfl (hb hby d2_27) rfl  k_) ?_
      show own_Go p e below _ T0 (mkF m 29 #[oR a, oI (3 : Int32), oF tb, oF d0, oD x2, .second, oI (1 : Int32), oF d1] [(.double x2)])
      refine own_by (fun t_ k_ => XS.floadN X0.here hx rfl (hb hby d2_29) rfl  k_) ?_
      show own_Go p e below _ T0 (mkF m 30 #[oR a, oI (3 : Int32), oF tb, oF d0, oD x2, .second, oI (1 : Int32), oF d1] [(.float d0), (.double x2)])
      have D5 := own_D_f2d F0 (by omega) (by decide) (by decide)
      refine own_by (fun t_ k_ => XS.f2dS X0.here hx rfl (hb hby d2_30) rfl (own_D_no D5) rfl k_) ?_
      show own_Go p e below _ T0 (mkF m 31 #[oR a, oI (3 : Int32), oF tb, oF d0, oD x2, .second, oI (1 : Int32), oF d1] [(.double (FP.f2d d0)), (.double x2)])
      generalize (FP.f2d d0) = x3 at D5 ⊢
      show own_Go p e below _ T0 (mkF m 31 #[oR a, oI (3 : Int32), oF tb, oF d0, oD x2, .second, oI (1 : Int32), oF d1] [(.double x3), (.double x2)])
      have D6 := own_D_add D3 D5 (by omega) (by decide) (by decide)
      refine own_by (fun t_ k_ => XS.daddS X0.here hx rfl (hb hby d2_31) rfl (own_D_no D6) rfl k_) ?_
      show own_Go p e below _ T0 (mkF m 32 #[oR a, oI (3 : Int32), oF tb, oF d0, oD x2, .second, oI (1 : Int32), oF d1] [(.double (FP.dadd x2 x3))])
      generalize (FP.dadd x2 x3) = x4 at D6 ⊢
      show own_Go p e below _ T0 (mkF m 32 #[oR a, oI (3 : Int32), oF tb, oF d0, oD x2, .second, oI (1 : Int32), oF d1] [(.double x4)])
      refine own_by (fun t_ k_ => XS.dstore X0.here hx rfl (hb hby d2_32) rfl (l' := #[oR a, oI (3 : Int32), oF tb, oF d0, oD x4, .second, oI (1 : Int32), oF d1]) rfl k_) ?_
      show own_Go p e below _ T0 (mkF m 34 #[oR a, oI (3 : Int32), oF tb, oF d0, oD x4, .second, oI (1 : Int32), oF d1] [])
      refine own_by (fun t_ k_ => XS.fload X0.here hx rfl (hb hby d2_34) rfl  k_) ?_
      show own_Go p e below _ T0 (mkF m 36 #[oR a, oI (3 : Int32), oF tb, oF d0, oD x4, .second, oI (1 : Int32), oF d1] [(.float d1)])
      refine own_by (fun t_ k_ => XS.fstoreN X0.here hx rfl (hb hby d2_36) rfl (l' := #[oR a, oI (3 : Int32), oF tb, oF d1, oD x4, .second, oI (1 : Int32), oF d1]) rfl k_) ?_
      show own_Go p e below _ T0 (mkF m 37 #[oR a, oI (3 : Int32), oF tb, oF d1, oD x4, .second, oI (1 : Int32), oF d1] [])
      refine own_by (fun t_ k_ => XS.goto X0.here hx rfl (pc0 := 37) (pc' := 48) rfl (hb hby d2_37) (by decide) (by decide) k_) ?_
      show own_Go p e below _ T0 (mkF m 48 #[oR a, oI (3 : Int32), oF tb, oF d1, oD x4, .second, oI (1 : Int32), oF d1] [])
      refine own_by (fun t_ k_ => XT.iincV X0.here hx rfl (1 : Int32) (hb hby d2_48) (by decide) rfl (l' := #[oR a, oI (3 : Int32), oF tb, oF d1, oD x4, .second, oI ((1 : Int32) + (1 : Int32)), oF d1]) rfl k_) ?_
      show own_Go p e below _ T0 (mkF m 51 #[oR a, oI (3 : Int32), oF tb, oF d1, oD x4, .second, oI ((1 : Int32) + (1 : Int32)), oF d1] [])
      rw [show ((1 : Int32) + (1 : Int32)) = (2 : Int32) by decide]
      show own_Go p e below _ T0 (mkF m 51 #[oR a, oI (3 : Int32), oF tb, oF d1, oD x4, .second, oI (2 : Int32), oF d1] [])
      refine own_by (fun t_ k_ => XS.goto X0.here hx rfl (pc0 := 51) (pc' := 8) rfl (hb hby d2_51) (by decide) (by decide) k_) ?_
      show own_Go p e below _ T0 (mkF m 8 #[oR a, oI (3 : Int32), oF tb, oF d1, oD x4, .second, oI (2 : Int32), oF d1] [])
      refine own_by (fun t_ k_ => XS.iload X0.here hx rfl (hb hby d2_8) rfl  k_) ?_
      show own_Go p e below _ T0 (mkF m 10 #[oR a, oI (3 : Int32), oF tb, oF d1, oD x4, .second, oI (2 : Int32), oF d1] [(.int (2 : Int32))])
      refine own_by (fun t_ k_ => XS.iloadN X0.here hx rfl (hb hby d2_10) rfl  k_) ?_
      show own_Go p e below _ T0 (mkF m 11 #[oR a, oI (3 : Int32), oF tb, oF d1, oD x4, .second, oI (2 : Int32), oF d1] [(.int (3 : Int32)), (.int (2 : Int32))])
      refine own_by (fun t_ k_ => XS.icmpNo X0.here hx rfl (hb hby d2_11) rfl (XT.ii_ge_f (by decide)) k_) ?_
      show own_Go p e below _ T0 (mkF m 14 #[oR a, oI (3 : Int32), oF tb, oF d1, oD x4, .second, oI (2 : Int32), oF d1] [])
      refine own_by (fun t_ k_ => XS.aloadN X0.here hx rfl (hb hby d2_14) rfl rfl  k_) ?_
      show own_Go p e below _ T0 (mkF m 15 #[oR a, oI (3 : Int32), oF tb, oF d1, oD x4, .second, oI (2 : Int32), oF d1] [(.ref a)])
      refine own_by (fun t_ k_ => XS.iload X0.here hx rfl (hb hby d2_15) rfl  k_) ?_
      show own_Go p e below _ T0 (mkF m 17 #[oR a, oI (3 : Int32), oF tb, oF d1, oD x4, .second, oI (2 : Int32), oF d1] [(.int (2 : Int32)), (.ref a)])
      refine own_ldF X0 hx hZ e0 V 2 (by decide) (by decide) (v := (.float d2)) rfl (hb hby d2_17) ?_
      show own_Go p e below _ T0 (mkF m 18 #[oR a, oI (3 : Int32), oF tb, oF d1, oD x4, .second, oI (2 : Int32), oF d1] [(.float d2)])
      refine own_by (fun t_ k_ => XS.fstore X0.here hx rfl (hb hby d2_18) rfl (l' := #[oR a, oI (3 : Int32), oF tb, oF d1, oD x4, .second, oI (2 : Int32), oF d2]) rfl k_) ?_
      show own_Go p e below _ T0 (mkF m 20 #[oR a, oI (3 : Int32), oF tb, oF d1, oD x4, .second, oI (2 : Int32), oF d2] [])
      refine own_by (fun t_ k_ => XS.fload X0.here hx rfl (hb hby d2_20) rfl  k_) ?_
      show own_Go p e below _ T0 (mkF m 22 #[oR a, oI (3 : Int32), oF tb, oF d1, oD x4, .second, oI (2 : Int32), oF d2] [(.float d2)])
      refine own_by (fun t_ k_ => XS.floadN X0.here hx rfl (hb hby d2_22) rfl  k_) ?_
      show own_Go p e below _ T0 (mkF m 23 #[oR a, oI (3 : Int32), oF tb, oF d1, oD x4, .second, oI (2 : Int32), oF d2] [(.float d1), (.float d2)])
      refine own_by (fun t_ k_ => XS.fcmpS X0.here hx rfl (hb hby d2_23) rfl rfl k_) ?_
      show own_Go p e below _ T0 (mkF m 24 #[oR a, oI (3 : Int32), oF tb, oF d1, oD x4, .second, oI (2 : Int32), oF d2] [(.int (cmpValue (FP.fcmp d2 d1) .l))])
      by_cases c24_6 : (0 : Int32) < (cmpValue (FP.fcmp d2 d1) .l)
      · refine own_by (fun t_ k_ => XS.ifNo X0.here hx rfl (hb hby d2_24) rfl (XT.i0_le_f c24_6) k_) ?_
        show own_Go p e below _ T0 (mkF m 27 #[oR a, oI (3 : Int32), oF tb, oF d1, oD x4, .second, oI (2 : Int32), oF d2] [])
        have gc24_6 : V1 < V2 := (own_fgt F2 F1).mp c24_6
        refine own_by (fun t_ k_ => XS.dload X0.here hx rfl (hb hby d2_27) rfl  k_) ?_
        show own_Go p e below _ T0 (mkF m 29 #[oR a, oI (3 : Int32), oF tb, oF d1, oD x4, .second, oI (2 : Int32), oF d2] [(.double x4)])
        refine own_by (fun t_ k_ => XS.floadN X0.here hx rfl (hb hby d2_29) rfl  k_) ?_
        show own_Go p e below _ T0 (mkF m 30 #[oR a, oI (3 : Int32), oF tb, oF d1, oD x4, .second, oI (2 : Int32), oF d2] [(.float d1), (.double x4)])
        have D8 := own_D_f2d F1 (by omega) (by decide) (by decide)
        refine own_by (fun t_ k_ => XS.f2dS X0.here hx rfl (hb hby d2_30) rfl (own_D_no D8) rfl k_) ?_
        show own_Go p e below _ T0 (mkF m 31 #[oR a, oI (3 : Int32), oF tb, oF d1, oD x4, .second, oI (2 : Int32), oF d2] [(.double (FP.f2d d1)), (.double x4)])
        generalize (FP.f2d d1) = x5 at D8 ⊢
        show own_Go p e below _ T0 (mkF m 31 #[oR a, oI (3 : Int32), oF tb, oF d1, oD x4, .second, oI (2 : Int32), oF d2] [(.double x5), (.double x4)])
        have D9 := own_D_add D6 D8 (by omega) (by decide) (by decide)
        refine own_by (fun t_ k_ => XS.daddS X0.here hx rfl (hb hby d2_31) rfl (own_D_no D9) rfl k_) ?_
        show own_Go p e below _ T0 (mkF m 32 #[oR a, oI (3 : Int32), oF tb, oF d1, oD x4, .second, oI (2 : Int32), oF d2] [(.double (FP.dadd x4 x5))])
        generalize (FP.dadd x4 x5) = x6 at D9 ⊢
        show own_Go p e below _ T0 (mkF m 32 #[oR a, oI (3 : Int32), oF tb, oF d1, oD x4, .second, oI (2 : Int32), oF d2] [(.double x6)])
        refine own_by (fun t_ k_ => XS.dstore X0.here hx rfl (hb hby d2_32) rfl (l' := #[oR a, oI (3 : Int32), oF tb, oF d1, oD x6, .second, oI (2 : Int32), oF d2]) rfl k_) ?_
        show own_Go p e below _ T0 (mkF m 34 #[oR a, oI (3 : Int32), oF tb, oF d1, oD x6, .second, oI (2 : Int32), oF d2] [])
        refine own_by (fun t_ k_ => XS.fload X0.here hx rfl (hb hby d2_34) rfl  k_) ?_
        show own_Go p e below _ T0 (mkF m 36 #[oR a, oI (3 : Int32), oF tb, oF d1, oD x6, .second, oI (2 : Int32), oF d2] [(.float d2)])
        refine own_by (fun t_ k_ => XS.fstoreN X0.here hx rfl (hb hby d2_36) rfl (l' := #[oR a, oI (3 : Int32), oF tb, oF d2, oD x6, .second, oI (2 : Int32), oF d2]) rfl k_) ?_
        show own_Go p e below _ T0 (mkF m 37 #[oR a, oI (3 : Int32), oF tb, oF d2, oD x6, .second, oI (2 : Int32), oF d2] [])
        refine own_by (fun t_ k_ => XS.goto X0.here hx rfl (pc0 := 37) (pc' := 48) rfl (hb hby d2_37) (by decide) (by decide) k_) ?_
        show own_Go p e below _ T0 (mkF m 48 #[oR a, oI (3 : Int32), oF tb, oF d2, oD x6, .second, oI (2 : Int32), oF d2] [])
        refine own_by (fun t_ k_ => XT.iincV X0.here hx rfl (1 : Int32) (hb hby d2_48) (by decide) rfl (l' := #[oR a, oI (3 : Int32), oF tb, oF d2, oD x6, .second, oI ((2 : Int32) + (1 : Int32)), oF d2]) rfl k_) ?_
        show own_Go p e below _ T0 (mkF m 51 #[oR a, oI (3 : Int32), oF tb, oF d2, oD x6, .second, oI ((2 : Int32) + (1 : Int32)), oF d2] [])
        rw [show ((2 : Int32) + (1 : Int32)) = (3 : Int32) by decide]
        show own_Go p e below _ T0 (mkF m 51 #[oR a, oI (3 : Int32), oF tb, oF d2, oD x6, .second, oI (3 : Int32), oF d2] [])
        refine own_by (fun t_ k_ => XS.goto X0.here hx rfl (pc0 := 51) (pc' := 8) rfl (hb hby d2_51) (by decide) (by decide) k_) ?_
        show own_Go p e below _ T0 (mkF m 8 #[oR a, oI (3 : Int32), oF tb, oF d2, oD x6, .second, oI (3 : Int32), oF d2] [])
        refine own_by (fun t_ k_ => XS.iload X0.here hx rfl (hb hby d2_8) rfl  k_) ?_
        show own_Go p e below _ T0 (mkF m 10 #[oR a, oI (3 : Int32), oF tb, oF d2, oD x6, .second, oI (3 : Int32), oF d2] [(.int (3 : Int32))])
        refine own_by (fun t_ k_ => XS.iloadN X0.here hx rfl (hb hby d2_10) rfl  k_) ?_
        show own_Go p e below _ T0 (mkF m 11 #[oR a, oI (3 : Int32), oF tb, oF d2, oD x6, .second, oI (3 : Int32), oF d2] [(.int (3 : Int32)), (.int (3 : Int32))])
        refine own_by (fun t_ k_ => XS.icmpYes X0.here hx rfl (pc0 := 11) (pc' := 54) rfl (hb hby d2_11) rfl (XT.ii_ge_t (by decide)) (by decide) (by decide) k_) ?_
        show own_Go p e below _ T0 (mkF m 54 #[oR a, oI (3 : Int32), oF tb, oF d2, oD x6, .second, oI (3 : Int32), oF d2] [])
        refine own_by (fun t_ k_ => XS.floadN X0.here hx rfl (hb hby d2_54) rfl  k_) ?_
        show own_Go p e below _ T0 (mkF m 55 #[oR a, oI (3 : Int32), oF tb, oF d2, oD x6, .second, oI (3 : Int32), oF d2] [(.float d2)])
        have D10 := own_D_f2d F2 (by omega) (by decide) (by decide)
        refine own_by (fun t_ k_ => XS.f2dS X0.here hx rfl (hb hby d2_55) rfl (own_D_no D10) rfl k_) ?_
        show own_Go p e below _ T0 (mkF m 56 #[oR a, oI (3 : Int32), oF tb, oF d2, oD x6, .second, oI (3 : Int32), oF d2] [(.double (FP.f2d d2))])
        generalize (FP.f2d d2) = x7 at D10 ⊢
        show own_Go p e below _ T0 (mkF m 56 #[oR a, oI (3 : Int32), oF tb, oF d2, oD x6, .second, oI (3 : Int32), oF d2] [(.double x7)])
        refine own_by (fun t_ k_ => XS.floadN X0.here hx rfl (hb hby d2_56) rfl  k_) ?_
        show own_Go p e below _ T0 (mkF m 57 #[oR a, oI (3 : Int32), oF tb, oF d2, oD x6, .second, oI (3 : Int32), oF d2] [(.float tb), (.double x7)])
        have D11 := own_D_f2d Ft (by omega) (by decide) (by decide)
        refine own_by (fun t_ k_ => XS.f2dS X0.here hx rfl (hb hby d2_57) rfl (own_D_no D11) rfl k_) ?_
        show own_Go p e below _ T0 (mkF m 58 #[oR a, oI (3 : Int32), oF tb, oF d2, oD x6, .second, oI (3 : Int32), oF d2] [(.double (FP.f2d tb)), (.double x7)])
        generalize (FP.f2d tb) = x8 at D11 ⊢
        show own_Go p e below _ T0 (mkF m 58 #[oR a, oI (3 : Int32), oF tb, oF d2, oD x6, .second, oI (3 : Int32), oF d2] [(.double x8), (.double x7)])
        refine own_by (fun t_ k_ => XS.dload X0.here hx rfl (hb hby d2_58) rfl  k_) ?_
        show own_Go p e below _ T0 (mkF m 60 #[oR a, oI (3 : Int32), oF tb, oF d2, oD x6, .second, oI (3 : Int32), oF d2] [(.double x6), (.double x8), (.double x7)])
        have hsm := own_small (o := (((0 + 0) + V0) + V1)) K1 K2 (by omega) (by omega)
        have D12 := own_D_mul (l := 0) D11 D9 (by omega) (by decide) (by decide)
        refine own_by (fun t_ k_ => XS.dmulS X0.here hx rfl (hb hby d2_60) rfl (own_D_no D12) rfl k_) ?_
        show own_Go p e below _ T0 (mkF m 61 #[oR a, oI (3 : Int32), oF tb, oF d2, oD x6, .second, oI (3 : Int32), oF d2] [(.double (FP.dmul x8 x6)), (.double x7)])
        generalize (FP.dmul x8 x6) = x9 at D12 ⊢
        show own_Go p e below _ T0 (mkF m 61 #[oR a, oI (3 : Int32), oF tb, oF d2, oD x6, .second, oI (3 : Int32), oF d2] [(.double x9), (.double x7)])
        have D13 := own_D_add (own_D_up D10 3) D12 (by simp only [show ((2 ^ 3 : Nat) : Int) = 8 from rfl]; omega) (by decide) (by decide)
        refine own_by (fun t_ k_ => XS.daddS X0.here hx rfl (hb hby d2_61) rfl (own_D_no D13) rfl k_) ?_
        show own_Go p e below _ T0 (mkF m 62 #[oR a, oI (3 : Int32), oF tb, oF d2, oD x6, .second, oI (3 : Int32), oF d2] [(.double (FP.dadd x7 x9))])
        generalize (FP.dadd x7 x9) = x10 at D13 ⊢
        show own_Go p e below _ T0 (mkF m 62 #[oR a, oI (3 : Int32), oF tb, oF d2, oD x6, .second, oI (3 : Int32), oF d2] [(.double x10)])
        have D14 := own_F_d2f D13 (by simp only [show ((2 ^ 3 : Nat) : Int) = 8 from rfl]; omega) (by decide) (by decide)
        refine own_by (fun t_ k_ => XS.d2fS X0.here hx rfl (hb hby d2_62) rfl (own_F_no D14) rfl k_) ?_
        show own_Go p e below _ T0 (mkF m 63 #[oR a, oI (3 : Int32), oF tb, oF d2, oD x6, .second, oI (3 : Int32), oF d2] [(.float (FP.d2f x10))])
        generalize (FP.d2f x10) = r at D14 ⊢
        show own_Go p e below _ T0 (mkF m 63 #[oR a, oI (3 : Int32), oF tb, oF d2, oD x6, .second, oI (3 : Int32), oF d2] [(.float r)])
        exact own_retF X0 hx hlk hret (hb hby d2_63) (by decide) (by decide) (⟨⟨r, V2, (((0 + 0) + V0) + V1), rfl, D14, by omega, by omega⟩, e0, rfl⟩)
      · refine own_by (fun t_ k_ => XS.ifYes X0.here hx rfl (pc0 := 24) (pc' := 40) rfl (hb hby d2_24) rfl (XT.i0_le_t c24_6) (by decide) (by decide) k_) ?_
        show own_Go p e below _ T0 (mkF m 40 #[oR a, oI (3 : Int32), oF tb, oF d1, oD x4, .second, oI (2 : Int32), oF d2] [])
        have gc24_6 : ¬ V1 < V2 := fun z => c24_6 ((own_fgt F2 F1).mpr z)
        refine own_by (fun t_ k_ => XS.dload X0.here hx rfl (hb hby d2_40) rfl  k_) ?_
        show own_Go p e below _ T0 (mkF m 42 #[oR a, oI (3 : Int32), oF tb, oF d1, oD x4, .second, oI (2 : Int32), oF d2] [(.double x4)])
        refine own_by (fun t_ k_ => XS.fload X0.here hx rfl (hb hby d2_42) rfl  k_) ?_
        show own_Go p e below _ T0 (mkF m 44 #[oR a, oI (3 : Int32), oF tb, oF d1, oD x4, .second, oI (2 : Int32), oF d2] [(.float d2), (.double x4)])
        have D15 := own_D_f2d F2 (by omega) (by decide) (by decide)
        refine own_by (fun t_ k_ => XS.f2dS X0.here hx rfl (hb hby d2_44) rfl (own_D_no D15) rfl k_) ?_
        show own_Go p e below _ T0 (mkF m 45 #[oR a, oI (3 : Int32), oF tb, oF d1, oD x4, .second, oI (2 : Int32), oF d2] [(.double (FP.f2d d2)), (.double x4)])
        generalize (FP.f2d d2) = x5 at D15 ⊢
        show own_Go p e below _ T0 (mkF m 45 #[oR a, oI (3 : Int32), oF tb, oF d1, oD x4, .second, oI (2 : Int32), oF d2] [(.double x5), (.double x4)])
        have D16 := own_D_add D6 D15 (by omega) (by decide) (by decide)
        refine own_by (fun t_ k_ => XS.daddS X0.here hx rfl (hb hby d2_45) rfl (own_D_no D16) rfl k_) ?_
        show own_Go p e below _ T0 (mkF m 46 #[oR a, oI (3 : Int32), oF tb, oF d1, oD x4, .second, oI (2 : Int32), oF d2] [(.double (FP.dadd x4 x5))])
        generalize (FP.dadd x4 x5) = x6 at D16 ⊢
        show own_Go p e below _ T0 (mkF m 46 #[oR a, oI (3 : Int32), oF tb, oF d1, oD x4, .second, oI (2 : Int32), oF d2] [(.double x6)])
        refine own_by (fun t_ k_ => XS.dstore X0.here hx rfl (hb hby d2_46) rfl (l' := #[oR a, oI (3 : Int32), oF tb, oF d1, oD x6, .second, oI (2 : Int32), oF d2]) rfl k_) ?_
        show own_Go p e below _ T0 (mkF m 48 #[oR a, oI (3 : Int32), oF tb, oF d1, oD x6, .second, oI (2 : Int32), oF d2] [])
        refine own_by (fun t_ k_ => XT.iincV X0.here hx rfl (1 : Int32) (hb hby d2_48) (by decide) rfl (l' := #[oR a, oI (3 : Int32), oF tb, oF d1, oD x6, .second, oI ((2 : Int32) + (1 : Int32)), oF d2]) rfl k_) ?_
        show own_Go p e below _ T0 (mkF m 51 #[oR a, oI (3 : Int32), oF tb, oF d1, oD x6, .second, oI ((2 : Int32) + (1 : Int32)), oF d2] [])
        rw [show ((2 : Int32) + (1 : Int32)) = (3 : Int32) by decide]
        show own_Go p e below _ T0 (mkF m 51 #[oR a, oI (3 : Int32), oF tb, oF d1, oD x6, .second, oI (3 : Int32), oF d2] [])
        refine own_by (fun t_ k_ => XS.goto X0.here hx rfl (pc0 := 51) (pc' := 8) rfl (hb hby d2_51) (by decide) (by decide) k_) ?_
        show own_Go p e below _ T0 (mkF m 8 #[oR a, oI (3 : Int32), oF tb, oF d1, oD x6, .second, oI (3 : Int32), oF d2] [])
        refine own_by (fun t_ k_ => XS.iload X0.here hx rfl (hb hby d2_8) rfl  k_) ?_
        show own_Go p e below _ T0 (mkF m 10 #[oR a, oI (3 : Int32), oF tb, oF d1, oD x6, .second, oI (3 : Int32), oF d2] [(.int (3 : Int32))])
        refine own_by (fun t_ k_ => XS.iloadN X0.here hx rfl (hb hby d2_10) rfl  k_) ?_
        show own_Go p e below _ T0 (mkF m 11 #[oR a, oI (3 : Int32), oF tb, oF d1, oD x6, .second, oI (3 : Int32), oF d2] [(.int (3 : Int32)), (.int (3 : Int32))])
        refine own_by (fun t_ k_ => XS.icmpYes X0.here hx rfl (pc0 := 11) (pc' := 54) rfl (hb hby d2_11) rfl (XT.ii_ge_t (by decide)) (by decide) (by decide) k_) ?_
        show own_Go p e below _ T0 (mkF m 54 #[oR a, oI (3 : Int32), oF tb, oF d1, oD x6, .second, oI (3 : Int32), oF d2] [])
        refine own_by (fun t_ k_ => XS.floadN X0.here hx rfl (hb hby d2_54) rfl  k_) ?_
        show own_Go p e below _ T0 (mkF m 55 #[oR a, oI (3 : Int32), oF tb, oF d1, oD x6, .second, oI (3 : Int32), oF d2] [(.float d1)])
        have D17 := own_D_f2d F1 (by omega) (by decide) (by decide)
        refine own_by (fun t_ k_ => XS.f2dS X0.here hx rfl (hb hby d2_55) rfl (own_D_no D17) rfl k_) ?_
        show own_Go p e below _ T0 (mkF m 56 #[oR a, oI (3 : Int32), oF tb, oF d1, oD x6, .second, oI (3 : Int32), oF d2] [(.double (FP.f2d d1))])
        generalize (FP.f2d d1) = x7 at D17 ⊢
        show own_Go p e below _ T0 (mkF m 56 #[oR a, oI (3 : Int32), oF tb, oF d1, oD x6, .second, oI (3 : Int32), oF d2] [(.double x7)])
        refine own_by (fun t_ k_ => XS.floadN X0.here hx rfl (hb hby d2_56) rfl  k_) ?_
        show own_Go p e below _ T0 (mkF m 57 #[oR a, oI (3 : Int32), oF tb, oF d1, oD x6, .second, oI (3 : Int32), oF d2] [(.float tb), (.double x7)])
        have D18 := own_D_f2d Ft (by omega) (by decide) (by decide)
        refine own_by (fun t_ k_ => XS.f2dS X0.here hx rfl (hb hby d2_57) rfl (own_D_no D18) rfl k_) ?_
        show own_Go p e below _ T0 (mkF m 58 #[oR a, oI (3 : Int32), oF tb, oF d1, oD x6, .second, oI (3 : Int32), oF d2] [(.double (FP.f2d tb)), (.double x7)])
        generalize (FP.f2d tb) = x8 at D18 ⊢
        show own_Go p e below _ T0 (mkF m 58 #[oR a, oI (3 : Int32), oF tb, oF d1, oD x6, .second, oI (3 : Int32), oF d2] [(.double x8), (.double x7)])
        refine own_by (fun t_ k_ => XS.dload X0.here hx rfl (hb hby d2_58) rfl  k_) ?_
        show own_Go p e below _ T0 (mkF m 60 #[oR a, oI (3 : Int32), oF tb, oF d1, oD x6, .second, oI (3 : Int32), oF d2] [(.double x6), (.double x8), (.double x7)])
        have hsm := own_small (o := (((0 + 0) + V0) + V2)) K1 K2 (by omega) (by omega)
        have D19 := own_D_mul (l := 0) D18 D16 (by omega) (by decide) (by decide)
        refine own_by (fun t_ k_ => XS.dmulS X0.here hx rfl (hb hby d2_60) rfl (own_D_no D19) rfl k_) ?_
        show own_Go p e below _ T0 (mkF m 61 #[oR a, oI (3 : Int32), oF tb, oF d1, oD x6, .second, oI (3 : Int32), oF d2] [(.double (FP.dmul x8 x6)), (.double x7)])
        generalize (FP.dmul x8 x6) = x9 at D19 ⊢
        show own_Go p e below _ T0 (mkF m 61 #[oR a, oI (3 : Int32), oF tb, oF d1, oD x6, .second, oI (3 : Int32), oF d2] [(.double x9), (.double x7)])
        have D20 := own_D_add (own_D_up D17 3) D19 (by simp only [show ((2 ^ 3 : Nat) : Int) = 8 from rfl]; omega) (by decide) (by decide)
        refine own_by (fun t_ k_ => XS.daddS X0.here hx rfl (hb hby d2_61) rfl (own_D_no D20) rfl k_) ?_
        show own_Go p e below _ T0 (mkF m 62 #[oR a, oI (3 : Int32), oF tb, oF d1, oD x6, .second, oI (3 : Int32), oF d2] [(.double (FP.dadd x7 x9))])
        generalize (FP.dadd x7 x9) = x10 at D20 ⊢
        show own_Go p e below _ T0 (mkF m 62 #[oR a, oI (3 : Int32), oF tb, oF d1, oD x6, .second, oI (3 : Int32), oF d2] [(.double x10)])
        have D21 := own_F_d2f D20 (by simp only [show ((2 ^ 3 : Nat) : Int) = 8 from rfl]; omega) (by decide) (by decide)
        refine own_by (fun t_ k_ => XS.d2fS X0.here hx rfl (hb hby d2_62) rfl (own_F_no D21) rfl k_) ?_
        show own_Go p e below _ T0 (mkF m 63 #[oR a, oI (3 : Int32), oF tb, oF d1, oD x6, .second, oI (3 : Int32), oF d2] [(.float (FP.d2f x10))])
        generalize (FP.d2f x10) = r at D21 ⊢
        show own_Go p e below _ T0 (mkF m 63 #[oR a, oI (3 : Int32), oF tb, oF d1, oD x6, .second, oI (3 : Int32), oF d2] [(.float r)])
        exact own_retF X0 hx hlk hret (hb hby d2_63) (by decide) (by decide) (⟨⟨r, V1, (((0 + 0) + V0) + V2), rfl, D21, by omega, by omega⟩, e0, rfl⟩)
    · refine own_by (fun t_ k_ => XS.ifYes X0.here hx rfl (pc0 := 24) (pc' := 40) rfl (hb hby d2_24) rfl (XT.i0_le_t c24_3) (by decide) (by decide) k_) ?_
      show own_Go p e below _ T0 (mkF m 40 #[oR a, oI (3 : Int32), oF tb, oF d0, oD x2, .second, oI (1 : Int32), oF d1] [])
      have gc24_3 : ¬ V0 < V1 := fun z => c24_3 ((own_fgt F1 F0).mpr z)
      refine own_by (fun t_ k_ => XS.dload X0.here hx rfl (hb hby d2_40) rfl  k_) ?_
      show own_Go p e below _ T0 (mkF m 42 #[oR a, oI (3 : Int32), oF tb, oF d0, oD x2, .second, oI (1 : Int32), oF d1] [(.double x2)])
      refine own_by (fun t_ k_ => XS.fload X0.here hx rfl (hb hby d2_42) rfl  k_) ?_
      show own_Go p e below _ T0 (mkF m 44 #[oR a, oI (3 : Int32), oF tb, oF d0, oD x2, .second, oI (1 : Int32), oF d1] [(.float d1), (.double x2)])
      have D22 := own_D_f2d F1 (by omega) (by decide) (by decide)
      refine own_by (fun t_ k_ => XS.f2dS X0.here hx rfl (hb hby d2_44) rfl (own_D_no D22) rfl k_) ?_
      show own_Go p e below _ T0 (mkF m 45 #[oR a, oI (3 : Int32), oF tb, oF d0, oD x2, .second, oI (1 : Int32), oF d1] [(.double (FP.f2d d1)), (.double x2)])
      generalize (FP.f2d d1) = x3 at D22 ⊢
      show own_Go p e below _ T0 (mkF m 45 #[oR a, oI (3 : Int32), oF tb, oF d0, oD x2, .second, oI (1 : Int32), oF d1] [(.double x3), (.double x2)])
      have D23 := own_D_add D3 D22 (by omega) (by decide) (by decide)
      refine own_by (fun t_ k_ => XS.daddS X0.here hx rfl (hb hby d2_45) rfl (own_D_no D23) rfl k_) ?_
      show own_Go p e below _ T0 (mkF m 46 #[oR a, oI (3 : Int32), oF tb, oF d0, oD x2, .second, oI (1 : Int32), oF d1] [(.double (FP.dadd x2 x3))])
      generalize (FP.dadd x2 x3) = x4 at D23 ⊢
      show own_Go p e below _ T0 (mkF m 46 #[oR a, oI (3 : Int32), oF tb, oF d0, oD x2, .second, oI (1 : Int32), oF d1] [(.double x4)])
      refine own_by (fun t_ k_ => XS.dstore X0.here hx rfl (hb hby d2_46) rfl (l' := #[oR a, oI (3 : Int32), oF tb, oF d0, oD x4, .second, oI (1 : Int32), oF d1]) rfl k_) ?_
      show own_Go p e below _ T0 (mkF m 48 #[oR a, oI (3 : Int32), oF tb, oF d0, oD x4, .second, oI (1 : Int32), oF d1] [])
      refine own_by (fun t_ k_ => XT.iincV X0.here hx rfl (1 : Int32) (hb hby d2_48) (by decide) rfl (l' := #[oR a, oI (3 : Int32), oF tb, oF d0, oD x4, .second, oI ((1 : Int32) + (1 : Int32)), oF d1]) rfl k_) ?_
      show own_Go p e below _ T0 (mkF m 51 #[oR a, oI (3 : Int32), oF tb, oF d0, oD x4, .second, oI ((1 : Int32) + (1 : Int32)), oF d1] [])
      rw [show ((1 : Int32) + (1 : Int32)) = (2 : Int32) by decide]
      show own_Go p e below _ T0 (mkF m 51 #[oR a, oI (3 : Int32), oF tb, oF d0, oD x4, .second, oI (2 : Int32), oF d1] [])
      refine own_by (fun t_ k_ => XS.goto X0.here hx rfl (pc0 := 51) (pc' := 8) rfl (hb hby d2_51) (by decide) (by decide) k_) ?_
      show own_Go p e below _ T0 (mkF m 8 #[oR a, oI (3 : Int32), oF tb, oF d0, oD x4, .second, oI (2 : Int32), oF d1] [])
      refine own_by (fun t_ k_ => XS.iload X0.here hx rfl (hb hby d2_8) rfl  k_) ?_
      show own_Go p e below _ T0 (mkF m 10 #[oR a, oI (3 : Int32), oF tb, oF d0, oD x4, .second, oI (2 : Int32), oF d1] [(.int (2 : Int32))])
      refine own_by (fun t_ k_ => XS.iloadN X0.here hx rfl (hb hby d2_10) rfl  k_) ?_
      show own_Go p e below _ T0 (mkF m 11 #[oR a, oI (3 : Int32), oF tb, oF d0, oD x4, .second, oI (2 : Int32), oF d1] [(.int (3 : Int32)), (.int (2 : Int32))])
      refine own_by (fun t_ k_ => XS.icmpNo X0.here hx rfl (hb hby d2_11) rfl (XT.ii_ge_f (by decide)) k_) ?_
      show own_Go p e below _ T0 (mkF m 14 #[oR a, oI (3 : Int32), oF tb, oF d0, oD x4, .second, oI (2 : Int32), oF d1] [])
      refine own_by (fun t_ k_ => XS.aloadN X0.here hx rfl (hb hby d2_14) rfl rfl  k_) ?_
      show own_Go p e below _ T0 (mkF m 15 #[oR a, oI (3 : Int32), oF tb, oF d0, oD x4, .second, oI (2 : Int32), oF d1] [(.ref a)])
      refine own_by (fun t_ k_ => XS.iload X0.here hx rfl (hb hby d2_15) rfl  k_) ?_
      show own_Go p e below _ T0 (mkF m 17 #[oR a, oI (3 : Int32), oF tb, oF d0, oD x4, .second, oI (2 : Int32), oF d1] [(.int (2 : Int32)), (.ref a)])
      refine own_ldF X0 hx hZ e0 V 2 (by decide) (by decide) (v := (.float d2)) rfl (hb hby d2_17) ?_
      show own_Go p e below _ T0 (mkF m 18 #[oR a, oI (3 : Int32), oF tb, oF d0, oD x4, .second, oI (2 : Int32), oF d1] [(.float d2)])
      refine own_by (fun t_ k_ => XS.fstore X0.here hx rfl (hb hby d2_18) rfl (l' := #[oR a, oI (3 : Int32), oF tb, oF d0, oD x4, .second, oI (2 : Int32), oF d2]) rfl k_) ?_
      show own_Go p e below _ T0 (mkF m 20 #[oR a, oI (3 : Int32), oF tb, oF d0, oD x4, .second, oI (2 : Int32), oF d2] [])
      refine own_by (fun t_ k_ => XS.fload X0.here hx rfl (hb hby d2_20) rfl  k_) ?_
      show own_Go p e below _ T0 (mkF m 22 #[oR a, oI (3 : Int32), oF tb, oF d0, oD x4, .second, oI (2 : Int32), oF d2] [(.float d2)])
      refine own_by (fun t_ k_ => XS.floadN X0.here hx rfl (hb hby d2_22) rfl  k_) ?_
      show own_Go p e below _ T0 (mkF m 23 #[oR a, oI (3 : Int32), oF tb, oF d0, oD x4, .second, oI (2 : Int32), oF d2] [(.float d0), (.float d2)])
      refine own_by (fun t_ k_ => XS.fcmpS X0.here hx rfl (hb hby d2_23) rfl rfl k_) ?_
      show own_Go p e below _ T0 (mkF m 24 #[oR a, oI (3 : Int32), oF tb, oF d0, oD x4, .second, oI (2 : Int32), oF d2] [(.int (cmpValue (FP.fcmp d2 d0) .l))])
      by_cases c24_23 : (0 : Int32) < (cmpValue (FP.fcmp d2 d0) .l)
      · refine own_by (fun t_ k_ => XS.ifNo X0.here hx rfl (hb hby d2_24) rfl (XT.i0_le_f c24_23) k_) ?_
        show own_Go p e below _ T0 (mkF m 27 #[oR a, oI (3 : Int32), oF tb, oF d0, oD x4, .second, oI (2 : Int32), oF d2] [])
        have gc24_23 : V0 < V2 := (own_fgt F2 F0).mp c24_23
        refine own_by (fun t_ k_ => XS.dload X0.here hx rfl (hb hby d2_27) rfl  k_) ?_
        show own_Go p e below _ T0 (mkF m 29 #[oR a, oI (3 : Int32), oF tb, oF d0, oD x4, .second, oI (2 : Int32), oF d2] [(.double x4)])
        refine own_by (fun t_ k_ => XS.floadN X0.here hx rfl (hb hby d2_29) rfl  k_) ?_
        show own_Go p e below _ T0 (mkF m 30 #[oR a, oI (3 : Int32), oF tb, oF d0, oD x4, .second, oI (2 : Int32), oF d2] [(.float d0), (.double x4)])
        have D25 := own_D_f2d F0 (by omega) (by decide) (by decide)
        refine own_by (fun t_ k_ => XS.f2dS X0.here hx rfl (hb hby d2_30) rfl (own_D_no D25) rfl k_) ?_
        show own_Go p e below _ T0 (mkF m 31 #[oR a, oI (3 : Int32), oF tb, oF d0, oD x4, .second, oI (2 : Int32), oF d2] [(.double (FP.f2d d0)), (.double x4)])
        generalize (FP.f2d d0) = x5 at D25 ⊢
        show own_Go p e below _ T0 (mkF m 31 #[oR a, oI (3 : Int32), oF tb, oF d0, oD x4, .second, oI (2 : Int32), oF d2] [(.double x5), (.double x4)])
        have D26 := own_D_add D23 D25 (by omega) (by decide) (by decide)
        refine own_by (fun t_ k_ => XS.daddS X0.here hx rfl (hb hby d2_31) rfl (own_D_no D26) rfl k_) ?_
        show own_Go p e below _ T0 (mkF m 32 #[oR a, oI (3 : Int32), oF tb, oF d0, oD x4, .second, oI (2 : Int32), oF d2] [(.double (FP.dadd x4 x5))])
        generalize (FP.dadd x4 x5) = x6 at D26 ⊢
        show own_Go p e below _ T0 (mkF m 32 #[oR a, oI (3 : Int32), oF tb, oF d0, oD x4, .second, oI (2 : Int32), oF d2] [(.double x6)])
        refine own_by (fun t_ k_ => XS.dstore X0.here hx rfl (hb hby d2_32) rfl (l' := #[oR a, oI (3 : Int32), oF tb, oF d0, oD x6, .second, oI (2 : Int32), oF d2]) rfl k_) ?_
        show own_Go p e below _ T0 (mkF m 34 #[oR a, oI (3 : Int32), oF tb, oF d0, oD x6, .second, oI (2 : Int32), oF d2] [])
        refine own_by (fun t_ k_ => XS.fload X0.here hx rfl (hb hby d2_34) rfl  k_) ?_
        show own_Go p e below _ T0 (mkF m 36 #[oR a, oI (3 : Int32), oF tb, oF d0, oD x6, .second, oI (2 : Int32), oF d2] [(.float d2)])
        refine own_by (fun t_ k_ => XS.fstoreN X0.here hx rfl (hb hby d2_36) rfl (l' := #[oR a, oI (3 : Int32), oF tb, oF d2, oD x6, .second, oI (2 : Int32), oF d2]) rfl k_) ?_
        show own_Go p e below _ T0 (mkF m 37 #[oR a, oI (3 : Int32), oF tb, oF d2, oD x6, .second, oI (2 : Int32), oF d2] [])
        refine own_by (fun t_ k_ => XS.goto X0.here hx rfl (pc0 := 37) (pc' := 48) rfl (hb hby d2_37) (by decide) (by decide) k_) ?_
        show own_Go p e below _ T0 (mkF m 48 #[oR a, oI (3 : Int32), oF tb, oF d2, oD x6, .second, oI (2 : Int32), oF d2] [])
        refine own_by (fun t_ k_ => XT.iincV X0.here hx rfl (1 : Int32) (hb hby d2_48) (by decide) rfl (l' := #[oR a, oI (3 : Int32), oF tb, oF d2, oD x6, .second, oI ((2 : Int32) + (1 : Int32)), oF d2]) rfl k_) ?_
        show own_Go p e below _ T0 (mkF m 51 #[oR a, oI (3 : Int32), oF tb, oF d2, oD x6, .second, oI ((2 : Int32) + (1 : Int32)), oF d2] [])
        rw [show ((2 : Int32) + (1 : Int32)) = (3 : Int32) by decide]
        show own_Go p e below _ T0 (mkF m 51 #[oR a, oI (3 : Int32), oF tb, oF d2, oD x6, .second, oI (3 : Int32), oF d2] [])
        refine own_by (fun t_ k_ => XS.goto X0.here hx rfl (pc0 := 51) (pc' := 8) rfl (hb hby d2_51) (by decide) (by decide) k_) ?_
        show own_Go p e below _ T0 (mkF m 8 #[oR a, oI (3 : Int32), oF tb, oF d2, oD x6, .second, oI (3 : Int32), oF d2] [])
        refine own_by (fun t_ k_ => XS.iload X0.here hx rfl (hb hby d2_8) rfl  k_) ?_
        show own_Go p e below _ T0 (mkF m 10 #[oR a, oI (3 : Int32), oF tb, oF d2, oD x6, .second, oI (3 : Int32), oF d2] [(.int (3 : Int32))])
        refine own_by (fun t_ k_ => XS.iloadN X0.here hx rfl (hb hby d2_10) rfl  k_) ?_
        show own_Go p e below _ T0 (mkF m 11 #[oR a, oI (3 : Int32), oF tb, oF d2, oD x6, .second, oI (3 : Int32), oF d2] [(.int (3 : Int32)), (.int (3 : Int32))])
        refine own_by (fun t_ k_ => XS.icmpYes X0.here hx rfl (pc0 := 11) (pc' := 54) rfl (hb hby d2_11) rfl (XT.ii_ge_t (by decide)) (by decide) (by decide) k_) ?_
        show own_Go p e below _ T0 (mkF m 54 #[oR a, oI (3 : Int32), oF tb, oF d2, oD x6, .second, oI (3 : Int32), oF d2] [])
        refine own_by (fun t_ k_ => XS.floadN X0.here hx rfl (hb hby d2_54) rfl  k_) ?_
        show own_Go p e below _ T0 (mkF m 55 #[oR a, oI (3 : Int32), oF tb, oF d2, oD x6, .second, oI (3 : Int32), oF d2] [(.float d2)])
        have D27 := own_D_f2d F2 (by omega) (by decide) (by decide)
        refine own_by (fun t_ k_ => XS.f2dS X0.here hx rfl (hb hby d2_55) rfl (own_D_no D27) rfl k_) ?_
        show own_Go p e below _ T0 (mkF m 56 #[oR a, oI (3 : Int32), oF tb, oF d2, oD x6, .second, oI (3 : Int32), oF d2] [(.double (FP.f2d d2))])
        generalize (FP.f2d d2) = x7 at D27 ⊢
        show own_Go p e below _ T0 (mkF m 56 #[oR a, oI (3 : Int32), oF tb, oF d2, oD x6, .second, oI (3 : Int32), oF d2] [(.double x7)])
        refine own_by (fun t_ k_ => XS.floadN X0.here hx rfl (hb hby d2_56) rfl  k_) ?_
        show own_Go p e below _ T0 (mkF m 57 #[oR a, oI (3 : Int32), oF tb, oF d2, oD x6, .second, oI (3 : Int32), oF d2] [(.float tb), (.double x7)])
        have D28 := own_D_f2d Ft (by omega) (by decide) (by decide)
        refine own_by (fun t_ k_ => XS.f2dS X0.here hx rfl (hb hby d2_57) rfl (own_D_no D28) rfl k_) ?_
        show own_Go p e below _ T0 (mkF m 58 #[oR a, oI (3 : Int32), oF tb, oF d2, oD x6, .second, oI (3 : Int32), oF d2] [(.double (FP.f2d tb)), (.double x7)])
        generalize (FP.f2d tb) = x8 at D28 ⊢
        show own_Go p e below _ T0 (mkF m 58 #[oR a, oI (3 : Int32), oF tb, oF d2, oD x6, .second, oI (3 : Int32), oF d2] [(.double x8), (.double x7)])
        refine own_by (fun t_ k_ => XS.dload X0.here hx rfl (hb hby d2_58) rfl  k_) ?_
        show own_Go p e below _ T0 (mkF m 60 #[oR a, oI (3 : Int32), oF tb, oF d2, oD x6, .second, oI (3 : Int32), oF d2] [(.double x6), (.double x8), (.double x7)])
        have hsm := own_small (o := (((0 + 0) + V1) + V0)) K1 K2 (by omega) (by omega)
        have D29 := own_D_mul (l := 0) D28 D26 (by omega) (by decide) (by decide)
        refine own_by (fun t_ k_ => XS.dmulS X0.here hx rfl (hb hby d2_60) rfl (own_D_no D29) rfl k_) ?_
        show own_Go p e below _ T0 (mkF m 61 #[oR a, oI (3 : Int32), oF tb, oF d2, oD x6, .second, oI (3 : Int32), oF d2] [(.double (FP.dmul x8 x6)), (.double x7)])
        generalize (FP.dmul x8 x6) = x9 at D29 ⊢
        show own_Go p e below _ T0 (mkF m 61 #[oR a, oI (3 : Int32), oF tb, oF d2, oD x6, .second, oI (3 : Int32), oF d2] [(.double x9), (.double x7)])
        have D30 := own_D_add (own_D_up D27 3) D29 (by simp only [show ((2 ^ 3 : Nat) : Int) = 8 from rfl]; omega) (by decide) (by decide)
        refine own_by (fun t_ k_ => XS.daddS X0.here hx rfl (hb hby d2_61) rfl (own_D_no D30) rfl k_) ?_
        show own_Go p e below _ T0 (mkF m 62 #[oR a, oI (3 : Int32), oF tb, oF d2, oD x6, .second, oI (3 : Int32), oF d2] [(.double (FP.dadd x7 x9))])
        generalize (FP.dadd x7 x9) = x10 at D30 ⊢
        show own_Go p e below _ T0 (mkF m 62 #[oR a, oI (3 : Int32), oF tb, oF d2, oD x6, .second, oI (3 : Int32), oF d2] [(.double x10)])
        have D31 := own_F_d2f D30 (by simp only [show ((2 ^ 3 : Nat) : Int) = 8 from rfl]; omega) (by decide) (by decide)
        refine own_by (fun t_ k_ => XS.d2fS X0.here hx rfl (hb hby d2_62) rfl (own_F_no D31) rfl k_) ?_
        show own_Go p e below _ T0 (mkF m 63 #[oR a, oI (3 : Int32), oF tb, oF d2, oD x6, .second, oI (3 : Int32), oF d2] [(.float (FP.d2f x10))])
        generalize (FP.d2f x10) = r at D31 ⊢
        show own_Go p e below _ T0 (mkF m 63 #[oR a, oI (3 : Int32), oF tb, oF d2, oD x6, .second, oI (3 : Int32), oF d2] [(.float r)])
        exact own_retF X0 hx hlk hret (hb hby d2_63) (by decide) (by decide) (⟨⟨r, V2, (((0 + 0) + V1) + V0), rfl, D31, by omega, by omega⟩, e0, rfl⟩)
      · refine own_by (fun t_ k_ => XS.ifYes X0.here hx rfl (pc0 := 24) (pc' := 40) rfl (hb hby d2_24) rfl (XT.i0_le_t c24_23) (by decide) (by decide) k_) ?_
        show own_Go p e below _ T0 (mkF m 40 #[oR a, oI (3 : Int32), oF tb, oF d0, oD x4, .second, oI (2 : Int32), oF d2] [])
        have gc24_23 : ¬ V0 < V2 := fun z => c24_23 ((own_fgt F2 F0).mpr z)
        refine own_by (fun t_ k_ => XS.dload X0.here hx rfl (hb hby d2_40) rfl  k_) ?_
        show own_Go p e below _ T0 (mkF m 42 #[oR a, oI (3 : Int32), oF tb, oF d0, oD x4, .second, oI (2 : Int32), oF d2] [(.double x4)])
        refine own_by (fun t_ k_ => XS.fload X0.here hx rfl (hb hby d2_42) rfl  k_) ?_
        show own_Go p e below _ T0 (mkF m 44 #[oR a, oI (3 : Int32), oF tb, oF d0, oD x4, .second, oI (2 : Int32), oF d2] [(.float d2), (.double x4)])
        have D32 := own_D_f2d F2 (by omega) (by decide) (by decide)
        refine own_by (fun t_ k_ => XS.f2dS X0.here hx rfl (hb hby d2_44) rfl (own_D_no D32) rfl k_) ?_
        show own_Go p e below _ T0 (mkF m 45 #[oR a, oI (3 : Int32), oF tb, oF d0, oD x4, .second, oI (2 : Int32), oF d2] [(.double (FP.f2d d2)), (.double x4)])
        generalize (FP.f2d d2) = x5 at D32 ⊢
        show own_Go p e below _ T0 (mkF m 45 #[oR a, oI (3 : Int32), oF tb, oF d0, oD x4, .second, oI (2 : Int32), oF d2] [(.double x5), (.double x4)])
        have D33 := own_D_add D23 D32 (by omega) (by decide) (by decide)
        refine own_by (fun t_ k_ => XS.daddS X0.here hx rfl (hb hby d2_45) rfl (own_D_no D33) rfl k_) ?_
        show own_Go p e below _ T0 (mkF m 46 #[oR a, oI (3 : Int32), oF tb, oF d0, oD x4, .second, oI (2 : Int32), oF d2] [(.double (FP.dadd x4 x5))])
        generalize (FP.dadd x4 x5) = x6 at D33 ⊢
        show own_Go p e below _ T0 (mkF m 46 #[oR a, oI (3 : Int32), oF tb, oF d0, oD x4, .second, oI (2 : Int32), oF d2] [(.double x6)])
        refine own_by (fun t_ k_ => XS.dstore X0.here hx rfl (hb hby d2_46) rfl (l' := #[oR a, oI (3 : Int32), oF tb, oF d0, oD x6, .second, oI (2 : Int32), oF d2]) rfl k_) ?_
        show own_Go p e below _ T0 (mkF m 48 #[oR a, oI (3 : Int32), oF tb, oF d0, oD x6, .second, oI (2 : Int32), oF d2] [])
        refine own_by (fun t_ k_ => XT.iincV X0.here hx rfl (1 : Int32) (hb hby d2_48) (by decide) rfl (l' := #[oR a, oI (3 : Int32), oF tb, oF d0, oD x6, .second, oI ((2 : Int32) + (1 : Int32)), oF d2]) rfl k_) ?_
        show own_Go p e below _ T0 (mkF m 51 #[oR a, oI (3 : Int32), oF tb, oF d0, oD x6, .second, oI ((2 : Int32) + (1 : Int32)), oF d2] [])
        rw [show ((2 : Int32) + (1 : Int32)) = (3 : Int32) by decide]
        show own_Go p e below _ T0 (mkF m 51 #[oR a, oI (3 : Int32), oF tb, oF d0, oD x6, .second, oI (3 : Int32), oF d2] [])
        refine own_by (fun t_ k_ => XS.goto X0.here hx rfl (pc0 := 51) (pc' := 8) rfl (hb hby d2_51) (by decide) (by decide) k_) ?_
        show own_Go p e below _ T0 (mkF m 8 #[oR a, oI (3 : Int32), oF tb, oF d0, oD x6, .second, oI (3 : Int32), oF d2] [])
        refine own_by (fun t_ k_ => XS.iload X0.here hx rfl (hb hby d2_8) rfl  k_) ?_
        show own_Go p e below _ T0 (mkF m 10 #[oR a, oI (3 : Int32), oF tb, oF d0, oD x6, .second, oI (3 : Int32), oF d2] [(.int (3 : Int32))])
        refine own_by (fun t_ k_ => XS.iloadN X0.here hx rfl (hb hby d2_10) rfl  k_) ?_
        show own_Go p e below _ T0 (mkF m 11 #[oR a, oI (3 : Int32), oF tb, oF d0, oD x6, .second, oI (3 : Int32), oF d2] [(.int (3 : Int32)), (.int (3 : Int32))])
        refine own_by (fun t_ k_ => XS.icmpYes X0.here hx rfl (pc0 := 11) (pc' := 54) rfl (hb hby d2_11) rfl (XT.ii_ge_t (by decide)) (by decide) (by decide) k_) ?_
        show own_Go p e below _ T0 (mkF m 54 #[oR a, oI (3 : Int32), oF tb, oF d0, oD x6, .second, oI (3 : Int32), oF d2] [])
        refine own_by (fun t_ k_ => XS.floadN X0.here hx rfl (hb hby d2_54) rfl  k_) ?_
        show own_Go p e below _ T0 (mkF m 55 #[oR a, oI (3 : Int32), oF tb, oF d0, oD x6, .second, oI (3 : Int32), oF d2] [(.float d0)])
        have D34 := own_D_f2d F0 (by omega) (by decide) (by decide)
        refine own_by (fun t_ k_ => XS.f2dS X0.here hx rfl (hb hby d2_55) rfl (own_D_no D34) rfl k_) ?_
        show own_Go p e below _ T0 (mkF m 56 #[oR a, oI (3 : Int32), oF tb, oF d0, oD x6, .second, oI (3 : Int32), oF d2] [(.double (FP.f2d d0))])
        generalize (FP.f2d d0) = x7 at D34 ⊢
        show own_Go p e below _ T0 (mkF m 56 #[oR a, oI (3 : Int32), oF tb, oF d0, oD x6, .second, oI (3 : Int32), oF d2] [(.double x7)])
        refine own_by (fun t_ k_ => XS.floadN X0.here hx rfl (hb hby d2_56) rfl  k_) ?_
        show own_Go p e below _ T0 (mkF m 57 #[oR a, oI (3 : Int32), oF tb, oF d0, oD x6, .second, oI (3 : Int32), oF d2] [(.float tb), (.double x7)])
        have D35 := own_D_f2d Ft (by omega) (by decide) (by decide)
        refine own_by (fun t_ k_ => XS.f2dS X0.here hx rfl (hb hby d2_57) rfl (own_D_no D35) rfl k_) ?_
        show own_Go p e below _ T0 (mkF m 58 #[oR a, oI (3 : Int32), oF tb, oF d0, oD x6, .second, oI (3 : Int32), oF d2] [(.double (FP.f2d tb)), (.double x7)])
        generalize (FP.f2d tb) = x8 at D35 ⊢
        show own_Go p e below _ T0 (mkF m 58 #[oR a, oI (3 : Int32), oF tb, oF d0, oD x6, .second, oI (3 : Int32), oF d2] [(.double x8), (.double x7)])
        refine own_by (fun t_ k_ => XS.dload X0.here hx rfl (hb hby d2_58) rfl  k_) ?_
        show own_Go p e below _ T0 (mkF m 60 #[oR a, oI (3 : Int32), oF tb, oF d0, oD x6, .second, oI (3 : Int32), oF d2] [(.double x6), (.double x8), (.double x7)])
        have hsm := own_small (o := (((0 + 0) + V1) + V2)) K1 K2 (by omega) (by omega)
        have D36 := own_D_mul (l := 0) D35 D33 (by omega) (by decide) (by decide)
        refine own_by (fun t_ k_ => XS.dmulS X0.here hx rfl (hb hby d2_60) rfl (own_D_no D36) rfl k_) ?_
        show own_Go p e below _ T0 (mkF m 61 #[oR a, oI (3 : Int32), oF tb, oF d0, oD x6, .second, oI (3 : Int32), oF d2] [(.double (FP.dmul x8 x6)), (.double x7)])
        generalize (FP.dmul x8 x6) = x9 at D36 ⊢
        show own_Go p e below _ T0 (mkF m 61 #[oR a, oI (3 : Int32), oF tb, oF d0, oD x6, .second, oI (3 : Int32), oF d2] [(.double x9), (.double x7)])
        have D37 := own_D_add (own_D_up D34 3) D36 (by simp only [show ((2 ^ 3 : Nat) : Int) = 8 from rfl]; omega) (by decide) (by decide)
        refine own_by (fun t_ k_ => XS.daddS X0.here hx rfl (hb hby d2_61) rfl (own_D_no D37) rfl k_) ?_
        show own_Go p e below _ T0 (mkF m 62 #[oR a, oI (3 : Int32), oF tb, oF d0, oD x6, .second, oI (3 : Int32), oF d2] [(.double (FP.dadd x7 x9))])
        generalize (FP.dadd x7 x9) = x10 at D37 ⊢
        show own_Go p e below _ T0 (mkF m 62 #[oR a, oI (3 : Int32), oF tb, oF d0, oD x6, .second, oI (3 : Int32), oF d2] [(.double x10)])
        have D38 := own_F_d2f D37 (by simp only [show ((2 ^ 3 : Nat) : Int) = 8 from rfl]; omega) (by decide) (by decide)
        refine own_by (fun t_ k_ => XS.d2fS X0.here hx rfl (hb hby d2_62) rfl (own_F_no D38) rfl k_) ?_
        show own_Go p e below _ T0 (mkF m 63 #[oR a, oI (3 : Int32), oF tb, oF d0, oD x6, .second, oI (3 : Int32), oF d2] [(.float (FP.d2f x10))])
        generalize (FP.d2f x10) = r at D38 ⊢
        show own_Go p e below _ T0 (mkF m 63 #[oR a, oI (3 : Int32), oF tb, oF d0, oD x6, .second, oI (3 : Int32), oF d2] [(.float r)])
        exact own_retF X0 hx hlk hret (hb hby d2_63) (by decide) (by decide) (⟨⟨r, V0, (((0 + 0) + V1) + V2), rfl, D38, by omega, by omega⟩, e0, rfl⟩)
  · refine own_by (fun t_ k_ => XS.ifYes X0.here hx rfl (pc0 := 24) (pc' := 40) rfl (hb hby d2_24) rfl (XT.i0_le_t c24_0) (by decide) (by decide) k_) ?_
    show own_Go p e below _ T0 (mkF m 40 #[oR a, oI (3 : Int32), oF tb, oF FP.fconst0, oD FP.dconst0, .second, oI (0 : Int32), oF d0] [])
    have gc24_0 : ¬ 0 < V0 := fun z => c24_0 ((own_fgt F0 (own_F_zero 0)).mpr z)
    refine own_by (fun t_ k_ => XS.dload X0.here hx rfl (hb hby d2_40) rfl  k_) ?_
    show own_Go p e below _ T0 (mkF m 42 #[oR a, oI (3 : Int32), oF tb, oF FP.fconst0, oD FP.dconst0, .second, oI (0 : Int32), oF d0] [(.double FP.dconst0)])
    refine own_by (fun t_ k_ => XS.fload X0.here hx rfl (hb hby d2_42) rfl  k_) ?_
    show own_Go p e below _ T0 (mkF m 44 #[oR a, oI (3 : Int32), oF tb, oF FP.fconst0, oD FP.dconst0, .second, oI (0 : Int32), oF d0] [(.float d0), (.double FP.dconst0)])
    have D39 := own_D_f2d F0 (by omega) (by decide) (by decide)
    refine own_by (fun t_ k_ => XS.f2dS X0.here hx rfl (hb hby d2_44) rfl (own_D_no D39) rfl k_) ?_
    show own_Go p e below _ T0 (mkF m 45 #[oR a, oI (3 : Int32), oF tb, oF FP.fconst0, oD FP.dconst0, .second, oI (0 : Int32), oF d0] [(.double (FP.f2d d0)), (.double FP.dconst0)])
    generalize (FP.f2d d0) = x1 at D39 ⊢
    show own_Go p e below _ T0 (mkF m 45 #[oR a, oI (3 : Int32), oF tb, oF FP.fconst0, oD FP.dconst0, .second, oI (0 : Int32), oF d0] [(.double x1), (.double FP.dconst0)])
    have D40 := own_D_add (own_D_zero 0) D39 (by omega) (by decide) (by decide)
    refine own_by (fun t_ k_ => XS.daddS X0.here hx rfl (hb hby d2_45) rfl (own_D_no D40) rfl k_) ?_
    show own_Go p e below _ T0 (mkF m 46 #[oR a, oI (3 : Int32), oF tb, oF FP.fconst0, oD FP.dconst0, .second, oI (0 : Int32), oF d0] [(.double (FP.dadd FP.dconst0 x1))])
    generalize (FP.dadd FP.dconst0 x1) = x2 at D40 ⊢
    show own_Go p e below _ T0 (mkF m 46 #[oR a, oI (3 : Int32), oF tb, oF FP.fconst0, oD FP.dconst0, .second, oI (0 : Int32), oF d0] [(.double x2)])
    refine own_by (fun t_ k_ => XS.dstore X0.here hx rfl (hb hby d2_46) rfl (l' := #[oR a, oI (3 : Int32), oF tb, oF FP.fconst0, oD x2, .second, oI (0 : Int32), oF d0]) rfl k_) ?_
    show own_Go p e below _ T0 (mkF m 48 #[oR a, oI (3 : Int32), oF tb, oF FP.fconst0, oD x2, .second, oI (0 : Int32), oF d0] [])
    refine own_by (fun t_ k_ => XT.iincV X0.here hx rfl (1 : Int32) (hb hby d2_48) (by decide) rfl (l' := #[oR a, oI (3 : Int32), oF tb, oF FP.fconst0, oD x2, .second, oI ((0 : Int32) + (1 : Int32)), oF d0]) rfl k_) ?_
    show own_Go p e below _ T0 (mkF m 51 #[oR a, oI (3 : Int32), oF tb, oF FP.fconst0, oD x2, .second, oI ((0 : Int32) + (1 : Int32)), oF d0] [])
    rw [show ((0 : Int32) + (1 : Int32)) = (1 : Int32) by decide]
    show own_Go p e below _ T0 (mkF m 51 #[oR a, oI (3 : Int32), oF tb, oF FP.fconst0, oD x2, .second, oI (1 : Int32), oF d0] [])
    refine own_by (fun t_ k_ => XS.goto X0.here hx rfl (pc0 := 51) (pc' := 8) rfl (hb hby d2_51) (by decide) (by decide) k_) ?_
    show own_Go p e below _ T0 (mkF m 8 #[oR a, oI (3 : Int32), oF tb, oF FP.fconst0, oD x2, .second, oI (1 : Int32), oF d0] [])
    refine own_by (fun t_ k_ => XS.iload X0.here hx rfl (hb hby d2_8) rfl  k_) ?_
    show own_Go p e below _ T0 (mkF m 10 #[oR a, oI (3 : Int32), oF tb, oF FP.fconst0, oD x2, .second, oI (1 : Int32), oF d0] [(.int (1 : Int32))])
    refine own_by (fun t_ k_ => XS.iloadN X0.here hx rfl (hb hby d2_10) rfl  k_) ?_
    show own_Go p e below _ T0 (mkF m 11 #[oR a, oI (3 : Int32), oF tb, oF FP.fconst0, oD x2, .second, oI (1 : Int32), oF d0] [(.int (3 : Int32)), (.int (1 : Int32))])
    refine own_by (fun t_ k_ => XS.icmpNo X0.here hx rfl (hb hby d2_11) rfl (XT.ii_ge_f (by decide)) k_) ?_
    show own_Go p e below _ T0 (mkF m 14 #[oR a, oI (3 : Int32), oF tb, oF FP.fconst0, oD x2, .second, oI (1 : Int32), oF d0] [])
    refine own_by (fun t_ k_ => XS.aloadN X0.here hx rfl (hb hby d2_14) rfl rfl  k_) ?_
    show own_Go p e below _ T0 (mkF m 15 #[oR a, oI (3 : Int32), oF tb, oF FP.fconst0, oD x2, .second, oI (1 : Int32), oF d0] [(.ref a)])
    refine own_by (fun t_ k_ => XS.iload X0.here hx rfl (hb hby d2_15) rfl  k_) ?_
    show own_Go p e below _ T0 (mkF m 17 #[oR a, oI (3 : Int32), oF tb, oF FP.fconst0, oD x2, .second, oI (1 : Int32), oF d0] [(.int (1 : Int32)), (.ref a)])
    refine own_ldF X0 hx hZ e0 V 1 (by decide) (by decide) (v := (.float d1)) rfl (hb hby d2_17) ?_
    show own_Go p e below _ T0 (mkF m 18 #[oR a, oI (3 : Int32), oF tb, oF FP.fconst0, oD x2, .second, oI (1 : Int32), oF d0] [(.float d1)])
    refine own_by (fun t_ k_ => XS.fstore X0.here hx rfl (hb hby d2_18) rfl (l' := #[oR a, oI (3 : Int32), oF tb, oF FP.fconst0, oD x2, .second, oI (1 : Int32), oF d1]) rfl k_) ?_
    show own_Go p e below _ T0 (mkF m 20 #[oR a, oI (3 : Int32), oF tb, oF FP.fconst0, oD x2, .second, oI (1 : Int32), oF d1] [])
    refine own_by (fun t_ k_ => XS.fload X0.here hx rfl (hb hby d2_20) rfl  k_) ?_
    show own_Go p e below _ T0 (mkF m 22 #[oR a, oI (3 : Int32), oF tb, oF FP.fconst0, oD x2, .second, oI (1 : Int32), oF d1] [(.float d1)])
    refine own_by (fun t_ k_ => XS.floadN X0.here hx rfl (hb hby d2_22) rfl  k_) ?_
    show own_Go p e below _ T0 (mkF m 23 #[oR a, oI (3 : Int32), oF tb, oF FP.fconst0, oD x2, .second, oI (1 : Int32), oF d1] [(.float FP.fconst0), (.float d1)])
    refine own_by (fun t_ k_ => XS.fcmpS X0.here hx rfl (hb hby d2_23) rfl rfl k_) ?_
    show own_Go p e below _ T0 (mkF m 24 #[oR a, oI (3 : Int32), oF tb, oF FP.fconst0, oD x2, .second, oI (1 : Int32), oF d1] [(.int (cmpValue (FP.fcmp d1 FP.fconst0) .l))])
    by_cases c24_40 : (0 : Int32) < (cmpValue (FP.fcmp d1 FP.fconst0) .l)
    · refine own_by (fun t_ k_ => XS.ifNo X0.here hx rfl (hb hby d2_24) rfl (XT.i0_le_f c24_40) k_) ?_
      show own_Go p e below _ T0 (mkF m 27 #[oR a, oI (3 : Int32), oF tb, oF FP.fconst0, oD x2, .second, oI (1 : Int32), oF d1] [])
      have gc24_40 : 0 < V1 := (own_fgt F1 (own_F_zero 0)).mp c24_40
      refine own_by (fun t_ k_ => XS.dload X0.here hx rfl (hb hby d2_27) rfl  k_) ?_
      show own_Go p e below _ T0 (mkF m 29 #[oR a, oI (3 : Int32), oF tb, oF FP.fconst0, oD x2, .second, oI (1 : Int32), oF d1] [(.double x2)])
      refine own_by (fun t_ k_ => XS.floadN X0.here hx rfl (hb hby d2_29) rfl  k_) ?_
      show own_Go p e below _ T0 (mkF m 30 #[oR a, oI (3 : Int32), oF tb, oF FP.fconst0, oD x2, .second, oI (1 : Int32), oF d1] [(.float FP.fconst0), (.double x2)])
      have D42 := own_D_f2d (own_F_zero 0) (by omega) (by decide) (by decide)
      refine own_by (fun t_ k_ => XS.f2dS X0.here hx rfl (hb hby d2_30) rfl (own_D_no D42) rfl k_) ?_
      show own_Go p e below _ T0 (mkF m 31 #[oR a, oI (3 : Int32), oF tb, oF FP.fconst0, oD x2, .second, oI (1 : Int32), oF d1] [(.double (FP.f2d FP.fconst0)), (.double x2)])
      generalize (FP.f2d FP.fconst0) = x3 at D42 ⊢
      show own_Go p e below _ T0 (mkF m 31 #[oR a, oI (3 : Int32), oF tb, oF FP.fconst0, oD x2, .second, oI (1 : Int32), oF d1] [(.double x3), (.double x2)])
      have D43 := own_D_add D40 D42 (by omega) (by decide) (by decide)
      refine own_by (fun t_ k_ => XS.daddS X0.here hx rfl (hb hby d2_31) rfl (own_D_no D43) rfl k_) ?_
      show own_Go p e below _ T0 (mkF m 32 #[oR a, oI (3 : Int32), oF tb, oF FP.fconst0, oD x2, .second, oI (1 : Int32), oF d1] [(.double (FP.dadd x2 x3))])
      generalize (FP.dadd x2 x3) = x4 at D43 ⊢
      show own_Go p e below _ T0 (mkF m 32 #[oR a, oI (3 : Int32), oF tb, oF FP.fconst0, oD x2, .second, oI (1 : Int32), oF d1] [(.double x4)])
      refine own_by (fun t_ k_ => XS.dstore X0.here hx rfl (hb hby d2_32) rfl (l' := #[oR a, oI (3 : Int32), oF tb, oF FP.fconst0, oD x4, .second, oI (1 : Int32), oF d1]) rfl k_) ?_
      show own_Go p e below _ T0 (mkF m 34 #[oR a, oI (3 : Int32), oF tb, oF FP.fconst0, oD x4, .second, oI (1 : Int32), oF d1] [])
      refine own_by (fun t_ k_ => XS.fload X0.here hx rfl (hb hby d2_34) rfl  k_) ?_
      show own_Go p e below _ T0 (mkF m 36 #[oR a, oI (3 : Int32), oF tb, oF FP.fconst0, oD x4, .second, oI (1 : Int32), oF d1] [(.float d1)])
      refine own_by (fun t_ k_ => XS.fstoreN X0.here hx rfl (hb hby d2_36) rfl (l' := #[oR a, oI (3 : Int32), oF tb, oF d1, oD x4, .second, oI (1 : Int32), oF d1]) rfl k_) ?_
      show own_Go p e below _ T0 (mkF m 37 #[oR a, oI (3 : Int32), oF tb, oF d1, oD x4, .second, oI (1 : Int32), oF d1] [])
      refine own_by (fun t_ k_ => XS.goto X0.here hx rfl (pc0 := 37) (pc' := 48) rfl (hb hby d2_37) (by decide) (by decide) k_) ?_
      show own_Go p e below _ T0 (mkF m 48 #[oR a, oI (3 : Int32), oF tb, oF d1, oD x4, .second, oI (1 : Int32), oF d1] [])
      refine own_by (fun t_ k_ => XT.iincV X0.here hx rfl (1 : Int32) (hb hby d2_48) (by decide) rfl (l' := #[oR a, oI (3 : Int32), oF tb, oF d1, oD x4, .second, oI ((1 : Int32) + (1 : Int32)), oF d1]) rfl k_) ?_
      show own_Go p e below _ T0 (mkF m 51 #[oR a, oI (3 : Int32), oF tb, oF d1, oD x4, .second, oI ((1 : Int32) + (1 : Int32)), oF d1] [])
      rw [show ((1 : Int32) + (1 : Int32)) = (2 : Int32) by decide]
      show own_Go p e below _ T0 (mkF m 51 #[oR a, oI (3 : Int32), oF tb, oF d1, oD x4, .second, oI (2 : Int32), oF d1] [])
      refine own_by (fun t_ k_ => XS.goto X0.here hx rfl (pc0 := 51) (pc' := 8) rfl (hb hby d2_51) (by decide) (by decide) k_) ?_
      show own_Go p e below _ T0 (mkF m 8 #[oR a, oI (3 : Int32), oF tb, oF d1, oD x4, .second, oI (2 : Int32), oF d1] [])
      refine own_by (fun t_ k_ => XS.iload X0.here hx rfl (hb hby d2_8) rfl  k_) ?_
      show own_Go p e below _ T0 (mkF m 10 #[oR a, oI (3 : Int32), oF tb, oF d1, oD x4, .second, oI (2 : Int32), oF d1] [(.int (2 : Int32))])
      refine own_by (fun t_ k_ => XS.iloadN X0.here hx rfl (hb hby d2_10) rfl  k_) ?_
      show own_Go p e below _ T0 (mkF m 11 #[oR a, oI (3 : Int32), oF tb, oF d1, oD x4, .second, oI (2 : Int32), oF d1] [(.int (3 : Int32)), (.int (2 : Int32))])
      refine own_by (fun t_ k_ => XS.icmpNo X0.here hx rfl (hb hby d2_11) rfl (XT.ii_ge_f (by decide)) k_) ?_
      show own_Go p e below _ T0 (mkF m 14 #[oR a, oI (3 : Int32), oF tb, oF d1, oD x4, .second, oI (2 : Int32), oF d1] [])
      refine own_by (fun t_ k_ => XS.aloadN X0.here hx rfl (hb hby d2_14) rfl rfl  k_) ?_
      show own_Go p e below _ T0 (mkF m 15 #[oR a, oI (3 : Int32), oF tb, oF d1, oD x4, .second, oI (2 : Int32), oF d1] [(.ref a)])
      refine own_by (fun t_ k_ => XS.iload X0.here hx rfl (hb hby d2_15) rfl  k_) ?_
      show own_Go p e below _ T0 (mkF m 17 #[oR a, oI (3 : Int32), oF tb, oF d1, oD x4, .second, oI (2 : Int32), oF d1] [(.int (2 : Int32)), (.ref a)])
      refine own_ldF X0 hx hZ e0 V 2 (by decide) (by decide) (v := (.float d2)) rfl (hb hby d2_17) ?_
      show own_Go p e below _ T0 (mkF m 18 #[oR a, oI (3 : Int32), oF tb, oF d1, oD x4, .second, oI (2 : Int32), oF d1] [(.float d2)])
      refine own_by (fun t_ k_ => XS.fstore X0.here hx rfl (hb hby d2_18) rfl (l' := #[oR a, oI (3 : Int32), oF tb, oF d1, oD x4, .second, oI (2 : Int32), oF d2]) rfl k_) ?_
      show own_Go p e below _ T0 (mkF m 20 #[oR a, oI (3 : Int32), oF tb, oF d1, oD x4, .second, oI (2 : Int32), oF d2] [])
      refine own_by (fun t_ k_ => XS.fload X0.here hx rfl (hb hby d2_20) rfl  k_) ?_
      show own_Go p e below _ T0 (mkF m 22 #[oR a, oI (3 : Int32), oF tb, oF d1, oD x4, .second, oI (2 : Int32), oF d2] [(.float d2)])
      refine own_by (fun t_ k_ => XS.floadN X0.here hx rfl (hb hby d2_22) rfl  k_) ?_
      show own_Go p e below _ T0 (mkF m 23 #[oR a, oI (3 : Int32), oF tb, oF d1, oD x4, .second, oI (2 : Int32), oF d2] [(.float d1), (.float d2)])
      refine own_by (fun t_ k_ => XS.fcmpS X0.here hx rfl (hb hby d2_23) rfl rfl k_) ?_
      show own_Go p e below _ T0 (mkF m 24 #[oR a, oI (3 : Int32), oF tb, oF d1, oD x4, .second, oI (2 : Int32), oF d2] [(.int (cmpValue (FP.fcmp d2 d1) .l))])
      by_cases c24_43 : (0 : Int32) < (cmpValue (FP.fcmp d2 d1) .l)
      · refine own_by (fun t_ k_ => XS.ifNo X0.here hx rfl (hb hby d2_24) rfl (XT.i0_le_f c24_43) k_) ?_
        show own_Go p e below _ T0 (mkF m 27 #[oR a, oI (3 : Int32), oF tb, oF d1, oD x4, .second, oI (2 : Int32), oF d2] [])
        have gc24_43 : V1 < V2 := (own_fgt F2 F1).mp c24_43
        refine own_by (fun t_ k_ => XS.dload X0.here hx rfl (hb hby d2_27) rfl  k_) ?_
        show own_Go p e below _ T0 (mkF m 29 #[oR a, oI (3 : Int32), oF tb, oF d1, oD x4, .second, oI (2 : Int32), oF d2] [(.double x4)])
        refine own_by (fun t_ k_ => XS.floadN X0.here hx rfl (hb hby d2_29) rfl  k_) ?_
        show own_Go p e below _ T0 (mkF m 30 #[oR a, oI (3 : Int32), oF tb, oF d1, oD x4, .second, oI (2 : Int32), oF d2] [(.float d1), (.double x4)])
        have D45 := own_D_f2d F1 (by omega) (by decide) (by decide)
        refine own_by (fun t_ k_ => XS.f2dS X0.here hx rfl (hb hby d2_30) rfl (own_D_no D45) rfl k_) ?_
        show own_Go p e below _ T0 (mkF m 31 #[oR a, oI (3 : Int32), oF tb, oF d1, oD x4, .second, oI (2 : Int32), oF d2] [(.double (FP.f2d d1)), (.double x4)])
        generalize (FP.f2d d1) = x5 at D45 ⊢
        show own_Go p e below _ T0 (mkF m 31 #[oR a, oI (3 : Int32), oF tb, oF d1, oD x4, .second, oI (2 : Int32), oF d2] [(.double x5), (.double x4)])
        have D46 := own_D_add D43 D45 (by omega) (by decide) (by decide)
        refine own_by (fun t_ k_ => XS.daddS X0.here hx rfl (hb hby d2_31) rfl (own_D_no D46) rfl k_) ?_
        show own_Go p e below _ T0 (mkF m 32 #[oR a, oI (3 : Int32), oF tb, oF d1, oD x4, .second, oI (2 : Int32), oF d2] [(.double (FP.dadd x4 x5))])
        generalize (FP.dadd x4 x5) = x6 at D46 ⊢
        show own_Go p e below _ T0 (mkF m 32 #[oR a, oI (3 : Int32), oF tb, oF d1, oD x4, .second, oI (2 : Int32), oF d2] [(.double x6)])
        refine own_by (fun t_ k_ => XS.dstore X0.here hx rfl (hb hby d2_32) rfl (l' := #[oR a, oI (3 : Int32), oF tb, oF d1, oD x6, .second, oI (2 : Int32), oF d2]) rfl k_) ?_
        show own_Go p e below _ T0 (mkF m 34 #[oR a, oI (3 : Int32), oF tb, oF d1, oD x6, .second, oI (2 : Int32), oF d2] [])
        refine own_by (fun t_ k_ => XS.fload X0.here hx rfl (hb hby d2_34) rfl  k_) ?_
        show own_Go p e below _ T0 (mkF m 36 #[oR a, oI (3 : Int32), oF tb, oF d1, oD x6, .second, oI (2 : Int32), oF d2] [(.float d2)])
        refine own_by (fun t_ k_ => XS.fstoreN X0.here hx rfl (hb hby d2_36) rfl (l' := #[oR a, oI (3 : Int32), oF tb, oF d2, oD x6, .second, oI (2 : Int32), oF d2]) rfl k_) ?_
        show own_Go p e below _ T0 (mkF m 37 #[oR a, oI (3 : Int32), oF tb, oF d2, oD x6, .second, oI (2 : Int32), oF d2] [])
        refine own_by (fun t_ k_ => XS.goto X0.here hx rfl (pc0 := 37) (pc' := 48) rfl (hb hby d2_37) (by decide) (by decide) k_) ?_
        show own_Go p e below _ T0 (mkF m 48 #[oR a, oI (3 : Int32), oF tb, oF d2, oD x6, .second, oI (2 : Int32), oF d2] [])
        refine own_by (fun t_ k_ => XT.iincV X0.here hx rfl (1 : Int32) (hb hby d2_48) (by decide) rfl (l' := #[oR a, oI (3 : Int32), oF tb, oF d2, oD x6, .second, oI ((2 : Int32) + (1 : Int32)), oF d2]) rfl k_) ?_
        show own_Go p e below _ T0 (mkF m 51 #[oR a, oI (3 : Int32), oF tb, oF d2, oD x6, .second, oI ((2 : Int32) + (1 : Int32)), oF d2] [])
        rw [show ((2 : Int32) + (1 : Int32)) = (3 : Int32) by decide]
        show own_Go p e below _ T0 (mkF m 51 #[oR a, oI (3 : Int32), oF tb, oF d2, oD x6, .second, oI (3 : Int32), oF d2] [])
        refine own_by (fun t_ k_ => XS.goto X0.here hx rfl (pc0 := 51) (pc' := 8) rfl (hb hby d2_51) (by decide) (by decide) k_) ?_
        show own_Go p e below _ T0 (mkF m 8 #[oR a, oI (3 : Int32), oF tb, oF d2, oD x6, .second, oI (3 : Int32), oF d2] [])
        refine own_by (fun t_ k_ => XS.iload X0.here hx rfl (hb hby d2_8) rfl  k_) ?_
        show own_Go p e below _ T0 (mkF m 10 #[oR a, oI (3 : Int32), oF tb, oF d2, oD x6, .second, oI (3 : Int32), oF d2] [(.int (3 : Int32))])
        refine own_by (fun t_ k_ => XS.iloadN X0.here hx rfl (hb hby d2_10) rfl  k_) ?_
        show own_Go p e below _ T0 (mkF m 11 #[oR a, oI (3 : Int32), oF tb, oF d2, oD x6, .second, oI (3 : Int32), oF d2] [(.int (3 : Int32)), (.int (3 : Int32))])
        refine own_by (fun t_ k_ => XS.icmpYes X0.here hx rfl (pc0 := 11) (pc' := 54) rfl (hb hby d2_11) rfl (XT.ii_ge_t (by decide)) (by decide) (by decide) k_) ?_
        show own_Go p e below _ T0 (mkF m 54 #[oR a, oI (3 : Int32), oF tb, oF d2, oD x6, .second, oI (3 : Int32), oF d2] [])
        refine own_by (fun t_ k_ => XS.floadN X0.here hx rfl (hb hby d2_54) rfl  k_) ?_
        show own_Go p e below _ T0 (mkF m 55 #[oR a, oI (3 : Int32), oF tb, oF d2, oD x6, .second, oI (3 : Int32), oF d2] [(.float d2)])
        have D47 := own_D_f2d F2 (by omega) (by decide) (by decide)
        refine own_by (fun t_ k_ => XS.f2dS X0.here hx rfl (hb hby d2_55) rfl (own_D_no D47) rfl k_) ?_
        show own_Go p e below _ T0 (mkF m 56 #[oR a, oI (3 : Int32), oF tb, oF d2, oD x6, .second, oI (3 : Int32), oF d2] [(.double (FP.f2d d2))])
        generalize (FP.f2d d2) = x7 at D47 ⊢
        show own_Go p e below _ T0 (mkF m 56 #[oR a, oI (3 : Int32), oF tb, oF d2, oD x6, .second, oI (3 : Int32), oF d2] [(.double x7)])
        refine own_by (fun t_ k_ => XS.floadN X0.here hx rfl (hb hby d2_56) rfl  k_) ?_
        show own_Go p e below _ T0 (mkF m 57 #[oR a, oI (3 : Int32), oF tb, oF d2, oD x6, .second, oI (3 : Int32), oF d2] [(.float tb), (.double x7)])
        have D48 := own_D_f2d Ft (by omega) (by decide) (by decide)
        refine own_by (fun t_ k_ => XS.f2dS X0.here hx rfl (hb hby d2_57) rfl (own_D_no D48) rfl k_) ?_
        show own_Go p e below _ T0 (mkF m 58 #[oR a, oI (3 : Int32), oF tb, oF d2, oD x6, .second, oI (3 : Int32), oF d2] [(.double (FP.f2d tb)), (.double x7)])
        generalize (FP.f2d tb) = x8 at D48 ⊢
        show own_Go p e below _ T0 (mkF m 58 #[oR a, oI (3 : Int32), oF tb, oF d2, oD x6, .second, oI (3 : Int32), oF d2] [(.double x8), (.double x7)])
        refine own_by (fun t_ k_ => XS.dload X0.here hx rfl (hb hby d2_58) rfl  k_) ?_
        show own_Go p e below _ T0 (mkF m 60 #[oR a, oI (3 : Int32), oF tb, oF d2, oD x6, .second, oI (3 : Int32), oF d2] [(.double x6), (.double x8), (.double x7)])
        have hsm := own_small (o := (((0 + V0) + 0) + V1)) K1 K2 (by omega) (by omega)
        have D49 := own_D_mul (l := 0) D48 D46 (by omega) (by decide) (by decide)
        refine own_by (fun t_ k_ => XS.dmulS X0.here hx rfl (hb hby d2_60) rfl (own_D_no D49) rfl k_) ?_
        show own_Go p e below _ T0 (mkF m 61 #[oR a, oI (3 : Int32), oF tb, oF d2, oD x6, .second, oI (3 : Int32), oF d2] [(.double (FP.dmul x8 x6)), (.double x7)])
        generalize (FP.dmul x8 x6) = x9 at D49 ⊢
        show own_Go p e below _ T0 (mkF m 61 #[oR a, oI (3 : Int32), oF tb, oF d2, oD x6, .second, oI (3 : Int32), oF d2] [(.double x9), (.double x7)])
        have D50 := own_D_add (own_D_up D47 3) D49 (by simp only [show ((2 ^ 3 : Nat) : Int) = 8 from rfl]; omega) (by decide) (by decide)
        refine own_by (fun t_ k_ => XS.daddS X0.here hx rfl (hb hby d2_61) rfl (own_D_no D50) rfl k_) ?_
        show own_Go p e below _ T0 (mkF m 62 #[oR a, oI (3 : Int32), oF tb, oF d2, oD x6, .second, oI (3 : Int32), oF d2] [(.double (FP.dadd x7 x9))])
        generalize (FP.dadd x7 x9) = x10 at D50 ⊢
        show own_Go p e below _ T0 (mkF m 62 #[oR a, oI (3 : Int32), oF tb, oF d2, oD x6, .second, oI (3 : Int32), oF d2] [(.double x10)])
        have D51 := own_F_d2f D50 (by simp only [show ((2 ^ 3 : Nat) : Int) = 8 from rfl]; omega) (by decide) (by decide)
        refine own_by (fun t_ k_ => XS.d2fS X0.here hx rfl (hb hby d2_62) rfl (own_F_no D51) rfl k_) ?_
        show own_Go p e below _ T0 (mkF m 63 #[oR a, oI (3 : Int32), oF tb, oF d2, oD x6, .second, oI (3 : Int32), oF d2] [(.float (FP.d2f x10))])
        generalize (FP.d2f x10) = r at D51 ⊢
        show own_Go p e below _ T0 (mkF m 63 #[oR a, oI (3 : Int32), oF tb, oF d2, oD x6, .second, oI (3 : Int32), oF d2] [(.float r)])
        exact own_retF X0 hx hlk hret (hb hby d2_63) (by decide) (by decide) (⟨⟨r, V2, (((0 + V0) + 0) + V1), rfl, D51, by omega, by omega⟩, e0, rfl⟩)
      · refine own_by (fun t_ k_ => XS.ifYes X0.here hx rfl (pc0 := 24) (pc' := 40) rfl (hb hby d2_24) rfl (XT.i0_le_t c24_43) (by decide) (by decide) k_) ?_
        show own_Go p e below _ T0 (mkF m 40 #[oR a, oI (3 : Int32), oF tb, oF d1, oD x4, .second, oI (2 : Int32), oF d2] [])
        have gc24_43 : ¬ V1 < V2 := fun z => c24_43 ((own_fgt F2 F1).mpr z)
        refine own_by (fun t_ k_ => XS.dload X0.here hx rfl (hb hby d2_40) rfl  k_) ?_
        show own_Go p e below _ T0 (mkF m 42 #[oR a, oI (3 : Int32), oF tb, oF d1, oD x4, .second, oI (2 : Int32), oF d2] [(.double x4)])
        refine own_by (fun t_ k_ => XS.fload X0.here hx rfl (hb hby d2_42) rfl  k_) ?_
        show own_Go p e below _ T0 (mkF m 44 #[oR a, oI (3 : Int32), oF tb, oF d1, oD x4, .second, oI (2 : Int32), oF d2] [(.float d2), (.double x4)])
        have D52 := own_D_f2d F2 (by omega) (by decide) (by decide)
        refine own_by (fun t_ k_ => XS.f2dS X0.here hx rfl (hb hby d2_44) rfl (own_D_no D52) rfl k_) ?_
        show own_Go p e below _ T0 (mkF m 45 #[oR a, oI (3 : Int32), oF tb, oF d1, oD x4, .second, oI (2 : Int32), oF d2] [(.double (FP.f2d d2)), (.double x4)])
        generalize (FP.f2d d2) = x5 at D52 ⊢
        show own_Go p e below _ T0 (mkF m 45 #[oR a, oI (3 : Int32), oF tb, oF d1, oD x4, .second, oI (2 : Int32), oF d2] [(.double x5), (.double x4)])
        have D53 := own_D_add D43 D52 (by omega) (by decide) (by decide)
        refine own_by (fun t_ k_ => XS.daddS X0.here hx rfl (hb hby d2_45) rfl (own_D_no D53) rfl k_) ?_
        show own_Go p e below _ T0 (mkF m 46 #[oR a, oI (3 : Int32), oF tb, oF d1, oD x4, .second, oI (2 : Int32), oF d2] [(.double (FP.dadd x4 x5))])
        generalize (FP.dadd x4 x5) = x6 at D53 ⊢
        show own_Go p e below _ T0 (mkF m 46 #[oR a, oI (3 : Int32), oF tb, oF d1, oD x4, .second, oI (2 : Int32), oF d2] [(.double x6)])
        refine own_by (fun t_ k_ => XS.dstore X0.here hx rfl (hb hby d2_46) rfl (l' := #[oR a, oI (3 : Int32), oF tb, oF d1, oD x6, .second, oI (2 : Int32), oF d2]) rfl k_) ?_
        show own_Go p e below _ T0 (mkF m 48 #[oR a, oI (3 : Int32), oF tb, oF d1, oD x6, .second, oI (2 : Int32), oF d2] [])
        refine own_by (fun t_ k_ => XT.iincV X0.here hx rfl (1 : Int32) (hb hby d2_48) (by decide) rfl (l' := #[oR a, oI (3 : Int32), oF tb, oF d1, oD x6, .second, oI ((2 : Int32) + (1 : Int32)), oF d2]) rfl k_) ?_
        show own_Go p e below _ T0 (mkF m 51 #[oR a, oI (3 : Int32), oF tb, oF d1, oD x6, .second, oI ((2 : Int32) + (1 : Int32)), oF d2] [])
        rw [show ((2 : Int32) + (1 : Int32)) = (3 : Int32) by decide]
        show own_Go p e below _ T0 (mkF m 51 #[oR a, oI (3 : Int32), oF tb, oF d1, oD x6, .second, oI (3 : Int32), oF d2] [])
        refine own_by (fun t_ k_ => XS.goto X0.here hx rfl (pc0 := 51) (pc' := 8) rfl (hb hby d2_51) (by decide) (by decide) k_) ?_
        show own_Go p e below _ T0 (mkF m 8 #[oR a, oI (3 : Int32), oF tb, oF d1, oD x6, .second, oI (3 : Int32), oF d2] [])
        refine own_by (fun t_ k_ => XS.iload X0.here hx rfl (hb hby d2_8) rfl  k_) ?_
        show own_Go p e below _ T0 (mkF m 10 #[oR a, oI (3 : Int32), oF tb, oF d1, oD x6, .second, oI (3 : Int32), oF d2] [(.int (3 : Int32))])
        refine own_by (fun t_ k_ => XS.iloadN X0.here hx rfl (hb hby d2_10) rfl  k_) ?_
        show own_Go p e below _ T0 (mkF m 11 #[oR a, oI (3 : Int32), oF tb, oF d1, oD x6, .second, oI (3 : Int32), oF d2] [(.int (3 : Int32)), (.int (3 : Int32))])
        refine own_by (fun t_ k_ => XS.icmpYes X0.here hx rfl (pc0 := 11) (pc' := 54) rfl (hb hby d2_11) rfl (XT.ii_ge_t (by decide)) (by decide) (by decide) k_) ?_
        show own_Go p e below _ T0 (mkF m 54 #[oR a, oI (3 : Int32), oF tb, oF d1, oD x6, .second, oI (3 : Int32), oF d2] [])
        refine own_by (fun t_ k_ => XS.floadN X0.here hx rfl (hb hby d2_54) rfl  k_) ?_
        show own_Go p e below _ T0 (mkF m 55 #[oR a, oI (3 : Int32), oF tb, oF d1, oD x6, .second, oI (3 : Int32), oF d2] [(.float d1)])
        have D54 := own_D_f2d F1 (by omega) (by decide) (by decide)
        refine own_by (fun t_ k_ => XS.f2dS X0.here hx rfl (hb hby d2_55) rfl (own_D_no D54) rfl k_) ?_
        show own_Go p e below _ T0 (mkF m 56 #[oR a, oI (3 : Int32), oF tb, oF d1, oD x6, .second, oI (3 : Int32), oF d2] [(.double (FP.f2d d1))])
        generalize (FP.f2d d1) = x7 at D54 ⊢
        show own_Go p e below _ T0 (mkF m 56 #[oR a, oI (3 : Int32), oF tb, oF d1, oD x6, .second, oI (3 : Int32), oF d2] [(.double x7)])
        refine own_by (fun t_ k_ => XS.floadN X0.here hx rfl (hb hby d2_56) rfl  k_) ?_
        show own_Go p e below _ T0 (mkF m 57 #[oR a, oI (3 : Int32), oF tb, oF d1, oD x6, .second, oI (3 : Int32), oF d2] [(.float tb), (.double x7)])
        have D55 := own_D_f2d Ft (by omega) (by decide) (by decide)
        refine own_by (fun t_ k_ => XS.f2dS X0.here hx rfl (hb hby d2_57) rfl (own_D_no D55) rfl k_) ?_
        show own_Go p e below _ T0 (mkF m 58 #[oR a, oI (3 : Int32), oF tb, oF d1, oD x6, .second, oI (3 : Int32), oF d2] [(.double (FP.f2d tb)), (.double x7)])
        generalize (FP.f2d tb) = x8 at D55 ⊢
        show own_Go p e below _ T0 (mkF m 58 #[oR a, oI (3 : Int32), oF tb, oF d1, oD x6, .second, oI (3 : Int32), oF d2] [(.double x8), (.double x7)])
        refine own_by (fun t_ k_ => XS.dload X0.here hx rfl (hb hby d2_58) rfl  k_) ?_
        show own_Go p e below _ T0 (mkF m 60 #[oR a, oI (3 : Int32), oF tb, oF d1, oD x6, .second, oI (3 : Int32), oF d2] [(.double x6), (.double x8), (.double x7)])
        have hsm := own_small (o := (((0 + V0) + 0) + V2)) K1 K2 (by omega) (by omega)
        have D56 := own_D_mul (l := 0) D55 D53 (by omega) (by decide) (by decide)
        refine own_by (fun t_ k_ => XS.dmulS X0.here hx rfl (hb hby d2_60) rfl (own_D_no D56) rfl k_) ?_
        show own_Go p e below _ T0 (mkF m 61 #[oR a, oI (3 : Int32), oF tb, oF d1, oD x6, .second, oI (3 : Int32), oF d2] [(.double (FP.dmul x8 x6)), (.double x7)])
        generalize (FP.dmul x8 x6) = x9 at D56 ⊢
        show own_Go p e below _ T0 (mkF m 61 #[oR a, oI (3 : Int32), oF tb, oF d1, oD x6, .second, oI (3 : Int32), oF d2] [(.double x9), (.double x7)])
        have D57 := own_D_add (own_D_up D54 3) D56 (by simp only [show ((2 ^ 3 : Nat) : Int) = 8 from rfl]; omega) (by decide) (by decide)
        refine own_by (fun t_ k_ => XS.daddS X0.here hx rfl (hb hby d2_61) rfl (own_D_no D57) rfl k_) ?_
        show own_Go p e below _ T0 (mkF m 62 #[oR a, oI (3 : Int32), oF tb, oF d1, oD x6, .second, oI (3 : Int32), oF d2] [(.double (FP.dadd x7 x9))])
        generalize (FP.dadd x7 x9) = x10 at D57 ⊢
        show own_Go p e below _ T0 (mkF m 62 #[oR a, oI (3 : Int32), oF tb, oF d1, oD x6, .second, oI (3 : Int32), oF d2] [(.double x10)])
        have D58 := own_F_d2f D57 (by simp only [show ((2 ^ 3 : Nat) : Int) = 8 from rfl]; omega) (by decide) (by decide)
        refine own_by (fun t_ k_ => XS.d2fS X0.here hx rfl (hb hby d2_62) rfl (own_F_no D58) rfl k_) ?_
        show own_Go p e below _ T0 (mkF m 63 #[oR a, oI (3 : Int32), oF tb, oF d1, oD x6, .second, oI (3 : Int32), oF d2] [(.float (FP.d2f x10))])
        generalize (FP.d2f x10) = r at D58 ⊢
        show own_Go p e below _ T0 (mkF m 63 #[oR a, oI (3 : Int32), oF tb, oF d1, oD x6, .second, oI (3 : Int32), oF d2] [(.float r)])
        exact own_retF X0 hx hlk hret (hb hby d2_63) (by decide) (by decide) (⟨⟨r, V1, (((0 + V0) + 0) + V2), rfl, D58, by omega, by omega⟩, e0, rfl⟩)
    · refine own_by (fun t_ k_ => XS.ifYes X0.here hx rfl (pc0 := 24) (pc' := 40) rfl (hb hby d2_24) rfl (XT.i0_le_t c24_40) (by decide) (by decide) k_) ?_
      show own_Go p e below _ T0 (mkF m 40 #[oR a, oI (3 : Int32), oF tb, oF FP.fconst0, oD x2, .second, oI (1 : Int32), oF d1] [])
      have gc24_40 : ¬ 0 < V1 := fun z => c24_40 ((own_fgt F1 (own_F_zero 0)).mpr z)
      refine own_by (fun t_ k_ => XS.dload X0.here hx rfl (hb hby d2_40) rfl  k_) ?_
      show own_Go p e below _ T0 (mkF m 42 #[oR a, oI (3 : Int32), oF tb, oF FP.fconst0, oD x2, .second, oI (1 : Int32), oF d1] [(.double x2)])
      refine own_by (fun t_ k_ => XS.fload X0.here hx rfl (hb hby d2_42) rfl  k_) ?_
      show own_Go p e below _ T0 (mkF m 44 #[oR a, oI (3 : Int32), oF tb, oF FP.fconst0, oD x2, .second, oI (1 : Int32), oF d1] [(.float d1), (.double x2)])
      have D59 := own_D_f2d F1 (by omega) (by decide) (by decide)
      refine own_by (fun t_ k_ => XS.f2dS X0.here hx rfl (hb hby d2_44) rfl (own_D_no D59) rfl k_) ?_
      show own_Go p e below _ T0 (mkF m 45 #[oR a, oI (3 : Int32), oF tb, oF FP.fconst0, oD x2, .second, oI (1 : Int32), oF d1] [(.double (FP.f2d d1)), (.double x2)])
      generalize (FP.f2d d1) = x3 at D59 ⊢
      show own_Go p e below _ T0 (mkF m 45 #[oR a, oI (3 : Int32), oF tb, oF FP.fconst0, oD x2, .second, oI (1 : Int32), oF d1] [(.double x3), (.double x2)])
      have D60 := own_D_add D40 D59 (by omega) (by decide) (by decide)
      refine own_by (fun t_ k_ => XS.daddS X0.here hx rfl (hb hby d2_45) rfl (own_D_no D60) rfl k_) ?_
      show own_Go p e below _ T0 (mkF m 46 #[oR a, oI (3 : Int32), oF tb, oF FP.fconst0, oD x2, .second, oI (1 : Int32), oF d1] [(.double (FP.dadd x2 x3))])
      generalize (FP.dadd x2 x3) = x4 at D60 ⊢
      show own_Go p e below _ T0 (mkF m 46 #[oR a, oI (3 : Int32), oF tb, oF FP.fconst0, oD x2, .second, oI (1 : Int32), oF d1] [(.double x4)])
      refine own_by (fun t_ k_ => XS.dstore X0.here hx rfl (hb hby d2_46) rfl (l' := #[oR a, oI (3 : Int32), oF tb, oF FP.fconst0, oD x4, .second, oI (1 : Int32), oF d1]) rfl k_) ?_
      show own_Go p e below _ T0 (mkF m 48 #[oR a, oI (3 : Int32), oF tb, oF FP.fconst0, oD x4, .second, oI (1 : Int32), oF d1] [])
      refine own_by (fun t_ k_ => XT.iincV X0.here hx rfl (1 : Int32) (hb hby d2_48) (by decide) rfl (l' := #[oR a, oI (3 : Int32), oF tb, oF FP.fconst0, oD x4, .second, oI ((1 : Int32) + (1 : Int32)), oF d1]) rfl k_) ?_
      show own_Go p e below _ T0 (mkF m 51 #[oR a, oI (3 : Int32), oF tb, oF FP.fconst0, oD x4, .second, oI ((1 : Int32) + (1 : Int32)), oF d1] [])
      rw [show ((1 : Int32) + (1 : Int32)) = (2 : Int32) by decide]
      show own_Go p e below _ T0 (mkF m 51 #[oR a, oI (3 : Int32), oF tb, oF FP.fconst0, oD x4, .second, oI (2 : Int32), oF d1] [])
      refine own_by (fun t_ k_ => XS.goto X0.here hx rfl (pc0 := 51) (pc' := 8) rfl (hb hby d2_51) (by decide) (by decide) k_) ?_
      show own_Go p e below _ T0 (mkF m 8 #[oR a, oI (3 : Int32), oF tb, oF FP.fconst0, oD x4, .second, oI (2 : Int32), oF d1] [])
      refine own_by (fun t_ k_ => XS.iload X0.here hx rfl (hb hby d2_8) rfl  k_) ?_
      show own_Go p e below _ T0 (mkF m 10 #[oR a, oI (3 : Int32), oF tb, oF FP.fconst0, oD x4, .second, oI (2 : Int32), oF d1] [(.int (2 : Int32))])
      refine own_by (fun t_ k_ => XS.iloadN X0.here hx rfl (hb hby d2_10) rfl  k_) ?_
      show own_Go p e below _ T0 (mkF m 11 #[oR a, oI (3 : Int32), oF tb, oF FP.fconst0, oD x4, .second, oI (2 : Int32), oF d1] [(.int (3 : Int32)), (.int (2 : Int32))])
      refine own_by (fun t_ k_ => XS.icmpNo X0.here hx rfl (hb hby d2_11) rfl (XT.ii_ge_f (by decide)) k_) ?_
      show own_Go p e below _ T0 (mkF m 14 #[oR a, oI (3 : Int32), oF tb, oF FP.fconst0, oD x4, .second, oI (2 : Int32), oF d1] [])
      refine own_by (fun t_ k_ => XS.aloadN X0.here hx rfl (hb hby d2_14) rfl rfl  k_) ?_
      show own_Go p e below _ T0 (mkF m 15 #[oR a, oI (3 : Int32), oF tb, oF FP.fconst0, oD x4, .second, oI (2 : Int32), oF d1] [(.ref a)])
      refine own_by (fun t_ k_ => XS.iload X0.here hx rfl (hb hby d2_15) rfl  k_) ?_
      show own_Go p e below _ T0 (mkF m 17 #[oR a, oI (3 : Int32), oF tb, oF FP.fconst0, oD x4, .second, oI (2 : Int32), oF d1] [(.int (2 : Int32)), (.ref a)])
      refine own_ldF X0 hx hZ e0 V 2 (by decide) (by decide) (v := (.float d2)) rfl (hb hby d2_17) ?_
      show own_Go p e below _ T0 (mkF m 18 #[oR a, oI (3 : Int32), oF tb, oF FP.fconst0, oD x4, .second, oI (2 : Int32), oF d1] [(.float d2)])
      refine own_by (fun t_ k_ => XS.fstore X0.here hx rfl (hb hby d2_18) rfl (l' := #[oR a, oI (3 : Int32), oF tb, oF FP.fconst0, oD x4, .second, oI (2 : Int32), oF d2]) rfl k_) ?_
      show own_Go p e below _ T0 (mkF m 20 #[oR a, oI (3 : Int32), oF tb, oF FP.fconst0, oD x4, .second, oI (2 : Int32), oF d2] [])
      refine own_by (fun t_ k_ => XS.fload X0.here hx rfl (hb hby d2_20) rfl  k_) ?_
      show own_Go p e below _ T0 (mkF m 22 #[oR a, oI (3 : Int32), oF tb, oF FP.fconst0, oD x4, .second, oI (2 : Int32), oF d2] [(.float d2)])
      refine own_by (fun t_ k_ => XS.floadN X0.here hx rfl (hb hby d2_22) rfl  k_) ?_
      show own_Go p e below _ T0 (mkF m 23 #[oR a, oI (3 : Int32), oF tb, oF FP.fconst0, oD x4, .second, oI (2 : Int32), oF d2] [(.float FP.fconst0), (.float d2)])
      refine own_by (fun t_ k_ => XS.fcmpS X0.here hx rfl (hb hby d2_23) rfl rfl k_) ?_
      show own_Go p e below _ T0 (mkF m 24 #[oR a, oI (3 : Int32), oF tb, oF FP.fconst0, oD x4, .second, oI (2 : Int32), oF d2] [(.int (cmpValue (FP.fcmp d2 FP.fconst0) .l))])
      by_cases c24_60 : (0 : Int32) < (cmpValue (FP.fcmp d2 FP.fconst0) .l)
      · refine own_by (fun t_ k_ => XS.ifNo X0.here hx rfl (hb hby d2_24) rfl (XT.i0_le_f c24_60) k_) ?_
        show own_Go p e below _ T0 (mkF m 27 #[oR a, oI (3 : Int32), oF tb, oF FP.fconst0, oD x4, .second, oI (2 : Int32), oF d2] [])
        have gc24_60 : 0 < V2 := (own_fgt F2 (own_F_zero 0)).mp c24_60
        refine own_by (fun t_ k_ => XS.dload X0.here hx rfl (hb hby d2_27) rfl  k_) ?_
        show own_Go p e below _ T0 (mkF m 29 #[oR a, oI (3 : Int32), oF tb, oF FP.fconst0, oD x4, .second, oI (2 : Int32), oF d2] [(.double x4)])
        refine own_by (fun t_ k_ => XS.floadN X0.here hx rfl (hb hby d2_29) rfl  k_) ?_
        show own_Go p e below _ T0 (mkF m 30 #[oR a, oI (3 : Int32), oF tb, oF FP.fconst0, oD x4, .second, oI (2 : Int32), oF d2] [(.float FP.fconst0), (.double x4)])
        have D62 := own_D_f2d (own_F_zero 0) (by omega) (by decide) (by decide)
        refine own_by (fun t_ k_ => XS.f2dS X0.here hx rfl (hb hby d2_30) rfl (own_D_no D62) rfl k_) ?_
        show own_Go p e below _ T0 (mkF m 31 #[oR a, oI (3 : Int32), oF tb, oF FP.fconst0, oD x4, .second, oI (2 : Int32), oF d2] [(.double (FP.f2d FP.fconst0)), (.double x4)])
        generalize (FP.f2d FP.fconst0) = x5 at D62 ⊢
        show own_Go p e below _ T0 (mkF m 31 #[oR a, oI (3 : Int32), oF tb, oF FP.fconst0, oD x4, .second, oI (2 : Int32), oF d2] [(.double x5), (.double x4)])
        have D63 := own_D_add D60 D62 (by omega) (by decide) (by decide)
        refine own_by (fun t_ k_ => XS.daddS X0.here hx rfl (hb hby d2_31) rfl (own_D_no D63) rfl k_) ?_
        show own_Go p e below _ T0 (mkF m 32 #[oR a, oI (3 : Int32), oF tb, oF FP.fconst0, oD x4, .second, oI (2 : Int32), oF d2] [(.double (FP.dadd x4 x5))])
        generalize (FP.dadd x4 x5) = x6 at D63 ⊢
        show own_Go p e below _ T0 (mkF m 32 #[oR a, oI (3 : Int32), oF tb, oF FP.fconst0, oD x4, .second, oI (2 : Int32), oF d2] [(.double x6)])
        refine own_by (fun t_ k_ => XS.dstore X0.here hx rfl (hb hby d2_32) rfl (l' := #[oR a, oI (3 : Int32), oF tb, oF FP.fconst0, oD x6, .second, oI (2 : Int32), oF d2]) rfl k_) ?_
        show own_Go p e below _ T0 (mkF m 34 #[oR a, oI (3 : Int32), oF tb, oF FP.fconst0, oD x6, .second, oI (2 : Int32), oF d2] [])
        refine own_by (fun t_ k_ => XS.fload X0.here hx rfl (hb hby d2_34) rfl  k_) ?_
        show own_Go p e below _ T0 (mkF m 36 #[oR a, oI (3 : Int32), oF tb, oF FP.fconst0, oD x6, .second, oI (2 : Int32), oF d2] [(.float d2)])
        refine own_by (fun t_ k_ => XS.fstoreN X0.here hx rfl (hb hby d2_36) rfl (l' := #[oR a, oI (3 : Int32), oF tb, oF d2, oD x6, .second, oI (2 : Int32), oF d2]) rfl k_) ?_
        show own_Go p e below _ T0 (mkF m 37 #[oR a, oI (3 : Int32), oF tb, oF d2, oD x6, .second, oI (2 : Int32), oF d2] [])
        refine own_by (fun t_ k_ => XS.goto X0.here hx rfl (pc0 := 37) (pc' := 48) rfl (hb hby d2_37) (by decide) (by decide) k_) ?_
        show own_Go p e below _ T0 (mkF m 48 #[oR a, oI (3 : Int32), oF tb, oF d2, oD x6, .second, oI (2 : Int32), oF d2] [])
        refine own_by (fun t_ k_ => XT.iincV X0.here hx rfl (1 : Int32) (hb hby d2_48) (by decide) rfl (l' := #[oR a, oI (3 : Int32), oF tb, oF d2, oD x6, .second, oI ((2 : Int32) + (1 : Int32)), oF d2]) rfl k_) ?_
        show own_Go p e below _ T0 (mkF m 51 #[oR a, oI (3 : Int32), oF tb, oF d2, oD x6, .second, oI ((2 : Int32) + (1 : Int32)), oF d2] [])
        rw [show ((2 : Int32) + (1 : Int32)) = (3 : Int32) by decide]
        show own_Go p e below _ T0 (mkF m 51 #[oR a, oI (3 : Int32), oF tb, oF d2, oD x6, .second, oI (3 : Int32), oF d2] [])
        refine own_by (fun t_ k_ => XS.goto X0.here hx rfl (pc0 := 51) (pc' := 8) rfl (hb hby d2_51) (by decide) (by decide) k_) ?_
        show own_Go p e below _ T0 (mkF m 8 #[oR a, oI (3 : Int32), oF tb, oF d2, oD x6, .second, oI (3 : Int32), oF d2] [])
        refine own_by (fun t_ k_ => XS.iload X0.here hx rfl (hb hby d2_8) rfl  k_) ?_
        show own_Go p e below _ T0 (mkF m 10 #[oR a, oI (3 : Int32), oF tb, oF d2, oD x6, .second, oI (3 : Int32), oF d2] [(.int (3 : Int32))])
        refine own_by (fun t_ k_ => XS.iloadN X0.here hx rfl (hb hby d2_10) rfl  k_) ?_
        show own_Go p e below _ T0 (mkF m 11 #[oR a, oI (3 : Int32), oF tb, oF d2, oD x6, .second, oI (3 : Int32), oF d2] [(.int (3 : Int32)), (.int (3 : Int32))])
        refine own_by (fun t_ k_ => XS.icmpYes X0.here hx rfl (pc0 := 11) (pc' := 54) rfl (hb hby d2_11) rfl (XT.ii_ge_t (by decide)) (by decide) (by decide) k_) ?_
        show own_Go p e below _ T0 (mkF m 54 #[oR a, oI (3 : Int32), oF tb, oF d2, oD x6, .second, oI (3 : Int32), oF d2] [])
        refine own_by (fun t_ k_ => XS.floadN X0.here hx rfl (hb hby d2_54) rfl  k_) ?_
        show own_Go p e below _ T0 (mkF m 55 #[oR a, oI (3 : Int32), oF tb, oF d2, oD x6, .second, oI (3 : Int32), oF d2] [(.float d2)])
        have D64 := own_D_f2d F2 (by omega) (by decide) (by decide)
        refine own_by (fun t_ k_ => XS.f2dS X0.here hx rfl (hb hby d2_55) rfl (own_D_no D64) rfl k_) ?_
        show own_Go p e below _ T0 (mkF m 56 #[oR a, oI (3 : Int32), oF tb, oF d2, oD x6, .second, oI (3 : Int32), oF d2] [(.double (FP.f2d d2))])
        generalize (FP.f2d d2) = x7 at D64 ⊢
        show own_Go p e below _ T0 (mkF m 56 #[oR a, oI (3 : Int32), oF tb, oF d2, oD x6, .second, oI (3 : Int32), oF d2] [(.double x7)])
        refine own_by (fun t_ k_ => XS.floadN X0.here hx rfl (hb hby d2_56) rfl  k_) ?_
        show own_Go p e below _ T0 (mkF m 57 #[oR a, oI (3 : Int32), oF tb, oF d2, oD x6, .second, oI (3 : Int32), oF d2] [(.float tb), (.double x7)])
        have D65 := own_D_f2d Ft (by omega) (by decide) (by decide)
        refine own_by (fun t_ k_ => XS.f2dS X0.here hx rfl (hb hby d2_57) rfl (own_D_no D65) rfl k_) ?_
        show own_Go p e below _ T0 (mkF m 58 #[oR a, oI (3 : Int32), oF tb, oF d2, oD x6, .second, oI (3 : Int32), oF d2] [(.double (FP.f2d tb)), (.double x7)])
        generalize (FP.f2d tb) = x8 at D65 ⊢
        show own_Go p e below _ T0 (mkF m 58 #[oR a, oI (3 : Int32), oF tb, oF d2, oD x6, .second, oI (3 : Int32), oF d2] [(.double x8), (.double x7)])
        refine own_by (fun t_ k_ => XS.dload X0.here hx rfl (hb hby d2_58) rfl  k_) ?_
        show own_Go p e below _ T0 (mkF m 60 #[oR a, oI (3 : Int32), oF tb, oF d2, oD x6, .second, oI (3 : Int32), oF d2] [(.double x6), (.double x8), (.double x7)])
        have hsm := own_small (o := (((0 + V0) + V1) + 0)) K1 K2 (by omega) (by omega)
        have D66 := own_D_mul (l := 0) D65 D63 (by omega) (by decide) (by decide)
        refine own_by (fun t_ k_ => XS.dmulS X0.here hx rfl (hb hby d2_60) rfl (own_D_no D66) rfl k_) ?_
        show own_Go p e below _ T0 (mkF m 61 #[oR a, oI (3 : Int32), oF tb, oF d2, oD x6, .second, oI (3 : Int32), oF d2] [(.double (FP.dmul x8 x6)), (.double x7)])
        generalize (FP.dmul x8 x6) = x9 at D66 ⊢
        show own_Go p e below _ T0 (mkF m 61 #[oR a, oI (3 : Int32), oF tb, oF d2, oD x6, .second, oI (3 : Int32), oF d2] [(.double x9), (.double x7)])
        have D67 := own_D_add (own_D_up D64 3) D66 (by simp only [show ((2 ^ 3 : Nat) : Int) = 8 from rfl]; omega) (by decide) (by decide)
        refine own_by (fun t_ k_ => XS.daddS X0.here hx rfl (hb hby d2_61) rfl (own_D_no D67) rfl k_) ?_
        show own_Go p e below _ T0 (mkF m 62 #[oR a, oI (3 : Int32), oF tb, oF d2, oD x6, .second, oI (3 : Int32), oF d2] [(.double (FP.dadd x7 x9))])
        generalize (FP.dadd x7 x9) = x10 at D67 ⊢
        show own_Go p e below _ T0 (mkF m 62 #[oR a, oI (3 : Int32), oF tb, oF d2, oD x6, .second, oI (3 : Int32), oF d2] [(.double x10)])
        have D68 := own_F_d2f D67 (by simp only [show ((2 ^ 3 : Nat) : Int) = 8 from rfl]; omega) (by decide) (by decide)
        refine own_by (fun t_ k_ => XS.d2fS X0.here hx rfl (hb hby d2_62) rfl (own_F_no D68) rfl k_) ?_
        show own_Go p e below _ T0 (mkF m 63 #[oR a, oI (3 : Int32), oF tb, oF d2, oD x6, .second, oI (3 : Int32), oF d2] [(.float (FP.d2f x10))])
        generalize (FP.d2f x10) = r at D68 ⊢
        show own_Go p e below _ T0 (mkF m 63 #[oR a, oI (3 : Int32), oF tb, oF d2, oD x6, .second, oI (3 : Int32), oF d2] [(.float r)])
        exact own_retF X0 hx hlk hret (hb hby d2_63) (by decide) (by decide) (⟨⟨r, V2, (((0 + V0) + V1) + 0), rfl, D68, by omega, by omega⟩, e0, rfl⟩)
      · refine own_by (fun t_ k_ => XS.ifYes X0.here hx rfl (pc0 := 24) (pc' := 40) rfl (hb hby d2_24) rfl (XT.i0_le_t c24_60) (by decide) (by decide) k_) ?_
        show own_Go p e below _ T0 (mkF m 40 #[oR a, oI (3 : Int32), oF tb, oF FP.fconst0, oD x4, .second, oI (2 : Int32), oF d2] [])
        have gc24_60 : ¬ 0 < V2 := fun z => c24_60 ((own_fgt F2 (own_F_zero 0)).mpr z)
        refine own_by (fun t_ k_ => XS.dload X0.here hx rfl (hb hby d2_40) rfl  k_) ?_
        show own_Go p e below _ T0 (mkF m 42 #[oR a, oI (3 : Int32), oF tb, oF FP.fconst0, oD x4, .second, oI (2 : Int32), oF d2] [(.double x4)])
        refine own_by (fun t_ k_ => XS.fload X0.here hx rfl (hb hby d2_42) rfl  k_) ?_
        show own_Go p e below _ T0 (mkF m 44 #[oR a, oI (3 : Int32), oF tb, oF FP.fconst0, oD x4, .second, oI (2 : Int32), oF d2] [(.float d2), (.double x4)])
        have D69 := own_D_f2d F2 (by omega) (by decide) (by decide)
        refine own_by (fun t_ k_ => XS.f2dS X0.here hx rfl (hb hby d2_44) rfl (own_D_no D69) rfl k_) ?_
        show own_Go p e below _ T0 (mkF m 45 #[oR a, oI (3 : Int32), oF tb, oF FP.fconst0, oD x4, .second, oI (2 : Int32), oF d2] [(.double (FP.f2d d2)), (.double x4)])
        generalize (FP.f2d d2) = x5 at D69 ⊢
        show own_Go p e below _ T0 (mkF m 45 #[oR a, oI (3 : Int32), oF tb, oF FP.fconst0, oD x4, .second, oI (2 : Int32), oF d2] [(.double x5), (.double x4)])
        have D70 := own_D_add D60 D69 (by omega) (by decide) (by decide)
        refine own_by (fun t_ k_ => XS.daddS X0.here hx rfl (hb hby d2_45) rfl (own_D_no D70) rfl k_) ?_
        show own_Go p e below _ T0 (mkF m 46 #[oR a, oI (3 : Int32), oF tb, oF FP.fconst0, oD x4, .second, oI (2 : Int32), oF d2] [(.double (FP.dadd x4 x5))])
        generalize (FP.dadd x4 x5) = x6 at D70 ⊢
        show own_Go p e below _ T0 (mkF m 46 #[oR a, oI (3 : Int32), oF tb, oF FP.fconst0, oD x4, .second, oI (2 : Int32), oF d2] [(.double x6)])
        refine own_by (fun t_ k_ => XS.dstore X0.here hx rfl (hb hby d2_46) rfl (l' := #[oR a, oI (3 : Int32), oF tb, oF FP.fconst0, oD x6, .second, oI (2 : Int32), oF d2]) rfl k_) ?_
        show own_Go p e below _ T0 (mkF m 48 #[oR a, oI (3 : Int32), oF tb, oF FP.fconst0, oD x6, .second, oI (2 : Int32), oF d2] [])
        refine own_by (fun t_ k_ => XT.iincV X0.here hx rfl (1 : Int32) (hb hby d2_48) (by decide) rfl (l' := #[oR a, oI (3 : Int32), oF tb, oF FP.fconst0, oD x6, .second, oI ((2 : Int32) + (1 : Int32)), oF d2]) rfl k_) ?_
        show own_Go p e below _ T0 (mkF m 51 #[oR a, oI (3 : Int32), oF tb, oF FP.fconst0, oD x6, .second, oI ((2 : Int32) + (1 : Int32)), oF d2] [])
        rw [show ((2 : Int32) + (1 : Int32)) = (3 : Int32) by decide]
        show own_Go p e below _ T0 (mkF m 51 #[oR a, oI (3 : Int32), oF tb, oF FP.fconst0, oD x6, .second, oI (3 : Int32), oF d2] [])
        refine own_by (fun t_ k_ => XS.goto X0.here hx rfl (pc0 := 51) (pc' := 8) rfl (hb hby d2_51) (by decide) (by decide) k_) ?_
        show own_Go p e below _ T0 (mkF m 8 #[oR a, oI (3 : Int32), oF tb, oF FP.fconst0, oD x6, .second, oI (3 : Int32), oF d2] [])
        refine own_by (fun t_ k_ => XS.iload X0.here hx rfl (hb hby d2_8) rfl  k_) ?_
        show own_Go p e below _ T0 (mkF m 10 #[oR a, oI (3 : Int32), oF tb, oF FP.fconst0, oD x6, .second, oI (3 : Int32), oF d2] [(.int (3 : Int32))])
        refine own_by (fun t_ k_ => XS.iloadN X0.here hx rfl (hb hby d2_10) rfl  k_) ?_
        show own_Go p e below _ T0 (mkF m 11 #[oR a, oI (3 : Int32), oF tb, oF FP.fconst0, oD x6, .second, oI (3 : Int32), oF d2] [(.int (3 : Int32)), (.int (3 : Int32))])
        refine own_by (fun t_ k_ => XS.icmpYes X0.here hx rfl (pc0 := 11) (pc' := 54) rfl (hb hby d2_11) rfl (XT.ii_ge_t (by decide)) (by decide) (by decide) k_) ?_
        show own_Go p e below _ T0 (mkF m 54 #[oR a, oI (3 : Int32), oF tb, oF FP.fconst0, oD x6, .second, oI (3 : Int32), oF d2] [])
        refine own_by (fun t_ k_ => XS.floadN X0.here hx rfl (hb hby d2_54) rfl  k_) ?_
        show own_Go p e below _ T0 (mkF m 55 #[oR a, oI (3 : Int32), oF tb, oF FP.fconst0, oD x6, .second, oI (3 : Int32), oF d2] [(.float FP.fconst0)])
        have D71 := own_D_f2d (own_F_zero 0) (by omega) (by decide) (by decide)
        refine own_by (fun t_ k_ => XS.f2dS X0.here hx rfl (hb hby d2_55) rfl (own_D_no D71) rfl k_) ?_
        show own_Go p e below _ T0 (mkF m 56 #[oR a, oI (3 : Int32), oF tb, oF FP.fconst0, oD x6, .second, oI (3 : Int32), oF d2] [(.double (FP.f2d FP.fconst0))])
        generalize (FP.f2d FP.fconst0) = x7 at D71 ⊢
        show own_Go p e below _ T0 (mkF m 56 #[oR a, oI (3 : Int32), oF tb, oF FP.fconst0, oD x6, .second, oI (3 : Int32), oF d2] [(.double x7)])
        refine own_by (fun t_ k_ => XS.floadN X0.here hx rfl (hb hby d2_56) rfl  k_) ?_
        show own_Go p e below _ T0 (mkF m 57 #[oR a, oI (3 : Int32), oF tb, oF FP.fconst0, oD x6, .second, oI (3 : Int32), oF d2] [(.float tb), (.double x7)])
        have D72 := own_D_f2d Ft (by omega) (by decide) (by decide)
        refine own_by (fun t_ k_ => XS.f2dS X0.here hx rfl (hb hby d2_57) rfl (own_D_no D72) rfl k_) ?_
        show own_Go p e below _ T0 (mkF m 58 #[oR a, oI (3 : Int32), oF tb, oF FP.fconst0, oD x6, .second, oI (3 : Int32), oF d2] [(.double (FP.f2d tb)), (.double x7)])
        generalize (FP.f2d tb) = x8 at D72 ⊢
        show own_Go p e below _ T0 (mkF m 58 #[oR a, oI (3 : Int32), oF tb, oF FP.fconst0, oD x6, .second, oI (3 : Int32), oF d2] [(.double x8), (.double x7)])
        refine own_by (fun t_ k_ => XS.dload X0.here hx rfl (hb hby d2_58) rfl  k_) ?_
        show own_Go p e below _ T0 (mkF m 60 #[oR a, oI (3 : Int32), oF tb, oF FP.fconst0, oD x6, .second, oI (3 : Int32), oF d2] [(.double x6), (.double x8), (.double x7)])
        have hsm := own_small (o := (((0 + V0) + V1) + V2)) K1 K2 (by omega) (by omega)
        have D73 := own_D_mul (l := 0) D72 D70 (by omega) (by decide) (by decide)
        refine own_by (fun t_ k_ => XS.dmulS X0.here hx rfl (hb hby d2_60) rfl (own_D_no D73) rfl k_) ?_
        show own_Go p e below _ T0 (mkF m 61 #[oR a, oI (3 : Int32), oF tb, oF FP.fconst0, oD x6, .second, oI (3 : Int32), oF d2] [(.double (FP.dmul x8 x6)), (.double x7)])
        generalize (FP.dmul x8 x6) = x9 at D73 ⊢
        show own_Go p e below _ T0 (mkF m 61 #[oR a, oI (3 : Int32), oF tb, oF FP.fconst0, oD x6, .second, oI (3 : Int32), oF d2] [(.double x9), (.double x7)])
        have D74 := own_D_add (own_D_up D71 3) D73 (by simp only [show ((2 ^ 3 : Nat) : Int) = 8 from rfl]; omega) (by decide) (by decide)
        refine own_by (fun t_ k_ => XS.daddS X0.here hx rfl (hb hby d2_61) rfl (own_D_no D74) rfl k_) ?_
        show own_Go p e below _ T0 (mkF m 62 #[oR a, oI (3 : Int32), oF tb, oF FP.fconst0, oD x6, .second, oI (3 : Int32), oF d2] [(.double (FP.dadd x7 x9))])
        generalize (FP.dadd x7 x9) = x10 at D74 ⊢
        show own_Go p e below _ T0 (mkF m 62 #[oR a, oI (3 : Int32), oF tb, oF FP.fconst0, oD x6, .second, oI (3 : Int32), oF d2] [(.double x10)])
        have D75 := own_F_d2f D74 (by simp only [show ((2 ^ 3 : Nat) : Int) = 8 from rfl]; omega) (by decide) (by decide)
        refine own_by (fun t_ k_ => XS.d2fS X0.here hx rfl (hb hby d2_62) rfl (own_F_no D75) rfl k_) ?_
        show own_Go p e below _ T0 (mkF m 63 #[oR a, oI (3 : Int32), oF tb, oF FP.fconst0, oD x6, .second, oI (3 : Int32), oF d2] [(.float (FP.d2f x10))])
        generalize (FP.d2f x10) = r at D75 ⊢
        show own_Go p e below _ T0 (mkF m 63 #[oR a, oI (3 : Int32), oF tb, oF FP.fconst0, oD x6, .second, oI (3 : Int32), oF d2] [(.float r)])
        exact own_retF X0 hx hlk hret (hb hby d2_63) (by decide) (by decide) (⟨⟨r, 0, (((0 + V0) + V1) + V2), rfl, D75, by omega, by omega⟩, e0, rfl⟩)
theorem pn_1 : plainName "com/example/weighted_terms/weightedterms/search/ScoresBestPlusPinLaw" = true := by first | (simp [plainName, overriddenIn]; done) | decide +kernel
theorem pd_0 : parseMethodDescriptor "(II)I" = some ⟨[.int, .int], some .int⟩ := by decide +kernel
theorem pd_1 : parseMethodDescriptor "([FIF)F" = some ⟨[(.array .float), .int, .float], some .float⟩ := by decide +kernel
set_option maxRecDepth 65536 in
set_option maxHeartbeats 40000000 in
theorem own_law (l : Launch) (Z : State) (a0 : Array Value) (hw : ∀ d ∈ tables_1, d.before a0 Z = true) (i0 i1 i2 i3 i4 : Int32) (h0 : Heap)  :
    own_Met l x code maxLocals ret tables_1 room_1 Z #[(.int i0), (.int i1), (.int i2), (.int i3), (.int i4)] h0 (fun v h L => v = some (.int (1 : Int32)) ∧ Fr h0.size L) := by
  refine own_enter (plainFor_of_name pn_1) ?_
  intro p e s m below meth c T0 hx hby hml hret hlk hown hnm hZ X0 e0
  refine own_at (g' := (mkF m 0 #[oI i0, oI i1, oI i2, oI i3, oI i4, .unset, .unset, .unset, .unset, .unset, .unset, .unset, .unset, .unset, .unset, .unset, .unset, .unset, .unset, .unset] [])) (by first | (simp [entryFrame, mkF, argsToLocals, Value.category, maxLocals]; done) | rfl) ?_
  show own_Go p e below _ T0 (mkF m 0 #[oI i0, oI i1, oI i2, oI i3, oI i4, .unset, .unset, .unset, .unset, .unset, .unset, .unset, .unset, .unset, .unset, .unset, .unset, .unset, .unset, .unset] [])
  refine own_by (fun t_ k_ => XS.iloadN X0.here hx rfl (hb hby at_0) rfl  k_) ?_
  show own_Go p e below _ T0 (mkF m 1 #[oI i0, oI i1, oI i2, oI i3, oI i4, .unset, .unset, .unset, .unset, .unset, .unset, .unset, .unset, .unset, .unset, .unset, .unset, .unset, .unset, .unset] [(.int i0)])
  refine own_by (fun t_ k_ => X0.ldcI hx hown (mvT hZ (hw _ (List.mem_of_getElem? (i := 0) rfl))) rfl (hb hby at_1) k_) ?_
  show own_Go p e below _ T0 (mkF m 3 #[oI i0, oI i1, oI i2, oI i3, oI i4, .unset, .unset, .unset, .unset, .unset, .unset, .unset, .unset, .unset, .unset, .unset, .unset, .unset, .unset, .unset] [(.int (65535 : Int32)), (.int i0)])
  refine own_by (fun t_ k_ => XS.iand X0.here hx rfl (hb hby at_3) rfl k_) ?_
  show own_Go p e below _ T0 (mkF m 4 #[oI i0, oI i1, oI i2, oI i3, oI i4, .unset, .unset, .unset, .unset, .unset, .unset, .unset, .unset, .unset, .unset, .unset, .unset, .unset, .unset, .unset] [(.int (i0 &&& (65535 : Int32)))])
  have M0 := own_m16 i0
  obtain ⟨s0, hs0⟩ : ∃ z, (i0 &&& (65535 : Int32)) = z := ⟨_, rfl⟩
  rw [hs0] at M0
  rw [hs0]
  show own_Go p e below _ T0 (mkF m 4 #[oI i0, oI i1, oI i2, oI i3, oI i4, .unset, .unset, .unset, .unset, .unset, .unset, .unset, .unset, .unset, .unset, .unset, .unset, .unset, .unset, .unset] [(.int s0)])
  refine own_by (fun t_ k_ => XS.istore X0.here hx rfl (hb hby at_4) rfl (l' := #[oI i0, oI i1, oI i2, oI i3, oI i4, oI s0, .unset, .unset, .unset, .unset, .unset, .unset, .unset, .unset, .unset, .unset, .unset, .unset, .unset, .unset]) rfl k_) ?_
  show own_Go p e below _ T0 (mkF m 6 #[oI i0, oI i1, oI i2, oI i3, oI i4, oI s0, .unset, .unset, .unset, .unset, .unset, .unset, .unset, .unset, .unset, .unset, .unset, .unset, .unset, .unset] [])
  refine own_by (fun t_ k_ => XS.iloadN X0.here hx rfl (hb hby at_6) rfl  k_) ?_
  show own_Go p e below _ T0 (mkF m 7 #[oI i0, oI i1, oI i2, oI i3, oI i4, oI s0, .unset, .unset, .unset, .unset, .unset, .unset, .unset, .unset, .unset, .unset, .unset, .unset, .unset, .unset] [(.int i1)])
  refine own_by (fun t_ k_ => X0.ldcI hx hown (mvT hZ (hw _ (List.mem_of_getElem? (i := 0) rfl))) rfl (hb hby at_7) k_) ?_
  show own_Go p e below _ T0 (mkF m 9 #[oI i0, oI i1, oI i2, oI i3, oI i4, oI s0, .unset, .unset, .unset, .unset, .unset, .unset, .unset, .unset, .unset, .unset, .unset, .unset, .unset, .unset] [(.int (65535 : Int32)), (.int i1)])
  refine own_by (fun t_ k_ => XS.iand X0.here hx rfl (hb hby at_9) rfl k_) ?_
  show own_Go p e below _ T0 (mkF m 10 #[oI i0, oI i1, oI i2, oI i3, oI i4, oI s0, .unset, .unset, .unset, .unset, .unset, .unset, .unset, .unset, .unset, .unset, .unset, .unset, .unset, .unset] [(.int (i1 &&& (65535 : Int32)))])
  have M1 := own_m16 i1
  obtain ⟨s1, hs1⟩ : ∃ z, (i1 &&& (65535 : Int32)) = z := ⟨_, rfl⟩
  rw [hs1] at M1
  rw [hs1]
  show own_Go p e below _ T0 (mkF m 10 #[oI i0, oI i1, oI i2, oI i3, oI i4, oI s0, .unset, .unset, .unset, .unset, .unset, .unset, .unset, .unset, .unset, .unset, .unset, .unset, .unset, .unset] [(.int s1)])
  refine own_by (fun t_ k_ => XS.istore X0.here hx rfl (hb hby at_10) rfl (l' := #[oI i0, oI i1, oI i2, oI i3, oI i4, oI s0, oI s1, .unset, .unset, .unset, .unset, .unset, .unset, .unset, .unset, .unset, .unset, .unset, .unset, .unset]) rfl k_) ?_
  show own_Go p e below _ T0 (mkF m 12 #[oI i0, oI i1, oI i2, oI i3, oI i4, oI s0, oI s1, .unset, .unset, .unset, .unset, .unset, .unset, .unset, .unset, .unset, .unset, .unset, .unset, .unset] [])
  refine own_by (fun t_ k_ => XS.iloadN X0.here hx rfl (hb hby at_12) rfl  k_) ?_
  show own_Go p e below _ T0 (mkF m 13 #[oI i0, oI i1, oI i2, oI i3, oI i4, oI s0, oI s1, .unset, .unset, .unset, .unset, .unset, .unset, .unset, .unset, .unset, .unset, .unset, .unset, .unset] [(.int i2)])
  refine own_by (fun t_ k_ => X0.ldcI hx hown (mvT hZ (hw _ (List.mem_of_getElem? (i := 0) rfl))) rfl (hb hby at_13) k_) ?_
  show own_Go p e below _ T0 (mkF m 15 #[oI i0, oI i1, oI i2, oI i3, oI i4, oI s0, oI s1, .unset, .unset, .unset, .unset, .unset, .unset, .unset, .unset, .unset, .unset, .unset, .unset, .unset] [(.int (65535 : Int32)), (.int i2)])
  refine own_by (fun t_ k_ => XS.iand X0.here hx rfl (hb hby at_15) rfl k_) ?_
  show own_Go p e below _ T0 (mkF m 16 #[oI i0, oI i1, oI i2, oI i3, oI i4, oI s0, oI s1, .unset, .unset, .unset, .unset, .unset, .unset, .unset, .unset, .unset, .unset, .unset, .unset, .unset] [(.int (i2 &&& (65535 : Int32)))])
  have M2 := own_m16 i2
  obtain ⟨s2, hs2⟩ : ∃ z, (i2 &&& (65535 : Int32)) = z := ⟨_, rfl⟩
  rw [hs2] at M2
  rw [hs2]
  show own_Go p e below _ T0 (mkF m 16 #[oI i0, oI i1, oI i2, oI i3, oI i4, oI s0, oI s1, .unset, .unset, .unset, .unset, .unset, .unset, .unset, .unset, .unset, .unset, .unset, .unset, .unset] [(.int s2)])
  refine own_by (fun t_ k_ => XS.istore X0.here hx rfl (hb hby at_16) rfl (l' := #[oI i0, oI i1, oI i2, oI i3, oI i4, oI s0, oI s1, oI s2, .unset, .unset, .unset, .unset, .unset, .unset, .unset, .unset, .unset, .unset, .unset, .unset]) rfl k_) ?_
  show own_Go p e below _ T0 (mkF m 18 #[oI i0, oI i1, oI i2, oI i3, oI i4, oI s0, oI s1, oI s2, .unset, .unset, .unset, .unset, .unset, .unset, .unset, .unset, .unset, .unset, .unset, .unset] [])
  refine own_by (fun t_ k_ => XS.iloadN X0.here hx rfl (hb hby at_18) rfl  k_) ?_
  show own_Go p e below _ T0 (mkF m 19 #[oI i0, oI i1, oI i2, oI i3, oI i4, oI s0, oI s1, oI s2, .unset, .unset, .unset, .unset, .unset, .unset, .unset, .unset, .unset, .unset, .unset, .unset] [(.int i3)])
  refine own_by (fun t_ k_ => XT.iconstV X0.here hx rfl (3 : Int32) (hb hby at_19) (by decide) k_) ?_
  show own_Go p e below _ T0 (mkF m 20 #[oI i0, oI i1, oI i2, oI i3, oI i4, oI s0, oI s1, oI s2, .unset, .unset, .unset, .unset, .unset, .unset, .unset, .unset, .unset, .unset, .unset, .unset] [(.int (3 : Int32)), (.int i3)])
  refine own_by (fun t_ k_ => XS.iand X0.here hx rfl (hb hby at_20) rfl k_) ?_
  show own_Go p e below _ T0 (mkF m 21 #[oI i0, oI i1, oI i2, oI i3, oI i4, oI s0, oI s1, oI s2, .unset, .unset, .unset, .unset, .unset, .unset, .unset, .unset, .unset, .unset, .unset, .unset] [(.int (i3 &&& (3 : Int32)))])
  refine own_by (fun t_ k_ => XS.istore X0.here hx rfl (hb hby at_21) rfl (l' := #[oI i0, oI i1, oI i2, oI i3, oI i4, oI s0, oI s1, oI s2, oI (i3 &&& (3 : Int32)), .unset, .unset, .unset, .unset, .unset, .unset, .unset, .unset, .unset, .unset, .unset]) rfl k_) ?_
  show own_Go p e below _ T0 (mkF m 23 #[oI i0, oI i1, oI i2, oI i3, oI i4, oI s0, oI s1, oI s2, oI (i3 &&& (3 : Int32)), .unset, .unset, .unset, .unset, .unset, .unset, .unset, .unset, .unset, .unset, .unset] [])
  refine own_by (fun t_ k_ => XS.iload X0.here hx rfl (hb hby at_23) rfl  k_) ?_
  show own_Go p e below _ T0 (mkF m 25 #[oI i0, oI i1, oI i2, oI i3, oI i4, oI s0, oI s1, oI s2, oI (i3 &&& (3 : Int32)), .unset, .unset, .unset, .unset, .unset, .unset, .unset, .unset, .unset, .unset, .unset] [(.int i4)])
  refine own_by (fun t_ k_ => X0.ldcI hx hown (mvT hZ (hw _ (List.mem_of_getElem? (i := 1) rfl))) rfl (hb hby at_25) k_) ?_
  show own_Go p e below _ T0 (mkF m 27 #[oI i0, oI i1, oI i2, oI i3, oI i4, oI s0, oI s1, oI s2, oI (i3 &&& (3 : Int32)), .unset, .unset, .unset, .unset, .unset, .unset, .unset, .unset, .unset, .unset, .unset] [(.int (2147483647 : Int32)), (.int i4)])
  refine own_by (fun t_ k_ => XS.iand X0.here hx rfl (hb hby at_27) rfl k_) ?_
  show own_Go p e below _ T0 (mkF m 28 #[oI i0, oI i1, oI i2, oI i3, oI i4, oI s0, oI s1, oI s2, oI (i3 &&& (3 : Int32)), .unset, .unset, .unset, .unset, .unset, .unset, .unset, .unset, .unset, .unset, .unset] [(.int (i4 &&& (2147483647 : Int32)))])
  refine own_by (fun t_ k_ => XT.bipushV X0.here hx rfl (9 : Int32) (hb hby at_28) (by decide) k_) ?_
  show own_Go p e below _ T0 (mkF m 30 #[oI i0, oI i1, oI i2, oI i3, oI i4, oI s0, oI s1, oI s2, oI (i3 &&& (3 : Int32)), .unset, .unset, .unset, .unset, .unset, .unset, .unset, .unset, .unset, .unset, .unset] [(.int (9 : Int32)), (.int (i4 &&& (2147483647 : Int32)))])
  refine own_by (fun t_ k_ => iremM X0 hx rfl (hb hby at_30) rfl (by decide) k_) ?_
  show own_Go p e below _ T0 (mkF m 31 #[oI i0, oI i1, oI i2, oI i3, oI i4, oI s0, oI s1, oI s2, oI (i3 &&& (3 : Int32)), .unset, .unset, .unset, .unset, .unset, .unset, .unset, .unset, .unset, .unset, .unset] [(.int ((i4 &&& (2147483647 : Int32)) % (9 : Int32)))])
  have Mk := own_r9 i4
  obtain ⟨kr, hkr⟩ : ∃ z, ((i4 &&& (2147483647 : Int32)) % (9 : Int32)) = z := ⟨_, rfl⟩
  rw [hkr] at Mk
  rw [hkr]
  show own_Go p e below _ T0 (mkF m 31 #[oI i0, oI i1, oI i2, oI i3, oI i4, oI s0, oI s1, oI s2, oI (i3 &&& (3 : Int32)), .unset, .unset, .unset, .unset, .unset, .unset, .unset, .unset, .unset, .unset, .unset] [(.int kr)])
  refine own_by (fun t_ k_ => XS.istore X0.here hx rfl (hb hby at_31) rfl (l' := #[oI i0, oI i1, oI i2, oI i3, oI i4, oI s0, oI s1, oI s2, oI (i3 &&& (3 : Int32)), oI kr, .unset, .unset, .unset, .unset, .unset, .unset, .unset, .unset, .unset, .unset]) rfl k_) ?_
  show own_Go p e below _ T0 (mkF m 33 #[oI i0, oI i1, oI i2, oI i3, oI i4, oI s0, oI s1, oI s2, oI (i3 &&& (3 : Int32)), oI kr, .unset, .unset, .unset, .unset, .unset, .unset, .unset, .unset, .unset, .unset] [])
  rcases own_n i3 with hk | hk | hk | hk
  · rw [hk]
    show own_Go p e below _ T0 (mkF m 33 #[oI i0, oI i1, oI i2, oI i3, oI i4, oI s0, oI s1, oI s2, oI (0 : Int32), oI kr, .unset, .unset, .unset, .unset, .unset, .unset, .unset, .unset, .unset, .unset] [])
    refine own_by (fun t_ k_ => XS.iload X0.here hx rfl (hb hby at_33) rfl  k_) ?_
    show own_Go p e below _ T0 (mkF m 35 #[oI i0, oI i1, oI i2, oI i3, oI i4, oI s0, oI s1, oI s2, oI (0 : Int32), oI kr, .unset, .unset, .unset, .unset, .unset, .unset, .unset, .unset, .unset, .unset] [(.int (0 : Int32))])
    refine own_by (fun t_ k_ => XS.ifYes X0.here hx rfl (pc0 := 35) (pc' := 43) rfl (hb hby at_35) rfl (XT.i0_le_t (by decide)) (by decide) (by decide) k_) ?_
    show own_Go p e below _ T0 (mkF m 43 #[oI i0, oI i1, oI i2, oI i3, oI i4, oI s0, oI s1, oI s2, oI (0 : Int32), oI kr, .unset, .unset, .unset, .unset, .unset, .unset, .unset, .unset, .unset, .unset] [])
    refine own_by (fun t_ k_ => XT.iconstV X0.here hx rfl (0 : Int32) (hb hby at_43) (by decide) k_) ?_
    show own_Go p e below _ T0 (mkF m 44 #[oI i0, oI i1, oI i2, oI i3, oI i4, oI s0, oI s1, oI s2, oI (0 : Int32), oI kr, .unset, .unset, .unset, .unset, .unset, .unset, .unset, .unset, .unset, .unset] [(.int (0 : Int32))])
    refine own_by (fun t_ k_ => XS.istore X0.here hx rfl (hb hby at_44) rfl (l' := #[oI i0, oI i1, oI i2, oI i3, oI i4, oI s0, oI s1, oI s2, oI (0 : Int32), oI kr, oI (0 : Int32), .unset, .unset, .unset, .unset, .unset, .unset, .unset, .unset, .unset]) rfl k_) ?_
    show own_Go p e below _ T0 (mkF m 46 #[oI i0, oI i1, oI i2, oI i3, oI i4, oI s0, oI s1, oI s2, oI (0 : Int32), oI kr, oI (0 : Int32), .unset, .unset, .unset, .unset, .unset, .unset, .unset, .unset, .unset] [])
    refine own_by (fun t_ k_ => XS.iload X0.here hx rfl (hb hby at_46) rfl  k_) ?_
    show own_Go p e below _ T0 (mkF m 48 #[oI i0, oI i1, oI i2, oI i3, oI i4, oI s0, oI s1, oI s2, oI (0 : Int32), oI kr, oI (0 : Int32), .unset, .unset, .unset, .unset, .unset, .unset, .unset, .unset, .unset] [(.int (0 : Int32))])
    refine own_by (fun t_ k_ => XT.iconstV X0.here hx rfl (1 : Int32) (hb hby at_48) (by decide) k_) ?_
    show own_Go p e below _ T0 (mkF m 49 #[oI i0, oI i1, oI i2, oI i3, oI i4, oI s0, oI s1, oI s2, oI (0 : Int32), oI kr, oI (0 : Int32), .unset, .unset, .unset, .unset, .unset, .unset, .unset, .unset, .unset] [(.int (1 : Int32)), (.int (0 : Int32))])
    refine own_by (fun t_ k_ => XS.icmpYes X0.here hx rfl (pc0 := 49) (pc' := 57) rfl (hb hby at_49) rfl (XT.ii_le_t (by decide)) (by decide) (by decide) k_) ?_
    show own_Go p e below _ T0 (mkF m 57 #[oI i0, oI i1, oI i2, oI i3, oI i4, oI s0, oI s1, oI s2, oI (0 : Int32), oI kr, oI (0 : Int32), .unset, .unset, .unset, .unset, .unset, .unset, .unset, .unset, .unset] [])
    refine own_by (fun t_ k_ => XT.iconstV X0.here hx rfl (0 : Int32) (hb hby at_57) (by decide) k_) ?_
    show own_Go p e below _ T0 (mkF m 58 #[oI i0, oI i1, oI i2, oI i3, oI i4, oI s0, oI s1, oI s2, oI (0 : Int32), oI kr, oI (0 : Int32), .unset, .unset, .unset, .unset, .unset, .unset, .unset, .unset, .unset] [(.int (0 : Int32))])
    refine own_by (fun t_ k_ => XS.istore X0.here hx rfl (hb hby at_58) rfl (l' := #[oI i0, oI i1, oI i2, oI i3, oI i4, oI s0, oI s1, oI s2, oI (0 : Int32), oI kr, oI (0 : Int32), oI (0 : Int32), .unset, .unset, .unset, .unset, .unset, .unset, .unset, .unset]) rfl k_) ?_
    show own_Go p e below _ T0 (mkF m 60 #[oI i0, oI i1, oI i2, oI i3, oI i4, oI s0, oI s1, oI s2, oI (0 : Int32), oI kr, oI (0 : Int32), oI (0 : Int32), .unset, .unset, .unset, .unset, .unset, .unset, .unset, .unset] [])
    refine own_by (fun t_ k_ => XS.iload X0.here hx rfl (hb hby at_60) rfl  k_) ?_
    show own_Go p e below _ T0 (mkF m 62 #[oI i0, oI i1, oI i2, oI i3, oI i4, oI s0, oI s1, oI s2, oI (0 : Int32), oI kr, oI (0 : Int32), oI (0 : Int32), .unset, .unset, .unset, .unset, .unset, .unset, .unset, .unset] [(.int (0 : Int32))])
    refine own_by (fun t_ k_ => XT.iconstV X0.here hx rfl (2 : Int32) (hb hby at_62) (by decide) k_) ?_
    show own_Go p e below _ T0 (mkF m 63 #[oI i0, oI i1, oI i2, oI i3, oI i4, oI s0, oI s1, oI s2, oI (0 : Int32), oI kr, oI (0 : Int32), oI (0 : Int32), .unset, .unset, .unset, .unset, .unset, .unset, .unset, .unset] [(.int (2 : Int32)), (.int (0 : Int32))])
    refine own_by (fun t_ k_ => XS.icmpYes X0.here hx rfl (pc0 := 63) (pc' := 71) rfl (hb hby at_63) rfl (XT.ii_le_t (by decide)) (by decide) (by decide) k_) ?_
    show own_Go p e below _ T0 (mkF m 71 #[oI i0, oI i1, oI i2, oI i3, oI i4, oI s0, oI s1, oI s2, oI (0 : Int32), oI kr, oI (0 : Int32), oI (0 : Int32), .unset, .unset, .unset, .unset, .unset, .unset, .unset, .unset] [])
    refine own_by (fun t_ k_ => XT.iconstV X0.here hx rfl (0 : Int32) (hb hby at_71) (by decide) k_) ?_
    show own_Go p e below _ T0 (mkF m 72 #[oI i0, oI i1, oI i2, oI i3, oI i4, oI s0, oI s1, oI s2, oI (0 : Int32), oI kr, oI (0 : Int32), oI (0 : Int32), .unset, .unset, .unset, .unset, .unset, .unset, .unset, .unset] [(.int (0 : Int32))])
    refine own_by (fun t_ k_ => XS.istore X0.here hx rfl (hb hby at_72) rfl (l' := #[oI i0, oI i1, oI i2, oI i3, oI i4, oI s0, oI s1, oI s2, oI (0 : Int32), oI kr, oI (0 : Int32), oI (0 : Int32), oI (0 : Int32), .unset, .unset, .unset, .unset, .unset, .unset, .unset]) rfl k_) ?_
    show own_Go p e below _ T0 (mkF m 74 #[oI i0, oI i1, oI i2, oI i3, oI i4, oI s0, oI s1, oI s2, oI (0 : Int32), oI kr, oI (0 : Int32), oI (0 : Int32), oI (0 : Int32), .unset, .unset, .unset, .unset, .unset, .unset, .unset] [])
    refine own_by (fun t_ k_ => XS.iload X0.here hx rfl (hb hby at_74) rfl  k_) ?_
    show own_Go p e below _ T0 (mkF m 76 #[oI i0, oI i1, oI i2, oI i3, oI i4, oI s0, oI s1, oI s2, oI (0 : Int32), oI kr, oI (0 : Int32), oI (0 : Int32), oI (0 : Int32), .unset, .unset, .unset, .unset, .unset, .unset, .unset] [(.int (0 : Int32))])
    refine own_by (fun t_ k_ => XS.iload X0.here hx rfl (hb hby at_76) rfl  k_) ?_
    show own_Go p e below _ T0 (mkF m 78 #[oI i0, oI i1, oI i2, oI i3, oI i4, oI s0, oI s1, oI s2, oI (0 : Int32), oI kr, oI (0 : Int32), oI (0 : Int32), oI (0 : Int32), .unset, .unset, .unset, .unset, .unset, .unset, .unset] [(.int (0 : Int32)), (.int (0 : Int32))])
    refine own_callS X0 hx hZ hown (hw _ (List.mem_of_getElem? (i := 2) rfl)) (hw _ (List.mem_of_getElem? (i := 3) rfl)) (hw _ (List.mem_of_getElem? (i := 4) rfl)) (hw _ (List.mem_of_getElem? (i := 5) rfl)) (by decide) e0 (argsL := [(.int (0 : Int32)), (.int (0 : Int32))]) (rest := []) (own_max_met l Z a0 hw (0 : Int32) (0 : Int32) h0) 0 (by decide) (by decide) (by rw [hml]; rfl) (lenOf pd_0 rfl) (Nat.le_of_eq rfl) (hb hby at_78) (by decide) (by decide) (st := [(.int (0 : Int32)), (.int (0 : Int32))]) rfl ?_
    intro T1 LT1 vT1 XT1 hQT1
    obtain ⟨rfl, eT1, rfl⟩ := hQT1
    show own_Go p e below _ T1 (mkF m 81 #[oI i0, oI i1, oI i2, oI i3, oI i4, oI s0, oI s1, oI s2, oI (0 : Int32), oI kr, oI (0 : Int32), oI (0 : Int32), oI (0 : Int32), .unset, .unset, .unset, .unset, .unset, .unset, .unset] [(.int (own_max (0 : Int32) (0 : Int32)))])
    refine own_by (fun t_ k_ => XS.iload XT1.here hx rfl (hb hby at_81) rfl  k_) ?_
    show own_Go p e below _ T1 (mkF m 83 #[oI i0, oI i1, oI i2, oI i3, oI i4, oI s0, oI s1, oI s2, oI (0 : Int32), oI kr, oI (0 : Int32), oI (0 : Int32), oI (0 : Int32), .unset, .unset, .unset, .unset, .unset, .unset, .unset] [(.int (0 : Int32)), (.int (own_max (0 : Int32) (0 : Int32)))])
    refine own_callS XT1 hx hZ hown (hw _ (List.mem_of_getElem? (i := 2) rfl)) (hw _ (List.mem_of_getElem? (i := 3) rfl)) (hw _ (List.mem_of_getElem? (i := 4) rfl)) (hw _ (List.mem_of_getElem? (i := 5) rfl)) (by decide) eT1 (argsL := [(.int (own_max (0 : Int32) (0 : Int32))), (.int (0 : Int32))]) (rest := []) (own_max_met l Z a0 hw (own_max (0 : Int32) (0 : Int32)) (0 : Int32) h0) 0 (by decide) (by decide) (by rw [hml]; rfl) (lenOf pd_0 rfl) (Nat.le_of_eq rfl) (hb hby at_83) (by decide) (by decide) (st := [(.int (0 : Int32)), (.int (own_max (0 : Int32) (0 : Int32)))]) rfl ?_
    intro T2 LT2 vT2 XT2 hQT2
    obtain ⟨rfl, eT2, rfl⟩ := hQT2
    show own_Go p e below _ T2 (mkF m 86 #[oI i0, oI i1, oI i2, oI i3, oI i4, oI s0, oI s1, oI s2, oI (0 : Int32), oI kr, oI (0 : Int32), oI (0 : Int32), oI (0 : Int32), .unset, .unset, .unset, .unset, .unset, .unset, .unset] [(.int (own_max (own_max (0 : Int32) (0 : Int32)) (0 : Int32)))])
    refine own_by (fun t_ k_ => XS.istore XT2.here hx rfl (hb hby at_86) rfl (l' := #[oI i0, oI i1, oI i2, oI i3, oI i4, oI s0, oI s1, oI s2, oI (0 : Int32), oI kr, oI (0 : Int32), oI (0 : Int32), oI (0 : Int32), oI (own_max (own_max (0 : Int32) (0 : Int32)) (0 : Int32)), .unset, .unset, .unset, .unset, .unset, .unset]) rfl k_) ?_
    show own_Go p e below _ T2 (mkF m 88 #[oI i0, oI i1, oI i2, oI i3, oI i4, oI s0, oI s1, oI s2, oI (0 : Int32), oI kr, oI (0 : Int32), oI (0 : Int32), oI (0 : Int32), oI (own_max (own_max (0 : Int32) (0 : Int32)) (0 : Int32)), .unset, .unset, .unset, .unset, .unset, .unset] [])
    refine own_by (fun t_ k_ => XS.iload XT2.here hx rfl (hb hby at_88) rfl  k_) ?_
    show own_Go p e below _ T2 (mkF m 90 #[oI i0, oI i1, oI i2, oI i3, oI i4, oI s0, oI s1, oI s2, oI (0 : Int32), oI kr, oI (0 : Int32), oI (0 : Int32), oI (0 : Int32), oI (own_max (own_max (0 : Int32) (0 : Int32)) (0 : Int32)), .unset, .unset, .unset, .unset, .unset, .unset] [(.int (0 : Int32))])
    refine own_by (fun t_ k_ => XS.iload XT2.here hx rfl (hb hby at_90) rfl  k_) ?_
    show own_Go p e below _ T2 (mkF m 92 #[oI i0, oI i1, oI i2, oI i3, oI i4, oI s0, oI s1, oI s2, oI (0 : Int32), oI kr, oI (0 : Int32), oI (0 : Int32), oI (0 : Int32), oI (own_max (own_max (0 : Int32) (0 : Int32)) (0 : Int32)), .unset, .unset, .unset, .unset, .unset, .unset] [(.int (0 : Int32)), (.int (0 : Int32))])
    refine own_by (fun t_ k_ => XS.iadd XT2.here hx rfl (hb hby at_92) rfl k_) ?_
    show own_Go p e below _ T2 (mkF m 93 #[oI i0, oI i1, oI i2, oI i3, oI i4, oI s0, oI s1, oI s2, oI (0 : Int32), oI kr, oI (0 : Int32), oI (0 : Int32), oI (0 : Int32), oI (own_max (own_max (0 : Int32) (0 : Int32)) (0 : Int32)), .unset, .unset, .unset, .unset, .unset, .unset] [(.int ((0 : Int32) + (0 : Int32)))])
    rw [show ((0 : Int32) + (0 : Int32)) = (0 : Int32) by decide]
    show own_Go p e below _ T2 (mkF m 93 #[oI i0, oI i1, oI i2, oI i3, oI i4, oI s0, oI s1, oI s2, oI (0 : Int32), oI kr, oI (0 : Int32), oI (0 : Int32), oI (0 : Int32), oI (own_max (own_max (0 : Int32) (0 : Int32)) (0 : Int32)), .unset, .unset, .unset, .unset, .unset, .unset] [(.int (0 : Int32))])
    refine own_by (fun t_ k_ => XS.iload XT2.here hx rfl (hb hby at_93) rfl  k_) ?_
    show own_Go p e below _ T2 (mkF m 95 #[oI i0, oI i1, oI i2, oI i3, oI i4, oI s0, oI s1, oI s2, oI (0 : Int32), oI kr, oI (0 : Int32), oI (0 : Int32), oI (0 : Int32), oI (own_max (own_max (0 : Int32) (0 : Int32)) (0 : Int32)), .unset, .unset, .unset, .unset, .unset, .unset] [(.int (0 : Int32)), (.int (0 : Int32))])
    refine own_by (fun t_ k_ => XS.iadd XT2.here hx rfl (hb hby at_95) rfl k_) ?_
    show own_Go p e below _ T2 (mkF m 96 #[oI i0, oI i1, oI i2, oI i3, oI i4, oI s0, oI s1, oI s2, oI (0 : Int32), oI kr, oI (0 : Int32), oI (0 : Int32), oI (0 : Int32), oI (own_max (own_max (0 : Int32) (0 : Int32)) (0 : Int32)), .unset, .unset, .unset, .unset, .unset, .unset] [(.int ((0 : Int32) + (0 : Int32)))])
    rw [show ((0 : Int32) + (0 : Int32)) = (0 : Int32) by decide]
    show own_Go p e below _ T2 (mkF m 96 #[oI i0, oI i1, oI i2, oI i3, oI i4, oI s0, oI s1, oI s2, oI (0 : Int32), oI kr, oI (0 : Int32), oI (0 : Int32), oI (0 : Int32), oI (own_max (own_max (0 : Int32) (0 : Int32)) (0 : Int32)), .unset, .unset, .unset, .unset, .unset, .unset] [(.int (0 : Int32))])
    refine own_by (fun t_ k_ => XS.iload XT2.here hx rfl (hb hby at_96) rfl  k_) ?_
    show own_Go p e below _ T2 (mkF m 98 #[oI i0, oI i1, oI i2, oI i3, oI i4, oI s0, oI s1, oI s2, oI (0 : Int32), oI kr, oI (0 : Int32), oI (0 : Int32), oI (0 : Int32), oI (own_max (own_max (0 : Int32) (0 : Int32)) (0 : Int32)), .unset, .unset, .unset, .unset, .unset, .unset] [(.int (own_max (own_max (0 : Int32) (0 : Int32)) (0 : Int32))), (.int (0 : Int32))])
    refine own_by (fun t_ k_ => XS.isub XT2.here hx rfl (hb hby at_98) rfl k_) ?_
    show own_Go p e below _ T2 (mkF m 99 #[oI i0, oI i1, oI i2, oI i3, oI i4, oI s0, oI s1, oI s2, oI (0 : Int32), oI kr, oI (0 : Int32), oI (0 : Int32), oI (0 : Int32), oI (own_max (own_max (0 : Int32) (0 : Int32)) (0 : Int32)), .unset, .unset, .unset, .unset, .unset, .unset] [(.int ((0 : Int32) - (own_max (own_max (0 : Int32) (0 : Int32)) (0 : Int32))))])
    refine own_by (fun t_ k_ => XS.istore XT2.here hx rfl (hb hby at_99) rfl (l' := #[oI i0, oI i1, oI i2, oI i3, oI i4, oI s0, oI s1, oI s2, oI (0 : Int32), oI kr, oI (0 : Int32), oI (0 : Int32), oI (0 : Int32), oI (own_max (own_max (0 : Int32) (0 : Int32)) (0 : Int32)), oI ((0 : Int32) - (own_max (own_max (0 : Int32) (0 : Int32)) (0 : Int32))), .unset, .unset, .unset, .unset, .unset]) rfl k_) ?_
    show own_Go p e below _ T2 (mkF m 101 #[oI i0, oI i1, oI i2, oI i3, oI i4, oI s0, oI s1, oI s2, oI (0 : Int32), oI kr, oI (0 : Int32), oI (0 : Int32), oI (0 : Int32), oI (own_max (own_max (0 : Int32) (0 : Int32)) (0 : Int32)), oI ((0 : Int32) - (own_max (own_max (0 : Int32) (0 : Int32)) (0 : Int32))), .unset, .unset, .unset, .unset, .unset] [])
    refine own_by (fun t_ k_ => XT2.ldc2J hx hown (mvT hZ (hw _ (List.mem_of_getElem? (i := 6) rfl))) rfl (hb hby at_101) k_) ?_
    show own_Go p e below _ T2 (mkF m 104 #[oI i0, oI i1, oI i2, oI i3, oI i4, oI s0, oI s1, oI s2, oI (0 : Int32), oI kr, oI (0 : Int32), oI (0 : Int32), oI (0 : Int32), oI (own_max (own_max (0 : Int32) (0 : Int32)) (0 : Int32)), oI ((0 : Int32) - (own_max (own_max (0 : Int32) (0 : Int32)) (0 : Int32))), .unset, .unset, .unset, .unset, .unset] [(.long (8 : Int64))])
    refine own_by (fun t_ k_ => XS.iload XT2.here hx rfl (hb hby at_104) rfl  k_) ?_
    show own_Go p e below _ T2 (mkF m 106 #[oI i0, oI i1, oI i2, oI i3, oI i4, oI s0, oI s1, oI s2, oI (0 : Int32), oI kr, oI (0 : Int32), oI (0 : Int32), oI (0 : Int32), oI (own_max (own_max (0 : Int32) (0 : Int32)) (0 : Int32)), oI ((0 : Int32) - (own_max (own_max (0 : Int32) (0 : Int32)) (0 : Int32))), .unset, .unset, .unset, .unset, .unset] [(.int (own_max (own_max (0 : Int32) (0 : Int32)) (0 : Int32))), (.long (8 : Int64))])
    refine own_by (fun t_ k_ => XT.i2l XT2.here hx rfl (hb hby at_106) rfl k_) ?_
    show own_Go p e below _ T2 (mkF m 107 #[oI i0, oI i1, oI i2, oI i3, oI i4, oI s0, oI s1, oI s2, oI (0 : Int32), oI kr, oI (0 : Int32), oI (0 : Int32), oI (0 : Int32), oI (own_max (own_max (0 : Int32) (0 : Int32)) (0 : Int32)), oI ((0 : Int32) - (own_max (own_max (0 : Int32) (0 : Int32)) (0 : Int32))), .unset, .unset, .unset, .unset, .unset] [(.long ((own_max (own_max (0 : Int32) (0 : Int32)) (0 : Int32)).toInt64)), (.long (8 : Int64))])
    refine own_by (fun t_ k_ => XT.lmul XT2.here hx rfl (hb hby at_107) rfl k_) ?_
    show own_Go p e below _ T2 (mkF m 108 #[oI i0, oI i1, oI i2, oI i3, oI i4, oI s0, oI s1, oI s2, oI (0 : Int32), oI kr, oI (0 : Int32), oI (0 : Int32), oI (0 : Int32), oI (own_max (own_max (0 : Int32) (0 : Int32)) (0 : Int32)), oI ((0 : Int32) - (own_max (own_max (0 : Int32) (0 : Int32)) (0 : Int32))), .unset, .unset, .unset, .unset, .unset] [(.long ((8 : Int64) * ((own_max (own_max (0 : Int32) (0 : Int32)) (0 : Int32)).toInt64)))])
    refine own_by (fun t_ k_ => XS.iload XT2.here hx rfl (hb hby at_108) rfl  k_) ?_
    show own_Go p e below _ T2 (mkF m 110 #[oI i0, oI i1, oI i2, oI i3, oI i4, oI s0, oI s1, oI s2, oI (0 : Int32), oI kr, oI (0 : Int32), oI (0 : Int32), oI (0 : Int32), oI (own_max (own_max (0 : Int32) (0 : Int32)) (0 : Int32)), oI ((0 : Int32) - (own_max (own_max (0 : Int32) (0 : Int32)) (0 : Int32))), .unset, .unset, .unset, .unset, .unset] [(.int kr), (.long ((8 : Int64) * ((own_max (own_max (0 : Int32) (0 : Int32)) (0 : Int32)).toInt64)))])
    refine own_by (fun t_ k_ => XT.i2l XT2.here hx rfl (hb hby at_110) rfl k_) ?_
    show own_Go p e below _ T2 (mkF m 111 #[oI i0, oI i1, oI i2, oI i3, oI i4, oI s0, oI s1, oI s2, oI (0 : Int32), oI kr, oI (0 : Int32), oI (0 : Int32), oI (0 : Int32), oI (own_max (own_max (0 : Int32) (0 : Int32)) (0 : Int32)), oI ((0 : Int32) - (own_max (own_max (0 : Int32) (0 : Int32)) (0 : Int32))), .unset, .unset, .unset, .unset, .unset] [(.long (kr.toInt64)), (.long ((8 : Int64) * ((own_max (own_max (0 : Int32) (0 : Int32)) (0 : Int32)).toInt64)))])
    refine own_by (fun t_ k_ => XS.iload XT2.here hx rfl (hb hby at_111) rfl  k_) ?_
    show own_Go p e below _ T2 (mkF m 113 #[oI i0, oI i1, oI i2, oI i3, oI i4, oI s0, oI s1, oI s2, oI (0 : Int32), oI kr, oI (0 : Int32), oI (0 : Int32), oI (0 : Int32), oI (own_max (own_max (0 : Int32) (0 : Int32)) (0 : Int32)), oI ((0 : Int32) - (own_max (own_max (0 : Int32) (0 : Int32)) (0 : Int32))), .unset, .unset, .unset, .unset, .unset] [(.int ((0 : Int32) - (own_max (own_max (0 : Int32) (0 : Int32)) (0 : Int32)))), (.long (kr.toInt64)), (.long ((8 : Int64) * ((own_max (own_max (0 : Int32) (0 : Int32)) (0 : Int32)).toInt64)))])
    refine own_by (fun t_ k_ => XT.i2l XT2.here hx rfl (hb hby at_113) rfl k_) ?_
    show own_Go p e below _ T2 (mkF m 114 #[oI i0, oI i1, oI i2, oI i3, oI i4, oI s0, oI s1, oI s2, oI (0 : Int32), oI kr, oI (0 : Int32), oI (0 : Int32), oI (0 : Int32), oI (own_max (own_max (0 : Int32) (0 : Int32)) (0 : Int32)), oI ((0 : Int32) - (own_max (own_max (0 : Int32) (0 : Int32)) (0 : Int32))), .unset, .unset, .unset, .unset, .unset] [(.long (((0 : Int32) - (own_max (own_max (0 : Int32) (0 : Int32)) (0 : Int32))).toInt64)), (.long (kr.toInt64)), (.long ((8 : Int64) * ((own_max (own_max (0 : Int32) (0 : Int32)) (0 : Int32)).toInt64)))])
    refine own_by (fun t_ k_ => XT.lmul XT2.here hx rfl (hb hby at_114) rfl k_) ?_
    show own_Go p e below _ T2 (mkF m 115 #[oI i0, oI i1, oI i2, oI i3, oI i4, oI s0, oI s1, oI s2, oI (0 : Int32), oI kr, oI (0 : Int32), oI (0 : Int32), oI (0 : Int32), oI (own_max (own_max (0 : Int32) (0 : Int32)) (0 : Int32)), oI ((0 : Int32) - (own_max (own_max (0 : Int32) (0 : Int32)) (0 : Int32))), .unset, .unset, .unset, .unset, .unset] [(.long ((kr.toInt64) * (((0 : Int32) - (own_max (own_max (0 : Int32) (0 : Int32)) (0 : Int32))).toInt64))), (.long ((8 : Int64) * ((own_max (own_max (0 : Int32) (0 : Int32)) (0 : Int32)).toInt64)))])
    refine own_by (fun t_ k_ => XT.ladd XT2.here hx rfl (hb hby at_115) rfl k_) ?_
    show own_Go p e below _ T2 (mkF m 116 #[oI i0, oI i1, oI i2, oI i3, oI i4, oI s0, oI s1, oI s2, oI (0 : Int32), oI kr, oI (0 : Int32), oI (0 : Int32), oI (0 : Int32), oI (own_max (own_max (0 : Int32) (0 : Int32)) (0 : Int32)), oI ((0 : Int32) - (own_max (own_max (0 : Int32) (0 : Int32)) (0 : Int32))), .unset, .unset, .unset, .unset, .unset] [(.long (((8 : Int64) * ((own_max (own_max (0 : Int32) (0 : Int32)) (0 : Int32)).toInt64)) + ((kr.toInt64) * (((0 : Int32) - (own_max (own_max (0 : Int32) (0 : Int32)) (0 : Int32))).toInt64))))])
    refine own_by (fun t_ k_ => XT.lstore XT2.here hx rfl (hb hby at_116) rfl (l' := #[oI i0, oI i1, oI i2, oI i3, oI i4, oI s0, oI s1, oI s2, oI (0 : Int32), oI kr, oI (0 : Int32), oI (0 : Int32), oI (0 : Int32), oI (own_max (own_max (0 : Int32) (0 : Int32)) (0 : Int32)), oI ((0 : Int32) - (own_max (own_max (0 : Int32) (0 : Int32)) (0 : Int32))), oJ (((8 : Int64) * ((own_max (own_max (0 : Int32) (0 : Int32)) (0 : Int32)).toInt64)) + ((kr.toInt64) * (((0 : Int32) - (own_max (own_max (0 : Int32) (0 : Int32)) (0 : Int32))).toInt64))), .second, .unset, .unset, .unset]) rfl k_) ?_
    show own_Go p e below _ T2 (mkF m 118 #[oI i0, oI i1, oI i2, oI i3, oI i4, oI s0, oI s1, oI s2, oI (0 : Int32), oI kr, oI (0 : Int32), oI (0 : Int32), oI (0 : Int32), oI (own_max (own_max (0 : Int32) (0 : Int32)) (0 : Int32)), oI ((0 : Int32) - (own_max (own_max (0 : Int32) (0 : Int32)) (0 : Int32))), oJ (((8 : Int64) * ((own_max (own_max (0 : Int32) (0 : Int32)) (0 : Int32)).toInt64)) + ((kr.toInt64) * (((0 : Int32) - (own_max (own_max (0 : Int32) (0 : Int32)) (0 : Int32))).toInt64))), .second, .unset, .unset, .unset] [])
    refine own_by (fun t_ k_ => XT.iconstV XT2.here hx rfl (3 : Int32) (hb hby at_118) (by decide) k_) ?_
    show own_Go p e below _ T2 (mkF m 119 #[oI i0, oI i1, oI i2, oI i3, oI i4, oI s0, oI s1, oI s2, oI (0 : Int32), oI kr, oI (0 : Int32), oI (0 : Int32), oI (0 : Int32), oI (own_max (own_max (0 : Int32) (0 : Int32)) (0 : Int32)), oI ((0 : Int32) - (own_max (own_max (0 : Int32) (0 : Int32)) (0 : Int32))), oJ (((8 : Int64) * ((own_max (own_max (0 : Int32) (0 : Int32)) (0 : Int32)).toInt64)) + ((kr.toInt64) * (((0 : Int32) - (own_max (own_max (0 : Int32) (0 : Int32)) (0 : Int32))).toInt64))), .second, .unset, .unset, .unset] [(.int (3 : Int32))])
    refine own_newP XT2 hx hZ (aty := .float) (hw _ (List.mem_of_getElem? (i := 7) rfl)) eT2 (hb hby at_119) 3 3 (by decide) (by decide) (by decide) (by decide) (by decide) (by decide) ?_
    intro T3 hT3 kA XT3 eT3 ET3 YT3
    have VT3 : own_A Z hT3 h0.size .float kA [(.float 0), (.float 0), (.float 0)] := YT3
    have NT3 := Fr.nil h0.size
    clear YT3
    show own_Go p e below _ T3 (mkF m 121 #[oI i0, oI i1, oI i2, oI i3, oI i4, oI s0, oI s1, oI s2, oI (0 : Int32), oI kr, oI (0 : Int32), oI (0 : Int32), oI (0 : Int32), oI (own_max (own_max (0 : Int32) (0 : Int32)) (0 : Int32)), oI ((0 : Int32) - (own_max (own_max (0 : Int32) (0 : Int32)) (0 : Int32))), oJ (((8 : Int64) * ((own_max (own_max (0 : Int32) (0 : Int32)) (0 : Int32)).toInt64)) + ((kr.toInt64) * (((0 : Int32) - (own_max (own_max (0 : Int32) (0 : Int32)) (0 : Int32))).toInt64))), .second, .unset, .unset, .unset] [(.ref h0.size)])
    refine own_by (fun t_ k_ => XS.dup XT3.here hx rfl (hb hby at_121) rfl rfl k_) ?_
    show own_Go p e below _ T3 (mkF m 122 #[oI i0, oI i1, oI i2, oI i3, oI i4, oI s0, oI s1, oI s2, oI (0 : Int32), oI kr, oI (0 : Int32), oI (0 : Int32), oI (0 : Int32), oI (own_max (own_max (0 : Int32) (0 : Int32)) (0 : Int32)), oI ((0 : Int32) - (own_max (own_max (0 : Int32) (0 : Int32)) (0 : Int32))), oJ (((8 : Int64) * ((own_max (own_max (0 : Int32) (0 : Int32)) (0 : Int32)).toInt64)) + ((kr.toInt64) * (((0 : Int32) - (own_max (own_max (0 : Int32) (0 : Int32)) (0 : Int32))).toInt64))), .second, .unset, .unset, .unset] [(.ref h0.size), (.ref h0.size)])
    refine own_by (fun t_ k_ => XT.iconstV XT3.here hx rfl (0 : Int32) (hb hby at_122) (by decide) k_) ?_
    show own_Go p e below _ T3 (mkF m 123 #[oI i0, oI i1, oI i2, oI i3, oI i4, oI s0, oI s1, oI s2, oI (0 : Int32), oI kr, oI (0 : Int32), oI (0 : Int32), oI (0 : Int32), oI (own_max (own_max (0 : Int32) (0 : Int32)) (0 : Int32)), oI ((0 : Int32) - (own_max (own_max (0 : Int32) (0 : Int32)) (0 : Int32))), oJ (((8 : Int64) * ((own_max (own_max (0 : Int32) (0 : Int32)) (0 : Int32)).toInt64)) + ((kr.toInt64) * (((0 : Int32) - (own_max (own_max (0 : Int32) (0 : Int32)) (0 : Int32))).toInt64))), .second, .unset, .unset, .unset] [(.int (0 : Int32)), (.ref h0.size), (.ref h0.size)])
    refine own_by (fun t_ k_ => XS.iload XT3.here hx rfl (hb hby at_123) rfl  k_) ?_
    show own_Go p e below _ T3 (mkF m 125 #[oI i0, oI i1, oI i2, oI i3, oI i4, oI s0, oI s1, oI s2, oI (0 : Int32), oI kr, oI (0 : Int32), oI (0 : Int32), oI (0 : Int32), oI (own_max (own_max (0 : Int32) (0 : Int32)) (0 : Int32)), oI ((0 : Int32) - (own_max (own_max (0 : Int32) (0 : Int32)) (0 : Int32))), oJ (((8 : Int64) * ((own_max (own_max (0 : Int32) (0 : Int32)) (0 : Int32)).toInt64)) + ((kr.toInt64) * (((0 : Int32) - (own_max (own_max (0 : Int32) (0 : Int32)) (0 : Int32))).toInt64))), .second, .unset, .unset, .unset] [(.int s0), (.int (0 : Int32)), (.ref h0.size), (.ref h0.size)])
    refine own_by (fun t_ k_ => XS.i2fS XT3.here hx rfl (hb hby at_125) rfl rfl k_) ?_
    show own_Go p e below _ T3 (mkF m 126 #[oI i0, oI i1, oI i2, oI i3, oI i4, oI s0, oI s1, oI s2, oI (0 : Int32), oI kr, oI (0 : Int32), oI (0 : Int32), oI (0 : Int32), oI (own_max (own_max (0 : Int32) (0 : Int32)) (0 : Int32)), oI ((0 : Int32) - (own_max (own_max (0 : Int32) (0 : Int32)) (0 : Int32))), oJ (((8 : Int64) * ((own_max (own_max (0 : Int32) (0 : Int32)) (0 : Int32)).toInt64)) + ((kr.toInt64) * (((0 : Int32) - (own_max (own_max (0 : Int32) (0 : Int32)) (0 : Int32))).toInt64))), .second, .unset, .unset, .unset] [(.float (FP.i2f s0)), (.int (0 : Int32)), (.ref h0.size), (.ref h0.size)])
    have F0 := own_F_i2f (a := s0) (by omega)
    generalize (FP.i2f s0) = f0 at F0 ⊢
    show own_Go p e below _ T3 (mkF m 126 #[oI i0, oI i1, oI i2, oI i3, oI i4, oI s0, oI s1, oI s2, oI (0 : Int32), oI kr, oI (0 : Int32), oI (0 : Int32), oI (0 : Int32), oI (own_max (own_max (0 : Int32) (0 : Int32)) (0 : Int32)), oI ((0 : Int32) - (own_max (own_max (0 : Int32) (0 : Int32)) (0 : Int32))), oJ (((8 : Int64) * ((own_max (own_max (0 : Int32) (0 : Int32)) (0 : Int32)).toInt64)) + ((kr.toInt64) * (((0 : Int32) - (own_max (own_max (0 : Int32) (0 : Int32)) (0 : Int32))).toInt64))), .second, .unset, .unset, .unset] [(.float f0), (.int (0 : Int32)), (.ref h0.size), (.ref h0.size)])
    refine own_stF XT3 hx hZ eT3 VT3 0 (by decide) (by decide) (by simp) (hb hby at_126) ?_
    intro T4 hT4 XT4 eT4 WT4 YT4
    have VT4 : own_A Z hT4 h0.size .float kA [(.float f0), (.float 0), (.float 0)] := YT4
    have NT4 := own_frs (i := 0) NT3 (Nat.le_refl h0.size)
    clear YT4
    show own_Go p e below _ T4 (mkF m 127 #[oI i0, oI i1, oI i2, oI i3, oI i4, oI s0, oI s1, oI s2, oI (0 : Int32), oI kr, oI (0 : Int32), oI (0 : Int32), oI (0 : Int32), oI (own_max (own_max (0 : Int32) (0 : Int32)) (0 : Int32)), oI ((0 : Int32) - (own_max (own_max (0 : Int32) (0 : Int32)) (0 : Int32))), oJ (((8 : Int64) * ((own_max (own_max (0 : Int32) (0 : Int32)) (0 : Int32)).toInt64)) + ((kr.toInt64) * (((0 : Int32) - (own_max (own_max (0 : Int32) (0 : Int32)) (0 : Int32))).toInt64))), .second, .unset, .unset, .unset] [(.ref h0.size)])
    refine own_by (fun t_ k_ => XS.dup XT4.here hx rfl (hb hby at_127) rfl rfl k_) ?_
    show own_Go p e below _ T4 (mkF m 128 #[oI i0, oI i1, oI i2, oI i3, oI i4, oI s0, oI s1, oI s2, oI (0 : Int32), oI kr, oI (0 : Int32), oI (0 : Int32), oI (0 : Int32), oI (own_max (own_max (0 : Int32) (0 : Int32)) (0 : Int32)), oI ((0 : Int32) - (own_max (own_max (0 : Int32) (0 : Int32)) (0 : Int32))), oJ (((8 : Int64) * ((own_max (own_max (0 : Int32) (0 : Int32)) (0 : Int32)).toInt64)) + ((kr.toInt64) * (((0 : Int32) - (own_max (own_max (0 : Int32) (0 : Int32)) (0 : Int32))).toInt64))), .second, .unset, .unset, .unset] [(.ref h0.size), (.ref h0.size)])
    refine own_by (fun t_ k_ => XT.iconstV XT4.here hx rfl (1 : Int32) (hb hby at_128) (by decide) k_) ?_
    show own_Go p e below _ T4 (mkF m 129 #[oI i0, oI i1, oI i2, oI i3, oI i4, oI s0, oI s1, oI s2, oI (0 : Int32), oI kr, oI (0 : Int32), oI (0 : Int32), oI (0 : Int32), oI (own_max (own_max (0 : Int32) (0 : Int32)) (0 : Int32)), oI ((0 : Int32) - (own_max (own_max (0 : Int32) (0 : Int32)) (0 : Int32))), oJ (((8 : Int64) * ((own_max (own_max (0 : Int32) (0 : Int32)) (0 : Int32)).toInt64)) + ((kr.toInt64) * (((0 : Int32) - (own_max (own_max (0 : Int32) (0 : Int32)) (0 : Int32))).toInt64))), .second, .unset, .unset, .unset] [(.int (1 : Int32)), (.ref h0.size), (.ref h0.size)])
    refine own_by (fun t_ k_ => XS.iload XT4.here hx rfl (hb hby at_129) rfl  k_) ?_
    show own_Go p e below _ T4 (mkF m 131 #[oI i0, oI i1, oI i2, oI i3, oI i4, oI s0, oI s1, oI s2, oI (0 : Int32), oI kr, oI (0 : Int32), oI (0 : Int32), oI (0 : Int32), oI (own_max (own_max (0 : Int32) (0 : Int32)) (0 : Int32)), oI ((0 : Int32) - (own_max (own_max (0 : Int32) (0 : Int32)) (0 : Int32))), oJ (((8 : Int64) * ((own_max (own_max (0 : Int32) (0 : Int32)) (0 : Int32)).toInt64)) + ((kr.toInt64) * (((0 : Int32) - (own_max (own_max (0 : Int32) (0 : Int32)) (0 : Int32))).toInt64))), .second, .unset, .unset, .unset] [(.int s1), (.int (1 : Int32)), (.ref h0.size), (.ref h0.size)])
    refine own_by (fun t_ k_ => XS.i2fS XT4.here hx rfl (hb hby at_131) rfl rfl k_) ?_
    show own_Go p e below _ T4 (mkF m 132 #[oI i0, oI i1, oI i2, oI i3, oI i4, oI s0, oI s1, oI s2, oI (0 : Int32), oI kr, oI (0 : Int32), oI (0 : Int32), oI (0 : Int32), oI (own_max (own_max (0 : Int32) (0 : Int32)) (0 : Int32)), oI ((0 : Int32) - (own_max (own_max (0 : Int32) (0 : Int32)) (0 : Int32))), oJ (((8 : Int64) * ((own_max (own_max (0 : Int32) (0 : Int32)) (0 : Int32)).toInt64)) + ((kr.toInt64) * (((0 : Int32) - (own_max (own_max (0 : Int32) (0 : Int32)) (0 : Int32))).toInt64))), .second, .unset, .unset, .unset] [(.float (FP.i2f s1)), (.int (1 : Int32)), (.ref h0.size), (.ref h0.size)])
    have F1 := own_F_i2f (a := s1) (by omega)
    generalize (FP.i2f s1) = f1 at F1 ⊢
    show own_Go p e below _ T4 (mkF m 132 #[oI i0, oI i1, oI i2, oI i3, oI i4, oI s0, oI s1, oI s2, oI (0 : Int32), oI kr, oI (0 : Int32), oI (0 : Int32), oI (0 : Int32), oI (own_max (own_max (0 : Int32) (0 : Int32)) (0 : Int32)), oI ((0 : Int32) - (own_max (own_max (0 : Int32) (0 : Int32)) (0 : Int32))), oJ (((8 : Int64) * ((own_max (own_max (0 : Int32) (0 : Int32)) (0 : Int32)).toInt64)) + ((kr.toInt64) * (((0 : Int32) - (own_max (own_max (0 : Int32) (0 : Int32)) (0 : Int32))).toInt64))), .second, .unset, .unset, .unset] [(.float f1), (.int (1 : Int32)), (.ref h0.size), (.ref h0.size)])
    refine own_stF XT4 hx hZ eT4 VT4 1 (by decide) (by decide) (by simp) (hb hby at_132) ?_
    intro T5 hT5 XT5 eT5 WT5 YT5
    have VT5 : own_A Z hT5 h0.size .float kA [(.float f0), (.float f1), (.float 0)] := YT5
    have NT5 := own_frs (i := 1) NT4 (Nat.le_refl h0.size)
    clear YT5
    show own_Go p e below _ T5 (mkF m 133 #[oI i0, oI i1, oI i2, oI i3, oI i4, oI s0, oI s1, oI s2, oI (0 : Int32), oI kr, oI (0 : Int32), oI (0 : Int32), oI (0 : Int32), oI (own_max (own_max (0 : Int32) (0 : Int32)) (0 : Int32)), oI ((0 : Int32) - (own_max (own_max (0 : Int32) (0 : Int32)) (0 : Int32))), oJ (((8 : Int64) * ((own_max (own_max (0 : Int32) (0 : Int32)) (0 : Int32)).toInt64)) + ((kr.toInt64) * (((0 : Int32) - (own_max (own_max (0 : Int32) (0 : Int32)) (0 : Int32))).toInt64))), .second, .unset, .unset, .unset] [(.ref h0.size)])
    refine own_by (fun t_ k_ => XS.dup XT5.here hx rfl (hb hby at_133) rfl rfl k_) ?_
    show own_Go p e below _ T5 (mkF m 134 #[oI i0, oI i1, oI i2, oI i3, oI i4, oI s0, oI s1, oI s2, oI (0 : Int32), oI kr, oI (0 : Int32), oI (0 : Int32), oI (0 : Int32), oI (own_max (own_max (0 : Int32) (0 : Int32)) (0 : Int32)), oI ((0 : Int32) - (own_max (own_max (0 : Int32) (0 : Int32)) (0 : Int32))), oJ (((8 : Int64) * ((own_max (own_max (0 : Int32) (0 : Int32)) (0 : Int32)).toInt64)) + ((kr.toInt64) * (((0 : Int32) - (own_max (own_max (0 : Int32) (0 : Int32)) (0 : Int32))).toInt64))), .second, .unset, .unset, .unset] [(.ref h0.size), (.ref h0.size)])
    refine own_by (fun t_ k_ => XT.iconstV XT5.here hx rfl (2 : Int32) (hb hby at_134) (by decide) k_) ?_
    show own_Go p e below _ T5 (mkF m 135 #[oI i0, oI i1, oI i2, oI i3, oI i4, oI s0, oI s1, oI s2, oI (0 : Int32), oI kr, oI (0 : Int32), oI (0 : Int32), oI (0 : Int32), oI (own_max (own_max (0 : Int32) (0 : Int32)) (0 : Int32)), oI ((0 : Int32) - (own_max (own_max (0 : Int32) (0 : Int32)) (0 : Int32))), oJ (((8 : Int64) * ((own_max (own_max (0 : Int32) (0 : Int32)) (0 : Int32)).toInt64)) + ((kr.toInt64) * (((0 : Int32) - (own_max (own_max (0 : Int32) (0 : Int32)) (0 : Int32))).toInt64))), .second, .unset, .unset, .unset] [(.int (2 : Int32)), (.ref h0.size), (.ref h0.size)])
    refine own_by (fun t_ k_ => XS.iload XT5.here hx rfl (hb hby at_135) rfl  k_) ?_
    show own_Go p e below _ T5 (mkF m 137 #[oI i0, oI i1, oI i2, oI i3, oI i4, oI s0, oI s1, oI s2, oI (0 : Int32), oI kr, oI (0 : Int32), oI (0 : Int32), oI (0 : Int32), oI (own_max (own_max (0 : Int32) (0 : Int32)) (0 : Int32)), oI ((0 : Int32) - (own_max (own_max (0 : Int32) (0 : Int32)) (0 : Int32))), oJ (((8 : Int64) * ((own_max (own_max (0 : Int32) (0 : Int32)) (0 : Int32)).toInt64)) + ((kr.toInt64) * (((0 : Int32) - (own_max (own_max (0 : Int32) (0 : Int32)) (0 : Int32))).toInt64))), .second, .unset, .unset, .unset] [(.int s2), (.int (2 : Int32)), (.ref h0.size), (.ref h0.size)])
    refine own_by (fun t_ k_ => XS.i2fS XT5.here hx rfl (hb hby at_137) rfl rfl k_) ?_
    show own_Go p e below _ T5 (mkF m 138 #[oI i0, oI i1, oI i2, oI i3, oI i4, oI s0, oI s1, oI s2, oI (0 : Int32), oI kr, oI (0 : Int32), oI (0 : Int32), oI (0 : Int32), oI (own_max (own_max (0 : Int32) (0 : Int32)) (0 : Int32)), oI ((0 : Int32) - (own_max (own_max (0 : Int32) (0 : Int32)) (0 : Int32))), oJ (((8 : Int64) * ((own_max (own_max (0 : Int32) (0 : Int32)) (0 : Int32)).toInt64)) + ((kr.toInt64) * (((0 : Int32) - (own_max (own_max (0 : Int32) (0 : Int32)) (0 : Int32))).toInt64))), .second, .unset, .unset, .unset] [(.float (FP.i2f s2)), (.int (2 : Int32)), (.ref h0.size), (.ref h0.size)])
    have F2 := own_F_i2f (a := s2) (by omega)
    generalize (FP.i2f s2) = f2 at F2 ⊢
    show own_Go p e below _ T5 (mkF m 138 #[oI i0, oI i1, oI i2, oI i3, oI i4, oI s0, oI s1, oI s2, oI (0 : Int32), oI kr, oI (0 : Int32), oI (0 : Int32), oI (0 : Int32), oI (own_max (own_max (0 : Int32) (0 : Int32)) (0 : Int32)), oI ((0 : Int32) - (own_max (own_max (0 : Int32) (0 : Int32)) (0 : Int32))), oJ (((8 : Int64) * ((own_max (own_max (0 : Int32) (0 : Int32)) (0 : Int32)).toInt64)) + ((kr.toInt64) * (((0 : Int32) - (own_max (own_max (0 : Int32) (0 : Int32)) (0 : Int32))).toInt64))), .second, .unset, .unset, .unset] [(.float f2), (.int (2 : Int32)), (.ref h0.size), (.ref h0.size)])
    refine own_stF XT5 hx hZ eT5 VT5 2 (by decide) (by decide) (by simp) (hb hby at_138) ?_
    intro T6 hT6 XT6 eT6 WT6 YT6
    have VT6 : own_A Z hT6 h0.size .float kA [(.float f0), (.float f1), (.float f2)] := YT6
    have NT6 := own_frs (i := 2) NT5 (Nat.le_refl h0.size)
    clear YT6
    show own_Go p e below _ T6 (mkF m 139 #[oI i0, oI i1, oI i2, oI i3, oI i4, oI s0, oI s1, oI s2, oI (0 : Int32), oI kr, oI (0 : Int32), oI (0 : Int32), oI (0 : Int32), oI (own_max (own_max (0 : Int32) (0 : Int32)) (0 : Int32)), oI ((0 : Int32) - (own_max (own_max (0 : Int32) (0 : Int32)) (0 : Int32))), oJ (((8 : Int64) * ((own_max (own_max (0 : Int32) (0 : Int32)) (0 : Int32)).toInt64)) + ((kr.toInt64) * (((0 : Int32) - (own_max (own_max (0 : Int32) (0 : Int32)) (0 : Int32))).toInt64))), .second, .unset, .unset, .unset] [(.ref h0.size)])
    refine own_by (fun t_ k_ => XS.astore XT6.here hx rfl (hb hby at_139) rfl rfl (l' := #[oI i0, oI i1, oI i2, oI i3, oI i4, oI s0, oI s1, oI s2, oI (0 : Int32), oI kr, oI (0 : Int32), oI (0 : Int32), oI (0 : Int32), oI (own_max (own_max (0 : Int32) (0 : Int32)) (0 : Int32)), oI ((0 : Int32) - (own_max (own_max (0 : Int32) (0 : Int32)) (0 : Int32))), oJ (((8 : Int64) * ((own_max (own_max (0 : Int32) (0 : Int32)) (0 : Int32)).toInt64)) + ((kr.toInt64) * (((0 : Int32) - (own_max (own_max (0 : Int32) (0 : Int32)) (0 : Int32))).toInt64))), .second, oR h0.size, .unset, .unset]) rfl k_) ?_
    show own_Go p e below _ T6 (mkF m 141 #[oI i0, oI i1, oI i2, oI i3, oI i4, oI s0, oI s1, oI s2, oI (0 : Int32), oI kr, oI (0 : Int32), oI (0 : Int32), oI (0 : Int32), oI (own_max (own_max (0 : Int32) (0 : Int32)) (0 : Int32)), oI ((0 : Int32) - (own_max (own_max (0 : Int32) (0 : Int32)) (0 : Int32))), oJ (((8 : Int64) * ((own_max (own_max (0 : Int32) (0 : Int32)) (0 : Int32)).toInt64)) + ((kr.toInt64) * (((0 : Int32) - (own_max (own_max (0 : Int32) (0 : Int32)) (0 : Int32))).toInt64))), .second, oR h0.size, .unset, .unset] [])
    refine own_by (fun t_ k_ => XS.iload XT6.here hx rfl (hb hby at_141) rfl  k_) ?_
    show own_Go p e below _ T6 (mkF m 143 #[oI i0, oI i1, oI i2, oI i3, oI i4, oI s0, oI s1, oI s2, oI (0 : Int32), oI kr, oI (0 : Int32), oI (0 : Int32), oI (0 : Int32), oI (own_max (own_max (0 : Int32) (0 : Int32)) (0 : Int32)), oI ((0 : Int32) - (own_max (own_max (0 : Int32) (0 : Int32)) (0 : Int32))), oJ (((8 : Int64) * ((own_max (own_max (0 : Int32) (0 : Int32)) (0 : Int32)).toInt64)) + ((kr.toInt64) * (((0 : Int32) - (own_max (own_max (0 : Int32) (0 : Int32)) (0 : Int32))).toInt64))), .second, oR h0.size, .unset, .unset] [(.int kr)])
    refine own_by (fun t_ k_ => XS.i2fS XT6.here hx rfl (hb hby at_143) rfl rfl k_) ?_
    show own_Go p e below _ T6 (mkF m 144 #[oI i0, oI i1, oI i2, oI i3, oI i4, oI s0, oI s1, oI s2, oI (0 : Int32), oI kr, oI (0 : Int32), oI (0 : Int32), oI (0 : Int32), oI (own_max (own_max (0 : Int32) (0 : Int32)) (0 : Int32)), oI ((0 : Int32) - (own_max (own_max (0 : Int32) (0 : Int32)) (0 : Int32))), oJ (((8 : Int64) * ((own_max (own_max (0 : Int32) (0 : Int32)) (0 : Int32)).toInt64)) + ((kr.toInt64) * (((0 : Int32) - (own_max (own_max (0 : Int32) (0 : Int32)) (0 : Int32))).toInt64))), .second, oR h0.size, .unset, .unset] [(.float (FP.i2f kr))])
    have Fk := own_F_i2f (a := kr) (by omega)
    generalize (FP.i2f kr) = fk at Fk ⊢
    show own_Go p e below _ T6 (mkF m 144 #[oI i0, oI i1, oI i2, oI i3, oI i4, oI s0, oI s1, oI s2, oI (0 : Int32), oI kr, oI (0 : Int32), oI (0 : Int32), oI (0 : Int32), oI (own_max (own_max (0 : Int32) (0 : Int32)) (0 : Int32)), oI ((0 : Int32) - (own_max (own_max (0 : Int32) (0 : Int32)) (0 : Int32))), oJ (((8 : Int64) * ((own_max (own_max (0 : Int32) (0 : Int32)) (0 : Int32)).toInt64)) + ((kr.toInt64) * (((0 : Int32) - (own_max (own_max (0 : Int32) (0 : Int32)) (0 : Int32))).toInt64))), .second, oR h0.size, .unset, .unset] [(.float fk)])
    refine own_by (fun t_ k_ => XT6.ldcFloatC hx hown (mvT hZ (hw _ (List.mem_of_getElem? (i := 8) rfl))) (g := (mkF m 144 #[oI i0, oI i1, oI i2, oI i3, oI i4, oI s0, oI s1, oI s2, oI (0 : Int32), oI kr, oI (0 : Int32), oI (0 : Int32), oI (0 : Int32), oI (own_max (own_max (0 : Int32) (0 : Int32)) (0 : Int32)), oI ((0 : Int32) - (own_max (own_max (0 : Int32) (0 : Int32)) (0 : Int32))), oJ (((8 : Int64) * ((own_max (own_max (0 : Int32) (0 : Int32)) (0 : Int32)).toInt64)) + ((kr.toInt64) * (((0 : Int32) - (own_max (own_max (0 : Int32) (0 : Int32)) (0 : Int32))).toInt64))), .second, oR h0.size, .unset, .unset] [(.float fk)])) rfl (hb hby at_144) t_ k_) ?_
    show own_Go p e below _ T6 (mkF m 146 #[oI i0, oI i1, oI i2, oI i3, oI i4, oI s0, oI s1, oI s2, oI (0 : Int32), oI kr, oI (0 : Int32), oI (0 : Int32), oI (0 : Int32), oI (own_max (own_max (0 : Int32) (0 : Int32)) (0 : Int32)), oI ((0 : Int32) - (own_max (own_max (0 : Int32) (0 : Int32)) (0 : Int32))), oJ (((8 : Int64) * ((own_max (own_max (0 : Int32) (0 : Int32)) (0 : Int32)).toInt64)) + ((kr.toInt64) * (((0 : Int32) - (own_max (own_max (0 : Int32) (0 : Int32)) (0 : Int32))).toInt64))), .second, oR h0.size, .unset, .unset] [(.float (1090519040 : UInt32)), (.float fk)])
    have D7 := own_F_div (k := 3) (l := 0) (i := 8) (j := kr.toInt) (show own_F 3 (kr.toInt * 8) _ from own_F_up Fk 3) own_eight (by decide) (by omega) (by decide) (by decide)
    refine own_by (fun t_ k_ => XS.fdivS XT6.here hx rfl (hb hby at_146) rfl (own_F_no D7) rfl k_) ?_
    show own_Go p e below _ T6 (mkF m 147 #[oI i0, oI i1, oI i2, oI i3, oI i4, oI s0, oI s1, oI s2, oI (0 : Int32), oI kr, oI (0 : Int32), oI (0 : Int32), oI (0 : Int32), oI (own_max (own_max (0 : Int32) (0 : Int32)) (0 : Int32)), oI ((0 : Int32) - (own_max (own_max (0 : Int32) (0 : Int32)) (0 : Int32))), oJ (((8 : Int64) * ((own_max (own_max (0 : Int32) (0 : Int32)) (0 : Int32)).toInt64)) + ((kr.toInt64) * (((0 : Int32) - (own_max (own_max (0 : Int32) (0 : Int32)) (0 : Int32))).toInt64))), .second, oR h0.size, .unset, .unset] [(.float (FP.fdiv fk (1090519040 : UInt32)))])
    generalize (FP.fdiv fk (1090519040 : UInt32)) = tb at D7 ⊢
    show own_Go p e below _ T6 (mkF m 147 #[oI i0, oI i1, oI i2, oI i3, oI i4, oI s0, oI s1, oI s2, oI (0 : Int32), oI kr, oI (0 : Int32), oI (0 : Int32), oI (0 : Int32), oI (own_max (own_max (0 : Int32) (0 : Int32)) (0 : Int32)), oI ((0 : Int32) - (own_max (own_max (0 : Int32) (0 : Int32)) (0 : Int32))), oJ (((8 : Int64) * ((own_max (own_max (0 : Int32) (0 : Int32)) (0 : Int32)).toInt64)) + ((kr.toInt64) * (((0 : Int32) - (own_max (own_max (0 : Int32) (0 : Int32)) (0 : Int32))).toInt64))), .second, oR h0.size, .unset, .unset] [(.float tb)])
    refine own_by (fun t_ k_ => XS.fstore XT6.here hx rfl (hb hby at_147) rfl (l' := #[oI i0, oI i1, oI i2, oI i3, oI i4, oI s0, oI s1, oI s2, oI (0 : Int32), oI kr, oI (0 : Int32), oI (0 : Int32), oI (0 : Int32), oI (own_max (own_max (0 : Int32) (0 : Int32)) (0 : Int32)), oI ((0 : Int32) - (own_max (own_max (0 : Int32) (0 : Int32)) (0 : Int32))), oJ (((8 : Int64) * ((own_max (own_max (0 : Int32) (0 : Int32)) (0 : Int32)).toInt64)) + ((kr.toInt64) * (((0 : Int32) - (own_max (own_max (0 : Int32) (0 : Int32)) (0 : Int32))).toInt64))), .second, oR h0.size, oF tb, .unset]) rfl k_) ?_
    show own_Go p e below _ T6 (mkF m 149 #[oI i0, oI i1, oI i2, oI i3, oI i4, oI s0, oI s1, oI s2, oI (0 : Int32), oI kr, oI (0 : Int32), oI (0 : Int32), oI (0 : Int32), oI (own_max (own_max (0 : Int32) (0 : Int32)) (0 : Int32)), oI ((0 : Int32) - (own_max (own_max (0 : Int32) (0 : Int32)) (0 : Int32))), oJ (((8 : Int64) * ((own_max (own_max (0 : Int32) (0 : Int32)) (0 : Int32)).toInt64)) + ((kr.toInt64) * (((0 : Int32) - (own_max (own_max (0 : Int32) (0 : Int32)) (0 : Int32))).toInt64))), .second, oR h0.size, oF tb, .unset] [])
    refine own_by (fun t_ k_ => XS.aload XT6.here hx rfl (hb hby at_149) rfl rfl  k_) ?_
    show own_Go p e below _ T6 (mkF m 151 #[oI i0, oI i1, oI i2, oI i3, oI i4, oI s0, oI s1, oI s2, oI (0 : Int32), oI kr, oI (0 : Int32), oI (0 : Int32), oI (0 : Int32), oI (own_max (own_max (0 : Int32) (0 : Int32)) (0 : Int32)), oI ((0 : Int32) - (own_max (own_max (0 : Int32) (0 : Int32)) (0 : Int32))), oJ (((8 : Int64) * ((own_max (own_max (0 : Int32) (0 : Int32)) (0 : Int32)).toInt64)) + ((kr.toInt64) * (((0 : Int32) - (own_max (own_max (0 : Int32) (0 : Int32)) (0 : Int32))).toInt64))), .second, oR h0.size, oF tb, .unset] [(.ref h0.size)])
    refine own_by (fun t_ k_ => XS.iload XT6.here hx rfl (hb hby at_151) rfl  k_) ?_
    show own_Go p e below _ T6 (mkF m 153 #[oI i0, oI i1, oI i2, oI i3, oI i4, oI s0, oI s1, oI s2, oI (0 : Int32), oI kr, oI (0 : Int32), oI (0 : Int32), oI (0 : Int32), oI (own_max (own_max (0 : Int32) (0 : Int32)) (0 : Int32)), oI ((0 : Int32) - (own_max (own_max (0 : Int32) (0 : Int32)) (0 : Int32))), oJ (((8 : Int64) * ((own_max (own_max (0 : Int32) (0 : Int32)) (0 : Int32)).toInt64)) + ((kr.toInt64) * (((0 : Int32) - (own_max (own_max (0 : Int32) (0 : Int32)) (0 : Int32))).toInt64))), .second, oR h0.size, oF tb, .unset] [(.int (0 : Int32)), (.ref h0.size)])
    refine own_by (fun t_ k_ => XS.fload XT6.here hx rfl (hb hby at_153) rfl  k_) ?_
    show own_Go p e below _ T6 (mkF m 155 #[oI i0, oI i1, oI i2, oI i3, oI i4, oI s0, oI s1, oI s2, oI (0 : Int32), oI kr, oI (0 : Int32), oI (0 : Int32), oI (0 : Int32), oI (own_max (own_max (0 : Int32) (0 : Int32)) (0 : Int32)), oI ((0 : Int32) - (own_max (own_max (0 : Int32) (0 : Int32)) (0 : Int32))), oJ (((8 : Int64) * ((own_max (own_max (0 : Int32) (0 : Int32)) (0 : Int32)).toInt64)) + ((kr.toInt64) * (((0 : Int32) - (own_max (own_max (0 : Int32) (0 : Int32)) (0 : Int32))).toInt64))), .second, oR h0.size, oF tb, .unset] [(.float tb), (.int (0 : Int32)), (.ref h0.size)])
    refine own_callS XT6 hx hZ hown (hw _ (List.mem_of_getElem? (i := 9) rfl)) (hw _ (List.mem_of_getElem? (i := 10) rfl)) (hw _ (List.mem_of_getElem? (i := 11) rfl)) (hw _ (List.mem_of_getElem? (i := 12) rfl)) (by decide) eT6 (argsL := [(.ref h0.size), (.int (0 : Int32)), (.float tb)]) (rest := []) (own_bp0 l Z a0 hw h0.size kA kr.toInt tb f0 f1 f2 s0.toInt s1.toInt s2.toInt hT6 VT6 D7 (by omega) (by omega) F0 F1 F2 M0 M1 M2) 0 (by decide) (by decide) (by rw [hml]; rfl) (lenOf pd_1 rfl) (Nat.le_of_eq rfl) (hb hby at_155) (by decide) (by decide) (st := [(.float tb), (.int (0 : Int32)), (.ref h0.size)]) rfl ?_
    intro T8 LT8 vT8 XT8 hQT8
    obtain ⟨⟨r, B, O, rfl, hr, hB, hBO⟩, eT8, rfl⟩ := hQT8
    show own_Go p e below _ T8 (mkF m 158 #[oI i0, oI i1, oI i2, oI i3, oI i4, oI s0, oI s1, oI s2, oI (0 : Int32), oI kr, oI (0 : Int32), oI (0 : Int32), oI (0 : Int32), oI (own_max (own_max (0 : Int32) (0 : Int32)) (0 : Int32)), oI ((0 : Int32) - (own_max (own_max (0 : Int32) (0 : Int32)) (0 : Int32))), oJ (((8 : Int64) * ((own_max (own_max (0 : Int32) (0 : Int32)) (0 : Int32)).toInt64)) + ((kr.toInt64) * (((0 : Int32) - (own_max (own_max (0 : Int32) (0 : Int32)) (0 : Int32))).toInt64))), .second, oR h0.size, oF tb, .unset] [(.float r)])
    have hBr : 0 ≤ B ∧ B ≤ 65535 ∧ 0 ≤ O ∧ O ≤ 131070 := by omega
    have hsm := own_small (k := kr.toInt) (o := O) (by omega) (by omega) (by omega) (by omega)
    refine own_by (fun t_ k_ => XS.fstore XT8.here hx rfl (hb hby at_158) rfl (l' := #[oI i0, oI i1, oI i2, oI i3, oI i4, oI s0, oI s1, oI s2, oI (0 : Int32), oI kr, oI (0 : Int32), oI (0 : Int32), oI (0 : Int32), oI (own_max (own_max (0 : Int32) (0 : Int32)) (0 : Int32)), oI ((0 : Int32) - (own_max (own_max (0 : Int32) (0 : Int32)) (0 : Int32))), oJ (((8 : Int64) * ((own_max (own_max (0 : Int32) (0 : Int32)) (0 : Int32)).toInt64)) + ((kr.toInt64) * (((0 : Int32) - (own_max (own_max (0 : Int32) (0 : Int32)) (0 : Int32))).toInt64))), .second, oR h0.size, oF tb, oF r]) rfl k_) ?_
    show own_Go p e below _ T8 (mkF m 160 #[oI i0, oI i1, oI i2, oI i3, oI i4, oI s0, oI s1, oI s2, oI (0 : Int32), oI kr, oI (0 : Int32), oI (0 : Int32), oI (0 : Int32), oI (own_max (own_max (0 : Int32) (0 : Int32)) (0 : Int32)), oI ((0 : Int32) - (own_max (own_max (0 : Int32) (0 : Int32)) (0 : Int32))), oJ (((8 : Int64) * ((own_max (own_max (0 : Int32) (0 : Int32)) (0 : Int32)).toInt64)) + ((kr.toInt64) * (((0 : Int32) - (own_max (own_max (0 : Int32) (0 : Int32)) (0 : Int32))).toInt64))), .second, oR h0.size, oF tb, oF r] [])
    refine own_by (fun t_ k_ => XS.fload XT8.here hx rfl (hb hby at_160) rfl  k_) ?_
    show own_Go p e below _ T8 (mkF m 162 #[oI i0, oI i1, oI i2, oI i3, oI i4, oI s0, oI s1, oI s2, oI (0 : Int32), oI kr, oI (0 : Int32), oI (0 : Int32), oI (0 : Int32), oI (own_max (own_max (0 : Int32) (0 : Int32)) (0 : Int32)), oI ((0 : Int32) - (own_max (own_max (0 : Int32) (0 : Int32)) (0 : Int32))), oJ (((8 : Int64) * ((own_max (own_max (0 : Int32) (0 : Int32)) (0 : Int32)).toInt64)) + ((kr.toInt64) * (((0 : Int32) - (own_max (own_max (0 : Int32) (0 : Int32)) (0 : Int32))).toInt64))), .second, oR h0.size, oF tb, oF r] [(.float r)])
    refine own_by (fun t_ k_ => XT8.ldcFloatC hx hown (mvT hZ (hw _ (List.mem_of_getElem? (i := 8) rfl))) (g := (mkF m 162 #[oI i0, oI i1, oI i2, oI i3, oI i4, oI s0, oI s1, oI s2, oI (0 : Int32), oI kr, oI (0 : Int32), oI (0 : Int32), oI (0 : Int32), oI (own_max (own_max (0 : Int32) (0 : Int32)) (0 : Int32)), oI ((0 : Int32) - (own_max (own_max (0 : Int32) (0 : Int32)) (0 : Int32))), oJ (((8 : Int64) * ((own_max (own_max (0 : Int32) (0 : Int32)) (0 : Int32)).toInt64)) + ((kr.toInt64) * (((0 : Int32) - (own_max (own_max (0 : Int32) (0 : Int32)) (0 : Int32))).toInt64))), .second, oR h0.size, oF tb, oF r] [(.float r)])) rfl (hb hby at_162) t_ k_) ?_
    show own_Go p e below _ T8 (mkF m 164 #[oI i0, oI i1, oI i2, oI i3, oI i4, oI s0, oI s1, oI s2, oI (0 : Int32), oI kr, oI (0 : Int32), oI (0 : Int32), oI (0 : Int32), oI (own_max (own_max (0 : Int32) (0 : Int32)) (0 : Int32)), oI ((0 : Int32) - (own_max (own_max (0 : Int32) (0 : Int32)) (0 : Int32))), oJ (((8 : Int64) * ((own_max (own_max (0 : Int32) (0 : Int32)) (0 : Int32)).toInt64)) + ((kr.toInt64) * (((0 : Int32) - (own_max (own_max (0 : Int32) (0 : Int32)) (0 : Int32))).toInt64))), .second, oR h0.size, oF tb, oF r] [(.float (1090519040 : UInt32)), (.float r)])
    have D9 := own_F_mul (l := 0) hr own_eight (by simp only [show ((2 ^ 3 : Nat) : Int) = 8 from rfl]; omega) (by decide) (by decide)
    refine own_by (fun t_ k_ => XS.fmulS XT8.here hx rfl (hb hby at_164) rfl (own_F_no D9) rfl k_) ?_
    show own_Go p e below _ T8 (mkF m 165 #[oI i0, oI i1, oI i2, oI i3, oI i4, oI s0, oI s1, oI s2, oI (0 : Int32), oI kr, oI (0 : Int32), oI (0 : Int32), oI (0 : Int32), oI (own_max (own_max (0 : Int32) (0 : Int32)) (0 : Int32)), oI ((0 : Int32) - (own_max (own_max (0 : Int32) (0 : Int32)) (0 : Int32))), oJ (((8 : Int64) * ((own_max (own_max (0 : Int32) (0 : Int32)) (0 : Int32)).toInt64)) + ((kr.toInt64) * (((0 : Int32) - (own_max (own_max (0 : Int32) (0 : Int32)) (0 : Int32))).toInt64))), .second, oR h0.size, oF tb, oF r] [(.float (FP.fmul r (1090519040 : UInt32)))])
    generalize (FP.fmul r (1090519040 : UInt32)) = pr at D9 ⊢
    show own_Go p e below _ T8 (mkF m 165 #[oI i0, oI i1, oI i2, oI i3, oI i4, oI s0, oI s1, oI s2, oI (0 : Int32), oI kr, oI (0 : Int32), oI (0 : Int32), oI (0 : Int32), oI (own_max (own_max (0 : Int32) (0 : Int32)) (0 : Int32)), oI ((0 : Int32) - (own_max (own_max (0 : Int32) (0 : Int32)) (0 : Int32))), oJ (((8 : Int64) * ((own_max (own_max (0 : Int32) (0 : Int32)) (0 : Int32)).toInt64)) + ((kr.toInt64) * (((0 : Int32) - (own_max (own_max (0 : Int32) (0 : Int32)) (0 : Int32))).toInt64))), .second, oR h0.size, oF tb, oF r] [(.float pr)])
    refine own_by (fun t_ k_ => XT.lload XT8.here hx rfl (hb hby at_165) rfl  k_) ?_
    show own_Go p e below _ T8 (mkF m 167 #[oI i0, oI i1, oI i2, oI i3, oI i4, oI s0, oI s1, oI s2, oI (0 : Int32), oI kr, oI (0 : Int32), oI (0 : Int32), oI (0 : Int32), oI (own_max (own_max (0 : Int32) (0 : Int32)) (0 : Int32)), oI ((0 : Int32) - (own_max (own_max (0 : Int32) (0 : Int32)) (0 : Int32))), oJ (((8 : Int64) * ((own_max (own_max (0 : Int32) (0 : Int32)) (0 : Int32)).toInt64)) + ((kr.toInt64) * (((0 : Int32) - (own_max (own_max (0 : Int32) (0 : Int32)) (0 : Int32))).toInt64))), .second, oR h0.size, oF tb, oF r] [(.long (((8 : Int64) * ((own_max (own_max (0 : Int32) (0 : Int32)) (0 : Int32)).toInt64)) + ((kr.toInt64) * (((0 : Int32) - (own_max (own_max (0 : Int32) (0 : Int32)) (0 : Int32))).toInt64)))), (.float pr)])
    refine own_by (fun t_ k_ => XS.l2fS XT8.here hx rfl (hb hby at_167) rfl rfl k_) ?_
    show own_Go p e below _ T8 (mkF m 168 #[oI i0, oI i1, oI i2, oI i3, oI i4, oI s0, oI s1, oI s2, oI (0 : Int32), oI kr, oI (0 : Int32), oI (0 : Int32), oI (0 : Int32), oI (own_max (own_max (0 : Int32) (0 : Int32)) (0 : Int32)), oI ((0 : Int32) - (own_max (own_max (0 : Int32) (0 : Int32)) (0 : Int32))), oJ (((8 : Int64) * ((own_max (own_max (0 : Int32) (0 : Int32)) (0 : Int32)).toInt64)) + ((kr.toInt64) * (((0 : Int32) - (own_max (own_max (0 : Int32) (0 : Int32)) (0 : Int32))).toInt64))), .second, oR h0.size, oF tb, oF r] [(.float (FP.l2f (((8 : Int64) * ((own_max (own_max (0 : Int32) (0 : Int32)) (0 : Int32)).toInt64)) + ((kr.toInt64) * (((0 : Int32) - (own_max (own_max (0 : Int32) (0 : Int32)) (0 : Int32))).toInt64))))), (.float pr)])
    have z0 : ((0 : Int32)).toInt = 0 := by decide
    have hbest : ((own_max (own_max (0 : Int32) (0 : Int32)) (0 : Int32))).toInt = 0 := by rw [own_max_int, own_max_int]; omega
    have hoth : (((0 : Int32) - (own_max (own_max (0 : Int32) (0 : Int32)) (0 : Int32)))).toInt = 0 + ((0 : Int32)).toInt + ((0 : Int32)).toInt + ((0 : Int32)).toInt - 0 := by
      have z0 : ((0 : Int32)).toInt = 0 := by decide
      have a3 := c_isub (0 : Int32) (own_max (own_max (0 : Int32) (0 : Int32)) (0 : Int32))
      have b3 := rng32 ((0 : Int32) - (own_max (own_max (0 : Int32) (0 : Int32)) (0 : Int32)))
      omega
    have z0 : ((0 : Int32)).toInt = 0 := by decide
    have hO : O = (((0 : Int32) - (own_max (own_max (0 : Int32) (0 : Int32)) (0 : Int32)))).toInt := by omega
    have href : ((((8 : Int64) * ((own_max (own_max (0 : Int32) (0 : Int32)) (0 : Int32)).toInt64)) + ((kr.toInt64) * (((0 : Int32) - (own_max (own_max (0 : Int32) (0 : Int32)) (0 : Int32))).toInt64)))).toInt = B * 8 + kr.toInt * O := by
      have e1 := c_i2l (own_max (own_max (0 : Int32) (0 : Int32)) (0 : Int32))
      have e2 := c_i2l kr
      have e3 := c_i2l ((0 : Int32) - (own_max (own_max (0 : Int32) (0 : Int32)) (0 : Int32)))
      have g1 := c_lmul (8 : Int64) ((own_max (own_max (0 : Int32) (0 : Int32)) (0 : Int32)).toInt64)
      have g2 := c_lmul (kr.toInt64) (((0 : Int32) - (own_max (own_max (0 : Int32) (0 : Int32)) (0 : Int32))).toInt64)
      have g3 := c_ladd ((8 : Int64) * ((own_max (own_max (0 : Int32) (0 : Int32)) (0 : Int32)).toInt64)) ((kr.toInt64) * (((0 : Int32) - (own_max (own_max (0 : Int32) (0 : Int32)) (0 : Int32))).toInt64))
      have l8 : ((8 : Int64)).toInt = 8 := by decide
      rw [e1, l8] at g1
      rw [e2, e3, ← hO] at g2
      have r1 := rng64 ((8 : Int64) * ((own_max (own_max (0 : Int32) (0 : Int32)) (0 : Int32)).toInt64))
      have r2 := rng64 ((kr.toInt64) * (((0 : Int32) - (own_max (own_max (0 : Int32) (0 : Int32)) (0 : Int32))).toInt64))
      have r3 := rng64 (((8 : Int64) * ((own_max (own_max (0 : Int32) (0 : Int32)) (0 : Int32)).toInt64)) + ((kr.toInt64) * (((0 : Int32) - (own_max (own_max (0 : Int32) (0 : Int32)) (0 : Int32))).toInt64)))
      generalize kr.toInt * O = kO at *
      omega
    have Fr8 := own_F_l2f (a := (((8 : Int64) * ((own_max (own_max (0 : Int32) (0 : Int32)) (0 : Int32)).toInt64)) + ((kr.toInt64) * (((0 : Int32) - (own_max (own_max (0 : Int32) (0 : Int32)) (0 : Int32))).toInt64)))) (by rw [href]; omega)
    have Fr9 := own_F_up Fr8 3
    rw [href] at Fr9
    have hcmp : cmpValue (FP.fcmp pr (FP.l2f (((8 : Int64) * ((own_max (own_max (0 : Int32) (0 : Int32)) (0 : Int32)).toInt64)) + ((kr.toInt64) * (((0 : Int32) - (own_max (own_max (0 : Int32) (0 : Int32)) (0 : Int32))).toInt64))))) .l = (0 : Int32) := by
      have q : (B * ((2 ^ 3 : Nat) : Int) + kr.toInt * O) * 8 = (B * 8 + kr.toInt * O) * ((2 ^ 3 : Nat) : Int) := by simp only [show ((2 ^ 3 : Nat) : Int) = 8 from rfl]
      rw [q] at D9
      exact own_feq D9 Fr9
    refine own_by (fun t_ k_ => XS.fcmpS XT8.here hx rfl (hb hby at_168) rfl hcmp k_) ?_
    show own_Go p e below _ T8 (mkF m 169 #[oI i0, oI i1, oI i2, oI i3, oI i4, oI s0, oI s1, oI s2, oI (0 : Int32), oI kr, oI (0 : Int32), oI (0 : Int32), oI (0 : Int32), oI (own_max (own_max (0 : Int32) (0 : Int32)) (0 : Int32)), oI ((0 : Int32) - (own_max (own_max (0 : Int32) (0 : Int32)) (0 : Int32))), oJ (((8 : Int64) * ((own_max (own_max (0 : Int32) (0 : Int32)) (0 : Int32)).toInt64)) + ((kr.toInt64) * (((0 : Int32) - (own_max (own_max (0 : Int32) (0 : Int32)) (0 : Int32))).toInt64))), .second, oR h0.size, oF tb, oF r] [(.int (0 : Int32))])
    refine own_by (fun t_ k_ => XS.ifNo XT8.here hx rfl (hb hby at_169) rfl (XT.i0_ne_f (by decide)) k_) ?_
    show own_Go p e below _ T8 (mkF m 172 #[oI i0, oI i1, oI i2, oI i3, oI i4, oI s0, oI s1, oI s2, oI (0 : Int32), oI kr, oI (0 : Int32), oI (0 : Int32), oI (0 : Int32), oI (own_max (own_max (0 : Int32) (0 : Int32)) (0 : Int32)), oI ((0 : Int32) - (own_max (own_max (0 : Int32) (0 : Int32)) (0 : Int32))), oJ (((8 : Int64) * ((own_max (own_max (0 : Int32) (0 : Int32)) (0 : Int32)).toInt64)) + ((kr.toInt64) * (((0 : Int32) - (own_max (own_max (0 : Int32) (0 : Int32)) (0 : Int32))).toInt64))), .second, oR h0.size, oF tb, oF r] [])
    refine own_by (fun t_ k_ => XT.iconstV XT8.here hx rfl (1 : Int32) (hb hby at_172) (by decide) k_) ?_
    show own_Go p e below _ T8 (mkF m 173 #[oI i0, oI i1, oI i2, oI i3, oI i4, oI s0, oI s1, oI s2, oI (0 : Int32), oI kr, oI (0 : Int32), oI (0 : Int32), oI (0 : Int32), oI (own_max (own_max (0 : Int32) (0 : Int32)) (0 : Int32)), oI ((0 : Int32) - (own_max (own_max (0 : Int32) (0 : Int32)) (0 : Int32))), oJ (((8 : Int64) * ((own_max (own_max (0 : Int32) (0 : Int32)) (0 : Int32)).toInt64)) + ((kr.toInt64) * (((0 : Int32) - (own_max (own_max (0 : Int32) (0 : Int32)) (0 : Int32))).toInt64))), .second, oR h0.size, oF tb, oF r] [(.int (1 : Int32))])
    refine own_by (fun t_ k_ => XS.goto XT8.here hx rfl (pc0 := 173) (pc' := 177) rfl (hb hby at_173) (by decide) (by decide) k_) ?_
    show own_Go p e below _ T8 (mkF m 177 #[oI i0, oI i1, oI i2, oI i3, oI i4, oI s0, oI s1, oI s2, oI (0 : Int32), oI kr, oI (0 : Int32), oI (0 : Int32), oI (0 : Int32), oI (own_max (own_max (0 : Int32) (0 : Int32)) (0 : Int32)), oI ((0 : Int32) - (own_max (own_max (0 : Int32) (0 : Int32)) (0 : Int32))), oJ (((8 : Int64) * ((own_max (own_max (0 : Int32) (0 : Int32)) (0 : Int32)).toInt64)) + ((kr.toInt64) * (((0 : Int32) - (own_max (own_max (0 : Int32) (0 : Int32)) (0 : Int32))).toInt64))), .second, oR h0.size, oF tb, oF r] [(.int (1 : Int32))])
    exact own_retN XT8 hx hlk hret (by simp) (w := (1 : Int32)) (hb hby at_177) (by decide) (by decide) (by decide) (⟨rfl, own_app3 NT6⟩)
  · rw [hk]
    show own_Go p e below _ T0 (mkF m 33 #[oI i0, oI i1, oI i2, oI i3, oI i4, oI s0, oI s1, oI s2, oI (1 : Int32), oI kr, .unset, .unset, .unset, .unset, .unset, .unset, .unset, .unset, .unset, .unset] [])
    refine own_by (fun t_ k_ => XS.iload X0.here hx rfl (hb hby at_33) rfl  k_) ?_
    show own_Go p e below _ T0 (mkF m 35 #[oI i0, oI i1, oI i2, oI i3, oI i4, oI s0, oI s1, oI s2, oI (1 : Int32), oI kr, .unset, .unset, .unset, .unset, .unset, .unset, .unset, .unset, .unset, .unset] [(.int (1 : Int32))])
    refine own_by (fun t_ k_ => XS.ifNo X0.here hx rfl (hb hby at_35) rfl (XT.i0_le_f (by decide)) k_) ?_
    show own_Go p e below _ T0 (mkF m 38 #[oI i0, oI i1, oI i2, oI i3, oI i4, oI s0, oI s1, oI s2, oI (1 : Int32), oI kr, .unset, .unset, .unset, .unset, .unset, .unset, .unset, .unset, .unset, .unset] [])
    refine own_by (fun t_ k_ => XS.iload X0.here hx rfl (hb hby at_38) rfl  k_) ?_
    show own_Go p e below _ T0 (mkF m 40 #[oI i0, oI i1, oI i2, oI i3, oI i4, oI s0, oI s1, oI s2, oI (1 : Int32), oI kr, .unset, .unset, .unset, .unset, .unset, .unset, .unset, .unset, .unset, .unset] [(.int s0)])
    refine own_by (fun t_ k_ => XS.goto X0.here hx rfl (pc0 := 40) (pc' := 44) rfl (hb hby at_40) (by decide) (by decide) k_) ?_
    show own_Go p e below _ T0 (mkF m 44 #[oI i0, oI i1, oI i2, oI i3, oI i4, oI s0, oI s1, oI s2, oI (1 : Int32), oI kr, .unset, .unset, .unset, .unset, .unset, .unset, .unset, .unset, .unset, .unset] [(.int s0)])
    refine own_by (fun t_ k_ => XS.istore X0.here hx rfl (hb hby at_44) rfl (l' := #[oI i0, oI i1, oI i2, oI i3, oI i4, oI s0, oI s1, oI s2, oI (1 : Int32), oI kr, oI s0, .unset, .unset, .unset, .unset, .unset, .unset, .unset, .unset, .unset]) rfl k_) ?_
    show own_Go p e below _ T0 (mkF m 46 #[oI i0, oI i1, oI i2, oI i3, oI i4, oI s0, oI s1, oI s2, oI (1 : Int32), oI kr, oI s0, .unset, .unset, .unset, .unset, .unset, .unset, .unset, .unset, .unset] [])
    refine own_by (fun t_ k_ => XS.iload X0.here hx rfl (hb hby at_46) rfl  k_) ?_
    show own_Go p e below _ T0 (mkF m 48 #[oI i0, oI i1, oI i2, oI i3, oI i4, oI s0, oI s1, oI s2, oI (1 : Int32), oI kr, oI s0, .unset, .unset, .unset, .unset, .unset, .unset, .unset, .unset, .unset] [(.int (1 : Int32))])
    refine own_by (fun t_ k_ => XT.iconstV X0.here hx rfl (1 : Int32) (hb hby at_48) (by decide) k_) ?_
    show own_Go p e below _ T0 (mkF m 49 #[oI i0, oI i1, oI i2, oI i3, oI i4, oI s0, oI s1, oI s2, oI (1 : Int32), oI kr, oI s0, .unset, .unset, .unset, .unset, .unset, .unset, .unset, .unset, .unset] [(.int (1 : Int32)), (.int (1 : Int32))])
    refine own_by (fun t_ k_ => XS.icmpYes X0.here hx rfl (pc0 := 49) (pc' := 57) rfl (hb hby at_49) rfl (XT.ii_le_t (by decide)) (by decide) (by decide) k_) ?_
    show own_Go p e below _ T0 (mkF m 57 #[oI i0, oI i1, oI i2, oI i3, oI i4, oI s0, oI s1, oI s2, oI (1 : Int32), oI kr, oI s0, .unset, .unset, .unset, .unset, .unset, .unset, .unset, .unset, .unset] [])
    refine own_by (fun t_ k_ => XT.iconstV X0.here hx rfl (0 : Int32) (hb hby at_57) (by decide) k_) ?_
    show own_Go p e below _ T0 (mkF m 58 #[oI i0, oI i1, oI i2, oI i3, oI i4, oI s0, oI s1, oI s2, oI (1 : Int32), oI kr, oI s0, .unset, .unset, .unset, .unset, .unset, .unset, .unset, .unset, .unset] [(.int (0 : Int32))])
    refine own_by (fun t_ k_ => XS.istore X0.here hx rfl (hb hby at_58) rfl (l' := #[oI i0, oI i1, oI i2, oI i3, oI i4, oI s0, oI s1, oI s2, oI (1 : Int32), oI kr, oI s0, oI (0 : Int32), .unset, .unset, .unset, .unset, .unset, .unset, .unset, .unset]) rfl k_) ?_
    show own_Go p e below _ T0 (mkF m 60 #[oI i0, oI i1, oI i2, oI i3, oI i4, oI s0, oI s1, oI s2, oI (1 : Int32), oI kr, oI s0, oI (0 : Int32), .unset, .unset, .unset, .unset, .unset, .unset, .unset, .unset] [])
    refine own_by (fun t_ k_ => XS.iload X0.here hx rfl (hb hby at_60) rfl  k_) ?_
    show own_Go p e below _ T0 (mkF m 62 #[oI i0, oI i1, oI i2, oI i3, oI i4, oI s0, oI s1, oI s2, oI (1 : Int32), oI kr, oI s0, oI (0 : Int32), .unset, .unset, .unset, .unset, .unset, .unset, .unset, .unset] [(.int (1 : Int32))])
    refine own_by (fun t_ k_ => XT.iconstV X0.here hx rfl (2 : Int32) (hb hby at_62) (by decide) k_) ?_
    show own_Go p e below _ T0 (mkF m 63 #[oI i0, oI i1, oI i2, oI i3, oI i4, oI s0, oI s1, oI s2, oI (1 : Int32), oI kr, oI s0, oI (0 : Int32), .unset, .unset, .unset, .unset, .unset, .unset, .unset, .unset] [(.int (2 : Int32)), (.int (1 : Int32))])
    refine own_by (fun t_ k_ => XS.icmpYes X0.here hx rfl (pc0 := 63) (pc' := 71) rfl (hb hby at_63) rfl (XT.ii_le_t (by decide)) (by decide) (by decide) k_) ?_
    show own_Go p e below _ T0 (mkF m 71 #[oI i0, oI i1, oI i2, oI i3, oI i4, oI s0, oI s1, oI s2, oI (1 : Int32), oI kr, oI s0, oI (0 : Int32), .unset, .unset, .unset, .unset, .unset, .unset, .unset, .unset] [])
    refine own_by (fun t_ k_ => XT.iconstV X0.here hx rfl (0 : Int32) (hb hby at_71) (by decide) k_) ?_
    show own_Go p e below _ T0 (mkF m 72 #[oI i0, oI i1, oI i2, oI i3, oI i4, oI s0, oI s1, oI s2, oI (1 : Int32), oI kr, oI s0, oI (0 : Int32), .unset, .unset, .unset, .unset, .unset, .unset, .unset, .unset] [(.int (0 : Int32))])
    refine own_by (fun t_ k_ => XS.istore X0.here hx rfl (hb hby at_72) rfl (l' := #[oI i0, oI i1, oI i2, oI i3, oI i4, oI s0, oI s1, oI s2, oI (1 : Int32), oI kr, oI s0, oI (0 : Int32), oI (0 : Int32), .unset, .unset, .unset, .unset, .unset, .unset, .unset]) rfl k_) ?_
    show own_Go p e below _ T0 (mkF m 74 #[oI i0, oI i1, oI i2, oI i3, oI i4, oI s0, oI s1, oI s2, oI (1 : Int32), oI kr, oI s0, oI (0 : Int32), oI (0 : Int32), .unset, .unset, .unset, .unset, .unset, .unset, .unset] [])
    refine own_by (fun t_ k_ => XS.iload X0.here hx rfl (hb hby at_74) rfl  k_) ?_
    show own_Go p e below _ T0 (mkF m 76 #[oI i0, oI i1, oI i2, oI i3, oI i4, oI s0, oI s1, oI s2, oI (1 : Int32), oI kr, oI s0, oI (0 : Int32), oI (0 : Int32), .unset, .unset, .unset, .unset, .unset, .unset, .unset] [(.int s0)])
    refine own_by (fun t_ k_ => XS.iload X0.here hx rfl (hb hby at_76) rfl  k_) ?_
    show own_Go p e below _ T0 (mkF m 78 #[oI i0, oI i1, oI i2, oI i3, oI i4, oI s0, oI s1, oI s2, oI (1 : Int32), oI kr, oI s0, oI (0 : Int32), oI (0 : Int32), .unset, .unset, .unset, .unset, .unset, .unset, .unset] [(.int (0 : Int32)), (.int s0)])
    refine own_callS X0 hx hZ hown (hw _ (List.mem_of_getElem? (i := 2) rfl)) (hw _ (List.mem_of_getElem? (i := 3) rfl)) (hw _ (List.mem_of_getElem? (i := 4) rfl)) (hw _ (List.mem_of_getElem? (i := 5) rfl)) (by decide) e0 (argsL := [(.int s0), (.int (0 : Int32))]) (rest := []) (own_max_met l Z a0 hw s0 (0 : Int32) h0) 0 (by decide) (by decide) (by rw [hml]; rfl) (lenOf pd_0 rfl) (Nat.le_of_eq rfl) (hb hby at_78) (by decide) (by decide) (st := [(.int (0 : Int32)), (.int s0)]) rfl ?_
    intro T10 LT10 vT10 XT10 hQT10
    obtain ⟨rfl, eT10, rfl⟩ := hQT10
    show own_Go p e below _ T10 (mkF m 81 #[oI i0, oI i1, oI i2, oI i3, oI i4, oI s0, oI s1, oI s2, oI (1 : Int32), oI kr, oI s0, oI (0 : Int32), oI (0 : Int32), .unset, .unset, .unset, .unset, .unset, .unset, .unset] [(.int (own_max s0 (0 : Int32)))])
    refine own_by (fun t_ k_ => XS.iload XT10.here hx rfl (hb hby at_81) rfl  k_) ?_
    show own_Go p e below _ T10 (mkF m 83 #[oI i0, oI i1, oI i2, oI i3, oI i4, oI s0, oI s1, oI s2, oI (1 : Int32), oI kr, oI s0, oI (0 : Int32), oI (0 : Int32), .unset, .unset, .unset, .unset, .unset, .unset, .unset] [(.int (0 : Int32)), (.int (own_max s0 (0 : Int32)))])
    refine own_callS XT10 hx hZ hown (hw _ (List.mem_of_getElem? (i := 2) rfl)) (hw _ (List.mem_of_getElem? (i := 3) rfl)) (hw _ (List.mem_of_getElem? (i := 4) rfl)) (hw _ (List.mem_of_getElem? (i := 5) rfl)) (by decide) eT10 (argsL := [(.int (own_max s0 (0 : Int32))), (.int (0 : Int32))]) (rest := []) (own_max_met l Z a0 hw (own_max s0 (0 : Int32)) (0 : Int32) h0) 0 (by decide) (by decide) (by rw [hml]; rfl) (lenOf pd_0 rfl) (Nat.le_of_eq rfl) (hb hby at_83) (by decide) (by decide) (st := [(.int (0 : Int32)), (.int (own_max s0 (0 : Int32)))]) rfl ?_
    intro T11 LT11 vT11 XT11 hQT11
    obtain ⟨rfl, eT11, rfl⟩ := hQT11
    show own_Go p e below _ T11 (mkF m 86 #[oI i0, oI i1, oI i2, oI i3, oI i4, oI s0, oI s1, oI s2, oI (1 : Int32), oI kr, oI s0, oI (0 : Int32), oI (0 : Int32), .unset, .unset, .unset, .unset, .unset, .unset, .unset] [(.int (own_max (own_max s0 (0 : Int32)) (0 : Int32)))])
    refine own_by (fun t_ k_ => XS.istore XT11.here hx rfl (hb hby at_86) rfl (l' := #[oI i0, oI i1, oI i2, oI i3, oI i4, oI s0, oI s1, oI s2, oI (1 : Int32), oI kr, oI s0, oI (0 : Int32), oI (0 : Int32), oI (own_max (own_max s0 (0 : Int32)) (0 : Int32)), .unset, .unset, .unset, .unset, .unset, .unset]) rfl k_) ?_
    show own_Go p e below _ T11 (mkF m 88 #[oI i0, oI i1, oI i2, oI i3, oI i4, oI s0, oI s1, oI s2, oI (1 : Int32), oI kr, oI s0, oI (0 : Int32), oI (0 : Int32), oI (own_max (own_max s0 (0 : Int32)) (0 : Int32)), .unset, .unset, .unset, .unset, .unset, .unset] [])
    refine own_by (fun t_ k_ => XS.iload XT11.here hx rfl (hb hby at_88) rfl  k_) ?_
    show own_Go p e below _ T11 (mkF m 90 #[oI i0, oI i1, oI i2, oI i3, oI i4, oI s0, oI s1, oI s2, oI (1 : Int32), oI kr, oI s0, oI (0 : Int32), oI (0 : Int32), oI (own_max (own_max s0 (0 : Int32)) (0 : Int32)), .unset, .unset, .unset, .unset, .unset, .unset] [(.int s0)])
    refine own_by (fun t_ k_ => XS.iload XT11.here hx rfl (hb hby at_90) rfl  k_) ?_
    show own_Go p e below _ T11 (mkF m 92 #[oI i0, oI i1, oI i2, oI i3, oI i4, oI s0, oI s1, oI s2, oI (1 : Int32), oI kr, oI s0, oI (0 : Int32), oI (0 : Int32), oI (own_max (own_max s0 (0 : Int32)) (0 : Int32)), .unset, .unset, .unset, .unset, .unset, .unset] [(.int (0 : Int32)), (.int s0)])
    refine own_by (fun t_ k_ => XS.iadd XT11.here hx rfl (hb hby at_92) rfl k_) ?_
    show own_Go p e below _ T11 (mkF m 93 #[oI i0, oI i1, oI i2, oI i3, oI i4, oI s0, oI s1, oI s2, oI (1 : Int32), oI kr, oI s0, oI (0 : Int32), oI (0 : Int32), oI (own_max (own_max s0 (0 : Int32)) (0 : Int32)), .unset, .unset, .unset, .unset, .unset, .unset] [(.int (s0 + (0 : Int32)))])
    refine own_by (fun t_ k_ => XS.iload XT11.here hx rfl (hb hby at_93) rfl  k_) ?_
    show own_Go p e below _ T11 (mkF m 95 #[oI i0, oI i1, oI i2, oI i3, oI i4, oI s0, oI s1, oI s2, oI (1 : Int32), oI kr, oI s0, oI (0 : Int32), oI (0 : Int32), oI (own_max (own_max s0 (0 : Int32)) (0 : Int32)), .unset, .unset, .unset, .unset, .unset, .unset] [(.int (0 : Int32)), (.int (s0 + (0 : Int32)))])
    refine own_by (fun t_ k_ => XS.iadd XT11.here hx rfl (hb hby at_95) rfl k_) ?_
    show own_Go p e below _ T11 (mkF m 96 #[oI i0, oI i1, oI i2, oI i3, oI i4, oI s0, oI s1, oI s2, oI (1 : Int32), oI kr, oI s0, oI (0 : Int32), oI (0 : Int32), oI (own_max (own_max s0 (0 : Int32)) (0 : Int32)), .unset, .unset, .unset, .unset, .unset, .unset] [(.int ((s0 + (0 : Int32)) + (0 : Int32)))])
    refine own_by (fun t_ k_ => XS.iload XT11.here hx rfl (hb hby at_96) rfl  k_) ?_
    show own_Go p e below _ T11 (mkF m 98 #[oI i0, oI i1, oI i2, oI i3, oI i4, oI s0, oI s1, oI s2, oI (1 : Int32), oI kr, oI s0, oI (0 : Int32), oI (0 : Int32), oI (own_max (own_max s0 (0 : Int32)) (0 : Int32)), .unset, .unset, .unset, .unset, .unset, .unset] [(.int (own_max (own_max s0 (0 : Int32)) (0 : Int32))), (.int ((s0 + (0 : Int32)) + (0 : Int32)))])
    refine own_by (fun t_ k_ => XS.isub XT11.here hx rfl (hb hby at_98) rfl k_) ?_
    show own_Go p e below _ T11 (mkF m 99 #[oI i0, oI i1, oI i2, oI i3, oI i4, oI s0, oI s1, oI s2, oI (1 : Int32), oI kr, oI s0, oI (0 : Int32), oI (0 : Int32), oI (own_max (own_max s0 (0 : Int32)) (0 : Int32)), .unset, .unset, .unset, .unset, .unset, .unset] [(.int (((s0 + (0 : Int32)) + (0 : Int32)) - (own_max (own_max s0 (0 : Int32)) (0 : Int32))))])
    refine own_by (fun t_ k_ => XS.istore XT11.here hx rfl (hb hby at_99) rfl (l' := #[oI i0, oI i1, oI i2, oI i3, oI i4, oI s0, oI s1, oI s2, oI (1 : Int32), oI kr, oI s0, oI (0 : Int32), oI (0 : Int32), oI (own_max (own_max s0 (0 : Int32)) (0 : Int32)), oI (((s0 + (0 : Int32)) + (0 : Int32)) - (own_max (own_max s0 (0 : Int32)) (0 : Int32))), .unset, .unset, .unset, .unset, .unset]) rfl k_) ?_
    show own_Go p e below _ T11 (mkF m 101 #[oI i0, oI i1, oI i2, oI i3, oI i4, oI s0, oI s1, oI s2, oI (1 : Int32), oI kr, oI s0, oI (0 : Int32), oI (0 : Int32), oI (own_max (own_max s0 (0 : Int32)) (0 : Int32)), oI (((s0 + (0 : Int32)) + (0 : Int32)) - (own_max (own_max s0 (0 : Int32)) (0 : Int32))), .unset, .unset, .unset, .unset, .unset] [])
    refine own_by (fun t_ k_ => XT11.ldc2J hx hown (mvT hZ (hw _ (List.mem_of_getElem? (i := 6) rfl))) rfl (hb hby at_101) k_) ?_
    show own_Go p e below _ T11 (mkF m 104 #[oI i0, oI i1, oI i2, oI i3, oI i4, oI s0, oI s1, oI s2, oI (1 : Int32), oI kr, oI s0, oI (0 : Int32), oI (0 : Int32), oI (own_max (own_max s0 (0 : Int32)) (0 : Int32)), oI (((s0 + (0 : Int32)) + (0 : Int32)) - (own_max (own_max s0 (0 : Int32)) (0 : Int32))), .unset, .unset, .unset, .unset, .unset] [(.long (8 : Int64))])
    refine own_by (fun t_ k_ => XS.iload XT11.here hx rfl (hb hby at_104) rfl  k_) ?_
    show own_Go p e below _ T11 (mkF m 106 #[oI i0, oI i1, oI i2, oI i3, oI i4, oI s0, oI s1, oI s2, oI (1 : Int32), oI kr, oI s0, oI (0 : Int32), oI (0 : Int32), oI (own_max (own_max s0 (0 : Int32)) (0 : Int32)), oI (((s0 + (0 : Int32)) + (0 : Int32)) - (own_max (own_max s0 (0 : Int32)) (0 : Int32))), .unset, .unset, .unset, .unset, .unset] [(.int (own_max (own_max s0 (0 : Int32)) (0 : Int32))), (.long (8 : Int64))])
    refine own_by (fun t_ k_ => XT.i2l XT11.here hx rfl (hb hby at_106) rfl k_) ?_
    show own_Go p e below _ T11 (mkF m 107 #[oI i0, oI i1, oI i2, oI i3, oI i4, oI s0, oI s1, oI s2, oI (1 : Int32), oI kr, oI s0, oI (0 : Int32), oI (0 : Int32), oI (own_max (own_max s0 (0 : Int32)) (0 : Int32)), oI (((s0 + (0 : Int32)) + (0 : Int32)) - (own_max (own_max s0 (0 : Int32)) (0 : Int32))), .unset, .unset, .unset, .unset, .unset] [(.long ((own_max (own_max s0 (0 : Int32)) (0 : Int32)).toInt64)), (.long (8 : Int64))])
    refine own_by (fun t_ k_ => XT.lmul XT11.here hx rfl (hb hby at_107) rfl k_) ?_
    show own_Go p e below _ T11 (mkF m 108 #[oI i0, oI i1, oI i2, oI i3, oI i4, oI s0, oI s1, oI s2, oI (1 : Int32), oI kr, oI s0, oI (0 : Int32), oI (0 : Int32), oI (own_max (own_max s0 (0 : Int32)) (0 : Int32)), oI (((s0 + (0 : Int32)) + (0 : Int32)) - (own_max (own_max s0 (0 : Int32)) (0 : Int32))), .unset, .unset, .unset, .unset, .unset] [(.long ((8 : Int64) * ((own_max (own_max s0 (0 : Int32)) (0 : Int32)).toInt64)))])
    refine own_by (fun t_ k_ => XS.iload XT11.here hx rfl (hb hby at_108) rfl  k_) ?_
    show own_Go p e below _ T11 (mkF m 110 #[oI i0, oI i1, oI i2, oI i3, oI i4, oI s0, oI s1, oI s2, oI (1 : Int32), oI kr, oI s0, oI (0 : Int32), oI (0 : Int32), oI (own_max (own_max s0 (0 : Int32)) (0 : Int32)), oI (((s0 + (0 : Int32)) + (0 : Int32)) - (own_max (own_max s0 (0 : Int32)) (0 : Int32))), .unset, .unset, .unset, .unset, .unset] [(.int kr), (.long ((8 : Int64) * ((own_max (own_max s0 (0 : Int32)) (0 : Int32)).toInt64)))])
    refine own_by (fun t_ k_ => XT.i2l XT11.here hx rfl (hb hby at_110) rfl k_) ?_
    show own_Go p e below _ T11 (mkF m 111 #[oI i0, oI i1, oI i2, oI i3, oI i4, oI s0, oI s1, oI s2, oI (1 : Int32), oI kr, oI s0, oI (0 : Int32), oI (0 : Int32), oI (own_max (own_max s0 (0 : Int32)) (0 : Int32)), oI (((s0 + (0 : Int32)) + (0 : Int32)) - (own_max (own_max s0 (0 : Int32)) (0 : Int32))), .unset, .unset, .unset, .unset, .unset] [(.long (kr.toInt64)), (.long ((8 : Int64) * ((own_max (own_max s0 (0 : Int32)) (0 : Int32)).toInt64)))])
    refine own_by (fun t_ k_ => XS.iload XT11.here hx rfl (hb hby at_111) rfl  k_) ?_
    show own_Go p e below _ T11 (mkF m 113 #[oI i0, oI i1, oI i2, oI i3, oI i4, oI s0, oI s1, oI s2, oI (1 : Int32), oI kr, oI s0, oI (0 : Int32), oI (0 : Int32), oI (own_max (own_max s0 (0 : Int32)) (0 : Int32)), oI (((s0 + (0 : Int32)) + (0 : Int32)) - (own_max (own_max s0 (0 : Int32)) (0 : Int32))), .unset, .unset, .unset, .unset, .unset] [(.int (((s0 + (0 : Int32)) + (0 : Int32)) - (own_max (own_max s0 (0 : Int32)) (0 : Int32)))), (.long (kr.toInt64)), (.long ((8 : Int64) * ((own_max (own_max s0 (0 : Int32)) (0 : Int32)).toInt64)))])
    refine own_by (fun t_ k_ => XT.i2l XT11.here hx rfl (hb hby at_113) rfl k_) ?_
    show own_Go p e below _ T11 (mkF m 114 #[oI i0, oI i1, oI i2, oI i3, oI i4, oI s0, oI s1, oI s2, oI (1 : Int32), oI kr, oI s0, oI (0 : Int32), oI (0 : Int32), oI (own_max (own_max s0 (0 : Int32)) (0 : Int32)), oI (((s0 + (0 : Int32)) + (0 : Int32)) - (own_max (own_max s0 (0 : Int32)) (0 : Int32))), .unset, .unset, .unset, .unset, .unset] [(.long ((((s0 + (0 : Int32)) + (0 : Int32)) - (own_max (own_max s0 (0 : Int32)) (0 : Int32))).toInt64)), (.long (kr.toInt64)), (.long ((8 : Int64) * ((own_max (own_max s0 (0 : Int32)) (0 : Int32)).toInt64)))])
    refine own_by (fun t_ k_ => XT.lmul XT11.here hx rfl (hb hby at_114) rfl k_) ?_
    show own_Go p e below _ T11 (mkF m 115 #[oI i0, oI i1, oI i2, oI i3, oI i4, oI s0, oI s1, oI s2, oI (1 : Int32), oI kr, oI s0, oI (0 : Int32), oI (0 : Int32), oI (own_max (own_max s0 (0 : Int32)) (0 : Int32)), oI (((s0 + (0 : Int32)) + (0 : Int32)) - (own_max (own_max s0 (0 : Int32)) (0 : Int32))), .unset, .unset, .unset, .unset, .unset] [(.long ((kr.toInt64) * ((((s0 + (0 : Int32)) + (0 : Int32)) - (own_max (own_max s0 (0 : Int32)) (0 : Int32))).toInt64))), (.long ((8 : Int64) * ((own_max (own_max s0 (0 : Int32)) (0 : Int32)).toInt64)))])
    refine own_by (fun t_ k_ => XT.ladd XT11.here hx rfl (hb hby at_115) rfl k_) ?_
    show own_Go p e below _ T11 (mkF m 116 #[oI i0, oI i1, oI i2, oI i3, oI i4, oI s0, oI s1, oI s2, oI (1 : Int32), oI kr, oI s0, oI (0 : Int32), oI (0 : Int32), oI (own_max (own_max s0 (0 : Int32)) (0 : Int32)), oI (((s0 + (0 : Int32)) + (0 : Int32)) - (own_max (own_max s0 (0 : Int32)) (0 : Int32))), .unset, .unset, .unset, .unset, .unset] [(.long (((8 : Int64) * ((own_max (own_max s0 (0 : Int32)) (0 : Int32)).toInt64)) + ((kr.toInt64) * ((((s0 + (0 : Int32)) + (0 : Int32)) - (own_max (own_max s0 (0 : Int32)) (0 : Int32))).toInt64))))])
    refine own_by (fun t_ k_ => XT.lstore XT11.here hx rfl (hb hby at_116) rfl (l' := #[oI i0, oI i1, oI i2, oI i3, oI i4, oI s0, oI s1, oI s2, oI (1 : Int32), oI kr, oI s0, oI (0 : Int32), oI (0 : Int32), oI (own_max (own_max s0 (0 : Int32)) (0 : Int32)), oI (((s0 + (0 : Int32)) + (0 : Int32)) - (own_max (own_max s0 (0 : Int32)) (0 : Int32))), oJ (((8 : Int64) * ((own_max (own_max s0 (0 : Int32)) (0 : Int32)).toInt64)) + ((kr.toInt64) * ((((s0 + (0 : Int32)) + (0 : Int32)) - (own_max (own_max s0 (0 : Int32)) (0 : Int32))).toInt64))), .second, .unset, .unset, .unset]) rfl k_) ?_
    show own_Go p e below _ T11 (mkF m 118 #[oI i0, oI i1, oI i2, oI i3, oI i4, oI s0, oI s1, oI s2, oI (1 : Int32), oI kr, oI s0, oI (0 : Int32), oI (0 : Int32), oI (own_max (own_max s0 (0 : Int32)) (0 : Int32)), oI (((s0 + (0 : Int32)) + (0 : Int32)) - (own_max (own_max s0 (0 : Int32)) (0 : Int32))), oJ (((8 : Int64) * ((own_max (own_max s0 (0 : Int32)) (0 : Int32)).toInt64)) + ((kr.toInt64) * ((((s0 + (0 : Int32)) + (0 : Int32)) - (own_max (own_max s0 (0 : Int32)) (0 : Int32))).toInt64))), .second, .unset, .unset, .unset] [])
    refine own_by (fun t_ k_ => XT.iconstV XT11.here hx rfl (3 : Int32) (hb hby at_118) (by decide) k_) ?_
    show own_Go p e below _ T11 (mkF m 119 #[oI i0, oI i1, oI i2, oI i3, oI i4, oI s0, oI s1, oI s2, oI (1 : Int32), oI kr, oI s0, oI (0 : Int32), oI (0 : Int32), oI (own_max (own_max s0 (0 : Int32)) (0 : Int32)), oI (((s0 + (0 : Int32)) + (0 : Int32)) - (own_max (own_max s0 (0 : Int32)) (0 : Int32))), oJ (((8 : Int64) * ((own_max (own_max s0 (0 : Int32)) (0 : Int32)).toInt64)) + ((kr.toInt64) * ((((s0 + (0 : Int32)) + (0 : Int32)) - (own_max (own_max s0 (0 : Int32)) (0 : Int32))).toInt64))), .second, .unset, .unset, .unset] [(.int (3 : Int32))])
    refine own_newP XT11 hx hZ (aty := .float) (hw _ (List.mem_of_getElem? (i := 7) rfl)) eT11 (hb hby at_119) 3 3 (by decide) (by decide) (by decide) (by decide) (by decide) (by decide) ?_
    intro T12 hT12 kA XT12 eT12 ET12 YT12
    have VT12 : own_A Z hT12 h0.size .float kA [(.float 0), (.float 0), (.float 0)] := YT12
    have NT12 := Fr.nil h0.size
    clear YT12
    show own_Go p e below _ T12 (mkF m 121 #[oI i0, oI i1, oI i2, oI i3, oI i4, oI s0, oI s1, oI s2, oI (1 : Int32), oI kr, oI s0, oI (0 : Int32), oI (0 : Int32), oI (own_max (own_max s0 (0 : Int32)) (0 : Int32)), oI (((s0 + (0 : Int32)) + (0 : Int32)) - (own_max (own_max s0 (0 : Int32)) (0 : Int32))), oJ (((8 : Int64) * ((own_max (own_max s0 (0 : Int32)) (0 : Int32)).toInt64)) + ((kr.toInt64) * ((((s0 + (0 : Int32)) + (0 : Int32)) - (own_max (own_max s0 (0 : Int32)) (0 : Int32))).toInt64))), .second, .unset, .unset, .unset] [(.ref h0.size)])
    refine own_by (fun t_ k_ => XS.dup XT12.here hx rfl (hb hby at_121) rfl rfl k_) ?_
    show own_Go p e below _ T12 (mkF m 122 #[oI i0, oI i1, oI i2, oI i3, oI i4, oI s0, oI s1, oI s2, oI (1 : Int32), oI kr, oI s0, oI (0 : Int32), oI (0 : Int32), oI (own_max (own_max s0 (0 : Int32)) (0 : Int32)), oI (((s0 + (0 : Int32)) + (0 : Int32)) - (own_max (own_max s0 (0 : Int32)) (0 : Int32))), oJ (((8 : Int64) * ((own_max (own_max s0 (0 : Int32)) (0 : Int32)).toInt64)) + ((kr.toInt64) * ((((s0 + (0 : Int32)) + (0 : Int32)) - (own_max (own_max s0 (0 : Int32)) (0 : Int32))).toInt64))), .second, .unset, .unset, .unset] [(.ref h0.size), (.ref h0.size)])
    refine own_by (fun t_ k_ => XT.iconstV XT12.here hx rfl (0 : Int32) (hb hby at_122) (by decide) k_) ?_
    show own_Go p e below _ T12 (mkF m 123 #[oI i0, oI i1, oI i2, oI i3, oI i4, oI s0, oI s1, oI s2, oI (1 : Int32), oI kr, oI s0, oI (0 : Int32), oI (0 : Int32), oI (own_max (own_max s0 (0 : Int32)) (0 : Int32)), oI (((s0 + (0 : Int32)) + (0 : Int32)) - (own_max (own_max s0 (0 : Int32)) (0 : Int32))), oJ (((8 : Int64) * ((own_max (own_max s0 (0 : Int32)) (0 : Int32)).toInt64)) + ((kr.toInt64) * ((((s0 + (0 : Int32)) + (0 : Int32)) - (own_max (own_max s0 (0 : Int32)) (0 : Int32))).toInt64))), .second, .unset, .unset, .unset] [(.int (0 : Int32)), (.ref h0.size), (.ref h0.size)])
    refine own_by (fun t_ k_ => XS.iload XT12.here hx rfl (hb hby at_123) rfl  k_) ?_
    show own_Go p e below _ T12 (mkF m 125 #[oI i0, oI i1, oI i2, oI i3, oI i4, oI s0, oI s1, oI s2, oI (1 : Int32), oI kr, oI s0, oI (0 : Int32), oI (0 : Int32), oI (own_max (own_max s0 (0 : Int32)) (0 : Int32)), oI (((s0 + (0 : Int32)) + (0 : Int32)) - (own_max (own_max s0 (0 : Int32)) (0 : Int32))), oJ (((8 : Int64) * ((own_max (own_max s0 (0 : Int32)) (0 : Int32)).toInt64)) + ((kr.toInt64) * ((((s0 + (0 : Int32)) + (0 : Int32)) - (own_max (own_max s0 (0 : Int32)) (0 : Int32))).toInt64))), .second, .unset, .unset, .unset] [(.int s0), (.int (0 : Int32)), (.ref h0.size), (.ref h0.size)])
    refine own_by (fun t_ k_ => XS.i2fS XT12.here hx rfl (hb hby at_125) rfl rfl k_) ?_
    show own_Go p e below _ T12 (mkF m 126 #[oI i0, oI i1, oI i2, oI i3, oI i4, oI s0, oI s1, oI s2, oI (1 : Int32), oI kr, oI s0, oI (0 : Int32), oI (0 : Int32), oI (own_max (own_max s0 (0 : Int32)) (0 : Int32)), oI (((s0 + (0 : Int32)) + (0 : Int32)) - (own_max (own_max s0 (0 : Int32)) (0 : Int32))), oJ (((8 : Int64) * ((own_max (own_max s0 (0 : Int32)) (0 : Int32)).toInt64)) + ((kr.toInt64) * ((((s0 + (0 : Int32)) + (0 : Int32)) - (own_max (own_max s0 (0 : Int32)) (0 : Int32))).toInt64))), .second, .unset, .unset, .unset] [(.float (FP.i2f s0)), (.int (0 : Int32)), (.ref h0.size), (.ref h0.size)])
    have F0 := own_F_i2f (a := s0) (by omega)
    generalize (FP.i2f s0) = f0 at F0 ⊢
    show own_Go p e below _ T12 (mkF m 126 #[oI i0, oI i1, oI i2, oI i3, oI i4, oI s0, oI s1, oI s2, oI (1 : Int32), oI kr, oI s0, oI (0 : Int32), oI (0 : Int32), oI (own_max (own_max s0 (0 : Int32)) (0 : Int32)), oI (((s0 + (0 : Int32)) + (0 : Int32)) - (own_max (own_max s0 (0 : Int32)) (0 : Int32))), oJ (((8 : Int64) * ((own_max (own_max s0 (0 : Int32)) (0 : Int32)).toInt64)) + ((kr.toInt64) * ((((s0 + (0 : Int32)) + (0 : Int32)) - (own_max (own_max s0 (0 : Int32)) (0 : Int32))).toInt64))), .second, .unset, .unset, .unset] [(.float f0), (.int (0 : Int32)), (.ref h0.size), (.ref h0.size)])
    refine own_stF XT12 hx hZ eT12 VT12 0 (by decide) (by decide) (by simp) (hb hby at_126) ?_
    intro T13 hT13 XT13 eT13 WT13 YT13
    have VT13 : own_A Z hT13 h0.size .float kA [(.float f0), (.float 0), (.float 0)] := YT13
    have NT13 := own_frs (i := 0) NT12 (Nat.le_refl h0.size)
    clear YT13
    show own_Go p e below _ T13 (mkF m 127 #[oI i0, oI i1, oI i2, oI i3, oI i4, oI s0, oI s1, oI s2, oI (1 : Int32), oI kr, oI s0, oI (0 : Int32), oI (0 : Int32), oI (own_max (own_max s0 (0 : Int32)) (0 : Int32)), oI (((s0 + (0 : Int32)) + (0 : Int32)) - (own_max (own_max s0 (0 : Int32)) (0 : Int32))), oJ (((8 : Int64) * ((own_max (own_max s0 (0 : Int32)) (0 : Int32)).toInt64)) + ((kr.toInt64) * ((((s0 + (0 : Int32)) + (0 : Int32)) - (own_max (own_max s0 (0 : Int32)) (0 : Int32))).toInt64))), .second, .unset, .unset, .unset] [(.ref h0.size)])
    refine own_by (fun t_ k_ => XS.dup XT13.here hx rfl (hb hby at_127) rfl rfl k_) ?_
    show own_Go p e below _ T13 (mkF m 128 #[oI i0, oI i1, oI i2, oI i3, oI i4, oI s0, oI s1, oI s2, oI (1 : Int32), oI kr, oI s0, oI (0 : Int32), oI (0 : Int32), oI (own_max (own_max s0 (0 : Int32)) (0 : Int32)), oI (((s0 + (0 : Int32)) + (0 : Int32)) - (own_max (own_max s0 (0 : Int32)) (0 : Int32))), oJ (((8 : Int64) * ((own_max (own_max s0 (0 : Int32)) (0 : Int32)).toInt64)) + ((kr.toInt64) * ((((s0 + (0 : Int32)) + (0 : Int32)) - (own_max (own_max s0 (0 : Int32)) (0 : Int32))).toInt64))), .second, .unset, .unset, .unset] [(.ref h0.size), (.ref h0.size)])
    refine own_by (fun t_ k_ => XT.iconstV XT13.here hx rfl (1 : Int32) (hb hby at_128) (by decide) k_) ?_
    show own_Go p e below _ T13 (mkF m 129 #[oI i0, oI i1, oI i2, oI i3, oI i4, oI s0, oI s1, oI s2, oI (1 : Int32), oI kr, oI s0, oI (0 : Int32), oI (0 : Int32), oI (own_max (own_max s0 (0 : Int32)) (0 : Int32)), oI (((s0 + (0 : Int32)) + (0 : Int32)) - (own_max (own_max s0 (0 : Int32)) (0 : Int32))), oJ (((8 : Int64) * ((own_max (own_max s0 (0 : Int32)) (0 : Int32)).toInt64)) + ((kr.toInt64) * ((((s0 + (0 : Int32)) + (0 : Int32)) - (own_max (own_max s0 (0 : Int32)) (0 : Int32))).toInt64))), .second, .unset, .unset, .unset] [(.int (1 : Int32)), (.ref h0.size), (.ref h0.size)])
    refine own_by (fun t_ k_ => XS.iload XT13.here hx rfl (hb hby at_129) rfl  k_) ?_
    show own_Go p e below _ T13 (mkF m 131 #[oI i0, oI i1, oI i2, oI i3, oI i4, oI s0, oI s1, oI s2, oI (1 : Int32), oI kr, oI s0, oI (0 : Int32), oI (0 : Int32), oI (own_max (own_max s0 (0 : Int32)) (0 : Int32)), oI (((s0 + (0 : Int32)) + (0 : Int32)) - (own_max (own_max s0 (0 : Int32)) (0 : Int32))), oJ (((8 : Int64) * ((own_max (own_max s0 (0 : Int32)) (0 : Int32)).toInt64)) + ((kr.toInt64) * ((((s0 + (0 : Int32)) + (0 : Int32)) - (own_max (own_max s0 (0 : Int32)) (0 : Int32))).toInt64))), .second, .unset, .unset, .unset] [(.int s1), (.int (1 : Int32)), (.ref h0.size), (.ref h0.size)])
    refine own_by (fun t_ k_ => XS.i2fS XT13.here hx rfl (hb hby at_131) rfl rfl k_) ?_
    show own_Go p e below _ T13 (mkF m 132 #[oI i0, oI i1, oI i2, oI i3, oI i4, oI s0, oI s1, oI s2, oI (1 : Int32), oI kr, oI s0, oI (0 : Int32), oI (0 : Int32), oI (own_max (own_max s0 (0 : Int32)) (0 : Int32)), oI (((s0 + (0 : Int32)) + (0 : Int32)) - (own_max (own_max s0 (0 : Int32)) (0 : Int32))), oJ (((8 : Int64) * ((own_max (own_max s0 (0 : Int32)) (0 : Int32)).toInt64)) + ((kr.toInt64) * ((((s0 + (0 : Int32)) + (0 : Int32)) - (own_max (own_max s0 (0 : Int32)) (0 : Int32))).toInt64))), .second, .unset, .unset, .unset] [(.float (FP.i2f s1)), (.int (1 : Int32)), (.ref h0.size), (.ref h0.size)])
    have F1 := own_F_i2f (a := s1) (by omega)
    generalize (FP.i2f s1) = f1 at F1 ⊢
    show own_Go p e below _ T13 (mkF m 132 #[oI i0, oI i1, oI i2, oI i3, oI i4, oI s0, oI s1, oI s2, oI (1 : Int32), oI kr, oI s0, oI (0 : Int32), oI (0 : Int32), oI (own_max (own_max s0 (0 : Int32)) (0 : Int32)), oI (((s0 + (0 : Int32)) + (0 : Int32)) - (own_max (own_max s0 (0 : Int32)) (0 : Int32))), oJ (((8 : Int64) * ((own_max (own_max s0 (0 : Int32)) (0 : Int32)).toInt64)) + ((kr.toInt64) * ((((s0 + (0 : Int32)) + (0 : Int32)) - (own_max (own_max s0 (0 : Int32)) (0 : Int32))).toInt64))), .second, .unset, .unset, .unset] [(.float f1), (.int (1 : Int32)), (.ref h0.size), (.ref h0.size)])
    refine own_stF XT13 hx hZ eT13 VT13 1 (by decide) (by decide) (by simp) (hb hby at_132) ?_
    intro T14 hT14 XT14 eT14 WT14 YT14
    have VT14 : own_A Z hT14 h0.size .float kA [(.float f0), (.float f1), (.float 0)] := YT14
    have NT14 := own_frs (i := 1) NT13 (Nat.le_refl h0.size)
    clear YT14
    show own_Go p e below _ T14 (mkF m 133 #[oI i0, oI i1, oI i2, oI i3, oI i4, oI s0, oI s1, oI s2, oI (1 : Int32), oI kr, oI s0, oI (0 : Int32), oI (0 : Int32), oI (own_max (own_max s0 (0 : Int32)) (0 : Int32)), oI (((s0 + (0 : Int32)) + (0 : Int32)) - (own_max (own_max s0 (0 : Int32)) (0 : Int32))), oJ (((8 : Int64) * ((own_max (own_max s0 (0 : Int32)) (0 : Int32)).toInt64)) + ((kr.toInt64) * ((((s0 + (0 : Int32)) + (0 : Int32)) - (own_max (own_max s0 (0 : Int32)) (0 : Int32))).toInt64))), .second, .unset, .unset, .unset] [(.ref h0.size)])
    refine own_by (fun t_ k_ => XS.dup XT14.here hx rfl (hb hby at_133) rfl rfl k_) ?_
    show own_Go p e below _ T14 (mkF m 134 #[oI i0, oI i1, oI i2, oI i3, oI i4, oI s0, oI s1, oI s2, oI (1 : Int32), oI kr, oI s0, oI (0 : Int32), oI (0 : Int32), oI (own_max (own_max s0 (0 : Int32)) (0 : Int32)), oI (((s0 + (0 : Int32)) + (0 : Int32)) - (own_max (own_max s0 (0 : Int32)) (0 : Int32))), oJ (((8 : Int64) * ((own_max (own_max s0 (0 : Int32)) (0 : Int32)).toInt64)) + ((kr.toInt64) * ((((s0 + (0 : Int32)) + (0 : Int32)) - (own_max (own_max s0 (0 : Int32)) (0 : Int32))).toInt64))), .second, .unset, .unset, .unset] [(.ref h0.size), (.ref h0.size)])
    refine own_by (fun t_ k_ => XT.iconstV XT14.here hx rfl (2 : Int32) (hb hby at_134) (by decide) k_) ?_
    show own_Go p e below _ T14 (mkF m 135 #[oI i0, oI i1, oI i2, oI i3, oI i4, oI s0, oI s1, oI s2, oI (1 : Int32), oI kr, oI s0, oI (0 : Int32), oI (0 : Int32), oI (own_max (own_max s0 (0 : Int32)) (0 : Int32)), oI (((s0 + (0 : Int32)) + (0 : Int32)) - (own_max (own_max s0 (0 : Int32)) (0 : Int32))), oJ (((8 : Int64) * ((own_max (own_max s0 (0 : Int32)) (0 : Int32)).toInt64)) + ((kr.toInt64) * ((((s0 + (0 : Int32)) + (0 : Int32)) - (own_max (own_max s0 (0 : Int32)) (0 : Int32))).toInt64))), .second, .unset, .unset, .unset] [(.int (2 : Int32)), (.ref h0.size), (.ref h0.size)])
    refine own_by (fun t_ k_ => XS.iload XT14.here hx rfl (hb hby at_135) rfl  k_) ?_
    show own_Go p e below _ T14 (mkF m 137 #[oI i0, oI i1, oI i2, oI i3, oI i4, oI s0, oI s1, oI s2, oI (1 : Int32), oI kr, oI s0, oI (0 : Int32), oI (0 : Int32), oI (own_max (own_max s0 (0 : Int32)) (0 : Int32)), oI (((s0 + (0 : Int32)) + (0 : Int32)) - (own_max (own_max s0 (0 : Int32)) (0 : Int32))), oJ (((8 : Int64) * ((own_max (own_max s0 (0 : Int32)) (0 : Int32)).toInt64)) + ((kr.toInt64) * ((((s0 + (0 : Int32)) + (0 : Int32)) - (own_max (own_max s0 (0 : Int32)) (0 : Int32))).toInt64))), .second, .unset, .unset, .unset] [(.int s2), (.int (2 : Int32)), (.ref h0.size), (.ref h0.size)])
    refine own_by (fun t_ k_ => XS.i2fS XT14.here hx rfl (hb hby at_137) rfl rfl k_) ?_
    show own_Go p e below _ T14 (mkF m 138 #[oI i0, oI i1, oI i2, oI i3, oI i4, oI s0, oI s1, oI s2, oI (1 : Int32), oI kr, oI s0, oI (0 : Int32), oI (0 : Int32), oI (own_max (own_max s0 (0 : Int32)) (0 : Int32)), oI (((s0 + (0 : Int32)) + (0 : Int32)) - (own_max (own_max s0 (0 : Int32)) (0 : Int32))), oJ (((8 : Int64) * ((own_max (own_max s0 (0 : Int32)) (0 : Int32)).toInt64)) + ((kr.toInt64) * ((((s0 + (0 : Int32)) + (0 : Int32)) - (own_max (own_max s0 (0 : Int32)) (0 : Int32))).toInt64))), .second, .unset, .unset, .unset] [(.float (FP.i2f s2)), (.int (2 : Int32)), (.ref h0.size), (.ref h0.size)])
    have F2 := own_F_i2f (a := s2) (by omega)
    generalize (FP.i2f s2) = f2 at F2 ⊢
    show own_Go p e below _ T14 (mkF m 138 #[oI i0, oI i1, oI i2, oI i3, oI i4, oI s0, oI s1, oI s2, oI (1 : Int32), oI kr, oI s0, oI (0 : Int32), oI (0 : Int32), oI (own_max (own_max s0 (0 : Int32)) (0 : Int32)), oI (((s0 + (0 : Int32)) + (0 : Int32)) - (own_max (own_max s0 (0 : Int32)) (0 : Int32))), oJ (((8 : Int64) * ((own_max (own_max s0 (0 : Int32)) (0 : Int32)).toInt64)) + ((kr.toInt64) * ((((s0 + (0 : Int32)) + (0 : Int32)) - (own_max (own_max s0 (0 : Int32)) (0 : Int32))).toInt64))), .second, .unset, .unset, .unset] [(.float f2), (.int (2 : Int32)), (.ref h0.size), (.ref h0.size)])
    refine own_stF XT14 hx hZ eT14 VT14 2 (by decide) (by decide) (by simp) (hb hby at_138) ?_
    intro T15 hT15 XT15 eT15 WT15 YT15
    have VT15 : own_A Z hT15 h0.size .float kA [(.float f0), (.float f1), (.float f2)] := YT15
    have NT15 := own_frs (i := 2) NT14 (Nat.le_refl h0.size)
    clear YT15
    show own_Go p e below _ T15 (mkF m 139 #[oI i0, oI i1, oI i2, oI i3, oI i4, oI s0, oI s1, oI s2, oI (1 : Int32), oI kr, oI s0, oI (0 : Int32), oI (0 : Int32), oI (own_max (own_max s0 (0 : Int32)) (0 : Int32)), oI (((s0 + (0 : Int32)) + (0 : Int32)) - (own_max (own_max s0 (0 : Int32)) (0 : Int32))), oJ (((8 : Int64) * ((own_max (own_max s0 (0 : Int32)) (0 : Int32)).toInt64)) + ((kr.toInt64) * ((((s0 + (0 : Int32)) + (0 : Int32)) - (own_max (own_max s0 (0 : Int32)) (0 : Int32))).toInt64))), .second, .unset, .unset, .unset] [(.ref h0.size)])
    refine own_by (fun t_ k_ => XS.astore XT15.here hx rfl (hb hby at_139) rfl rfl (l' := #[oI i0, oI i1, oI i2, oI i3, oI i4, oI s0, oI s1, oI s2, oI (1 : Int32), oI kr, oI s0, oI (0 : Int32), oI (0 : Int32), oI (own_max (own_max s0 (0 : Int32)) (0 : Int32)), oI (((s0 + (0 : Int32)) + (0 : Int32)) - (own_max (own_max s0 (0 : Int32)) (0 : Int32))), oJ (((8 : Int64) * ((own_max (own_max s0 (0 : Int32)) (0 : Int32)).toInt64)) + ((kr.toInt64) * ((((s0 + (0 : Int32)) + (0 : Int32)) - (own_max (own_max s0 (0 : Int32)) (0 : Int32))).toInt64))), .second, oR h0.size, .unset, .unset]) rfl k_) ?_
    show own_Go p e below _ T15 (mkF m 141 #[oI i0, oI i1, oI i2, oI i3, oI i4, oI s0, oI s1, oI s2, oI (1 : Int32), oI kr, oI s0, oI (0 : Int32), oI (0 : Int32), oI (own_max (own_max s0 (0 : Int32)) (0 : Int32)), oI (((s0 + (0 : Int32)) + (0 : Int32)) - (own_max (own_max s0 (0 : Int32)) (0 : Int32))), oJ (((8 : Int64) * ((own_max (own_max s0 (0 : Int32)) (0 : Int32)).toInt64)) + ((kr.toInt64) * ((((s0 + (0 : Int32)) + (0 : Int32)) - (own_max (own_max s0 (0 : Int32)) (0 : Int32))).toInt64))), .second, oR h0.size, .unset, .unset] [])
    refine own_by (fun t_ k_ => XS.iload XT15.here hx rfl (hb hby at_141) rfl  k_) ?_
    show own_Go p e below _ T15 (mkF m 143 #[oI i0, oI i1, oI i2, oI i3, oI i4, oI s0, oI s1, oI s2, oI (1 : Int32), oI kr, oI s0, oI (0 : Int32), oI (0 : Int32), oI (own_max (own_max s0 (0 : Int32)) (0 : Int32)), oI (((s0 + (0 : Int32)) + (0 : Int32)) - (own_max (own_max s0 (0 : Int32)) (0 : Int32))), oJ (((8 : Int64) * ((own_max (own_max s0 (0 : Int32)) (0 : Int32)).toInt64)) + ((kr.toInt64) * ((((s0 + (0 : Int32)) + (0 : Int32)) - (own_max (own_max s0 (0 : Int32)) (0 : Int32))).toInt64))), .second, oR h0.size, .unset, .unset] [(.int kr)])
    refine own_by (fun t_ k_ => XS.i2fS XT15.here hx rfl (hb hby at_143) rfl rfl k_) ?_
    show own_Go p e below _ T15 (mkF m 144 #[oI i0, oI i1, oI i2, oI i3, oI i4, oI s0, oI s1, oI s2, oI (1 : Int32), oI kr, oI s0, oI (0 : Int32), oI (0 : Int32), oI (own_max (own_max s0 (0 : Int32)) (0 : Int32)), oI (((s0 + (0 : Int32)) + (0 : Int32)) - (own_max (own_max s0 (0 : Int32)) (0 : Int32))), oJ (((8 : Int64) * ((own_max (own_max s0 (0 : Int32)) (0 : Int32)).toInt64)) + ((kr.toInt64) * ((((s0 + (0 : Int32)) + (0 : Int32)) - (own_max (own_max s0 (0 : Int32)) (0 : Int32))).toInt64))), .second, oR h0.size, .unset, .unset] [(.float (FP.i2f kr))])
    have Fk := own_F_i2f (a := kr) (by omega)
    generalize (FP.i2f kr) = fk at Fk ⊢
    show own_Go p e below _ T15 (mkF m 144 #[oI i0, oI i1, oI i2, oI i3, oI i4, oI s0, oI s1, oI s2, oI (1 : Int32), oI kr, oI s0, oI (0 : Int32), oI (0 : Int32), oI (own_max (own_max s0 (0 : Int32)) (0 : Int32)), oI (((s0 + (0 : Int32)) + (0 : Int32)) - (own_max (own_max s0 (0 : Int32)) (0 : Int32))), oJ (((8 : Int64) * ((own_max (own_max s0 (0 : Int32)) (0 : Int32)).toInt64)) + ((kr.toInt64) * ((((s0 + (0 : Int32)) + (0 : Int32)) - (own_max (own_max s0 (0 : Int32)) (0 : Int32))).toInt64))), .second, oR h0.size, .unset, .unset] [(.float fk)])
    refine own_by (fun t_ k_ => XT15.ldcFloatC hx hown (mvT hZ (hw _ (List.mem_of_getElem? (i := 8) rfl))) (g := (mkF m 144 #[oI i0, oI i1, oI i2, oI i3, oI i4, oI s0, oI s1, oI s2, oI (1 : Int32), oI kr, oI s0, oI (0 : Int32), oI (0 : Int32), oI (own_max (own_max s0 (0 : Int32)) (0 : Int32)), oI (((s0 + (0 : Int32)) + (0 : Int32)) - (own_max (own_max s0 (0 : Int32)) (0 : Int32))), oJ (((8 : Int64) * ((own_max (own_max s0 (0 : Int32)) (0 : Int32)).toInt64)) + ((kr.toInt64) * ((((s0 + (0 : Int32)) + (0 : Int32)) - (own_max (own_max s0 (0 : Int32)) (0 : Int32))).toInt64))), .second, oR h0.size, .unset, .unset] [(.float fk)])) rfl (hb hby at_144) t_ k_) ?_
    show own_Go p e below _ T15 (mkF m 146 #[oI i0, oI i1, oI i2, oI i3, oI i4, oI s0, oI s1, oI s2, oI (1 : Int32), oI kr, oI s0, oI (0 : Int32), oI (0 : Int32), oI (own_max (own_max s0 (0 : Int32)) (0 : Int32)), oI (((s0 + (0 : Int32)) + (0 : Int32)) - (own_max (own_max s0 (0 : Int32)) (0 : Int32))), oJ (((8 : Int64) * ((own_max (own_max s0 (0 : Int32)) (0 : Int32)).toInt64)) + ((kr.toInt64) * ((((s0 + (0 : Int32)) + (0 : Int32)) - (own_max (own_max s0 (0 : Int32)) (0 : Int32))).toInt64))), .second, oR h0.size, .unset, .unset] [(.float (1090519040 : UInt32)), (.float fk)])
    have D16 := own_F_div (k := 3) (l := 0) (i := 8) (j := kr.toInt) (show own_F 3 (kr.toInt * 8) _ from own_F_up Fk 3) own_eight (by decide) (by omega) (by decide) (by decide)
    refine own_by (fun t_ k_ => XS.fdivS XT15.here hx rfl (hb hby at_146) rfl (own_F_no D16) rfl k_) ?_
    show own_Go p e below _ T15 (mkF m 147 #[oI i0, oI i1, oI i2, oI i3, oI i4, oI s0, oI s1, oI s2, oI (1 : Int32), oI kr, oI s0, oI (0 : Int32), oI (0 : Int32), oI (own_max (own_max s0 (0 : Int32)) (0 : Int32)), oI (((s0 + (0 : Int32)) + (0 : Int32)) - (own_max (own_max s0 (0 : Int32)) (0 : Int32))), oJ (((8 : Int64) * ((own_max (own_max s0 (0 : Int32)) (0 : Int32)).toInt64)) + ((kr.toInt64) * ((((s0 + (0 : Int32)) + (0 : Int32)) - (own_max (own_max s0 (0 : Int32)) (0 : Int32))).toInt64))), .second, oR h0.size, .unset, .unset] [(.float (FP.fdiv fk (1090519040 : UInt32)))])
    generalize (FP.fdiv fk (1090519040 : UInt32)) = tb at D16 ⊢
    show own_Go p e below _ T15 (mkF m 147 #[oI i0, oI i1, oI i2, oI i3, oI i4, oI s0, oI s1, oI s2, oI (1 : Int32), oI kr, oI s0, oI (0 : Int32), oI (0 : Int32), oI (own_max (own_max s0 (0 : Int32)) (0 : Int32)), oI (((s0 + (0 : Int32)) + (0 : Int32)) - (own_max (own_max s0 (0 : Int32)) (0 : Int32))), oJ (((8 : Int64) * ((own_max (own_max s0 (0 : Int32)) (0 : Int32)).toInt64)) + ((kr.toInt64) * ((((s0 + (0 : Int32)) + (0 : Int32)) - (own_max (own_max s0 (0 : Int32)) (0 : Int32))).toInt64))), .second, oR h0.size, .unset, .unset] [(.float tb)])
    refine own_by (fun t_ k_ => XS.fstore XT15.here hx rfl (hb hby at_147) rfl (l' := #[oI i0, oI i1, oI i2, oI i3, oI i4, oI s0, oI s1, oI s2, oI (1 : Int32), oI kr, oI s0, oI (0 : Int32), oI (0 : Int32), oI (own_max (own_max s0 (0 : Int32)) (0 : Int32)), oI (((s0 + (0 : Int32)) + (0 : Int32)) - (own_max (own_max s0 (0 : Int32)) (0 : Int32))), oJ (((8 : Int64) * ((own_max (own_max s0 (0 : Int32)) (0 : Int32)).toInt64)) + ((kr.toInt64) * ((((s0 + (0 : Int32)) + (0 : Int32)) - (own_max (own_max s0 (0 : Int32)) (0 : Int32))).toInt64))), .second, oR h0.size, oF tb, .unset]) rfl k_) ?_
    show own_Go p e below _ T15 (mkF m 149 #[oI i0, oI i1, oI i2, oI i3, oI i4, oI s0, oI s1, oI s2, oI (1 : Int32), oI kr, oI s0, oI (0 : Int32), oI (0 : Int32), oI (own_max (own_max s0 (0 : Int32)) (0 : Int32)), oI (((s0 + (0 : Int32)) + (0 : Int32)) - (own_max (own_max s0 (0 : Int32)) (0 : Int32))), oJ (((8 : Int64) * ((own_max (own_max s0 (0 : Int32)) (0 : Int32)).toInt64)) + ((kr.toInt64) * ((((s0 + (0 : Int32)) + (0 : Int32)) - (own_max (own_max s0 (0 : Int32)) (0 : Int32))).toInt64))), .second, oR h0.size, oF tb, .unset] [])
    refine own_by (fun t_ k_ => XS.aload XT15.here hx rfl (hb hby at_149) rfl rfl  k_) ?_
    show own_Go p e below _ T15 (mkF m 151 #[oI i0, oI i1, oI i2, oI i3, oI i4, oI s0, oI s1, oI s2, oI (1 : Int32), oI kr, oI s0, oI (0 : Int32), oI (0 : Int32), oI (own_max (own_max s0 (0 : Int32)) (0 : Int32)), oI (((s0 + (0 : Int32)) + (0 : Int32)) - (own_max (own_max s0 (0 : Int32)) (0 : Int32))), oJ (((8 : Int64) * ((own_max (own_max s0 (0 : Int32)) (0 : Int32)).toInt64)) + ((kr.toInt64) * ((((s0 + (0 : Int32)) + (0 : Int32)) - (own_max (own_max s0 (0 : Int32)) (0 : Int32))).toInt64))), .second, oR h0.size, oF tb, .unset] [(.ref h0.size)])
    refine own_by (fun t_ k_ => XS.iload XT15.here hx rfl (hb hby at_151) rfl  k_) ?_
    show own_Go p e below _ T15 (mkF m 153 #[oI i0, oI i1, oI i2, oI i3, oI i4, oI s0, oI s1, oI s2, oI (1 : Int32), oI kr, oI s0, oI (0 : Int32), oI (0 : Int32), oI (own_max (own_max s0 (0 : Int32)) (0 : Int32)), oI (((s0 + (0 : Int32)) + (0 : Int32)) - (own_max (own_max s0 (0 : Int32)) (0 : Int32))), oJ (((8 : Int64) * ((own_max (own_max s0 (0 : Int32)) (0 : Int32)).toInt64)) + ((kr.toInt64) * ((((s0 + (0 : Int32)) + (0 : Int32)) - (own_max (own_max s0 (0 : Int32)) (0 : Int32))).toInt64))), .second, oR h0.size, oF tb, .unset] [(.int (1 : Int32)), (.ref h0.size)])
    refine own_by (fun t_ k_ => XS.fload XT15.here hx rfl (hb hby at_153) rfl  k_) ?_
    show own_Go p e below _ T15 (mkF m 155 #[oI i0, oI i1, oI i2, oI i3, oI i4, oI s0, oI s1, oI s2, oI (1 : Int32), oI kr, oI s0, oI (0 : Int32), oI (0 : Int32), oI (own_max (own_max s0 (0 : Int32)) (0 : Int32)), oI (((s0 + (0 : Int32)) + (0 : Int32)) - (own_max (own_max s0 (0 : Int32)) (0 : Int32))), oJ (((8 : Int64) * ((own_max (own_max s0 (0 : Int32)) (0 : Int32)).toInt64)) + ((kr.toInt64) * ((((s0 + (0 : Int32)) + (0 : Int32)) - (own_max (own_max s0 (0 : Int32)) (0 : Int32))).toInt64))), .second, oR h0.size, oF tb, .unset] [(.float tb), (.int (1 : Int32)), (.ref h0.size)])
    refine own_callS XT15 hx hZ hown (hw _ (List.mem_of_getElem? (i := 9) rfl)) (hw _ (List.mem_of_getElem? (i := 10) rfl)) (hw _ (List.mem_of_getElem? (i := 11) rfl)) (hw _ (List.mem_of_getElem? (i := 12) rfl)) (by decide) eT15 (argsL := [(.ref h0.size), (.int (1 : Int32)), (.float tb)]) (rest := []) (own_bp1 l Z a0 hw h0.size kA kr.toInt tb f0 f1 f2 s0.toInt s1.toInt s2.toInt hT15 VT15 D16 (by omega) (by omega) F0 F1 F2 M0 M1 M2) 0 (by decide) (by decide) (by rw [hml]; rfl) (lenOf pd_1 rfl) (Nat.le_of_eq rfl) (hb hby at_155) (by decide) (by decide) (st := [(.float tb), (.int (1 : Int32)), (.ref h0.size)]) rfl ?_
    intro T17 LT17 vT17 XT17 hQT17
    obtain ⟨⟨r, B, O, rfl, hr, hB, hBO⟩, eT17, rfl⟩ := hQT17
    show own_Go p e below _ T17 (mkF m 158 #[oI i0, oI i1, oI i2, oI i3, oI i4, oI s0, oI s1, oI s2, oI (1 : Int32), oI kr, oI s0, oI (0 : Int32), oI (0 : Int32), oI (own_max (own_max s0 (0 : Int32)) (0 : Int32)), oI (((s0 + (0 : Int32)) + (0 : Int32)) - (own_max (own_max s0 (0 : Int32)) (0 : Int32))), oJ (((8 : Int64) * ((own_max (own_max s0 (0 : Int32)) (0 : Int32)).toInt64)) + ((kr.toInt64) * ((((s0 + (0 : Int32)) + (0 : Int32)) - (own_max (own_max s0 (0 : Int32)) (0 : Int32))).toInt64))), .second, oR h0.size, oF tb, .unset] [(.float r)])
    have hBr : 0 ≤ B ∧ B ≤ 65535 ∧ 0 ≤ O ∧ O ≤ 131070 := by omega
    have hsm := own_small (k := kr.toInt) (o := O) (by omega) (by omega) (by omega) (by omega)
    refine own_by (fun t_ k_ => XS.fstore XT17.here hx rfl (hb hby at_158) rfl (l' := #[oI i0, oI i1, oI i2, oI i3, oI i4, oI s0, oI s1, oI s2, oI (1 : Int32), oI kr, oI s0, oI (0 : Int32), oI (0 : Int32), oI (own_max (own_max s0 (0 : Int32)) (0 : Int32)), oI (((s0 + (0 : Int32)) + (0 : Int32)) - (own_max (own_max s0 (0 : Int32)) (0 : Int32))), oJ (((8 : Int64) * ((own_max (own_max s0 (0 : Int32)) (0 : Int32)).toInt64)) + ((kr.toInt64) * ((((s0 + (0 : Int32)) + (0 : Int32)) - (own_max (own_max s0 (0 : Int32)) (0 : Int32))).toInt64))), .second, oR h0.size, oF tb, oF r]) rfl k_) ?_
    show own_Go p e below _ T17 (mkF m 160 #[oI i0, oI i1, oI i2, oI i3, oI i4, oI s0, oI s1, oI s2, oI (1 : Int32), oI kr, oI s0, oI (0 : Int32), oI (0 : Int32), oI (own_max (own_max s0 (0 : Int32)) (0 : Int32)), oI (((s0 + (0 : Int32)) + (0 : Int32)) - (own_max (own_max s0 (0 : Int32)) (0 : Int32))), oJ (((8 : Int64) * ((own_max (own_max s0 (0 : Int32)) (0 : Int32)).toInt64)) + ((kr.toInt64) * ((((s0 + (0 : Int32)) + (0 : Int32)) - (own_max (own_max s0 (0 : Int32)) (0 : Int32))).toInt64))), .second, oR h0.size, oF tb, oF r] [])
    refine own_by (fun t_ k_ => XS.fload XT17.here hx rfl (hb hby at_160) rfl  k_) ?_
    show own_Go p e below _ T17 (mkF m 162 #[oI i0, oI i1, oI i2, oI i3, oI i4, oI s0, oI s1, oI s2, oI (1 : Int32), oI kr, oI s0, oI (0 : Int32), oI (0 : Int32), oI (own_max (own_max s0 (0 : Int32)) (0 : Int32)), oI (((s0 + (0 : Int32)) + (0 : Int32)) - (own_max (own_max s0 (0 : Int32)) (0 : Int32))), oJ (((8 : Int64) * ((own_max (own_max s0 (0 : Int32)) (0 : Int32)).toInt64)) + ((kr.toInt64) * ((((s0 + (0 : Int32)) + (0 : Int32)) - (own_max (own_max s0 (0 : Int32)) (0 : Int32))).toInt64))), .second, oR h0.size, oF tb, oF r] [(.float r)])
    refine own_by (fun t_ k_ => XT17.ldcFloatC hx hown (mvT hZ (hw _ (List.mem_of_getElem? (i := 8) rfl))) (g := (mkF m 162 #[oI i0, oI i1, oI i2, oI i3, oI i4, oI s0, oI s1, oI s2, oI (1 : Int32), oI kr, oI s0, oI (0 : Int32), oI (0 : Int32), oI (own_max (own_max s0 (0 : Int32)) (0 : Int32)), oI (((s0 + (0 : Int32)) + (0 : Int32)) - (own_max (own_max s0 (0 : Int32)) (0 : Int32))), oJ (((8 : Int64) * ((own_max (own_max s0 (0 : Int32)) (0 : Int32)).toInt64)) + ((kr.toInt64) * ((((s0 + (0 : Int32)) + (0 : Int32)) - (own_max (own_max s0 (0 : Int32)) (0 : Int32))).toInt64))), .second, oR h0.size, oF tb, oF r] [(.float r)])) rfl (hb hby at_162) t_ k_) ?_
    show own_Go p e below _ T17 (mkF m 164 #[oI i0, oI i1, oI i2, oI i3, oI i4, oI s0, oI s1, oI s2, oI (1 : Int32), oI kr, oI s0, oI (0 : Int32), oI (0 : Int32), oI (own_max (own_max s0 (0 : Int32)) (0 : Int32)), oI (((s0 + (0 : Int32)) + (0 : Int32)) - (own_max (own_max s0 (0 : Int32)) (0 : Int32))), oJ (((8 : Int64) * ((own_max (own_max s0 (0 : Int32)) (0 : Int32)).toInt64)) + ((kr.toInt64) * ((((s0 + (0 : Int32)) + (0 : Int32)) - (own_max (own_max s0 (0 : Int32)) (0 : Int32))).toInt64))), .second, oR h0.size, oF tb, oF r] [(.float (1090519040 : UInt32)), (.float r)])
    have D18 := own_F_mul (l := 0) hr own_eight (by simp only [show ((2 ^ 3 : Nat) : Int) = 8 from rfl]; omega) (by decide) (by decide)
    refine own_by (fun t_ k_ => XS.fmulS XT17.here hx rfl (hb hby at_164) rfl (own_F_no D18) rfl k_) ?_
    show own_Go p e below _ T17 (mkF m 165 #[oI i0, oI i1, oI i2, oI i3, oI i4, oI s0, oI s1, oI s2, oI (1 : Int32), oI kr, oI s0, oI (0 : Int32), oI (0 : Int32), oI (own_max (own_max s0 (0 : Int32)) (0 : Int32)), oI (((s0 + (0 : Int32)) + (0 : Int32)) - (own_max (own_max s0 (0 : Int32)) (0 : Int32))), oJ (((8 : Int64) * ((own_max (own_max s0 (0 : Int32)) (0 : Int32)).toInt64)) + ((kr.toInt64) * ((((s0 + (0 : Int32)) + (0 : Int32)) - (own_max (own_max s0 (0 : Int32)) (0 : Int32))).toInt64))), .second, oR h0.size, oF tb, oF r] [(.float (FP.fmul r (1090519040 : UInt32)))])
    generalize (FP.fmul r (1090519040 : UInt32)) = pr at D18 ⊢
    show own_Go p e below _ T17 (mkF m 165 #[oI i0, oI i1, oI i2, oI i3, oI i4, oI s0, oI s1, oI s2, oI (1 : Int32), oI kr, oI s0, oI (0 : Int32), oI (0 : Int32), oI (own_max (own_max s0 (0 : Int32)) (0 : Int32)), oI (((s0 + (0 : Int32)) + (0 : Int32)) - (own_max (own_max s0 (0 : Int32)) (0 : Int32))), oJ (((8 : Int64) * ((own_max (own_max s0 (0 : Int32)) (0 : Int32)).toInt64)) + ((kr.toInt64) * ((((s0 + (0 : Int32)) + (0 : Int32)) - (own_max (own_max s0 (0 : Int32)) (0 : Int32))).toInt64))), .second, oR h0.size, oF tb, oF r] [(.float pr)])
    refine own_by (fun t_ k_ => XT.lload XT17.here hx rfl (hb hby at_165) rfl  k_) ?_
    show own_Go p e below _ T17 (mkF m 167 #[oI i0, oI i1, oI i2, oI i3, oI i4, oI s0, oI s1, oI s2, oI (1 : Int32), oI kr, oI s0, oI (0 : Int32), oI (0 : Int32), oI (own_max (own_max s0 (0 : Int32)) (0 : Int32)), oI (((s0 + (0 : Int32)) + (0 : Int32)) - (own_max (own_max s0 (0 : Int32)) (0 : Int32))), oJ (((8 : Int64) * ((own_max (own_max s0 (0 : Int32)) (0 : Int32)).toInt64)) + ((kr.toInt64) * ((((s0 + (0 : Int32)) + (0 : Int32)) - (own_max (own_max s0 (0 : Int32)) (0 : Int32))).toInt64))), .second, oR h0.size, oF tb, oF r] [(.long (((8 : Int64) * ((own_max (own_max s0 (0 : Int32)) (0 : Int32)).toInt64)) + ((kr.toInt64) * ((((s0 + (0 : Int32)) + (0 : Int32)) - (own_max (own_max s0 (0 : Int32)) (0 : Int32))).toInt64)))), (.float pr)])
    refine own_by (fun t_ k_ => XS.l2fS XT17.here hx rfl (hb hby at_167) rfl rfl k_) ?_
    show own_Go p e below _ T17 (mkF m 168 #[oI i0, oI i1, oI i2, oI i3, oI i4, oI s0, oI s1, oI s2, oI (1 : Int32), oI kr, oI s0, oI (0 : Int32), oI (0 : Int32), oI (own_max (own_max s0 (0 : Int32)) (0 : Int32)), oI (((s0 + (0 : Int32)) + (0 : Int32)) - (own_max (own_max s0 (0 : Int32)) (0 : Int32))), oJ (((8 : Int64) * ((own_max (own_max s0 (0 : Int32)) (0 : Int32)).toInt64)) + ((kr.toInt64) * ((((s0 + (0 : Int32)) + (0 : Int32)) - (own_max (own_max s0 (0 : Int32)) (0 : Int32))).toInt64))), .second, oR h0.size, oF tb, oF r] [(.float (FP.l2f (((8 : Int64) * ((own_max (own_max s0 (0 : Int32)) (0 : Int32)).toInt64)) + ((kr.toInt64) * ((((s0 + (0 : Int32)) + (0 : Int32)) - (own_max (own_max s0 (0 : Int32)) (0 : Int32))).toInt64))))), (.float pr)])
    have z0 : ((0 : Int32)).toInt = 0 := by decide
    have hbest : ((own_max (own_max s0 (0 : Int32)) (0 : Int32))).toInt = (max 0 s0.toInt) := by rw [own_max_int, own_max_int]; omega
    have hoth : ((((s0 + (0 : Int32)) + (0 : Int32)) - (own_max (own_max s0 (0 : Int32)) (0 : Int32)))).toInt = 0 + (s0).toInt + ((0 : Int32)).toInt + ((0 : Int32)).toInt - (max 0 s0.toInt) := by
      have z0 : ((0 : Int32)).toInt = 0 := by decide
      have a1 := c_iadd s0 (0 : Int32)
      have a2 := c_iadd (s0 + (0 : Int32)) (0 : Int32)
      have b1 := rng32 (s0 + (0 : Int32))
      have b2 := rng32 ((s0 + (0 : Int32)) + (0 : Int32))
      have a3 := c_isub ((s0 + (0 : Int32)) + (0 : Int32)) (own_max (own_max s0 (0 : Int32)) (0 : Int32))
      have b3 := rng32 (((s0 + (0 : Int32)) + (0 : Int32)) - (own_max (own_max s0 (0 : Int32)) (0 : Int32)))
      omega
    have z0 : ((0 : Int32)).toInt = 0 := by decide
    have hO : O = ((((s0 + (0 : Int32)) + (0 : Int32)) - (own_max (own_max s0 (0 : Int32)) (0 : Int32)))).toInt := by omega
    have href : ((((8 : Int64) * ((own_max (own_max s0 (0 : Int32)) (0 : Int32)).toInt64)) + ((kr.toInt64) * ((((s0 + (0 : Int32)) + (0 : Int32)) - (own_max (own_max s0 (0 : Int32)) (0 : Int32))).toInt64)))).toInt = B * 8 + kr.toInt * O := by
      have e1 := c_i2l (own_max (own_max s0 (0 : Int32)) (0 : Int32))
      have e2 := c_i2l kr
      have e3 := c_i2l (((s0 + (0 : Int32)) + (0 : Int32)) - (own_max (own_max s0 (0 : Int32)) (0 : Int32)))
      have g1 := c_lmul (8 : Int64) ((own_max (own_max s0 (0 : Int32)) (0 : Int32)).toInt64)
      have g2 := c_lmul (kr.toInt64) ((((s0 + (0 : Int32)) + (0 : Int32)) - (own_max (own_max s0 (0 : Int32)) (0 : Int32))).toInt64)
      have g3 := c_ladd ((8 : Int64) * ((own_max (own_max s0 (0 : Int32)) (0 : Int32)).toInt64)) ((kr.toInt64) * ((((s0 + (0 : Int32)) + (0 : Int32)) - (own_max (own_max s0 (0 : Int32)) (0 : Int32))).toInt64))
      have l8 : ((8 : Int64)).toInt = 8 := by decide
      rw [e1, l8] at g1
      rw [e2, e3, ← hO] at g2
      have r1 := rng64 ((8 : Int64) * ((own_max (own_max s0 (0 : Int32)) (0 : Int32)).toInt64))
      have r2 := rng64 ((kr.toInt64) * ((((s0 + (0 : Int32)) + (0 : Int32)) - (own_max (own_max s0 (0 : Int32)) (0 : Int32))).toInt64))
      have r3 := rng64 (((8 : Int64) * ((own_max (own_max s0 (0 : Int32)) (0 : Int32)).toInt64)) + ((kr.toInt64) * ((((s0 + (0 : Int32)) + (0 : Int32)) - (own_max (own_max s0 (0 : Int32)) (0 : Int32))).toInt64)))
      generalize kr.toInt * O = kO at *
      omega
    have Fr8 := own_F_l2f (a := (((8 : Int64) * ((own_max (own_max s0 (0 : Int32)) (0 : Int32)).toInt64)) + ((kr.toInt64) * ((((s0 + (0 : Int32)) + (0 : Int32)) - (own_max (own_max s0 (0 : Int32)) (0 : Int32))).toInt64)))) (by rw [href]; omega)
    have Fr9 := own_F_up Fr8 3
    rw [href] at Fr9
    have hcmp : cmpValue (FP.fcmp pr (FP.l2f (((8 : Int64) * ((own_max (own_max s0 (0 : Int32)) (0 : Int32)).toInt64)) + ((kr.toInt64) * ((((s0 + (0 : Int32)) + (0 : Int32)) - (own_max (own_max s0 (0 : Int32)) (0 : Int32))).toInt64))))) .l = (0 : Int32) := by
      have q : (B * ((2 ^ 3 : Nat) : Int) + kr.toInt * O) * 8 = (B * 8 + kr.toInt * O) * ((2 ^ 3 : Nat) : Int) := by simp only [show ((2 ^ 3 : Nat) : Int) = 8 from rfl]
      rw [q] at D18
      exact own_feq D18 Fr9
    refine own_by (fun t_ k_ => XS.fcmpS XT17.here hx rfl (hb hby at_168) rfl hcmp k_) ?_
    show own_Go p e below _ T17 (mkF m 169 #[oI i0, oI i1, oI i2, oI i3, oI i4, oI s0, oI s1, oI s2, oI (1 : Int32), oI kr, oI s0, oI (0 : Int32), oI (0 : Int32), oI (own_max (own_max s0 (0 : Int32)) (0 : Int32)), oI (((s0 + (0 : Int32)) + (0 : Int32)) - (own_max (own_max s0 (0 : Int32)) (0 : Int32))), oJ (((8 : Int64) * ((own_max (own_max s0 (0 : Int32)) (0 : Int32)).toInt64)) + ((kr.toInt64) * ((((s0 + (0 : Int32)) + (0 : Int32)) - (own_max (own_max s0 (0 : Int32)) (0 : Int32))).toInt64))), .second, oR h0.size, oF tb, oF r] [(.int (0 : Int32))])
    refine own_by (fun t_ k_ => XS.ifNo XT17.here hx rfl (hb hby at_169) rfl (XT.i0_ne_f (by decide)) k_) ?_
    show own_Go p e below _ T17 (mkF m 172 #[oI i0, oI i1, oI i2, oI i3, oI i4, oI s0, oI s1, oI s2, oI (1 : Int32), oI kr, oI s0, oI (0 : Int32), oI (0 : Int32), oI (own_max (own_max s0 (0 : Int32)) (0 : Int32)), oI (((s0 + (0 : Int32)) + (0 : Int32)) - (own_max (own_max s0 (0 : Int32)) (0 : Int32))), oJ (((8 : Int64) * ((own_max (own_max s0 (0 : Int32)) (0 : Int32)).toInt64)) + ((kr.toInt64) * ((((s0 + (0 : Int32)) + (0 : Int32)) - (own_max (own_max s0 (0 : Int32)) (0 : Int32))).toInt64))), .second, oR h0.size, oF tb, oF r] [])
    refine own_by (fun t_ k_ => XT.iconstV XT17.here hx rfl (1 : Int32) (hb hby at_172) (by decide) k_) ?_
    show own_Go p e below _ T17 (mkF m 173 #[oI i0, oI i1, oI i2, oI i3, oI i4, oI s0, oI s1, oI s2, oI (1 : Int32), oI kr, oI s0, oI (0 : Int32), oI (0 : Int32), oI (own_max (own_max s0 (0 : Int32)) (0 : Int32)), oI (((s0 + (0 : Int32)) + (0 : Int32)) - (own_max (own_max s0 (0 : Int32)) (0 : Int32))), oJ (((8 : Int64) * ((own_max (own_max s0 (0 : Int32)) (0 : Int32)).toInt64)) + ((kr.toInt64) * ((((s0 + (0 : Int32)) + (0 : Int32)) - (own_max (own_max s0 (0 : Int32)) (0 : Int32))).toInt64))), .second, oR h0.size, oF tb, oF r] [(.int (1 : Int32))])
    refine own_by (fun t_ k_ => XS.goto XT17.here hx rfl (pc0 := 173) (pc' := 177) rfl (hb hby at_173) (by decide) (by decide) k_) ?_
    show own_Go p e below _ T17 (mkF m 177 #[oI i0, oI i1, oI i2, oI i3, oI i4, oI s0, oI s1, oI s2, oI (1 : Int32), oI kr, oI s0, oI (0 : Int32), oI (0 : Int32), oI (own_max (own_max s0 (0 : Int32)) (0 : Int32)), oI (((s0 + (0 : Int32)) + (0 : Int32)) - (own_max (own_max s0 (0 : Int32)) (0 : Int32))), oJ (((8 : Int64) * ((own_max (own_max s0 (0 : Int32)) (0 : Int32)).toInt64)) + ((kr.toInt64) * ((((s0 + (0 : Int32)) + (0 : Int32)) - (own_max (own_max s0 (0 : Int32)) (0 : Int32))).toInt64))), .second, oR h0.size, oF tb, oF r] [(.int (1 : Int32))])
    exact own_retN XT17 hx hlk hret (by simp) (w := (1 : Int32)) (hb hby at_177) (by decide) (by decide) (by decide) (⟨rfl, own_app3 NT15⟩)
  · rw [hk]
    show own_Go p e below _ T0 (mkF m 33 #[oI i0, oI i1, oI i2, oI i3, oI i4, oI s0, oI s1, oI s2, oI (2 : Int32), oI kr, .unset, .unset, .unset, .unset, .unset, .unset, .unset, .unset, .unset, .unset] [])
    refine own_by (fun t_ k_ => XS.iload X0.here hx rfl (hb hby at_33) rfl  k_) ?_
    show own_Go p e below _ T0 (mkF m 35 #[oI i0, oI i1, oI i2, oI i3, oI i4, oI s0, oI s1, oI s2, oI (2 : Int32), oI kr, .unset, .unset, .unset, .unset, .unset, .unset, .unset, .unset, .unset, .unset] [(.int (2 : Int32))])
    refine own_by (fun t_ k_ => XS.ifNo X0.here hx rfl (hb hby at_35) rfl (XT.i0_le_f (by decide)) k_) ?_
    show own_Go p e below _ T0 (mkF m 38 #[oI i0, oI i1, oI i2, oI i3, oI i4, oI s0, oI s1, oI s2, oI (2 : Int32), oI kr, .unset, .unset, .unset, .unset, .unset, .unset, .unset, .unset, .unset, .unset] [])
    refine own_by (fun t_ k_ => XS.iload X0.here hx rfl (hb hby at_38) rfl  k_) ?_
    show own_Go p e below _ T0 (mkF m 40 #[oI i0, oI i1, oI i2, oI i3, oI i4, oI s0, oI s1, oI s2, oI (2 : Int32), oI kr, .unset, .unset, .unset, .unset, .unset, .unset, .unset, .unset, .unset, .unset] [(.int s0)])
    refine own_by (fun t_ k_ => XS.goto X0.here hx rfl (pc0 := 40) (pc' := 44) rfl (hb hby at_40) (by decide) (by decide) k_) ?_
    show own_Go p e below _ T0 (mkF m 44 #[oI i0, oI i1, oI i2, oI i3, oI i4, oI s0, oI s1, oI s2, oI (2 : Int32), oI kr, .unset, .unset, .unset, .unset, .unset, .unset, .unset, .unset, .unset, .unset] [(.int s0)])
    refine own_by (fun t_ k_ => XS.istore X0.here hx rfl (hb hby at_44) rfl (l' := #[oI i0, oI i1, oI i2, oI i3, oI i4, oI s0, oI s1, oI s2, oI (2 : Int32), oI kr, oI s0, .unset, .unset, .unset, .unset, .unset, .unset, .unset, .unset, .unset]) rfl k_) ?_
    show own_Go p e below _ T0 (mkF m 46 #[oI i0, oI i1, oI i2, oI i3, oI i4, oI s0, oI s1, oI s2, oI (2 : Int32), oI kr, oI s0, .unset, .unset, .unset, .unset, .unset, .unset, .unset, .unset, .unset] [])
    refine own_by (fun t_ k_ => XS.iload X0.here hx rfl (hb hby at_46) rfl  k_) ?_
    show own_Go p e below _ T0 (mkF m 48 #[oI i0, oI i1, oI i2, oI i3, oI i4, oI s0, oI s1, oI s2, oI (2 : Int32), oI kr, oI s0, .unset, .unset, .unset, .unset, .unset, .unset, .unset, .unset, .unset] [(.int (2 : Int32))])
    refine own_by (fun t_ k_ => XT.iconstV X0.here hx rfl (1 : Int32) (hb hby at_48) (by decide) k_) ?_
    show own_Go p e below _ T0 (mkF m 49 #[oI i0, oI i1, oI i2, oI i3, oI i4, oI s0, oI s1, oI s2, oI (2 : Int32), oI kr, oI s0, .unset, .unset, .unset, .unset, .unset, .unset, .unset, .unset, .unset] [(.int (1 : Int32)), (.int (2 : Int32))])
    refine own_by (fun t_ k_ => XS.icmpNo X0.here hx rfl (hb hby at_49) rfl (XT.ii_le_f (by decide)) k_) ?_
    show own_Go p e below _ T0 (mkF m 52 #[oI i0, oI i1, oI i2, oI i3, oI i4, oI s0, oI s1, oI s2, oI (2 : Int32), oI kr, oI s0, .unset, .unset, .unset, .unset, .unset, .unset, .unset, .unset, .unset] [])
    refine own_by (fun t_ k_ => XS.iload X0.here hx rfl (hb hby at_52) rfl  k_) ?_
    show own_Go p e below _ T0 (mkF m 54 #[oI i0, oI i1, oI i2, oI i3, oI i4, oI s0, oI s1, oI s2, oI (2 : Int32), oI kr, oI s0, .unset, .unset, .unset, .unset, .unset, .unset, .unset, .unset, .unset] [(.int s1)])
    refine own_by (fun t_ k_ => XS.goto X0.here hx rfl (pc0 := 54) (pc' := 58) rfl (hb hby at_54) (by decide) (by decide) k_) ?_
    show own_Go p e below _ T0 (mkF m 58 #[oI i0, oI i1, oI i2, oI i3, oI i4, oI s0, oI s1, oI s2, oI (2 : Int32), oI kr, oI s0, .unset, .unset, .unset, .unset, .unset, .unset, .unset, .unset, .unset] [(.int s1)])
    refine own_by (fun t_ k_ => XS.istore X0.here hx rfl (hb hby at_58) rfl (l' := #[oI i0, oI i1, oI i2, oI i3, oI i4, oI s0, oI s1, oI s2, oI (2 : Int32), oI kr, oI s0, oI s1, .unset, .unset, .unset, .unset, .unset, .unset, .unset, .unset]) rfl k_) ?_
    show own_Go p e below _ T0 (mkF m 60 #[oI i0, oI i1, oI i2, oI i3, oI i4, oI s0, oI s1, oI s2, oI (2 : Int32), oI kr, oI s0, oI s1, .unset, .unset, .unset, .unset, .unset, .unset, .unset, .unset] [])
    refine own_by (fun t_ k_ => XS.iload X0.here hx rfl (hb hby at_60) rfl  k_) ?_
    show own_Go p e below _ T0 (mkF m 62 #[oI i0, oI i1, oI i2, oI i3, oI i4, oI s0, oI s1, oI s2, oI (2 : Int32), oI kr, oI s0, oI s1, .unset, .unset, .unset, .unset, .unset, .unset, .unset, .unset] [(.int (2 : Int32))])
    refine own_by (fun t_ k_ => XT.iconstV X0.here hx rfl (2 : Int32) (hb hby at_62) (by decide) k_) ?_
    show own_Go p e below _ T0 (mkF m 63 #[oI i0, oI i1, oI i2, oI i3, oI i4, oI s0, oI s1, oI s2, oI (2 : Int32), oI kr, oI s0, oI s1, .unset, .unset, .unset, .unset, .unset, .unset, .unset, .unset] [(.int (2 : Int32)), (.int (2 : Int32))])
    refine own_by (fun t_ k_ => XS.icmpYes X0.here hx rfl (pc0 := 63) (pc' := 71) rfl (hb hby at_63) rfl (XT.ii_le_t (by decide)) (by decide) (by decide) k_) ?_
    show own_Go p e below _ T0 (mkF m 71 #[oI i0, oI i1, oI i2, oI i3, oI i4, oI s0, oI s1, oI s2, oI (2 : Int32), oI kr, oI s0, oI s1, .unset, .unset, .unset, .unset, .unset, .unset, .unset, .unset] [])
    refine own_by (fun t_ k_ => XT.iconstV X0.here hx rfl (0 : Int32) (hb hby at_71) (by decide) k_) ?_
    show own_Go p e below _ T0 (mkF m 72 #[oI i0, oI i1, oI i2, oI i3, oI i4, oI s0, oI s1, oI s2, oI (2 : Int32), oI kr, oI s0, oI s1, .unset, .unset, .unset, .unset, .unset, .unset, .unset, .unset] [(.int (0 : Int32))])
    refine own_by (fun t_ k_ => XS.istore X0.here hx rfl (hb hby at_72) rfl (l' := #[oI i0, oI i1, oI i2, oI i3, oI i4, oI s0, oI s1, oI s2, oI (2 : Int32), oI kr, oI s0, oI s1, oI (0 : Int32), .unset, .unset, .unset, .unset, .unset, .unset, .unset]) rfl k_) ?_
    show own_Go p e below _ T0 (mkF m 74 #[oI i0, oI i1, oI i2, oI i3, oI i4, oI s0, oI s1, oI s2, oI (2 : Int32), oI kr, oI s0, oI s1, oI (0 : Int32), .unset, .unset, .unset, .unset, .unset, .unset, .unset] [])
    refine own_by (fun t_ k_ => XS.iload X0.here hx rfl (hb hby at_74) rfl  k_) ?_
    show own_Go p e below _ T0 (mkF m 76 #[oI i0, oI i1, oI i2, oI i3, oI i4, oI s0, oI s1, oI s2, oI (2 : Int32), oI kr, oI s0, oI s1, oI (0 : Int32), .unset, .unset, .unset, .unset, .unset, .unset, .unset] [(.int s0)])
    refine own_by (fun t_ k_ => XS.iload X0.here hx rfl (hb hby at_76) rfl  k_) ?_
    show own_Go p e below _ T0 (mkF m 78 #[oI i0, oI i1, oI i2, oI i3, oI i4, oI s0, oI s1, oI s2, oI (2 : Int32), oI kr, oI s0, oI s1, oI (0 : Int32), .unset, .unset, .unset, .unset, .unset, .unset, .unset] [(.int s1), (.int s0)])
    refine own_callS X0 hx hZ hown (hw _ (List.mem_of_getElem? (i := 2) rfl)) (hw _ (List.mem_of_getElem? (i := 3) rfl)) (hw _ (List.mem_of_getElem? (i := 4) rfl)) (hw _ (List.mem_of_getElem? (i := 5) rfl)) (by decide) e0 (argsL := [(.int s0), (.int s1)]) (rest := []) (own_max_met l Z a0 hw s0 s1 h0) 0 (by decide) (by decide) (by rw [hml]; rfl) (lenOf pd_0 rfl) (Nat.le_of_eq rfl) (hb hby at_78) (by decide) (by decide) (st := [(.int s1), (.int s0)]) rfl ?_
    intro T19 LT19 vT19 XT19 hQT19
    obtain ⟨rfl, eT19, rfl⟩ := hQT19
    show own_Go p e below _ T19 (mkF m 81 #[oI i0, oI i1, oI i2, oI i3, oI i4, oI s0, oI s1, oI s2, oI (2 : Int32), oI kr, oI s0, oI s1, oI (0 : Int32), .unset, .unset, .unset, .unset, .unset, .unset, .unset] [(.int (own_max s0 s1))])
    refine own_by (fun t_ k_ => XS.iload XT19.here hx rfl (hb hby at_81) rfl  k_) ?_
    show own_Go p e below _ T19 (mkF m 83 #[oI i0, oI i1, oI i2, oI i3, oI i4, oI s0, oI s1, oI s2, oI (2 : Int32), oI kr, oI s0, oI s1, oI (0 : Int32), .unset, .unset, .unset, .unset, .unset, .unset, .unset] [(.int (0 : Int32)), (.int (own_max s0 s1))])
    refine own_callS XT19 hx hZ hown (hw _ (List.mem_of_getElem? (i := 2) rfl)) (hw _ (List.mem_of_getElem? (i := 3) rfl)) (hw _ (List.mem_of_getElem? (i := 4) rfl)) (hw _ (List.mem_of_getElem? (i := 5) rfl)) (by decide) eT19 (argsL := [(.int (own_max s0 s1)), (.int (0 : Int32))]) (rest := []) (own_max_met l Z a0 hw (own_max s0 s1) (0 : Int32) h0) 0 (by decide) (by decide) (by rw [hml]; rfl) (lenOf pd_0 rfl) (Nat.le_of_eq rfl) (hb hby at_83) (by decide) (by decide) (st := [(.int (0 : Int32)), (.int (own_max s0 s1))]) rfl ?_
    intro T20 LT20 vT20 XT20 hQT20
    obtain ⟨rfl, eT20, rfl⟩ := hQT20
    show own_Go p e below _ T20 (mkF m 86 #[oI i0, oI i1, oI i2, oI i3, oI i4, oI s0, oI s1, oI s2, oI (2 : Int32), oI kr, oI s0, oI s1, oI (0 : Int32), .unset, .unset, .unset, .unset, .unset, .unset, .unset] [(.int (own_max (own_max s0 s1) (0 : Int32)))])
    refine own_by (fun t_ k_ => XS.istore XT20.here hx rfl (hb hby at_86) rfl (l' := #[oI i0, oI i1, oI i2, oI i3, oI i4, oI s0, oI s1, oI s2, oI (2 : Int32), oI kr, oI s0, oI s1, oI (0 : Int32), oI (own_max (own_max s0 s1) (0 : Int32)), .unset, .unset, .unset, .unset, .unset, .unset]) rfl k_) ?_
    show own_Go p e below _ T20 (mkF m 88 #[oI i0, oI i1, oI i2, oI i3, oI i4, oI s0, oI s1, oI s2, oI (2 : Int32), oI kr, oI s0, oI s1, oI (0 : Int32), oI (own_max (own_max s0 s1) (0 : Int32)), .unset, .unset, .unset, .unset, .unset, .unset] [])
    refine own_by (fun t_ k_ => XS.iload XT20.here hx rfl (hb hby at_88) rfl  k_) ?_
    show own_Go p e below _ T20 (mkF m 90 #[oI i0, oI i1, oI i2, oI i3, oI i4, oI s0, oI s1, oI s2, oI (2 : Int32), oI kr, oI s0, oI s1, oI (0 : Int32), oI (own_max (own_max s0 s1) (0 : Int32)), .unset, .unset, .unset, .unset, .unset, .unset] [(.int s0)])
    refine own_by (fun t_ k_ => XS.iload XT20.here hx rfl (hb hby at_90) rfl  k_) ?_
    show own_Go p e below _ T20 (mkF m 92 #[oI i0, oI i1, oI i2, oI i3, oI i4, oI s0, oI s1, oI s2, oI (2 : Int32), oI kr, oI s0, oI s1, oI (0 : Int32), oI (own_max (own_max s0 s1) (0 : Int32)), .unset, .unset, .unset, .unset, .unset, .unset] [(.int s1), (.int s0)])
    refine own_by (fun t_ k_ => XS.iadd XT20.here hx rfl (hb hby at_92) rfl k_) ?_
    show own_Go p e below _ T20 (mkF m 93 #[oI i0, oI i1, oI i2, oI i3, oI i4, oI s0, oI s1, oI s2, oI (2 : Int32), oI kr, oI s0, oI s1, oI (0 : Int32), oI (own_max (own_max s0 s1) (0 : Int32)), .unset, .unset, .unset, .unset, .unset, .unset] [(.int (s0 + s1))])
    refine own_by (fun t_ k_ => XS.iload XT20.here hx rfl (hb hby at_93) rfl  k_) ?_
    show own_Go p e below _ T20 (mkF m 95 #[oI i0, oI i1, oI i2, oI i3, oI i4, oI s0, oI s1, oI s2, oI (2 : Int32), oI kr, oI s0, oI s1, oI (0 : Int32), oI (own_max (own_max s0 s1) (0 : Int32)), .unset, .unset, .unset, .unset, .unset, .unset] [(.int (0 : Int32)), (.int (s0 + s1))])
    refine own_by (fun t_ k_ => XS.iadd XT20.here hx rfl (hb hby at_95) rfl k_) ?_
    show own_Go p e below _ T20 (mkF m 96 #[oI i0, oI i1, oI i2, oI i3, oI i4, oI s0, oI s1, oI s2, oI (2 : Int32), oI kr, oI s0, oI s1, oI (0 : Int32), oI (own_max (own_max s0 s1) (0 : Int32)), .unset, .unset, .unset, .unset, .unset, .unset] [(.int ((s0 + s1) + (0 : Int32)))])
    refine own_by (fun t_ k_ => XS.iload XT20.here hx rfl (hb hby at_96) rfl  k_) ?_
    show own_Go p e below _ T20 (mkF m 98 #[oI i0, oI i1, oI i2, oI i3, oI i4, oI s0, oI s1, oI s2, oI (2 : Int32), oI kr, oI s0, oI s1, oI (0 : Int32), oI (own_max (own_max s0 s1) (0 : Int32)), .unset, .unset, .unset, .unset, .unset, .unset] [(.int (own_max (own_max s0 s1) (0 : Int32))), (.int ((s0 + s1) + (0 : Int32)))])
    refine own_by (fun t_ k_ => XS.isub XT20.here hx rfl (hb hby at_98) rfl k_) ?_
    show own_Go p e below _ T20 (mkF m 99 #[oI i0, oI i1, oI i2, oI i3, oI i4, oI s0, oI s1, oI s2, oI (2 : Int32), oI kr, oI s0, oI s1, oI (0 : Int32), oI (own_max (own_max s0 s1) (0 : Int32)), .unset, .unset, .unset, .unset, .unset, .unset] [(.int (((s0 + s1) + (0 : Int32)) - (own_max (own_max s0 s1) (0 : Int32))))])
    refine own_by (fun t_ k_ => XS.istore XT20.here hx rfl (hb hby at_99) rfl (l' := #[oI i0, oI i1, oI i2, oI i3, oI i4, oI s0, oI s1, oI s2, oI (2 : Int32), oI kr, oI s0, oI s1, oI (0 : Int32), oI (own_max (own_max s0 s1) (0 : Int32)), oI (((s0 + s1) + (0 : Int32)) - (own_max (own_max s0 s1) (0 : Int32))), .unset, .unset, .unset, .unset, .unset]) rfl k_) ?_
    show own_Go p e below _ T20 (mkF m 101 #[oI i0, oI i1, oI i2, oI i3, oI i4, oI s0, oI s1, oI s2, oI (2 : Int32), oI kr, oI s0, oI s1, oI (0 : Int32), oI (own_max (own_max s0 s1) (0 : Int32)), oI (((s0 + s1) + (0 : Int32)) - (own_max (own_max s0 s1) (0 : Int32))), .unset, .unset, .unset, .unset, .unset] [])
    refine own_by (fun t_ k_ => XT20.ldc2J hx hown (mvT hZ (hw _ (List.mem_of_getElem? (i := 6) rfl))) rfl (hb hby at_101) k_) ?_
    show own_Go p e below _ T20 (mkF m 104 #[oI i0, oI i1, oI i2, oI i3, oI i4, oI s0, oI s1, oI s2, oI (2 : Int32), oI kr, oI s0, oI s1, oI (0 : Int32), oI (own_max (own_max s0 s1) (0 : Int32)), oI (((s0 + s1) + (0 : Int32)) - (own_max (own_max s0 s1) (0 : Int32))), .unset, .unset, .unset, .unset, .unset] [(.long (8 : Int64))])
    refine own_by (fun t_ k_ => XS.iload XT20.here hx rfl (hb hby at_104) rfl  k_) ?_
    show own_Go p e below _ T20 (mkF m 106 #[oI i0, oI i1, oI i2, oI i3, oI i4, oI s0, oI s1, oI s2, oI (2 : Int32), oI kr, oI s0, oI s1, oI (0 : Int32), oI (own_max (own_max s0 s1) (0 : Int32)), oI (((s0 + s1) + (0 : Int32)) - (own_max (own_max s0 s1) (0 : Int32))), .unset, .unset, .unset, .unset, .unset] [(.int (own_max (own_max s0 s1) (0 : Int32))), (.long (8 : Int64))])
    refine own_by (fun t_ k_ => XT.i2l XT20.here hx rfl (hb hby at_106) rfl k_) ?_
    show own_Go p e below _ T20 (mkF m 107 #[oI i0, oI i1, oI i2, oI i3, oI i4, oI s0, oI s1, oI s2, oI (2 : Int32), oI kr, oI s0, oI s1, oI (0 : Int32), oI (own_max (own_max s0 s1) (0 : Int32)), oI (((s0 + s1) + (0 : Int32)) - (own_max (own_max s0 s1) (0 : Int32))), .unset, .unset, .unset, .unset, .unset] [(.long ((own_max (own_max s0 s1) (0 : Int32)).toInt64)), (.long (8 : Int64))])
    refine own_by (fun t_ k_ => XT.lmul XT20.here hx rfl (hb hby at_107) rfl k_) ?_
    show own_Go p e below _ T20 (mkF m 108 #[oI i0, oI i1, oI i2, oI i3, oI i4, oI s0, oI s1, oI s2, oI (2 : Int32), oI kr, oI s0, oI s1, oI (0 : Int32), oI (own_max (own_max s0 s1) (0 : Int32)), oI (((s0 + s1) + (0 : Int32)) - (own_max (own_max s0 s1) (0 : Int32))), .unset, .unset, .unset, .unset, .unset] [(.long ((8 : Int64) * ((own_max (own_max s0 s1) (0 : Int32)).toInt64)))])
    refine own_by (fun t_ k_ => XS.iload XT20.here hx rfl (hb hby at_108) rfl  k_) ?_
    show own_Go p e below _ T20 (mkF m 110 #[oI i0, oI i1, oI i2, oI i3, oI i4, oI s0, oI s1, oI s2, oI (2 : Int32), oI kr, oI s0, oI s1, oI (0 : Int32), oI (own_max (own_max s0 s1) (0 : Int32)), oI (((s0 + s1) + (0 : Int32)) - (own_max (own_max s0 s1) (0 : Int32))), .unset, .unset, .unset, .unset, .unset] [(.int kr), (.long ((8 : Int64) * ((own_max (own_max s0 s1) (0 : Int32)).toInt64)))])
    refine own_by (fun t_ k_ => XT.i2l XT20.here hx rfl (hb hby at_110) rfl k_) ?_
    show own_Go p e below _ T20 (mkF m 111 #[oI i0, oI i1, oI i2, oI i3, oI i4, oI s0, oI s1, oI s2, oI (2 : Int32), oI kr, oI s0, oI s1, oI (0 : Int32), oI (own_max (own_max s0 s1) (0 : Int32)), oI (((s0 + s1) + (0 : Int32)) - (own_max (own_max s0 s1) (0 : Int32))), .unset, .unset, .unset, .unset, .unset] [(.long (kr.toInt64)), (.long ((8 : Int64) * ((own_max (own_max s0 s1) (0 : Int32)).toInt64)))])
    refine own_by (fun t_ k_ => XS.iload XT20.here hx rfl (hb hby at_111) rfl  k_) ?_
    show own_Go p e below _ T20 (mkF m 113 #[oI i0, oI i1, oI i2, oI i3, oI i4, oI s0, oI s1, oI s2, oI (2 : Int32), oI kr, oI s0, oI s1, oI (0 : Int32), oI (own_max (own_max s0 s1) (0 : Int32)), oI (((s0 + s1) + (0 : Int32)) - (own_max (own_max s0 s1) (0 : Int32))), .unset, .unset, .unset, .unset, .unset] [(.int (((s0 + s1) + (0 : Int32)) - (own_max (own_max s0 s1) (0 : Int32)))), (.long (kr.toInt64)), (.long ((8 : Int64) * ((own_max (own_max s0 s1) (0 : Int32)).toInt64)))])
    refine own_by (fun t_ k_ => XT.i2l XT20.here hx rfl (hb hby at_113) rfl k_) ?_
    show own_Go p e below _ T20 (mkF m 114 #[oI i0, oI i1, oI i2, oI i3, oI i4, oI s0, oI s1, oI s2, oI (2 : Int32), oI kr, oI s0, oI s1, oI (0 : Int32), oI (own_max (own_max s0 s1) (0 : Int32)), oI (((s0 + s1) + (0 : Int32)) - (own_max (own_max s0 s1) (0 : Int32))), .unset, .unset, .unset, .unset, .unset] [(.long ((((s0 + s1) + (0 : Int32)) - (own_max (own_max s0 s1) (0 : Int32))).toInt64)), (.long (kr.toInt64)), (.long ((8 : Int64) * ((own_max (own_max s0 s1) (0 : Int32)).toInt64)))])
    refine own_by (fun t_ k_ => XT.lmul XT20.here hx rfl (hb hby at_114) rfl k_) ?_
    show own_Go p e below _ T20 (mkF m 115 #[oI i0, oI i1, oI i2, oI i3, oI i4, oI s0, oI s1, oI s2, oI (2 : Int32), oI kr, oI s0, oI s1, oI (0 : Int32), oI (own_max (own_max s0 s1) (0 : Int32)), oI (((s0 + s1) + (0 : Int32)) - (own_max (own_max s0 s1) (0 : Int32))), .unset, .unset, .unset, .unset, .unset] [(.long ((kr.toInt64) * ((((s0 + s1) + (0 : Int32)) - (own_max (own_max s0 s1) (0 : Int32))).toInt64))), (.long ((8 : Int64) * ((own_max (own_max s0 s1) (0 : Int32)).toInt64)))])
    refine own_by (fun t_ k_ => XT.ladd XT20.here hx rfl (hb hby at_115) rfl k_) ?_
    show own_Go p e below _ T20 (mkF m 116 #[oI i0, oI i1, oI i2, oI i3, oI i4, oI s0, oI s1, oI s2, oI (2 : Int32), oI kr, oI s0, oI s1, oI (0 : Int32), oI (own_max (own_max s0 s1) (0 : Int32)), oI (((s0 + s1) + (0 : Int32)) - (own_max (own_max s0 s1) (0 : Int32))), .unset, .unset, .unset, .unset, .unset] [(.long (((8 : Int64) * ((own_max (own_max s0 s1) (0 : Int32)).toInt64)) + ((kr.toInt64) * ((((s0 + s1) + (0 : Int32)) - (own_max (own_max s0 s1) (0 : Int32))).toInt64))))])
    refine own_by (fun t_ k_ => XT.lstore XT20.here hx rfl (hb hby at_116) rfl (l' := #[oI i0, oI i1, oI i2, oI i3, oI i4, oI s0, oI s1, oI s2, oI (2 : Int32), oI kr, oI s0, oI s1, oI (0 : Int32), oI (own_max (own_max s0 s1) (0 : Int32)), oI (((s0 + s1) + (0 : Int32)) - (own_max (own_max s0 s1) (0 : Int32))), oJ (((8 : Int64) * ((own_max (own_max s0 s1) (0 : Int32)).toInt64)) + ((kr.toInt64) * ((((s0 + s1) + (0 : Int32)) - (own_max (own_max s0 s1) (0 : Int32))).toInt64))), .second, .unset, .unset, .unset]) rfl k_) ?_
    show own_Go p e below _ T20 (mkF m 118 #[oI i0, oI i1, oI i2, oI i3, oI i4, oI s0, oI s1, oI s2, oI (2 : Int32), oI kr, oI s0, oI s1, oI (0 : Int32), oI (own_max (own_max s0 s1) (0 : Int32)), oI (((s0 + s1) + (0 : Int32)) - (own_max (own_max s0 s1) (0 : Int32))), oJ (((8 : Int64) * ((own_max (own_max s0 s1) (0 : Int32)).toInt64)) + ((kr.toInt64) * ((((s0 + s1) + (0 : Int32)) - (own_max (own_max s0 s1) (0 : Int32))).toInt64))), .second, .unset, .unset, .unset] [])
    refine own_by (fun t_ k_ => XT.iconstV XT20.here hx rfl (3 : Int32) (hb hby at_118) (by decide) k_) ?_
    show own_Go p e below _ T20 (mkF m 119 #[oI i0, oI i1, oI i2, oI i3, oI i4, oI s0, oI s1, oI s2, oI (2 : Int32), oI kr, oI s0, oI s1, oI (0 : Int32), oI (own_max (own_max s0 s1) (0 : Int32)), oI (((s0 + s1) + (0 : Int32)) - (own_max (own_max s0 s1) (0 : Int32))), oJ (((8 : Int64) * ((own_max (own_max s0 s1) (0 : Int32)).toInt64)) + ((kr.toInt64) * ((((s0 + s1) + (0 : Int32)) - (own_max (own_max s0 s1) (0 : Int32))).toInt64))), .second, .unset, .unset, .unset] [(.int (3 : Int32))])
    refine own_newP XT20 hx hZ (aty := .float) (hw _ (List.mem_of_getElem? (i := 7) rfl)) eT20 (hb hby at_119) 3 3 (by decide) (by decide) (by decide) (by decide) (by decide) (by decide) ?_
    intro T21 hT21 kA XT21 eT21 ET21 YT21
    have VT21 : own_A Z hT21 h0.size .float kA [(.float 0), (.float 0), (.float 0)] := YT21
    have NT21 := Fr.nil h0.size
    clear YT21
    show own_Go p e below _ T21 (mkF m 121 #[oI i0, oI i1, oI i2, oI i3, oI i4, oI s0, oI s1, oI s2, oI (2 : Int32), oI kr, oI s0, oI s1, oI (0 : Int32), oI (own_max (own_max s0 s1) (0 : Int32)), oI (((s0 + s1) + (0 : Int32)) - (own_max (own_max s0 s1) (0 : Int32))), oJ (((8 : Int64) * ((own_max (own_max s0 s1) (0 : Int32)).toInt64)) + ((kr.toInt64) * ((((s0 + s1) + (0 : Int32)) - (own_max (own_max s0 s1) (0 : Int32))).toInt64))), .second, .unset, .unset, .unset] [(.ref h0.size)])
    refine own_by (fun t_ k_ => XS.dup XT21.here hx rfl (hb hby at_121) rfl rfl k_) ?_
    show own_Go p e below _ T21 (mkF m 122 #[oI i0, oI i1, oI i2, oI i3, oI i4, oI s0, oI s1, oI s2, oI (2 : Int32), oI kr, oI s0, oI s1, oI (0 : Int32), oI (own_max (own_max s0 s1) (0 : Int32)), oI (((s0 + s1) + (0 : Int32)) - (own_max (own_max s0 s1) (0 : Int32))), oJ (((8 : Int64) * ((own_max (own_max s0 s1) (0 : Int32)).toInt64)) + ((kr.toInt64) * ((((s0 + s1) + (0 : Int32)) - (own_max (own_max s0 s1) (0 : Int32))).toInt64))), .second, .unset, .unset, .unset] [(.ref h0.size), (.ref h0.size)])
    refine own_by (fun t_ k_ => XT.iconstV XT21.here hx rfl (0 : Int32) (hb hby at_122) (by decide) k_) ?_
    show own_Go p e below _ T21 (mkF m 123 #[oI i0, oI i1, oI i2, oI i3, oI i4, oI s0, oI s1, oI s2, oI (2 : Int32), oI kr, oI s0, oI s1, oI (0 : Int32), oI (own_max (own_max s0 s1) (0 : Int32)), oI (((s0 + s1) + (0 : Int32)) - (own_max (own_max s0 s1) (0 : Int32))), oJ (((8 : Int64) * ((own_max (own_max s0 s1) (0 : Int32)).toInt64)) + ((kr.toInt64) * ((((s0 + s1) + (0 : Int32)) - (own_max (own_max s0 s1) (0 : Int32))).toInt64))), .second, .unset, .unset, .unset] [(.int (0 : Int32)), (.ref h0.size), (.ref h0.size)])
    refine own_by (fun t_ k_ => XS.iload XT21.here hx rfl (hb hby at_123) rfl  k_) ?_
    show own_Go p e below _ T21 (mkF m 125 #[oI i0, oI i1, oI i2, oI i3, oI i4, oI s0, oI s1, oI s2, oI (2 : Int32), oI kr, oI s0, oI s1, oI (0 : Int32), oI (own_max (own_max s0 s1) (0 : Int32)), oI (((s0 + s1) + (0 : Int32)) - (own_max (own_max s0 s1) (0 : Int32))), oJ (((8 : Int64) * ((own_max (own_max s0 s1) (0 : Int32)).toInt64)) + ((kr.toInt64) * ((((s0 + s1) + (0 : Int32)) - (own_max (own_max s0 s1) (0 : Int32))).toInt64))), .second, .unset, .unset, .unset] [(.int s0), (.int (0 : Int32)), (.ref h0.size), (.ref h0.size)])
    refine own_by (fun t_ k_ => XS.i2fS XT21.here hx rfl (hb hby at_125) rfl rfl k_) ?_
    show own_Go p e below _ T21 (mkF m 126 #[oI i0, oI i1, oI i2, oI i3, oI i4, oI s0, oI s1, oI s2, oI (2 : Int32), oI kr, oI s0, oI s1, oI (0 : Int32), oI (own_max (own_max s0 s1) (0 : Int32)), oI (((s0 + s1) + (0 : Int32)) - (own_max (own_max s0 s1) (0 : Int32))), oJ (((8 : Int64) * ((own_max (own_max s0 s1) (0 : Int32)).toInt64)) + ((kr.toInt64) * ((((s0 + s1) + (0 : Int32)) - (own_max (own_max s0 s1) (0 : Int32))).toInt64))), .second, .unset, .unset, .unset] [(.float (FP.i2f s0)), (.int (0 : Int32)), (.ref h0.size), (.ref h0.size)])
    have F0 := own_F_i2f (a := s0) (by omega)
    generalize (FP.i2f s0) = f0 at F0 ⊢
    show own_Go p e below _ T21 (mkF m 126 #[oI i0, oI i1, oI i2, oI i3, oI i4, oI s0, oI s1, oI s2, oI (2 : Int32), oI kr, oI s0, oI s1, oI (0 : Int32), oI (own_max (own_max s0 s1) (0 : Int32)), oI (((s0 + s1) + (0 : Int32)) - (own_max (own_max s0 s1) (0 : Int32))), oJ (((8 : Int64) * ((own_max (own_max s0 s1) (0 : Int32)).toInt64)) + ((kr.toInt64) * ((((s0 + s1) + (0 : Int32)) - (own_max (own_max s0 s1) (0 : Int32))).toInt64))), .second, .unset, .unset, .unset] [(.float f0), (.int (0 : Int32)), (.ref h0.size), (.ref h0.size)])
    refine own_stF XT21 hx hZ eT21 VT21 0 (by decide) (by decide) (by simp) (hb hby at_126) ?_
    intro T22 hT22 XT22 eT22 WT22 YT22
    have VT22 : own_A Z hT22 h0.size .float kA [(.float f0), (.float 0), (.float 0)] := YT22
    have NT22 := own_frs (i := 0) NT21 (Nat.le_refl h0.size)
    clear YT22
    show own_Go p e below _ T22 (mkF m 127 #[oI i0, oI i1, oI i2, oI i3, oI i4, oI s0, oI s1, oI s2, oI (2 : Int32), oI kr, oI s0, oI s1, oI (0 : Int32), oI (own_max (own_max s0 s1) (0 : Int32)), oI (((s0 + s1) + (0 : Int32)) - (own_max (own_max s0 s1) (0 : Int32))), oJ (((8 : Int64) * ((own_max (own_max s0 s1) (0 : Int32)).toInt64)) + ((kr.toInt64) * ((((s0 + s1) + (0 : Int32)) - (own_max (own_max s0 s1) (0 : Int32))).toInt64))), .second, .unset, .unset, .unset] [(.ref h0.size)])
    refine own_by (fun t_ k_ => XS.dup XT22.here hx rfl (hb hby at_127) rfl rfl k_) ?_
    show own_Go p e below _ T22 (mkF m 128 #[oI i0, oI i1, oI i2, oI i3, oI i4, oI s0, oI s1, oI s2, oI (2 : Int32), oI kr, oI s0, oI s1, oI (0 : Int32), oI (own_max (own_max s0 s1) (0 : Int32)), oI (((s0 + s1) + (0 : Int32)) - (own_max (own_max s0 s1) (0 : Int32))), oJ (((8 : Int64) * ((own_max (own_max s0 s1) (0 : Int32)).toInt64)) + ((kr.toInt64) * ((((s0 + s1) + (0 : Int32)) - (own_max (own_max s0 s1) (0 : Int32))).toInt64))), .second, .unset, .unset, .unset] [(.ref h0.size), (.ref h0.size)])
    refine own_by (fun t_ k_ => XT.iconstV XT22.here hx rfl (1 : Int32) (hb hby at_128) (by decide) k_) ?_
    show own_Go p e below _ T22 (mkF m 129 #[oI i0, oI i1, oI i2, oI i3, oI i4, oI s0, oI s1, oI s2, oI (2 : Int32), oI kr, oI s0, oI s1, oI (0 : Int32), oI (own_max (own_max s0 s1) (0 : Int32)), oI (((s0 + s1) + (0 : Int32)) - (own_max (own_max s0 s1) (0 : Int32))), oJ (((8 : Int64) * ((own_max (own_max s0 s1) (0 : Int32)).toInt64)) + ((kr.toInt64) * ((((s0 + s1) + (0 : Int32)) - (own_max (own_max s0 s1) (0 : Int32))).toInt64))), .second, .unset, .unset, .unset] [(.int (1 : Int32)), (.ref h0.size), (.ref h0.size)])
    refine own_by (fun t_ k_ => XS.iload XT22.here hx rfl (hb hby at_129) rfl  k_) ?_
    show own_Go p e below _ T22 (mkF m 131 #[oI i0, oI i1, oI i2, oI i3, oI i4, oI s0, oI s1, oI s2, oI (2 : Int32), oI kr, oI s0, oI s1, oI (0 : Int32), oI (own_max (own_max s0 s1) (0 : Int32)), oI (((s0 + s1) + (0 : Int32)) - (own_max (own_max s0 s1) (0 : Int32))), oJ (((8 : Int64) * ((own_max (own_max s0 s1) (0 : Int32)).toInt64)) + ((kr.toInt64) * ((((s0 + s1) + (0 : Int32)) - (own_max (own_max s0 s1) (0 : Int32))).toInt64))), .second, .unset, .unset, .unset] [(.int s1), (.int (1 : Int32)), (.ref h0.size), (.ref h0.size)])
    refine own_by (fun t_ k_ => XS.i2fS XT22.here hx rfl (hb hby at_131) rfl rfl k_) ?_
    show own_Go p e below _ T22 (mkF m 132 #[oI i0, oI i1, oI i2, oI i3, oI i4, oI s0, oI s1, oI s2, oI (2 : Int32), oI kr, oI s0, oI s1, oI (0 : Int32), oI (own_max (own_max s0 s1) (0 : Int32)), oI (((s0 + s1) + (0 : Int32)) - (own_max (own_max s0 s1) (0 : Int32))), oJ (((8 : Int64) * ((own_max (own_max s0 s1) (0 : Int32)).toInt64)) + ((kr.toInt64) * ((((s0 + s1) + (0 : Int32)) - (own_max (own_max s0 s1) (0 : Int32))).toInt64))), .second, .unset, .unset, .unset] [(.float (FP.i2f s1)), (.int (1 : Int32)), (.ref h0.size), (.ref h0.size)])
    have F1 := own_F_i2f (a := s1) (by omega)
    generalize (FP.i2f s1) = f1 at F1 ⊢
    show own_Go p e below _ T22 (mkF m 132 #[oI i0, oI i1, oI i2, oI i3, oI i4, oI s0, oI s1, oI s2, oI (2 : Int32), oI kr, oI s0, oI s1, oI (0 : Int32), oI (own_max (own_max s0 s1) (0 : Int32)), oI (((s0 + s1) + (0 : Int32)) - (own_max (own_max s0 s1) (0 : Int32))), oJ (((8 : Int64) * ((own_max (own_max s0 s1) (0 : Int32)).toInt64)) + ((kr.toInt64) * ((((s0 + s1) + (0 : Int32)) - (own_max (own_max s0 s1) (0 : Int32))).toInt64))), .second, .unset, .unset, .unset] [(.float f1), (.int (1 : Int32)), (.ref h0.size), (.ref h0.size)])
    refine own_stF XT22 hx hZ eT22 VT22 1 (by decide) (by decide) (by simp) (hb hby at_132) ?_
    intro T23 hT23 XT23 eT23 WT23 YT23
    have VT23 : own_A Z hT23 h0.size .float kA [(.float f0), (.float f1), (.float 0)] := YT23
    have NT23 := own_frs (i := 1) NT22 (Nat.le_refl h0.size)
    clear YT23
    show own_Go p e below _ T23 (mkF m 133 #[oI i0, oI i1, oI i2, oI i3, oI i4, oI s0, oI s1, oI s2, oI (2 : Int32), oI kr, oI s0, oI s1, oI (0 : Int32), oI (own_max (own_max s0 s1) (0 : Int32)), oI (((s0 + s1) + (0 : Int32)) - (own_max (own_max s0 s1) (0 : Int32))), oJ (((8 : Int64) * ((own_max (own_max s0 s1) (0 : Int32)).toInt64)) + ((kr.toInt64) * ((((s0 + s1) + (0 : Int32)) - (own_max (own_max s0 s1) (0 : Int32))).toInt64))), .second, .unset, .unset, .unset] [(.ref h0.size)])
    refine own_by (fun t_ k_ => XS.dup XT23.here hx rfl (hb hby at_133) rfl rfl k_) ?_
    show own_Go p e below _ T23 (mkF m 134 #[oI i0, oI i1, oI i2, oI i3, oI i4, oI s0, oI s1, oI s2, oI (2 : Int32), oI kr, oI s0, oI s1, oI (0 : Int32), oI (own_max (own_max s0 s1) (0 : Int32)), oI (((s0 + s1) + (0 : Int32)) - (own_max (own_max s0 s1) (0 : Int32))), oJ (((8 : Int64) * ((own_max (own_max s0 s1) (0 : Int32)).toInt64)) + ((kr.toInt64) * ((((s0 + s1) + (0 : Int32)) - (own_max (own_max s0 s1) (0 : Int32))).toInt64))), .second, .unset, .unset, .unset] [(.ref h0.size), (.ref h0.size)])
    refine own_by (fun t_ k_ => XT.iconstV XT23.here hx rfl (2 : Int32) (hb hby at_134) (by decide) k_) ?_
    show own_Go p e below _ T23 (mkF m 135 #[oI i0, oI i1, oI i2, oI i3, oI i4, oI s0, oI s1, oI s2, oI (2 : Int32), oI kr, oI s0, oI s1, oI (0 : Int32), oI (own_max (own_max s0 s1) (0 : Int32)), oI (((s0 + s1) + (0 : Int32)) - (own_max (own_max s0 s1) (0 : Int32))), oJ (((8 : Int64) * ((own_max (own_max s0 s1) (0 : Int32)).toInt64)) + ((kr.toInt64) * ((((s0 + s1) + (0 : Int32)) - (own_max (own_max s0 s1) (0 : Int32))).toInt64))), .second, .unset, .unset, .unset] [(.int (2 : Int32)), (.ref h0.size), (.ref h0.size)])
    refine own_by (fun t_ k_ => XS.iload XT23.here hx rfl (hb hby at_135) rfl  k_) ?_
    show own_Go p e below _ T23 (mkF m 137 #[oI i0, oI i1, oI i2, oI i3, oI i4, oI s0, oI s1, oI s2, oI (2 : Int32), oI kr, oI s0, oI s1, oI (0 : Int32), oI (own_max (own_max s0 s1) (0 : Int32)), oI (((s0 + s1) + (0 : Int32)) - (own_max (own_max s0 s1) (0 : Int32))), oJ (((8 : Int64) * ((own_max (own_max s0 s1) (0 : Int32)).toInt64)) + ((kr.toInt64) * ((((s0 + s1) + (0 : Int32)) - (own_max (own_max s0 s1) (0 : Int32))).toInt64))), .second, .unset, .unset, .unset] [(.int s2), (.int (2 : Int32)), (.ref h0.size), (.ref h0.size)])
    refine own_by (fun t_ k_ => XS.i2fS XT23.here hx rfl (hb hby at_137) rfl rfl k_) ?_
    show own_Go p e below _ T23 (mkF m 138 #[oI i0, oI i1, oI i2, oI i3, oI i4, oI s0, oI s1, oI s2, oI (2 : Int32), oI kr, oI s0, oI s1, oI (0 : Int32), oI (own_max (own_max s0 s1) (0 : Int32)), oI (((s0 + s1) + (0 : Int32)) - (own_max (own_max s0 s1) (0 : Int32))), oJ (((8 : Int64) * ((own_max (own_max s0 s1) (0 : Int32)).toInt64)) + ((kr.toInt64) * ((((s0 + s1) + (0 : Int32)) - (own_max (own_max s0 s1) (0 : Int32))).toInt64))), .second, .unset, .unset, .unset] [(.float (FP.i2f s2)), (.int (2 : Int32)), (.ref h0.size), (.ref h0.size)])
    have F2 := own_F_i2f (a := s2) (by omega)
    generalize (FP.i2f s2) = f2 at F2 ⊢
    show own_Go p e below _ T23 (mkF m 138 #[oI i0, oI i1, oI i2, oI i3, oI i4, oI s0, oI s1, oI s2, oI (2 : Int32), oI kr, oI s0, oI s1, oI (0 : Int32), oI (own_max (own_max s0 s1) (0 : Int32)), oI (((s0 + s1) + (0 : Int32)) - (own_max (own_max s0 s1) (0 : Int32))), oJ (((8 : Int64) * ((own_max (own_max s0 s1) (0 : Int32)).toInt64)) + ((kr.toInt64) * ((((s0 + s1) + (0 : Int32)) - (own_max (own_max s0 s1) (0 : Int32))).toInt64))), .second, .unset, .unset, .unset] [(.float f2), (.int (2 : Int32)), (.ref h0.size), (.ref h0.size)])
    refine own_stF XT23 hx hZ eT23 VT23 2 (by decide) (by decide) (by simp) (hb hby at_138) ?_
    intro T24 hT24 XT24 eT24 WT24 YT24
    have VT24 : own_A Z hT24 h0.size .float kA [(.float f0), (.float f1), (.float f2)] := YT24
    have NT24 := own_frs (i := 2) NT23 (Nat.le_refl h0.size)
    clear YT24
    show own_Go p e below _ T24 (mkF m 139 #[oI i0, oI i1, oI i2, oI i3, oI i4, oI s0, oI s1, oI s2, oI (2 : Int32), oI kr, oI s0, oI s1, oI (0 : Int32), oI (own_max (own_max s0 s1) (0 : Int32)), oI (((s0 + s1) + (0 : Int32)) - (own_max (own_max s0 s1) (0 : Int32))), oJ (((8 : Int64) * ((own_max (own_max s0 s1) (0 : Int32)).toInt64)) + ((kr.toInt64) * ((((s0 + s1) + (0 : Int32)) - (own_max (own_max s0 s1) (0 : Int32))).toInt64))), .second, .unset, .unset, .unset] [(.ref h0.size)])
    refine own_by (fun t_ k_ => XS.astore XT24.here hx rfl (hb hby at_139) rfl rfl (l' := #[oI i0, oI i1, oI i2, oI i3, oI i4, oI s0, oI s1, oI s2, oI (2 : Int32), oI kr, oI s0, oI s1, oI (0 : Int32), oI (own_max (own_max s0 s1) (0 : Int32)), oI (((s0 + s1) + (0 : Int32)) - (own_max (own_max s0 s1) (0 : Int32))), oJ (((8 : Int64) * ((own_max (own_max s0 s1) (0 : Int32)).toInt64)) + ((kr.toInt64) * ((((s0 + s1) + (0 : Int32)) - (own_max (own_max s0 s1) (0 : Int32))).toInt64))), .second, oR h0.size, .unset, .unset]) rfl k_) ?_
    show own_Go p e below _ T24 (mkF m 141 #[oI i0, oI i1, oI i2, oI i3, oI i4, oI s0, oI s1, oI s2, oI (2 : Int32), oI kr, oI s0, oI s1, oI (0 : Int32), oI (own_max (own_max s0 s1) (0 : Int32)), oI (((s0 + s1) + (0 : Int32)) - (own_max (own_max s0 s1) (0 : Int32))), oJ (((8 : Int64) * ((own_max (own_max s0 s1) (0 : Int32)).toInt64)) + ((kr.toInt64) * ((((s0 + s1) + (0 : Int32)) - (own_max (own_max s0 s1) (0 : Int32))).toInt64))), .second, oR h0.size, .unset, .unset] [])
    refine own_by (fun t_ k_ => XS.iload XT24.here hx rfl (hb hby at_141) rfl  k_) ?_
    show own_Go p e below _ T24 (mkF m 143 #[oI i0, oI i1, oI i2, oI i3, oI i4, oI s0, oI s1, oI s2, oI (2 : Int32), oI kr, oI s0, oI s1, oI (0 : Int32), oI (own_max (own_max s0 s1) (0 : Int32)), oI (((s0 + s1) + (0 : Int32)) - (own_max (own_max s0 s1) (0 : Int32))), oJ (((8 : Int64) * ((own_max (own_max s0 s1) (0 : Int32)).toInt64)) + ((kr.toInt64) * ((((s0 + s1) + (0 : Int32)) - (own_max (own_max s0 s1) (0 : Int32))).toInt64))), .second, oR h0.size, .unset, .unset] [(.int kr)])
    refine own_by (fun t_ k_ => XS.i2fS XT24.here hx rfl (hb hby at_143) rfl rfl k_) ?_
    show own_Go p e below _ T24 (mkF m 144 #[oI i0, oI i1, oI i2, oI i3, oI i4, oI s0, oI s1, oI s2, oI (2 : Int32), oI kr, oI s0, oI s1, oI (0 : Int32), oI (own_max (own_max s0 s1) (0 : Int32)), oI (((s0 + s1) + (0 : Int32)) - (own_max (own_max s0 s1) (0 : Int32))), oJ (((8 : Int64) * ((own_max (own_max s0 s1) (0 : Int32)).toInt64)) + ((kr.toInt64) * ((((s0 + s1) + (0 : Int32)) - (own_max (own_max s0 s1) (0 : Int32))).toInt64))), .second, oR h0.size, .unset, .unset] [(.float (FP.i2f kr))])
    have Fk := own_F_i2f (a := kr) (by omega)
    generalize (FP.i2f kr) = fk at Fk ⊢
    show own_Go p e below _ T24 (mkF m 144 #[oI i0, oI i1, oI i2, oI i3, oI i4, oI s0, oI s1, oI s2, oI (2 : Int32), oI kr, oI s0, oI s1, oI (0 : Int32), oI (own_max (own_max s0 s1) (0 : Int32)), oI (((s0 + s1) + (0 : Int32)) - (own_max (own_max s0 s1) (0 : Int32))), oJ (((8 : Int64) * ((own_max (own_max s0 s1) (0 : Int32)).toInt64)) + ((kr.toInt64) * ((((s0 + s1) + (0 : Int32)) - (own_max (own_max s0 s1) (0 : Int32))).toInt64))), .second, oR h0.size, .unset, .unset] [(.float fk)])
    refine own_by (fun t_ k_ => XT24.ldcFloatC hx hown (mvT hZ (hw _ (List.mem_of_getElem? (i := 8) rfl))) (g := (mkF m 144 #[oI i0, oI i1, oI i2, oI i3, oI i4, oI s0, oI s1, oI s2, oI (2 : Int32), oI kr, oI s0, oI s1, oI (0 : Int32), oI (own_max (own_max s0 s1) (0 : Int32)), oI (((s0 + s1) + (0 : Int32)) - (own_max (own_max s0 s1) (0 : Int32))), oJ (((8 : Int64) * ((own_max (own_max s0 s1) (0 : Int32)).toInt64)) + ((kr.toInt64) * ((((s0 + s1) + (0 : Int32)) - (own_max (own_max s0 s1) (0 : Int32))).toInt64))), .second, oR h0.size, .unset, .unset] [(.float fk)])) rfl (hb hby at_144) t_ k_) ?_
    show own_Go p e below _ T24 (mkF m 146 #[oI i0, oI i1, oI i2, oI i3, oI i4, oI s0, oI s1, oI s2, oI (2 : Int32), oI kr, oI s0, oI s1, oI (0 : Int32), oI (own_max (own_max s0 s1) (0 : Int32)), oI (((s0 + s1) + (0 : Int32)) - (own_max (own_max s0 s1) (0 : Int32))), oJ (((8 : Int64) * ((own_max (own_max s0 s1) (0 : Int32)).toInt64)) + ((kr.toInt64) * ((((s0 + s1) + (0 : Int32)) - (own_max (own_max s0 s1) (0 : Int32))).toInt64))), .second, oR h0.size, .unset, .unset] [(.float (1090519040 : UInt32)), (.float fk)])
    have D25 := own_F_div (k := 3) (l := 0) (i := 8) (j := kr.toInt) (show own_F 3 (kr.toInt * 8) _ from own_F_up Fk 3) own_eight (by decide) (by omega) (by decide) (by decide)
    refine own_by (fun t_ k_ => XS.fdivS XT24.here hx rfl (hb hby at_146) rfl (own_F_no D25) rfl k_) ?_
    show own_Go p e below _ T24 (mkF m 147 #[oI i0, oI i1, oI i2, oI i3, oI i4, oI s0, oI s1, oI s2, oI (2 : Int32), oI kr, oI s0, oI s1, oI (0 : Int32), oI (own_max (own_max s0 s1) (0 : Int32)), oI (((s0 + s1) + (0 : Int32)) - (own_max (own_max s0 s1) (0 : Int32))), oJ (((8 : Int64) * ((own_max (own_max s0 s1) (0 : Int32)).toInt64)) + ((kr.toInt64) * ((((s0 + s1) + (0 : Int32)) - (own_max (own_max s0 s1) (0 : Int32))).toInt64))), .second, oR h0.size, .unset, .unset] [(.float (FP.fdiv fk (1090519040 : UInt32)))])
    generalize (FP.fdiv fk (1090519040 : UInt32)) = tb at D25 ⊢
    show own_Go p e below _ T24 (mkF m 147 #[oI i0, oI i1, oI i2, oI i3, oI i4, oI s0, oI s1, oI s2, oI (2 : Int32), oI kr, oI s0, oI s1, oI (0 : Int32), oI (own_max (own_max s0 s1) (0 : Int32)), oI (((s0 + s1) + (0 : Int32)) - (own_max (own_max s0 s1) (0 : Int32))), oJ (((8 : Int64) * ((own_max (own_max s0 s1) (0 : Int32)).toInt64)) + ((kr.toInt64) * ((((s0 + s1) + (0 : Int32)) - (own_max (own_max s0 s1) (0 : Int32))).toInt64))), .second, oR h0.size, .unset, .unset] [(.float tb)])
    refine own_by (fun t_ k_ => XS.fstore XT24.here hx rfl (hb hby at_147) rfl (l' := #[oI i0, oI i1, oI i2, oI i3, oI i4, oI s0, oI s1, oI s2, oI (2 : Int32), oI kr, oI s0, oI s1, oI (0 : Int32), oI (own_max (own_max s0 s1) (0 : Int32)), oI (((s0 + s1) + (0 : Int32)) - (own_max (own_max s0 s1) (0 : Int32))), oJ (((8 : Int64) * ((own_max (own_max s0 s1) (0 : Int32)).toInt64)) + ((kr.toInt64) * ((((s0 + s1) + (0 : Int32)) - (own_max (own_max s0 s1) (0 : Int32))).toInt64))), .second, oR h0.size, oF tb, .unset]) rfl k_) ?_
    show own_Go p e below _ T24 (mkF m 149 #[oI i0, oI i1, oI i2, oI i3, oI i4, oI s0, oI s1, oI s2, oI (2 : Int32), oI kr, oI s0, oI s1, oI (0 : Int32), oI (own_max (own_max s0 s1) (0 : Int32)), oI (((s0 + s1) + (0 : Int32)) - (own_max (own_max s0 s1) (0 : Int32))), oJ (((8 : Int64) * ((own_max (own_max s0 s1) (0 : Int32)).toInt64)) + ((kr.toInt64) * ((((s0 + s1) + (0 : Int32)) - (own_max (own_max s0 s1) (0 : Int32))).toInt64))), .second, oR h0.size, oF tb, .unset] [])
    refine own_by (fun t_ k_ => XS.aload XT24.here hx rfl (hb hby at_149) rfl rfl  k_) ?_
    show own_Go p e below _ T24 (mkF m 151 #[oI i0, oI i1, oI i2, oI i3, oI i4, oI s0, oI s1, oI s2, oI (2 : Int32), oI kr, oI s0, oI s1, oI (0 : Int32), oI (own_max (own_max s0 s1) (0 : Int32)), oI (((s0 + s1) + (0 : Int32)) - (own_max (own_max s0 s1) (0 : Int32))), oJ (((8 : Int64) * ((own_max (own_max s0 s1) (0 : Int32)).toInt64)) + ((kr.toInt64) * ((((s0 + s1) + (0 : Int32)) - (own_max (own_max s0 s1) (0 : Int32))).toInt64))), .second, oR h0.size, oF tb, .unset] [(.ref h0.size)])
    refine own_by (fun t_ k_ => XS.iload XT24.here hx rfl (hb hby at_151) rfl  k_) ?_
    show own_Go p e below _ T24 (mkF m 153 #[oI i0, oI i1, oI i2, oI i3, oI i4, oI s0, oI s1, oI s2, oI (2 : Int32), oI kr, oI s0, oI s1, oI (0 : Int32), oI (own_max (own_max s0 s1) (0 : Int32)), oI (((s0 + s1) + (0 : Int32)) - (own_max (own_max s0 s1) (0 : Int32))), oJ (((8 : Int64) * ((own_max (own_max s0 s1) (0 : Int32)).toInt64)) + ((kr.toInt64) * ((((s0 + s1) + (0 : Int32)) - (own_max (own_max s0 s1) (0 : Int32))).toInt64))), .second, oR h0.size, oF tb, .unset] [(.int (2 : Int32)), (.ref h0.size)])
    refine own_by (fun t_ k_ => XS.fload XT24.here hx rfl (hb hby at_153) rfl  k_) ?_
    show own_Go p e below _ T24 (mkF m 155 #[oI i0, oI i1, oI i2, oI i3, oI i4, oI s0, oI s1, oI s2, oI (2 : Int32), oI kr, oI s0, oI s1, oI (0 : Int32), oI (own_max (own_max s0 s1) (0 : Int32)), oI (((s0 + s1) + (0 : Int32)) - (own_max (own_max s0 s1) (0 : Int32))), oJ (((8 : Int64) * ((own_max (own_max s0 s1) (0 : Int32)).toInt64)) + ((kr.toInt64) * ((((s0 + s1) + (0 : Int32)) - (own_max (own_max s0 s1) (0 : Int32))).toInt64))), .second, oR h0.size, oF tb, .unset] [(.float tb), (.int (2 : Int32)), (.ref h0.size)])
    refine own_callS XT24 hx hZ hown (hw _ (List.mem_of_getElem? (i := 9) rfl)) (hw _ (List.mem_of_getElem? (i := 10) rfl)) (hw _ (List.mem_of_getElem? (i := 11) rfl)) (hw _ (List.mem_of_getElem? (i := 12) rfl)) (by decide) eT24 (argsL := [(.ref h0.size), (.int (2 : Int32)), (.float tb)]) (rest := []) (own_bp2 l Z a0 hw h0.size kA kr.toInt tb f0 f1 f2 s0.toInt s1.toInt s2.toInt hT24 VT24 D25 (by omega) (by omega) F0 F1 F2 M0 M1 M2) 0 (by decide) (by decide) (by rw [hml]; rfl) (lenOf pd_1 rfl) (Nat.le_of_eq rfl) (hb hby at_155) (by decide) (by decide) (st := [(.float tb), (.int (2 : Int32)), (.ref h0.size)]) rfl ?_
    intro T26 LT26 vT26 XT26 hQT26
    obtain ⟨⟨r, B, O, rfl, hr, hB, hBO⟩, eT26, rfl⟩ := hQT26
    show own_Go p e below _ T26 (mkF m 158 #[oI i0, oI i1, oI i2, oI i3, oI i4, oI s0, oI s1, oI s2, oI (2 : Int32), oI kr, oI s0, oI s1, oI (0 : Int32), oI (own_max (own_max s0 s1) (0 : Int32)), oI (((s0 + s1) + (0 : Int32)) - (own_max (own_max s0 s1) (0 : Int32))), oJ (((8 : Int64) * ((own_max (own_max s0 s1) (0 : Int32)).toInt64)) + ((kr.toInt64) * ((((s0 + s1) + (0 : Int32)) - (own_max (own_max s0 s1) (0 : Int32))).toInt64))), .second, oR h0.size, oF tb, .unset] [(.float r)])
    have hBr : 0 ≤ B ∧ B ≤ 65535 ∧ 0 ≤ O ∧ O ≤ 131070 := by omega
    have hsm := own_small (k := kr.toInt) (o := O) (by omega) (by omega) (by omega) (by omega)
    refine own_by (fun t_ k_ => XS.fstore XT26.here hx rfl (hb hby at_158) rfl (l' := #[oI i0, oI i1, oI i2, oI i3, oI i4, oI s0, oI s1, oI s2, oI (2 : Int32), oI kr, oI s0, oI s1, oI (0 : Int32), oI (own_max (own_max s0 s1) (0 : Int32)), oI (((s0 + s1) + (0 : Int32)) - (own_max (own_max s0 s1) (0 : Int32))), oJ (((8 : Int64) * ((own_max (own_max s0 s1) (0 : Int32)).toInt64)) + ((kr.toInt64) * ((((s0 + s1) + (0 : Int32)) - (own_max (own_max s0 s1) (0 : Int32))).toInt64))), .second, oR h0.size, oF tb, oF r]) rfl k_) ?_
    show own_Go p e below _ T26 (mkF m 160 #[oI i0, oI i1, oI i2, oI i3, oI i4, oI s0, oI s1, oI s2, oI (2 : Int32), oI kr, oI s0, oI s1, oI (0 : Int32), oI (own_max (own_max s0 s1) (0 : Int32)), oI (((s0 + s1) + (0 : Int32)) - (own_max (own_max s0 s1) (0 : Int32))), oJ (((8 : Int64) * ((own_max (own_max s0 s1) (0 : Int32)).toInt64)) + ((kr.toInt64) * ((((s0 + s1) + (0 : Int32)) - (own_max (own_max s0 s1) (0 : Int32))).toInt64))), .second, oR h0.size, oF tb, oF r] [])
    refine own_by (fun t_ k_ => XS.fload XT26.here hx rfl (hb hby at_160) rfl  k_) ?_
    show own_Go p e below _ T26 (mkF m 162 #[oI i0, oI i1, oI i2, oI i3, oI i4, oI s0, oI s1, oI s2, oI (2 : Int32), oI kr, oI s0, oI s1, oI (0 : Int32), oI (own_max (own_max s0 s1) (0 : Int32)), oI (((s0 + s1) + (0 : Int32)) - (own_max (own_max s0 s1) (0 : Int32))), oJ (((8 : Int64) * ((own_max (own_max s0 s1) (0 : Int32)).toInt64)) + ((kr.toInt64) * ((((s0 + s1) + (0 : Int32)) - (own_max (own_max s0 s1) (0 : Int32))).toInt64))), .second, oR h0.size, oF tb, oF r] [(.float r)])
    refine own_by (fun t_ k_ => XT26.ldcFloatC hx hown (mvT hZ (hw _ (List.mem_of_getElem? (i := 8) rfl))) (g := (mkF m 162 #[oI i0, oI i1, oI i2, oI i3, oI i4, oI s0, oI s1, oI s2, oI (2 : Int32), oI kr, oI s0, oI s1, oI (0 : Int32), oI (own_max (own_max s0 s1) (0 : Int32)), oI (((s0 + s1) + (0 : Int32)) - (own_max (own_max s0 s1) (0 : Int32))), oJ (((8 : Int64) * ((own_max (own_max s0 s1) (0 : Int32)).toInt64)) + ((kr.toInt64) * ((((s0 + s1) + (0 : Int32)) - (own_max (own_max s0 s1) (0 : Int32))).toInt64))), .second, oR h0.size, oF tb, oF r] [(.float r)])) rfl (hb hby at_162) t_ k_) ?_
    show own_Go p e below _ T26 (mkF m 164 #[oI i0, oI i1, oI i2, oI i3, oI i4, oI s0, oI s1, oI s2, oI (2 : Int32), oI kr, oI s0, oI s1, oI (0 : Int32), oI (own_max (own_max s0 s1) (0 : Int32)), oI (((s0 + s1) + (0 : Int32)) - (own_max (own_max s0 s1) (0 : Int32))), oJ (((8 : Int64) * ((own_max (own_max s0 s1) (0 : Int32)).toInt64)) + ((kr.toInt64) * ((((s0 + s1) + (0 : Int32)) - (own_max (own_max s0 s1) (0 : Int32))).toInt64))), .second, oR h0.size, oF tb, oF r] [(.float (1090519040 : UInt32)), (.float r)])
    have D27 := own_F_mul (l := 0) hr own_eight (by simp only [show ((2 ^ 3 : Nat) : Int) = 8 from rfl]; omega) (by decide) (by decide)
    refine own_by (fun t_ k_ => XS.fmulS XT26.here hx rfl (hb hby at_164) rfl (own_F_no D27) rfl k_) ?_
    show own_Go p e below _ T26 (mkF m 165 #[oI i0, oI i1, oI i2, oI i3, oI i4, oI s0, oI s1, oI s2, oI (2 : Int32), oI kr, oI s0, oI s1, oI (0 : Int32), oI (own_max (own_max s0 s1) (0 : Int32)), oI (((s0 + s1) + (0 : Int32)) - (own_max (own_max s0 s1) (0 : Int32))), oJ (((8 : Int64) * ((own_max (own_max s0 s1) (0 : Int32)).toInt64)) + ((kr.toInt64) * ((((s0 + s1) + (0 : Int32)) - (own_max (own_max s0 s1) (0 : Int32))).toInt64))), .second, oR h0.size, oF tb, oF r] [(.float (FP.fmul r (1090519040 : UInt32)))])
    generalize (FP.fmul r (1090519040 : UInt32)) = pr at D27 ⊢
    show own_Go p e below _ T26 (mkF m 165 #[oI i0, oI i1, oI i2, oI i3, oI i4, oI s0, oI s1, oI s2, oI (2 : Int32), oI kr, oI s0, oI s1, oI (0 : Int32), oI (own_max (own_max s0 s1) (0 : Int32)), oI (((s0 + s1) + (0 : Int32)) - (own_max (own_max s0 s1) (0 : Int32))), oJ (((8 : Int64) * ((own_max (own_max s0 s1) (0 : Int32)).toInt64)) + ((kr.toInt64) * ((((s0 + s1) + (0 : Int32)) - (own_max (own_max s0 s1) (0 : Int32))).toInt64))), .second, oR h0.size, oF tb, oF r] [(.float pr)])
    refine own_by (fun t_ k_ => XT.lload XT26.here hx rfl (hb hby at_165) rfl  k_) ?_
    show own_Go p e below _ T26 (mkF m 167 #[oI i0, oI i1, oI i2, oI i3, oI i4, oI s0, oI s1, oI s2, oI (2 : Int32), oI kr, oI s0, oI s1, oI (0 : Int32), oI (own_max (own_max s0 s1) (0 : Int32)), oI (((s0 + s1) + (0 : Int32)) - (own_max (own_max s0 s1) (0 : Int32))), oJ (((8 : Int64) * ((own_max (own_max s0 s1) (0 : Int32)).toInt64)) + ((kr.toInt64) * ((((s0 + s1) + (0 : Int32)) - (own_max (own_max s0 s1) (0 : Int32))).toInt64))), .second, oR h0.size, oF tb, oF r] [(.long (((8 : Int64) * ((own_max (own_max s0 s1) (0 : Int32)).toInt64)) + ((kr.toInt64) * ((((s0 + s1) + (0 : Int32)) - (own_max (own_max s0 s1) (0 : Int32))).toInt64)))), (.float pr)])
    refine own_by (fun t_ k_ => XS.l2fS XT26.here hx rfl (hb hby at_167) rfl rfl k_) ?_
    show own_Go p e below _ T26 (mkF m 168 #[oI i0, oI i1, oI i2, oI i3, oI i4, oI s0, oI s1, oI s2, oI (2 : Int32), oI kr, oI s0, oI s1, oI (0 : Int32), oI (own_max (own_max s0 s1) (0 : Int32)), oI (((s0 + s1) + (0 : Int32)) - (own_max (own_max s0 s1) (0 : Int32))), oJ (((8 : Int64) * ((own_max (own_max s0 s1) (0 : Int32)).toInt64)) + ((kr.toInt64) * ((((s0 + s1) + (0 : Int32)) - (own_max (own_max s0 s1) (0 : Int32))).toInt64))), .second, oR h0.size, oF tb, oF r] [(.float (FP.l2f (((8 : Int64) * ((own_max (own_max s0 s1) (0 : Int32)).toInt64)) + ((kr.toInt64) * ((((s0 + s1) + (0 : Int32)) - (own_max (own_max s0 s1) (0 : Int32))).toInt64))))), (.float pr)])
    have z0 : ((0 : Int32)).toInt = 0 := by decide
    have hbest : ((own_max (own_max s0 s1) (0 : Int32))).toInt = (max (max 0 s0.toInt) s1.toInt) := by rw [own_max_int, own_max_int]; omega
    have hoth : ((((s0 + s1) + (0 : Int32)) - (own_max (own_max s0 s1) (0 : Int32)))).toInt = 0 + (s0).toInt + (s1).toInt + ((0 : Int32)).toInt - (max (max 0 s0.toInt) s1.toInt) := by
      have z0 : ((0 : Int32)).toInt = 0 := by decide
      have a1 := c_iadd s0 s1
      have a2 := c_iadd (s0 + s1) (0 : Int32)
      have b1 := rng32 (s0 + s1)
      have b2 := rng32 ((s0 + s1) + (0 : Int32))
      have a3 := c_isub ((s0 + s1) + (0 : Int32)) (own_max (own_max s0 s1) (0 : Int32))
      have b3 := rng32 (((s0 + s1) + (0 : Int32)) - (own_max (own_max s0 s1) (0 : Int32)))
      omega
    have z0 : ((0 : Int32)).toInt = 0 := by decide
    have hO : O = ((((s0 + s1) + (0 : Int32)) - (own_max (own_max s0 s1) (0 : Int32)))).toInt := by omega
    have href : ((((8 : Int64) * ((own_max (own_max s0 s1) (0 : Int32)).toInt64)) + ((kr.toInt64) * ((((s0 + s1) + (0 : Int32)) - (own_max (own_max s0 s1) (0 : Int32))).toInt64)))).toInt = B * 8 + kr.toInt * O := by
      have e1 := c_i2l (own_max (own_max s0 s1) (0 : Int32))
      have e2 := c_i2l kr
      have e3 := c_i2l (((s0 + s1) + (0 : Int32)) - (own_max (own_max s0 s1) (0 : Int32)))
      have g1 := c_lmul (8 : Int64) ((own_max (own_max s0 s1) (0 : Int32)).toInt64)
      have g2 := c_lmul (kr.toInt64) ((((s0 + s1) + (0 : Int32)) - (own_max (own_max s0 s1) (0 : Int32))).toInt64)
      have g3 := c_ladd ((8 : Int64) * ((own_max (own_max s0 s1) (0 : Int32)).toInt64)) ((kr.toInt64) * ((((s0 + s1) + (0 : Int32)) - (own_max (own_max s0 s1) (0 : Int32))).toInt64))
      have l8 : ((8 : Int64)).toInt = 8 := by decide
      rw [e1, l8] at g1
      rw [e2, e3, ← hO] at g2
      have r1 := rng64 ((8 : Int64) * ((own_max (own_max s0 s1) (0 : Int32)).toInt64))
      have r2 := rng64 ((kr.toInt64) * ((((s0 + s1) + (0 : Int32)) - (own_max (own_max s0 s1) (0 : Int32))).toInt64))
      have r3 := rng64 (((8 : Int64) * ((own_max (own_max s0 s1) (0 : Int32)).toInt64)) + ((kr.toInt64) * ((((s0 + s1) + (0 : Int32)) - (own_max (own_max s0 s1) (0 : Int32))).toInt64)))
      generalize kr.toInt * O = kO at *
      omega
    have Fr8 := own_F_l2f (a := (((8 : Int64) * ((own_max (own_max s0 s1) (0 : Int32)).toInt64)) + ((kr.toInt64) * ((((s0 + s1) + (0 : Int32)) - (own_max (own_max s0 s1) (0 : Int32))).toInt64)))) (by rw [href]; omega)
    have Fr9 := own_F_up Fr8 3
    rw [href] at Fr9
    have hcmp : cmpValue (FP.fcmp pr (FP.l2f (((8 : Int64) * ((own_max (own_max s0 s1) (0 : Int32)).toInt64)) + ((kr.toInt64) * ((((s0 + s1) + (0 : Int32)) - (own_max (own_max s0 s1) (0 : Int32))).toInt64))))) .l = (0 : Int32) := by
      have q : (B * ((2 ^ 3 : Nat) : Int) + kr.toInt * O) * 8 = (B * 8 + kr.toInt * O) * ((2 ^ 3 : Nat) : Int) := by simp only [show ((2 ^ 3 : Nat) : Int) = 8 from rfl]
      rw [q] at D27
      exact own_feq D27 Fr9
    refine own_by (fun t_ k_ => XS.fcmpS XT26.here hx rfl (hb hby at_168) rfl hcmp k_) ?_
    show own_Go p e below _ T26 (mkF m 169 #[oI i0, oI i1, oI i2, oI i3, oI i4, oI s0, oI s1, oI s2, oI (2 : Int32), oI kr, oI s0, oI s1, oI (0 : Int32), oI (own_max (own_max s0 s1) (0 : Int32)), oI (((s0 + s1) + (0 : Int32)) - (own_max (own_max s0 s1) (0 : Int32))), oJ (((8 : Int64) * ((own_max (own_max s0 s1) (0 : Int32)).toInt64)) + ((kr.toInt64) * ((((s0 + s1) + (0 : Int32)) - (own_max (own_max s0 s1) (0 : Int32))).toInt64))), .second, oR h0.size, oF tb, oF r] [(.int (0 : Int32))])
    refine own_by (fun t_ k_ => XS.ifNo XT26.here hx rfl (hb hby at_169) rfl (XT.i0_ne_f (by decide)) k_) ?_
    show own_Go p e below _ T26 (mkF m 172 #[oI i0, oI i1, oI i2, oI i3, oI i4, oI s0, oI s1, oI s2, oI (2 : Int32), oI kr, oI s0, oI s1, oI (0 : Int32), oI (own_max (own_max s0 s1) (0 : Int32)), oI (((s0 + s1) + (0 : Int32)) - (own_max (own_max s0 s1) (0 : Int32))), oJ (((8 : Int64) * ((own_max (own_max s0 s1) (0 : Int32)).toInt64)) + ((kr.toInt64) * ((((s0 + s1) + (0 : Int32)) - (own_max (own_max s0 s1) (0 : Int32))).toInt64))), .second, oR h0.size, oF tb, oF r] [])
    refine own_by (fun t_ k_ => XT.iconstV XT26.here hx rfl (1 : Int32) (hb hby at_172) (by decide) k_) ?_
    show own_Go p e below _ T26 (mkF m 173 #[oI i0, oI i1, oI i2, oI i3, oI i4, oI s0, oI s1, oI s2, oI (2 : Int32), oI kr, oI s0, oI s1, oI (0 : Int32), oI (own_max (own_max s0 s1) (0 : Int32)), oI (((s0 + s1) + (0 : Int32)) - (own_max (own_max s0 s1) (0 : Int32))), oJ (((8 : Int64) * ((own_max (own_max s0 s1) (0 : Int32)).toInt64)) + ((kr.toInt64) * ((((s0 + s1) + (0 : Int32)) - (own_max (own_max s0 s1) (0 : Int32))).toInt64))), .second, oR h0.size, oF tb, oF r] [(.int (1 : Int32))])
    refine own_by (fun t_ k_ => XS.goto XT26.here hx rfl (pc0 := 173) (pc' := 177) rfl (hb hby at_173) (by decide) (by decide) k_) ?_
    show own_Go p e below _ T26 (mkF m 177 #[oI i0, oI i1, oI i2, oI i3, oI i4, oI s0, oI s1, oI s2, oI (2 : Int32), oI kr, oI s0, oI s1, oI (0 : Int32), oI (own_max (own_max s0 s1) (0 : Int32)), oI (((s0 + s1) + (0 : Int32)) - (own_max (own_max s0 s1) (0 : Int32))), oJ (((8 : Int64) * ((own_max (own_max s0 s1) (0 : Int32)).toInt64)) + ((kr.toInt64) * ((((s0 + s1) + (0 : Int32)) - (own_max (own_max s0 s1) (0 : Int32))).toInt64))), .second, oR h0.size, oF tb, oF r] [(.int (1 : Int32))])
    exact own_retN XT26 hx hlk hret (by simp) (w := (1 : Int32)) (hb hby at_177) (by decide) (by decide) (by decide) (⟨rfl, own_app3 NT24⟩)
  · rw [hk]
    show own_Go p e below _ T0 (mkF m 33 #[oI i0, oI i1, oI i2, oI i3, oI i4, oI s0, oI s1, oI s2, oI (3 : Int32), oI kr, .unset, .unset, .unset, .unset, .unset, .unset, .unset, .unset, .unset, .unset] [])
    refine own_by (fun t_ k_ => XS.iload X0.here hx rfl (hb hby at_33) rfl  k_) ?_
    show own_Go p e below _ T0 (mkF m 35 #[oI i0, oI i1, oI i2, oI i3, oI i4, oI s0, oI s1, oI s2, oI (3 : Int32), oI kr, .unset, .unset, .unset, .unset, .unset, .unset, .unset, .unset, .unset, .unset] [(.int (3 : Int32))])
    refine own_by (fun t_ k_ => XS.ifNo X0.here hx rfl (hb hby at_35) rfl (XT.i0_le_f (by decide)) k_) ?_
    show own_Go p e below _ T0 (mkF m 38 #[oI i0, oI i1, oI i2, oI i3, oI i4, oI s0, oI s1, oI s2, oI (3 : Int32), oI kr, .unset, .unset, .unset, .unset, .unset, .unset, .unset, .unset, .unset, .unset] [])
    refine own_by (fun t_ k_ => XS.iload X0.here hx rfl (hb hby at_38) rfl  k_) ?_
    show own_Go p e below _ T0 (mkF m 40 #[oI i0, oI i1, oI i2, oI i3, oI i4, oI s0, oI s1, oI s2, oI (3 : Int32), oI kr, .unset, .unset, .unset, .unset, .unset, .unset, .unset, .unset, .unset, .unset] [(.int s0)])
    refine own_by (fun t_ k_ => XS.goto X0.here hx rfl (pc0 := 40) (pc' := 44) rfl (hb hby at_40) (by decide) (by decide) k_) ?_
    show own_Go p e below _ T0 (mkF m 44 #[oI i0, oI i1, oI i2, oI i3, oI i4, oI s0, oI s1, oI s2, oI (3 : Int32), oI kr, .unset, .unset, .unset, .unset, .unset, .unset, .unset, .unset, .unset, .unset] [(.int s0)])
    refine own_by (fun t_ k_ => XS.istore X0.here hx rfl (hb hby at_44) rfl (l' := #[oI i0, oI i1, oI i2, oI i3, oI i4, oI s0, oI s1, oI s2, oI (3 : Int32), oI kr, oI s0, .unset, .unset, .unset, .unset, .unset, .unset, .unset, .unset, .unset]) rfl k_) ?_
    show own_Go p e below _ T0 (mkF m 46 #[oI i0, oI i1, oI i2, oI i3, oI i4, oI s0, oI s1, oI s2, oI (3 : Int32), oI kr, oI s0, .unset, .unset, .unset, .unset, .unset, .unset, .unset, .unset, .unset] [])
    refine own_by (fun t_ k_ => XS.iload X0.here hx rfl (hb hby at_46) rfl  k_) ?_
    show own_Go p e below _ T0 (mkF m 48 #[oI i0, oI i1, oI i2, oI i3, oI i4, oI s0, oI s1, oI s2, oI (3 : Int32), oI kr, oI s0, .unset, .unset, .unset, .unset, .unset, .unset, .unset, .unset, .unset] [(.int (3 : Int32))])
    refine own_by (fun t_ k_ => XT.iconstV X0.here hx rfl (1 : Int32) (hb hby at_48) (by decide) k_) ?_
    show own_Go p e below _ T0 (mkF m 49 #[oI i0, oI i1, oI i2, oI i3, oI i4, oI s0, oI s1, oI s2, oI (3 : Int32), oI kr, oI s0, .unset, .unset, .unset, .unset, .unset, .unset, .unset, .unset, .unset] [(.int (1 : Int32)), (.int (3 : Int32))])
    refine own_by (fun t_ k_ => XS.icmpNo X0.here hx rfl (hb hby at_49) rfl (XT.ii_le_f (by decide)) k_) ?_
    show own_Go p e below _ T0 (mkF m 52 #[oI i0, oI i1, oI i2, oI i3, oI i4, oI s0, oI s1, oI s2, oI (3 : Int32), oI kr, oI s0, .unset, .unset, .unset, .unset, .unset, .unset, .unset, .unset, .unset] [])
    refine own_by (fun t_ k_ => XS.iload X0.here hx rfl (hb hby at_52) rfl  k_) ?_
    show own_Go p e below _ T0 (mkF m 54 #[oI i0, oI i1, oI i2, oI i3, oI i4, oI s0, oI s1, oI s2, oI (3 : Int32), oI kr, oI s0, .unset, .unset, .unset, .unset, .unset, .unset, .unset, .unset, .unset] [(.int s1)])
    refine own_by (fun t_ k_ => XS.goto X0.here hx rfl (pc0 := 54) (pc' := 58) rfl (hb hby at_54) (by decide) (by decide) k_) ?_
    show own_Go p e below _ T0 (mkF m 58 #[oI i0, oI i1, oI i2, oI i3, oI i4, oI s0, oI s1, oI s2, oI (3 : Int32), oI kr, oI s0, .unset, .unset, .unset, .unset, .unset, .unset, .unset, .unset, .unset] [(.int s1)])
    refine own_by (fun t_ k_ => XS.istore X0.here hx rfl (hb hby at_58) rfl (l' := #[oI i0, oI i1, oI i2, oI i3, oI i4, oI s0, oI s1, oI s2, oI (3 : Int32), oI kr, oI s0, oI s1, .unset, .unset, .unset, .unset, .unset, .unset, .unset, .unset]) rfl k_) ?_
    show own_Go p e below _ T0 (mkF m 60 #[oI i0, oI i1, oI i2, oI i3, oI i4, oI s0, oI s1, oI s2, oI (3 : Int32), oI kr, oI s0, oI s1, .unset, .unset, .unset, .unset, .unset, .unset, .unset, .unset] [])
    refine own_by (fun t_ k_ => XS.iload X0.here hx rfl (hb hby at_60) rfl  k_) ?_
    show own_Go p e below _ T0 (mkF m 62 #[oI i0, oI i1, oI i2, oI i3, oI i4, oI s0, oI s1, oI s2, oI (3 : Int32), oI kr, oI s0, oI s1, .unset, .unset, .unset, .unset, .unset, .unset, .unset, .unset] [(.int (3 : Int32))])
    refine own_by (fun t_ k_ => XT.iconstV X0.here hx rfl (2 : Int32) (hb hby at_62) (by decide) k_) ?_
    show own_Go p e below _ T0 (mkF m 63 #[oI i0, oI i1, oI i2, oI i3, oI i4, oI s0, oI s1, oI s2, oI (3 : Int32), oI kr, oI s0, oI s1, .unset, .unset, .unset, .unset, .unset, .unset, .unset, .unset] [(.int (2 : Int32)), (.int (3 : Int32))])
    refine own_by (fun t_ k_ => XS.icmpNo X0.here hx rfl (hb hby at_63) rfl (XT.ii_le_f (by decide)) k_) ?_
    show own_Go p e below _ T0 (mkF m 66 #[oI i0, oI i1, oI i2, oI i3, oI i4, oI s0, oI s1, oI s2, oI (3 : Int32), oI kr, oI s0, oI s1, .unset, .unset, .unset, .unset, .unset, .unset, .unset, .unset] [])
    refine own_by (fun t_ k_ => XS.iload X0.here hx rfl (hb hby at_66) rfl  k_) ?_
    show own_Go p e below _ T0 (mkF m 68 #[oI i0, oI i1, oI i2, oI i3, oI i4, oI s0, oI s1, oI s2, oI (3 : Int32), oI kr, oI s0, oI s1, .unset, .unset, .unset, .unset, .unset, .unset, .unset, .unset] [(.int s2)])
    refine own_by (fun t_ k_ => XS.goto X0.here hx rfl (pc0 := 68) (pc' := 72) rfl (hb hby at_68) (by decide) (by decide) k_) ?_
    show own_Go p e below _ T0 (mkF m 72 #[oI i0, oI i1, oI i2, oI i3, oI i4, oI s0, oI s1, oI s2, oI (3 : Int32), oI kr, oI s0, oI s1, .unset, .unset, .unset, .unset, .unset, .unset, .unset, .unset] [(.int s2)])
    refine own_by (fun t_ k_ => XS.istore X0.here hx rfl (hb hby at_72) rfl (l' := #[oI i0, oI i1, oI i2, oI i3, oI i4, oI s0, oI s1, oI s2, oI (3 : Int32), oI kr, oI s0, oI s1, oI s2, .unset, .unset, .unset, .unset, .unset, .unset, .unset]) rfl k_) ?_
    show own_Go p e below _ T0 (mkF m 74 #[oI i0, oI i1, oI i2, oI i3, oI i4, oI s0, oI s1, oI s2, oI (3 : Int32), oI kr, oI s0, oI s1, oI s2, .unset, .unset, .unset, .unset, .unset, .unset, .unset] [])
    refine own_by (fun t_ k_ => XS.iload X0.here hx rfl (hb hby at_74) rfl  k_) ?_
    show own_Go p e below _ T0 (mkF m 76 #[oI i0, oI i1, oI i2, oI i3, oI i4, oI s0, oI s1, oI s2, oI (3 : Int32), oI kr, oI s0, oI s1, oI s2, .unset, .unset, .unset, .unset, .unset, .unset, .unset] [(.int s0)])
    refine own_by (fun t_ k_ => XS.iload X0.here hx rfl (hb hby at_76) rfl  k_) ?_
    show own_Go p e below _ T0 (mkF m 78 #[oI i0, oI i1, oI i2, oI i3, oI i4, oI s0, oI s1, oI s2, oI (3 : Int32), oI kr, oI s0, oI s1, oI s2, .unset, .unset, .unset, .unset, .unset, .unset, .unset] [(.int s1), (.int s0)])
    refine own_callS X0 hx hZ hown (hw _ (List.mem_of_getElem? (i := 2) rfl)) (hw _ (List.mem_of_getElem? (i := 3) rfl)) (hw _ (List.mem_of_getElem? (i := 4) rfl)) (hw _ (List.mem_of_getElem? (i := 5) rfl)) (by decide) e0 (argsL := [(.int s0), (.int s1)]) (rest := []) (own_max_met l Z a0 hw s0 s1 h0) 0 (by decide) (by decide) (by rw [hml]; rfl) (lenOf pd_0 rfl) (Nat.le_of_eq rfl) (hb hby at_78) (by decide) (by decide) (st := [(.int s1), (.int s0)]) rfl ?_
    intro T28 LT28 vT28 XT28 hQT28
    obtain ⟨rfl, eT28, rfl⟩ := hQT28
    show own_Go p e below _ T28 (mkF m 81 #[oI i0, oI i1, oI i2, oI i3, oI i4, oI s0, oI s1, oI s2, oI (3 : Int32), oI kr, oI s0, oI s1, oI s2, .unset, .unset, .unset, .unset, .unset, .unset, .unset] [(.int (own_max s0 s1))])
    refine own_by (fun t_ k_ => XS.iload XT28.here hx rfl (hb hby at_81) rfl  k_) ?_
    show own_Go p e below _ T28 (mkF m 83 #[oI i0, oI i1, oI i2, oI i3, oI i4, oI s0, oI s1, oI s2, oI (3 : Int32), oI kr, oI s0, oI s1, oI s2, .unset, .unset, .unset, .unset, .unset, .unset, .unset] [(.int s2), (.int (own_max s0 s1))])
    refine own_callS XT28 hx hZ hown (hw _ (List.mem_of_getElem? (i := 2) rfl)) (hw _ (List.mem_of_getElem? (i := 3) rfl)) (hw _ (List.mem_of_getElem? (i := 4) rfl)) (hw _ (List.mem_of_getElem? (i := 5) rfl)) (by decide) eT28 (argsL := [(.int (own_max s0 s1)), (.int s2)]) (rest := []) (own_max_met l Z a0 hw (own_max s0 s1) s2 h0) 0 (by decide) (by decide) (by rw [hml]; rfl) (lenOf pd_0 rfl) (Nat.le_of_eq rfl) (hb hby at_83) (by decide) (by decide) (st := [(.int s2), (.int (own_max s0 s1))]) rfl ?_
    intro T29 LT29 vT29 XT29 hQT29
    obtain ⟨rfl, eT29, rfl⟩ := hQT29
    show own_Go p e below _ T29 (mkF m 86 #[oI i0, oI i1, oI i2, oI i3, oI i4, oI s0, oI s1, oI s2, oI (3 : Int32), oI kr, oI s0, oI s1, oI s2, .unset, .unset, .unset, .unset, .unset, .unset, .unset] [(.int (own_max (own_max s0 s1) s2))])
    refine own_by (fun t_ k_ => XS.istore XT29.here hx rfl (hb hby at_86) rfl (l' := #[oI i0, oI i1, oI i2, oI i3, oI i4, oI s0, oI s1, oI s2, oI (3 : Int32), oI kr, oI s0, oI s1, oI s2, oI (own_max (own_max s0 s1) s2), .unset, .unset, .unset, .unset, .unset, .unset]) rfl k_) ?_
    show own_Go p e below _ T29 (mkF m 88 #[oI i0, oI i1, oI i2, oI i3, oI i4, oI s0, oI s1, oI s2, oI (3 : Int32), oI kr, oI s0, oI s1, oI s2, oI (own_max (own_max s0 s1) s2), .unset, .unset, .unset, .unset, .unset, .unset] [])
    refine own_by (fun t_ k_ => XS.iload XT29.here hx rfl (hb hby at_88) rfl  k_) ?_
    show own_Go p e below _ T29 (mkF m 90 #[oI i0, oI i1, oI i2, oI i3, oI i4, oI s0, oI s1, oI s2, oI (3 : Int32), oI kr, oI s0, oI s1, oI s2, oI (own_max (own_max s0 s1) s2), .unset, .unset, .unset, .unset, .unset, .unset] [(.int s0)])
    refine own_by (fun t_ k_ => XS.iload XT29.here hx rfl (hb hby at_90) rfl  k_) ?_
    show own_Go p e below _ T29 (mkF m 92 #[oI i0, oI i1, oI i2, oI i3, oI i4, oI s0, oI s1, oI s2, oI (3 : Int32), oI kr, oI s0, oI s1, oI s2, oI (own_max (own_max s0 s1) s2), .unset, .unset, .unset, .unset, .unset, .unset] [(.int s1), (.int s0)])
    refine own_by (fun t_ k_ => XS.iadd XT29.here hx rfl (hb hby at_92) rfl k_) ?_
    show own_Go p e below _ T29 (mkF m 93 #[oI i0, oI i1, oI i2, oI i3, oI i4, oI s0, oI s1, oI s2, oI (3 : Int32), oI kr, oI s0, oI s1, oI s2, oI (own_max (own_max s0 s1) s2), .unset, .unset, .unset, .unset, .unset, .unset] [(.int (s0 + s1))])
    refine own_by (fun t_ k_ => XS.iload XT29.here hx rfl (hb hby at_93) rfl  k_) ?_
    show own_Go p e below _ T29 (mkF m 95 #[oI i0, oI i1, oI i2, oI i3, oI i4, oI s0, oI s1, oI s2, oI (3 : Int32), oI kr, oI s0, oI s1, oI s2, oI (own_max (own_max s0 s1) s2), .unset, .unset, .unset, .unset, .unset, .unset] [(.int s2), (.int (s0 + s1))])
    refine own_by (fun t_ k_ => XS.iadd XT29.here hx rfl (hb hby at_95) rfl k_) ?_
    show own_Go p e below _ T29 (mkF m 96 #[oI i0, oI i1, oI i2, oI i3, oI i4, oI s0, oI s1, oI s2, oI (3 : Int32), oI kr, oI s0, oI s1, oI s2, oI (own_max (own_max s0 s1) s2), .unset, .unset, .unset, .unset, .unset, .unset] [(.int ((s0 + s1) + s2))])
    refine own_by (fun t_ k_ => XS.iload XT29.here hx rfl (hb hby at_96) rfl  k_) ?_
    show own_Go p e below _ T29 (mkF m 98 #[oI i0, oI i1, oI i2, oI i3, oI i4, oI s0, oI s1, oI s2, oI (3 : Int32), oI kr, oI s0, oI s1, oI s2, oI (own_max (own_max s0 s1) s2), .unset, .unset, .unset, .unset, .unset, .unset] [(.int (own_max (own_max s0 s1) s2)), (.int ((s0 + s1) + s2))])
    refine own_by (fun t_ k_ => XS.isub XT29.here hx rfl (hb hby at_98) rfl k_) ?_
    show own_Go p e below _ T29 (mkF m 99 #[oI i0, oI i1, oI i2, oI i3, oI i4, oI s0, oI s1, oI s2, oI (3 : Int32), oI kr, oI s0, oI s1, oI s2, oI (own_max (own_max s0 s1) s2), .unset, .unset, .unset, .unset, .unset, .unset] [(.int (((s0 + s1) + s2) - (own_max (own_max s0 s1) s2)))])
    refine own_by (fun t_ k_ => XS.istore XT29.here hx rfl (hb hby at_99) rfl (l' := #[oI i0, oI i1, oI i2, oI i3, oI i4, oI s0, oI s1, oI s2, oI (3 : Int32), oI kr, oI s0, oI s1, oI s2, oI (own_max (own_max s0 s1) s2), oI (((s0 + s1) + s2) - (own_max (own_max s0 s1) s2)), .unset, .unset, .unset, .unset, .unset]) rfl k_) ?_
    show own_Go p e below _ T29 (mkF m 101 #[oI i0, oI i1, oI i2, oI i3, oI i4, oI s0, oI s1, oI s2, oI (3 : Int32), oI kr, oI s0, oI s1, oI s2, oI (own_max (own_max s0 s1) s2), oI (((s0 + s1) + s2) - (own_max (own_max s0 s1) s2)), .unset, .unset, .unset, .unset, .unset] [])
    refine own_by (fun t_ k_ => XT29.ldc2J hx hown (mvT hZ (hw _ (List.mem_of_getElem? (i := 6) rfl))) rfl (hb hby at_101) k_) ?_
    show own_Go p e below _ T29 (mkF m 104 #[oI i0, oI i1, oI i2, oI i3, oI i4, oI s0, oI s1, oI s2, oI (3 : Int32), oI kr, oI s0, oI s1, oI s2, oI (own_max (own_max s0 s1) s2), oI (((s0 + s1) + s2) - (own_max (own_max s0 s1) s2)), .unset, .unset, .unset, .unset, .unset] [(.long (8 : Int64))])
    refine own_by (fun t_ k_ => XS.iload XT29.here hx rfl (hb hby at_104) rfl  k_) ?_
    show own_Go p e below _ T29 (mkF m 106 #[oI i0, oI i1, oI i2, oI i3, oI i4, oI s0, oI s1, oI s2, oI (3 : Int32), oI kr, oI s0, oI s1, oI s2, oI (own_max (own_max s0 s1) s2), oI (((s0 + s1) + s2) - (own_max (own_max s0 s1) s2)), .unset, .unset, .unset, .unset, .unset] [(.int (own_max (own_max s0 s1) s2)), (.long (8 : Int64))])
    refine own_by (fun t_ k_ => XT.i2l XT29.here hx rfl (hb hby at_106) rfl k_) ?_
    show own_Go p e below _ T29 (mkF m 107 #[oI i0, oI i1, oI i2, oI i3, oI i4, oI s0, oI s1, oI s2, oI (3 : Int32), oI kr, oI s0, oI s1, oI s2, oI (own_max (own_max s0 s1) s2), oI (((s0 + s1) + s2) - (own_max (own_max s0 s1) s2)), .unset, .unset, .unset, .unset, .unset] [(.long ((own_max (own_max s0 s1) s2).toInt64)), (.long (8 : Int64))])
    refine own_by (fun t_ k_ => XT.lmul XT29.here hx rfl (hb hby at_107) rfl k_) ?_
    show own_Go p e below _ T29 (mkF m 108 #[oI i0, oI i1, oI i2, oI i3, oI i4, oI s0, oI s1, oI s2, oI (3 : Int32), oI kr, oI s0, oI s1, oI s2, oI (own_max (own_max s0 s1) s2), oI (((s0 + s1) + s2) - (own_max (own_max s0 s1) s2)), .unset, .unset, .unset, .unset, .unset] [(.long ((8 : Int64) * ((own_max (own_max s0 s1) s2).toInt64)))])
    refine own_by (fun t_ k_ => XS.iload XT29.here hx rfl (hb hby at_108) rfl  k_) ?_
    show own_Go p e below _ T29 (mkF m 110 #[oI i0, oI i1, oI i2, oI i3, oI i4, oI s0, oI s1, oI s2, oI (3 : Int32), oI kr, oI s0, oI s1, oI s2, oI (own_max (own_max s0 s1) s2), oI (((s0 + s1) + s2) - (own_max (own_max s0 s1) s2)), .unset, .unset, .unset, .unset, .unset] [(.int kr), (.long ((8 : Int64) * ((own_max (own_max s0 s1) s2).toInt64)))])
    refine own_by (fun t_ k_ => XT.i2l XT29.here hx rfl (hb hby at_110) rfl k_) ?_
    show own_Go p e below _ T29 (mkF m 111 #[oI i0, oI i1, oI i2, oI i3, oI i4, oI s0, oI s1, oI s2, oI (3 : Int32), oI kr, oI s0, oI s1, oI s2, oI (own_max (own_max s0 s1) s2), oI (((s0 + s1) + s2) - (own_max (own_max s0 s1) s2)), .unset, .unset, .unset, .unset, .unset] [(.long (kr.toInt64)), (.long ((8 : Int64) * ((own_max (own_max s0 s1) s2).toInt64)))])
    refine own_by (fun t_ k_ => XS.iload XT29.here hx rfl (hb hby at_111) rfl  k_) ?_
    show own_Go p e below _ T29 (mkF m 113 #[oI i0, oI i1, oI i2, oI i3, oI i4, oI s0, oI s1, oI s2, oI (3 : Int32), oI kr, oI s0, oI s1, oI s2, oI (own_max (own_max s0 s1) s2), oI (((s0 + s1) + s2) - (own_max (own_max s0 s1) s2)), .unset, .unset, .unset, .unset, .unset] [(.int (((s0 + s1) + s2) - (own_max (own_max s0 s1) s2))), (.long (kr.toInt64)), (.long ((8 : Int64) * ((own_max (own_max s0 s1) s2).toInt64)))])
    refine own_by (fun t_ k_ => XT.i2l XT29.here hx rfl (hb hby at_113) rfl k_) ?_
    show own_Go p e below _ T29 (mkF m 114 #[oI i0, oI i1, oI i2, oI i3, oI i4, oI s0, oI s1, oI s2, oI (3 : Int32), oI kr, oI s0, oI s1, oI s2, oI (own_max (own_max s0 s1) s2), oI (((s0 + s1) + s2) - (own_max (own_max s0 s1) s2)), .unset, .unset, .unset, .unset, .unset] [(.long ((((s0 + s1) + s2) - (own_max (own_max s0 s1) s2)).toInt64)), (.long (kr.toInt64)), (.long ((8 : Int64) * ((own_max (own_max s0 s1) s2).toInt64)))])
    refine own_by (fun t_ k_ => XT.lmul XT29.here hx rfl (hb hby at_114) rfl k_) ?_
    show own_Go p e below _ T29 (mkF m 115 #[oI i0, oI i1, oI i2, oI i3, oI i4, oI s0, oI s1, oI s2, oI (3 : Int32), oI kr, oI s0, oI s1, oI s2, oI (own_max (own_max s0 s1) s2), oI (((s0 + s1) + s2) - (own_max (own_max s0 s1) s2)), .unset, .unset, .unset, .unset, .unset] [(.long ((kr.toInt64) * ((((s0 + s1) + s2) - (own_max (own_max s0 s1) s2)).toInt64))), (.long ((8 : Int64) * ((own_max (own_max s0 s1) s2).toInt64)))])
    refine own_by (fun t_ k_ => XT.ladd XT29.here hx rfl (hb hby at_115) rfl k_) ?_
    show own_Go p e below _ T29 (mkF m 116 #[oI i0, oI i1, oI i2, oI i3, oI i4, oI s0, oI s1, oI s2, oI (3 : Int32), oI kr, oI s0, oI s1, oI s2, oI (own_max (own_max s0 s1) s2), oI (((s0 + s1) + s2) - (own_max (own_max s0 s1) s2)), .unset, .unset, .unset, .unset, .unset] [(.long (((8 : Int64) * ((own_max (own_max s0 s1) s2).toInt64)) + ((kr.toInt64) * ((((s0 + s1) + s2) - (own_max (own_max s0 s1) s2)).toInt64))))])
    refine own_by (fun t_ k_ => XT.lstore XT29.here hx rfl (hb hby at_116) rfl (l' := #[oI i0, oI i1, oI i2, oI i3, oI i4, oI s0, oI s1, oI s2, oI (3 : Int32), oI kr, oI s0, oI s1, oI s2, oI (own_max (own_max s0 s1) s2), oI (((s0 + s1) + s2) - (own_max (own_max s0 s1) s2)), oJ (((8 : Int64) * ((own_max (own_max s0 s1) s2).toInt64)) + ((kr.toInt64) * ((((s0 + s1) + s2) - (own_max (own_max s0 s1) s2)).toInt64))), .second, .unset, .unset, .unset]) rfl k_) ?_
    show own_Go p e below _ T29 (mkF m 118 #[oI i0, oI i1, oI i2, oI i3, oI i4, oI s0, oI s1, oI s2, oI (3 : Int32), oI kr, oI s0, oI s1, oI s2, oI (own_max (own_max s0 s1) s2), oI (((s0 + s1) + s2) - (own_max (own_max s0 s1) s2)), oJ (((8 : Int64) * ((own_max (own_max s0 s1) s2).toInt64)) + ((kr.toInt64) * ((((s0 + s1) + s2) - (own_max (own_max s0 s1) s2)).toInt64))), .second, .unset, .unset, .unset] [])
    refine own_by (fun t_ k_ => XT.iconstV XT29.here hx rfl (3 : Int32) (hb hby at_118) (by decide) k_) ?_
    show own_Go p e below _ T29 (mkF m 119 #[oI i0, oI i1, oI i2, oI i3, oI i4, oI s0, oI s1, oI s2, oI (3 : Int32), oI kr, oI s0, oI s1, oI s2, oI (own_max (own_max s0 s1) s2), oI (((s0 + s1) + s2) - (own_max (own_max s0 s1) s2)), oJ (((8 : Int64) * ((own_max (own_max s0 s1) s2).toInt64)) + ((kr.toInt64) * ((((s0 + s1) + s2) - (own_max (own_max s0 s1) s2)).toInt64))), .second, .unset, .unset, .unset] [(.int (3 : Int32))])
    refine own_newP XT29 hx hZ (aty := .float) (hw _ (List.mem_of_getElem? (i := 7) rfl)) eT29 (hb hby at_119) 3 3 (by decide) (by decide) (by decide) (by decide) (by decide) (by decide) ?_
    intro T30 hT30 kA XT30 eT30 ET30 YT30
    have VT30 : own_A Z hT30 h0.size .float kA [(.float 0), (.float 0), (.float 0)] := YT30
    have NT30 := Fr.nil h0.size
    clear YT30
    show own_Go p e below _ T30 (mkF m 121 #[oI i0, oI i1, oI i2, oI i3, oI i4, oI s0, oI s1, oI s2, oI (3 : Int32), oI kr, oI s0, oI s1, oI s2, oI (own_max (own_max s0 s1) s2), oI (((s0 + s1) + s2) - (own_max (own_max s0 s1) s2)), oJ (((8 : Int64) * ((own_max (own_max s0 s1) s2).toInt64)) + ((kr.toInt64) * ((((s0 + s1) + s2) - (own_max (own_max s0 s1) s2)).toInt64))), .second, .unset, .unset, .unset] [(.ref h0.size)])
    refine own_by (fun t_ k_ => XS.dup XT30.here hx rfl (hb hby at_121) rfl rfl k_) ?_
    show own_Go p e below _ T30 (mkF m 122 #[oI i0, oI i1, oI i2, oI i3, oI i4, oI s0, oI s1, oI s2, oI (3 : Int32), oI kr, oI s0, oI s1, oI s2, oI (own_max (own_max s0 s1) s2), oI (((s0 + s1) + s2) - (own_max (own_max s0 s1) s2)), oJ (((8 : Int64) * ((own_max (own_max s0 s1) s2).toInt64)) + ((kr.toInt64) * ((((s0 + s1) + s2) - (own_max (own_max s0 s1) s2)).toInt64))), .second, .unset, .unset, .unset] [(.ref h0.size), (.ref h0.size)])
    refine own_by (fun t_ k_ => XT.iconstV XT30.here hx rfl (0 : Int32) (hb hby at_122) (by decide) k_) ?_
    show own_Go p e below _ T30 (mkF m 123 #[oI i0, oI i1, oI i2, oI i3, oI i4, oI s0, oI s1, oI s2, oI (3 : Int32), oI kr, oI s0, oI s1, oI s2, oI (own_max (own_max s0 s1) s2), oI (((s0 + s1) + s2) - (own_max (own_max s0 s1) s2)), oJ (((8 : Int64) * ((own_max (own_max s0 s1) s2).toInt64)) + ((kr.toInt64) * ((((s0 + s1) + s2) - (own_max (own_max s0 s1) s2)).toInt64))), .second, .unset, .unset, .unset] [(.int (0 : Int32)), (.ref h0.size), (.ref h0.size)])
    refine own_by (fun t_ k_ => XS.iload XT30.here hx rfl (hb hby at_123) rfl  k_) ?_
    show own_Go p e below _ T30 (mkF m 125 #[oI i0, oI i1, oI i2, oI i3, oI i4, oI s0, oI s1, oI s2, oI (3 : Int32), oI kr, oI s0, oI s1, oI s2, oI (own_max (own_max s0 s1) s2), oI (((s0 + s1) + s2) - (own_max (own_max s0 s1) s2)), oJ (((8 : Int64) * ((own_max (own_max s0 s1) s2).toInt64)) + ((kr.toInt64) * ((((s0 + s1) + s2) - (own_max (own_max s0 s1) s2)).toInt64))), .second, .unset, .unset, .unset] [(.int s0), (.int (0 : Int32)), (.ref h0.size), (.ref h0.size)])
    refine own_by (fun t_ k_ => XS.i2fS XT30.here hx rfl (hb hby at_125) rfl rfl k_) ?_
    show own_Go p e below _ T30 (mkF m 126 #[oI i0, oI i1, oI i2, oI i3, oI i4, oI s0, oI s1, oI s2, oI (3 : Int32), oI kr, oI s0, oI s1, oI s2, oI (own_max (own_max s0 s1) s2), oI (((s0 + s1) + s2) - (own_max (own_max s0 s1) s2)), oJ (((8 : Int64) * ((own_max (own_max s0 s1) s2).toInt64)) + ((kr.toInt64) * ((((s0 + s1) + s2) - (own_max (own_max s0 s1) s2)).toInt64))), .second, .unset, .unset, .unset] [(.float (FP.i2f s0)), (.int (0 : Int32)), (.ref h0.size), (.ref h0.size)])
    have F0 := own_F_i2f (a := s0) (by omega)
    generalize (FP.i2f s0) = f0 at F0 ⊢
    show own_Go p e below _ T30 (mkF m 126 #[oI i0, oI i1, oI i2, oI i3, oI i4, oI s0, oI s1, oI s2, oI (3 : Int32), oI kr, oI s0, oI s1, oI s2, oI (own_max (own_max s0 s1) s2), oI (((s0 + s1) + s2) - (own_max (own_max s0 s1) s2)), oJ (((8 : Int64) * ((own_max (own_max s0 s1) s2).toInt64)) + ((kr.toInt64) * ((((s0 + s1) + s2) - (own_max (own_max s0 s1) s2)).toInt64))), .second, .unset, .unset, .unset] [(.float f0), (.int (0 : Int32)), (.ref h0.size), (.ref h0.size)])
    refine own_stF XT30 hx hZ eT30 VT30 0 (by decide) (by decide) (by simp) (hb hby at_126) ?_
    intro T31 hT31 XT31 eT31 WT31 YT31
    have VT31 : own_A Z hT31 h0.size .float kA [(.float f0), (.float 0), (.float 0)] := YT31
    have NT31 := own_frs (i := 0) NT30 (Nat.le_refl h0.size)
    clear YT31
    show own_Go p e below _ T31 (mkF m 127 #[oI i0, oI i1, oI i2, oI i3, oI i4, oI s0, oI s1, oI s2, oI (3 : Int32), oI kr, oI s0, oI s1, oI s2, oI (own_max (own_max s0 s1) s2), oI (((s0 + s1) + s2) - (own_max (own_max s0 s1) s2)), oJ (((8 : Int64) * ((own_max (own_max s0 s1) s2).toInt64)) + ((kr.toInt64) * ((((s0 + s1) + s2) - (own_max (own_max s0 s1) s2)).toInt64))), .second, .unset, .unset, .unset] [(.ref h0.size)])
    refine own_by (fun t_ k_ => XS.dup XT31.here hx rfl (hb hby at_127) rfl rfl k_) ?_
    show own_Go p e below _ T31 (mkF m 128 #[oI i0, oI i1, oI i2, oI i3, oI i4, oI s0, oI s1, oI s2, oI (3 : Int32), oI kr, oI s0, oI s1, oI s2, oI (own_max (own_max s0 s1) s2), oI (((s0 + s1) + s2) - (own_max (own_max s0 s1) s2)), oJ (((8 : Int64) * ((own_max (own_max s0 s1) s2).toInt64)) + ((kr.toInt64) * ((((s0 + s1) + s2) - (own_max (own_max s0 s1) s2)).toInt64))), .second, .unset, .unset, .unset] [(.ref h0.size), (.ref h0.size)])
    refine own_by (fun t_ k_ => XT.iconstV XT31.here hx rfl (1 : Int32) (hb hby at_128) (by decide) k_) ?_
    show own_Go p e below _ T31 (mkF m 129 #[oI i0, oI i1, oI i2, oI i3, oI i4, oI s0, oI s1, oI s2, oI (3 : Int32), oI kr, oI s0, oI s1, oI s2, oI (own_max (own_max s0 s1) s2), oI (((s0 + s1) + s2) - (own_max (own_max s0 s1) s2)), oJ (((8 : Int64) * ((own_max (own_max s0 s1) s2).toInt64)) + ((kr.toInt64) * ((((s0 + s1) + s2) - (own_max (own_max s0 s1) s2)).toInt64))), .second, .unset, .unset, .unset] [(.int (1 : Int32)), (.ref h0.size), (.ref h0.size)])
    refine own_by (fun t_ k_ => XS.iload XT31.here hx rfl (hb hby at_129) rfl  k_) ?_
    show own_Go p e below _ T31 (mkF m 131 #[oI i0, oI i1, oI i2, oI i3, oI i4, oI s0, oI s1, oI s2, oI (3 : Int32), oI kr, oI s0, oI s1, oI s2, oI (own_max (own_max s0 s1) s2), oI (((s0 + s1) + s2) - (own_max (own_max s0 s1) s2)), oJ (((8 : Int64) * ((own_max (own_max s0 s1) s2).toInt64)) + ((kr.toInt64) * ((((s0 + s1) + s2) - (own_max (own_max s0 s1) s2)).toInt64))), .second, .unset, .unset, .unset] [(.int s1), (.int (1 : Int32)), (.ref h0.size), (.ref h0.size)])
    refine own_by (fun t_ k_ => XS.i2fS XT31.here hx rfl (hb hby at_131) rfl rfl k_) ?_
    show own_Go p e below _ T31 (mkF m 132 #[oI i0, oI i1, oI i2, oI i3, oI i4, oI s0, oI s1, oI s2, oI (3 : Int32), oI kr, oI s0, oI s1, oI s2, oI (own_max (own_max s0 s1) s2), oI (((s0 + s1) + s2) - (own_max (own_max s0 s1) s2)), oJ (((8 : Int64) * ((own_max (own_max s0 s1) s2).toInt64)) + ((kr.toInt64) * ((((s0 + s1) + s2) - (own_max (own_max s0 s1) s2)).toInt64))), .second, .unset, .unset, .unset] [(.float (FP.i2f s1)), (.int (1 : Int32)), (.ref h0.size), (.ref h0.size)])
    have F1 := own_F_i2f (a := s1) (by omega)
    generalize (FP.i2f s1) = f1 at F1 ⊢
    show own_Go p e below _ T31 (mkF m 132 #[oI i0, oI i1, oI i2, oI i3, oI i4, oI s0, oI s1, oI s2, oI (3 : Int32), oI kr, oI s0, oI s1, oI s2, oI (own_max (own_max s0 s1) s2), oI (((s0 + s1) + s2) - (own_max (own_max s0 s1) s2)), oJ (((8 : Int64) * ((own_max (own_max s0 s1) s2).toInt64)) + ((kr.toInt64) * ((((s0 + s1) + s2) - (own_max (own_max s0 s1) s2)).toInt64))), .second, .unset, .unset, .unset] [(.float f1), (.int (1 : Int32)), (.ref h0.size), (.ref h0.size)])
    refine own_stF XT31 hx hZ eT31 VT31 1 (by decide) (by decide) (by simp) (hb hby at_132) ?_
    intro T32 hT32 XT32 eT32 WT32 YT32
    have VT32 : own_A Z hT32 h0.size .float kA [(.float f0), (.float f1), (.float 0)] := YT32
    have NT32 := own_frs (i := 1) NT31 (Nat.le_refl h0.size)
    clear YT32
    show own_Go p e below _ T32 (mkF m 133 #[oI i0, oI i1, oI i2, oI i3, oI i4, oI s0, oI s1, oI s2, oI (3 : Int32), oI kr, oI s0, oI s1, oI s2, oI (own_max (own_max s0 s1) s2), oI (((s0 + s1) + s2) - (own_max (own_max s0 s1) s2)), oJ (((8 : Int64) * ((own_max (own_max s0 s1) s2).toInt64)) + ((kr.toInt64) * ((((s0 + s1) + s2) - (own_max (own_max s0 s1) s2)).toInt64))), .second, .unset, .unset, .unset] [(.ref h0.size)])
    refine own_by (fun t_ k_ => XS.dup XT32.here hx rfl (hb hby at_133) rfl rfl k_) ?_
    show own_Go p e below _ T32 (mkF m 134 #[oI i0, oI i1, oI i2, oI i3, oI i4, oI s0, oI s1, oI s2, oI (3 : Int32), oI kr, oI s0, oI s1, oI s2, oI (own_max (own_max s0 s1) s2), oI (((s0 + s1) + s2) - (own_max (own_max s0 s1) s2)), oJ (((8 : Int64) * ((own_max (own_max s0 s1) s2).toInt64)) + ((kr.toInt64) * ((((s0 + s1) + s2) - (own_max (own_max s0 s1) s2)).toInt64))), .second, .unset, .unset, .unset] [(.ref h0.size), (.ref h0.size)])
    refine own_by (fun t_ k_ => XT.iconstV XT32.here hx rfl (2 : Int32) (hb hby at_134) (by decide) k_) ?_
    show own_Go p e below _ T32 (mkF m 135 #[oI i0, oI i1, oI i2, oI i3, oI i4, oI s0, oI s1, oI s2, oI (3 : Int32), oI kr, oI s0, oI s1, oI s2, oI (own_max (own_max s0 s1) s2), oI (((s0 + s1) + s2) - (own_max (own_max s0 s1) s2)), oJ (((8 : Int64) * ((own_max (own_max s0 s1) s2).toInt64)) + ((kr.toInt64) * ((((s0 + s1) + s2) - (own_max (own_max s0 s1) s2)).toInt64))), .second, .unset, .unset, .unset] [(.int (2 : Int32)), (.ref h0.size), (.ref h0.size)])
    refine own_by (fun t_ k_ => XS.iload XT32.here hx rfl (hb hby at_135) rfl  k_) ?_
    show own_Go p e below _ T32 (mkF m 137 #[oI i0, oI i1, oI i2, oI i3, oI i4, oI s0, oI s1, oI s2, oI (3 : Int32), oI kr, oI s0, oI s1, oI s2, oI (own_max (own_max s0 s1) s2), oI (((s0 + s1) + s2) - (own_max (own_max s0 s1) s2)), oJ (((8 : Int64) * ((own_max (own_max s0 s1) s2).toInt64)) + ((kr.toInt64) * ((((s0 + s1) + s2) - (own_max (own_max s0 s1) s2)).toInt64))), .second, .unset, .unset, .unset] [(.int s2), (.int (2 : Int32)), (.ref h0.size), (.ref h0.size)])
    refine own_by (fun t_ k_ => XS.i2fS XT32.here hx rfl (hb hby at_137) rfl rfl k_) ?_
    show own_Go p e below _ T32 (mkF m 138 #[oI i0, oI i1, oI i2, oI i3, oI i4, oI s0, oI s1, oI s2, oI (3 : Int32), oI kr, oI s0, oI s1, oI s2, oI (own_max (own_max s0 s1) s2), oI (((s0 + s1) + s2) - (own_max (own_max s0 s1) s2)), oJ (((8 : Int64) * ((own_max (own_max s0 s1) s2).toInt64)) + ((kr.toInt64) * ((((s0 + s1) + s2) - (own_max (own_max s0 s1) s2)).toInt64))), .second, .unset, .unset, .unset] [(.float (FP.i2f s2)), (.int (2 : Int32)), (.ref h0.size), (.ref h0.size)])
    have F2 := own_F_i2f (a := s2) (by omega)
    generalize (FP.i2f s2) = f2 at F2 ⊢
    show own_Go p e below _ T32 (mkF m 138 #[oI i0, oI i1, oI i2, oI i3, oI i4, oI s0, oI s1, oI s2, oI (3 : Int32), oI kr, oI s0, oI s1, oI s2, oI (own_max (own_max s0 s1) s2), oI (((s0 + s1) + s2) - (own_max (own_max s0 s1) s2)), oJ (((8 : Int64) * ((own_max (own_max s0 s1) s2).toInt64)) + ((kr.toInt64) * ((((s0 + s1) + s2) - (own_max (own_max s0 s1) s2)).toInt64))), .second, .unset, .unset, .unset] [(.float f2), (.int (2 : Int32)), (.ref h0.size), (.ref h0.size)])
    refine own_stF XT32 hx hZ eT32 VT32 2 (by decide) (by decide) (by simp) (hb hby at_138) ?_
    intro T33 hT33 XT33 eT33 WT33 YT33
    have VT33 : own_A Z hT33 h0.size .float kA [(.float f0), (.float f1), (.float f2)] := YT33
    have NT33 := own_frs (i := 2) NT32 (Nat.le_refl h0.size)
    clear YT33
    show own_Go p e below _ T33 (mkF m 139 #[oI i0, oI i1, oI i2, oI i3, oI i4, oI s0, oI s1, oI s2, oI (3 : Int32), oI kr, oI s0, oI s1, oI s2, oI (own_max (own_max s0 s1) s2), oI (((s0 + s1) + s2) - (own_max (own_max s0 s1) s2)), oJ (((8 : Int64) * ((own_max (own_max s0 s1) s2).toInt64)) + ((kr.toInt64) * ((((s0 + s1) + s2) - (own_max (own_max s0 s1) s2)).toInt64))), .second, .unset, .unset, .unset] [(.ref h0.size)])
    refine own_by (fun t_ k_ => XS.astore XT33.here hx rfl (hb hby at_139) rfl rfl (l' := #[oI i0, oI i1, oI i2, oI i3, oI i4, oI s0, oI s1, oI s2, oI (3 : Int32), oI kr, oI s0, oI s1, oI s2, oI (own_max (own_max s0 s1) s2), oI (((s0 + s1) + s2) - (own_max (own_max s0 s1) s2)), oJ (((8 : Int64) * ((own_max (own_max s0 s1) s2).toInt64)) + ((kr.toInt64) * ((((s0 + s1) + s2) - (own_max (own_max s0 s1) s2)).toInt64))), .second, oR h0.size, .unset, .unset]) rfl k_) ?_
    show own_Go p e below _ T33 (mkF m 141 #[oI i0, oI i1, oI i2, oI i3, oI i4, oI s0, oI s1, oI s2, oI (3 : Int32), oI kr, oI s0, oI s1, oI s2, oI (own_max (own_max s0 s1) s2), oI (((s0 + s1) + s2) - (own_max (own_max s0 s1) s2)), oJ (((8 : Int64) * ((own_max (own_max s0 s1) s2).toInt64)) + ((kr.toInt64) * ((((s0 + s1) + s2) - (own_max (own_max s0 s1) s2)).toInt64))), .second, oR h0.size, .unset, .unset] [])
    refine own_by (fun t_ k_ => XS.iload XT33.here hx rfl (hb hby at_141) rfl  k_) ?_
    show own_Go p e below _ T33 (mkF m 143 #[oI i0, oI i1, oI i2, oI i3, oI i4, oI s0, oI s1, oI s2, oI (3 : Int32), oI kr, oI s0, oI s1, oI s2, oI (own_max (own_max s0 s1) s2), oI (((s0 + s1) + s2) - (own_max (own_max s0 s1) s2)), oJ (((8 : Int64) * ((own_max (own_max s0 s1) s2).toInt64)) + ((kr.toInt64) * ((((s0 + s1) + s2) - (own_max (own_max s0 s1) s2)).toInt64))), .second, oR h0.size, .unset, .unset] [(.int kr)])
    refine own_by (fun t_ k_ => XS.i2fS XT33.here hx rfl (hb hby at_143) rfl rfl k_) ?_
    show own_Go p e below _ T33 (mkF m 144 #[oI i0, oI i1, oI i2, oI i3, oI i4, oI s0, oI s1, oI s2, oI (3 : Int32), oI kr, oI s0, oI s1, oI s2, oI (own_max (own_max s0 s1) s2), oI (((s0 + s1) + s2) - (own_max (own_max s0 s1) s2)), oJ (((8 : Int64) * ((own_max (own_max s0 s1) s2).toInt64)) + ((kr.toInt64) * ((((s0 + s1) + s2) - (own_max (own_max s0 s1) s2)).toInt64))), .second, oR h0.size, .unset, .unset] [(.float (FP.i2f kr))])
    have Fk := own_F_i2f (a := kr) (by omega)
    generalize (FP.i2f kr) = fk at Fk ⊢
    show own_Go p e below _ T33 (mkF m 144 #[oI i0, oI i1, oI i2, oI i3, oI i4, oI s0, oI s1, oI s2, oI (3 : Int32), oI kr, oI s0, oI s1, oI s2, oI (own_max (own_max s0 s1) s2), oI (((s0 + s1) + s2) - (own_max (own_max s0 s1) s2)), oJ (((8 : Int64) * ((own_max (own_max s0 s1) s2).toInt64)) + ((kr.toInt64) * ((((s0 + s1) + s2) - (own_max (own_max s0 s1) s2)).toInt64))), .second, oR h0.size, .unset, .unset] [(.float fk)])
    refine own_by (fun t_ k_ => XT33.ldcFloatC hx hown (mvT hZ (hw _ (List.mem_of_getElem? (i := 8) rfl))) (g := (mkF m 144 #[oI i0, oI i1, oI i2, oI i3, oI i4, oI s0, oI s1, oI s2, oI (3 : Int32), oI kr, oI s0, oI s1, oI s2, oI (own_max (own_max s0 s1) s2), oI (((s0 + s1) + s2) - (own_max (own_max s0 s1) s2)), oJ (((8 : Int64) * ((own_max (own_max s0 s1) s2).toInt64)) + ((kr.toInt64) * ((((s0 + s1) + s2) - (own_max (own_max s0 s1) s2)).toInt64))), .second, oR h0.size, .unset, .unset] [(.float fk)])) rfl (hb hby at_144) t_ k_) ?_
    show own_Go p e below _ T33 (mkF m 146 #[oI i0, oI i1, oI i2, oI i3, oI i4, oI s0, oI s1, oI s2, oI (3 : Int32), oI kr, oI s0, oI s1, oI s2, oI (own_max (own_max s0 s1) s2), oI (((s0 + s1) + s2) - (own_max (own_max s0 s1) s2)), oJ (((8 : Int64) * ((own_max (own_max s0 s1) s2).toInt64)) + ((kr.toInt64) * ((((s0 + s1) + s2) - (own_max (own_max s0 s1) s2)).toInt64))), .second, oR h0.size, .unset, .unset] [(.float (1090519040 : UInt32)), (.float fk)])
    have D34 := own_F_div (k := 3) (l := 0) (i := 8) (j := kr.toInt) (show own_F 3 (kr.toInt * 8) _ from own_F_up Fk 3) own_eight (by decide) (by omega) (by decide) (by decide)
    refine own_by (fun t_ k_ => XS.fdivS XT33.here hx rfl (hb hby at_146) rfl (own_F_no D34) rfl k_) ?_
    show own_Go p e below _ T33 (mkF m 147 #[oI i0, oI i1, oI i2, oI i3, oI i4, oI s0, oI s1, oI s2, oI (3 : Int32), oI kr, oI s0, oI s1, oI s2, oI (own_max (own_max s0 s1) s2), oI (((s0 + s1) + s2) - (own_max (own_max s0 s1) s2)), oJ (((8 : Int64) * ((own_max (own_max s0 s1) s2).toInt64)) + ((kr.toInt64) * ((((s0 + s1) + s2) - (own_max (own_max s0 s1) s2)).toInt64))), .second, oR h0.size, .unset, .unset] [(.float (FP.fdiv fk (1090519040 : UInt32)))])
    generalize (FP.fdiv fk (1090519040 : UInt32)) = tb at D34 ⊢
    show own_Go p e below _ T33 (mkF m 147 #[oI i0, oI i1, oI i2, oI i3, oI i4, oI s0, oI s1, oI s2, oI (3 : Int32), oI kr, oI s0, oI s1, oI s2, oI (own_max (own_max s0 s1) s2), oI (((s0 + s1) + s2) - (own_max (own_max s0 s1) s2)), oJ (((8 : Int64) * ((own_max (own_max s0 s1) s2).toInt64)) + ((kr.toInt64) * ((((s0 + s1) + s2) - (own_max (own_max s0 s1) s2)).toInt64))), .second, oR h0.size, .unset, .unset] [(.float tb)])
    refine own_by (fun t_ k_ => XS.fstore XT33.here hx rfl (hb hby at_147) rfl (l' := #[oI i0, oI i1, oI i2, oI i3, oI i4, oI s0, oI s1, oI s2, oI (3 : Int32), oI kr, oI s0, oI s1, oI s2, oI (own_max (own_max s0 s1) s2), oI (((s0 + s1) + s2) - (own_max (own_max s0 s1) s2)), oJ (((8 : Int64) * ((own_max (own_max s0 s1) s2).toInt64)) + ((kr.toInt64) * ((((s0 + s1) + s2) - (own_max (own_max s0 s1) s2)).toInt64))), .second, oR h0.size, oF tb, .unset]) rfl k_) ?_
    show own_Go p e below _ T33 (mkF m 149 #[oI i0, oI i1, oI i2, oI i3, oI i4, oI s0, oI s1, oI s2, oI (3 : Int32), oI kr, oI s0, oI s1, oI s2, oI (own_max (own_max s0 s1) s2), oI (((s0 + s1) + s2) - (own_max (own_max s0 s1) s2)), oJ (((8 : Int64) * ((own_max (own_max s0 s1) s2).toInt64)) + ((kr.toInt64) * ((((s0 + s1) + s2) - (own_max (own_max s0 s1) s2)).toInt64))), .second, oR h0.size, oF tb, .unset] [])
    refine own_by (fun t_ k_ => XS.aload XT33.here hx rfl (hb hby at_149) rfl rfl  k_) ?_
    show own_Go p e below _ T33 (mkF m 151 #[oI i0, oI i1, oI i2, oI i3, oI i4, oI s0, oI s1, oI s2, oI (3 : Int32), oI kr, oI s0, oI s1, oI s2, oI (own_max (own_max s0 s1) s2), oI (((s0 + s1) + s2) - (own_max (own_max s0 s1) s2)), oJ (((8 : Int64) * ((own_max (own_max s0 s1) s2).toInt64)) + ((kr.toInt64) * ((((s0 + s1) + s2) - (own_max (own_max s0 s1) s2)).toInt64))), .second, oR h0.size, oF tb, .unset] [(.ref h0.size)])
    refine own_by (fun t_ k_ => XS.iload XT33.here hx rfl (hb hby at_151) rfl  k_) ?_
    show own_Go p e below _ T33 (mkF m 153 #[oI i0, oI i1, oI i2, oI i3, oI i4, oI s0, oI s1, oI s2, oI (3 : Int32), oI kr, oI s0, oI s1, oI s2, oI (own_max (own_max s0 s1) s2), oI (((s0 + s1) + s2) - (own_max (own_max s0 s1) s2)), oJ (((8 : Int64) * ((own_max (own_max s0 s1) s2).toInt64)) + ((kr.toInt64) * ((((s0 + s1) + s2) - (own_max (own_max s0 s1) s2)).toInt64))), .second, oR h0.size, oF tb, .unset] [(.int (3 : Int32)), (.ref h0.size)])
    refine own_by (fun t_ k_ => XS.fload XT33.here hx rfl (hb hby at_153) rfl  k_) ?_
    show own_Go p e below _ T33 (mkF m 155 #[oI i0, oI i1, oI i2, oI i3, oI i4, oI s0, oI s1, oI s2, oI (3 : Int32), oI kr, oI s0, oI s1, oI s2, oI (own_max (own_max s0 s1) s2), oI (((s0 + s1) + s2) - (own_max (own_max s0 s1) s2)), oJ (((8 : Int64) * ((own_max (own_max s0 s1) s2).toInt64)) + ((kr.toInt64) * ((((s0 + s1) + s2) - (own_max (own_max s0 s1) s2)).toInt64))), .second, oR h0.size, oF tb, .unset] [(.float tb), (.int (3 : Int32)), (.ref h0.size)])
    refine own_callS XT33 hx hZ hown (hw _ (List.mem_of_getElem? (i := 9) rfl)) (hw _ (List.mem_of_getElem? (i := 10) rfl)) (hw _ (List.mem_of_getElem? (i := 11) rfl)) (hw _ (List.mem_of_getElem? (i := 12) rfl)) (by decide) eT33 (argsL := [(.ref h0.size), (.int (3 : Int32)), (.float tb)]) (rest := []) (own_bp3 l Z a0 hw h0.size kA kr.toInt tb f0 f1 f2 s0.toInt s1.toInt s2.toInt hT33 VT33 D34 (by omega) (by omega) F0 F1 F2 M0 M1 M2) 0 (by decide) (by decide) (by rw [hml]; rfl) (lenOf pd_1 rfl) (Nat.le_of_eq rfl) (hb hby at_155) (by decide) (by decide) (st := [(.float tb), (.int (3 : Int32)), (.ref h0.size)]) rfl ?_
    intro T35 LT35 vT35 XT35 hQT35
    obtain ⟨⟨r, B, O, rfl, hr, hB, hBO⟩, eT35, rfl⟩ := hQT35
    show own_Go p e below _ T35 (mkF m 158 #[oI i0, oI i1, oI i2, oI i3, oI i4, oI s0, oI s1, oI s2, oI (3 : Int32), oI kr, oI s0, oI s1, oI s2, oI (own_max (own_max s0 s1) s2), oI (((s0 + s1) + s2) - (own_max (own_max s0 s1) s2)), oJ (((8 : Int64) * ((own_max (own_max s0 s1) s2).toInt64)) + ((kr.toInt64) * ((((s0 + s1) + s2) - (own_max (own_max s0 s1) s2)).toInt64))), .second, oR h0.size, oF tb, .unset] [(.float r)])
    have hBr : 0 ≤ B ∧ B ≤ 65535 ∧ 0 ≤ O ∧ O ≤ 131070 := by omega
    have hsm := own_small (k := kr.toInt) (o := O) (by omega) (by omega) (by omega) (by omega)
    refine own_by (fun t_ k_ => XS.fstore XT35.here hx rfl (hb hby at_158) rfl (l' := #[oI i0, oI i1, oI i2, oI i3, oI i4, oI s0, oI s1, oI s2, oI (3 : Int32), oI kr, oI s0, oI s1, oI s2, oI (own_max (own_max s0 s1) s2), oI (((s0 + s1) + s2) - (own_max (own_max s0 s1) s2)), oJ (((8 : Int64) * ((own_max (own_max s0 s1) s2).toInt64)) + ((kr.toInt64) * ((((s0 + s1) + s2) - (own_max (own_max s0 s1) s2)).toInt64))), .second, oR h0.size, oF tb, oF r]) rfl k_) ?_
    show own_Go p e below _ T35 (mkF m 160 #[oI i0, oI i1, oI i2, oI i3, oI i4, oI s0, oI s1, oI s2, oI (3 : Int32), oI kr, oI s0, oI s1, oI s2, oI (own_max (own_max s0 s1) s2), oI (((s0 + s1) + s2) - (own_max (own_max s0 s1) s2)), oJ (((8 : Int64) * ((own_max (own_max s0 s1) s2).toInt64)) + ((kr.toInt64) * ((((s0 + s1) + s2) - (own_max (own_max s0 s1) s2)).toInt64))), .second, oR h0.size, oF tb, oF r] [])
    refine own_by (fun t_ k_ => XS.fload XT35.here hx rfl (hb hby at_160) rfl  k_) ?_
    show own_Go p e below _ T35 (mkF m 162 #[oI i0, oI i1, oI i2, oI i3, oI i4, oI s0, oI s1, oI s2, oI (3 : Int32), oI kr, oI s0, oI s1, oI s2, oI (own_max (own_max s0 s1) s2), oI (((s0 + s1) + s2) - (own_max (own_max s0 s1) s2)), oJ (((8 : Int64) * ((own_max (own_max s0 s1) s2).toInt64)) + ((kr.toInt64) * ((((s0 + s1) + s2) - (own_max (own_max s0 s1) s2)).toInt64))), .second, oR h0.size, oF tb, oF r] [(.float r)])
    refine own_by (fun t_ k_ => XT35.ldcFloatC hx hown (mvT hZ (hw _ (List.mem_of_getElem? (i := 8) rfl))) (g := (mkF m 162 #[oI i0, oI i1, oI i2, oI i3, oI i4, oI s0, oI s1, oI s2, oI (3 : Int32), oI kr, oI s0, oI s1, oI s2, oI (own_max (own_max s0 s1) s2), oI (((s0 + s1) + s2) - (own_max (own_max s0 s1) s2)), oJ (((8 : Int64) * ((own_max (own_max s0 s1) s2).toInt64)) + ((kr.toInt64) * ((((s0 + s1) + s2) - (own_max (own_max s0 s1) s2)).toInt64))), .second, oR h0.size, oF tb, oF r] [(.float r)])) rfl (hb hby at_162) t_ k_) ?_
    show own_Go p e below _ T35 (mkF m 164 #[oI i0, oI i1, oI i2, oI i3, oI i4, oI s0, oI s1, oI s2, oI (3 : Int32), oI kr, oI s0, oI s1, oI s2, oI (own_max (own_max s0 s1) s2), oI (((s0 + s1) + s2) - (own_max (own_max s0 s1) s2)), oJ (((8 : Int64) * ((own_max (own_max s0 s1) s2).toInt64)) + ((kr.toInt64) * ((((s0 + s1) + s2) - (own_max (own_max s0 s1) s2)).toInt64))), .second, oR h0.size, oF tb, oF r] [(.float (1090519040 : UInt32)), (.float r)])
    have D36 := own_F_mul (l := 0) hr own_eight (by simp only [show ((2 ^ 3 : Nat) : Int) = 8 from rfl]; omega) (by decide) (by decide)
    refine own_by (fun t_ k_ => XS.fmulS XT35.here hx rfl (hb hby at_164) rfl (own_F_no D36) rfl k_) ?_
    show own_Go p e below _ T35 (mkF m 165 #[oI i0, oI i1, oI i2, oI i3, oI i4, oI s0, oI s1, oI s2, oI (3 : Int32), oI kr, oI s0, oI s1, oI s2, oI (own_max (own_max s0 s1) s2), oI (((s0 + s1) + s2) - (own_max (own_max s0 s1) s2)), oJ (((8 : Int64) * ((own_max (own_max s0 s1) s2).toInt64)) + ((kr.toInt64) * ((((s0 + s1) + s2) - (own_max (own_max s0 s1) s2)).toInt64))), .second, oR h0.size, oF tb, oF r] [(.float (FP.fmul r (1090519040 : UInt32)))])
    generalize (FP.fmul r (1090519040 : UInt32)) = pr at D36 ⊢
    show own_Go p e below _ T35 (mkF m 165 #[oI i0, oI i1, oI i2, oI i3, oI i4, oI s0, oI s1, oI s2, oI (3 : Int32), oI kr, oI s0, oI s1, oI s2, oI (own_max (own_max s0 s1) s2), oI (((s0 + s1) + s2) - (own_max (own_max s0 s1) s2)), oJ (((8 : Int64) * ((own_max (own_max s0 s1) s2).toInt64)) + ((kr.toInt64) * ((((s0 + s1) + s2) - (own_max (own_max s0 s1) s2)).toInt64))), .second, oR h0.size, oF tb, oF r] [(.float pr)])
    refine own_by (fun t_ k_ => XT.lload XT35.here hx rfl (hb hby at_165) rfl  k_) ?_
    show own_Go p e below _ T35 (mkF m 167 #[oI i0, oI i1, oI i2, oI i3, oI i4, oI s0, oI s1, oI s2, oI (3 : Int32), oI kr, oI s0, oI s1, oI s2, oI (own_max (own_max s0 s1) s2), oI (((s0 + s1) + s2) - (own_max (own_max s0 s1) s2)), oJ (((8 : Int64) * ((own_max (own_max s0 s1) s2).toInt64)) + ((kr.toInt64) * ((((s0 + s1) + s2) - (own_max (own_max s0 s1) s2)).toInt64))), .second, oR h0.size, oF tb, oF r] [(.long (((8 : Int64) * ((own_max (own_max s0 s1) s2).toInt64)) + ((kr.toInt64) * ((((s0 + s1) + s2) - (own_max (own_max s0 s1) s2)).toInt64)))), (.float pr)])
    refine own_by (fun t_ k_ => XS.l2fS XT35.here hx rfl (hb hby at_167) rfl rfl k_) ?_
    show own_Go p e below _ T35 (mkF m 168 #[oI i0, oI i1, oI i2, oI i3, oI i4, oI s0, oI s1, oI s2, oI (3 : Int32), oI kr, oI s0, oI s1, oI s2, oI (own_max (own_max s0 s1) s2), oI (((s0 + s1) + s2) - (own_max (own_max s0 s1) s2)), oJ (((8 : Int64) * ((own_max (own_max s0 s1) s2).toInt64)) + ((kr.toInt64) * ((((s0 + s1) + s2) - (own_max (own_max s0 s1) s2)).toInt64))), .second, oR h0.size, oF tb, oF r] [(.float (FP.l2f (((8 : Int64) * ((own_max (own_max s0 s1) s2).toInt64)) + ((kr.toInt64) * ((((s0 + s1) + s2) - (own_max (own_max s0 s1) s2)).toInt64))))), (.float pr)])
    have z0 : ((0 : Int32)).toInt = 0 := by decide
    have hbest : ((own_max (own_max s0 s1) s2)).toInt = (max (max (max 0 s0.toInt) s1.toInt) s2.toInt) := by rw [own_max_int, own_max_int]; omega
    have hoth : ((((s0 + s1) + s2) - (own_max (own_max s0 s1) s2))).toInt = 0 + (s0).toInt + (s1).toInt + (s2).toInt - (max (max (max 0 s0.toInt) s1.toInt) s2.toInt) := by
      have z0 : ((0 : Int32)).toInt = 0 := by decide
      have a1 := c_iadd s0 s1
      have a2 := c_iadd (s0 + s1) s2
      have b1 := rng32 (s0 + s1)
      have b2 := rng32 ((s0 + s1) + s2)
      have a3 := c_isub ((s0 + s1) + s2) (own_max (own_max s0 s1) s2)
      have b3 := rng32 (((s0 + s1) + s2) - (own_max (own_max s0 s1) s2))
      omega
    have z0 : ((0 : Int32)).toInt = 0 := by decide
    have hO : O = ((((s0 + s1) + s2) - (own_max (own_max s0 s1) s2))).toInt := by omega
    have href : ((((8 : Int64) * ((own_max (own_max s0 s1) s2).toInt64)) + ((kr.toInt64) * ((((s0 + s1) + s2) - (own_max (own_max s0 s1) s2)).toInt64)))).toInt = B * 8 + kr.toInt * O := by
      have e1 := c_i2l (own_max (own_max s0 s1) s2)
      have e2 := c_i2l kr
      have e3 := c_i2l (((s0 + s1) + s2) - (own_max (own_max s0 s1) s2))
      have g1 := c_lmul (8 : Int64) ((own_max (own_max s0 s1) s2).toInt64)
      have g2 := c_lmul (kr.toInt64) ((((s0 + s1) + s2) - (own_max (own_max s0 s1) s2)).toInt64)
      have g3 := c_ladd ((8 : Int64) * ((own_max (own_max s0 s1) s2).toInt64)) ((kr.toInt64) * ((((s0 + s1) + s2) - (own_max (own_max s0 s1) s2)).toInt64))
      have l8 : ((8 : Int64)).toInt = 8 := by decide
      rw [e1, l8] at g1
      rw [e2, e3, ← hO] at g2
      have r1 := rng64 ((8 : Int64) * ((own_max (own_max s0 s1) s2).toInt64))
      have r2 := rng64 ((kr.toInt64) * ((((s0 + s1) + s2) - (own_max (own_max s0 s1) s2)).toInt64))
      have r3 := rng64 (((8 : Int64) * ((own_max (own_max s0 s1) s2).toInt64)) + ((kr.toInt64) * ((((s0 + s1) + s2) - (own_max (own_max s0 s1) s2)).toInt64)))
      generalize kr.toInt * O = kO at *
      omega
    have Fr8 := own_F_l2f (a := (((8 : Int64) * ((own_max (own_max s0 s1) s2).toInt64)) + ((kr.toInt64) * ((((s0 + s1) + s2) - (own_max (own_max s0 s1) s2)).toInt64)))) (by rw [href]; omega)
    have Fr9 := own_F_up Fr8 3
    rw [href] at Fr9
    have hcmp : cmpValue (FP.fcmp pr (FP.l2f (((8 : Int64) * ((own_max (own_max s0 s1) s2).toInt64)) + ((kr.toInt64) * ((((s0 + s1) + s2) - (own_max (own_max s0 s1) s2)).toInt64))))) .l = (0 : Int32) := by
      have q : (B * ((2 ^ 3 : Nat) : Int) + kr.toInt * O) * 8 = (B * 8 + kr.toInt * O) * ((2 ^ 3 : Nat) : Int) := by simp only [show ((2 ^ 3 : Nat) : Int) = 8 from rfl]
      rw [q] at D36
      exact own_feq D36 Fr9
    refine own_by (fun t_ k_ => XS.fcmpS XT35.here hx rfl (hb hby at_168) rfl hcmp k_) ?_
    show own_Go p e below _ T35 (mkF m 169 #[oI i0, oI i1, oI i2, oI i3, oI i4, oI s0, oI s1, oI s2, oI (3 : Int32), oI kr, oI s0, oI s1, oI s2, oI (own_max (own_max s0 s1) s2), oI (((s0 + s1) + s2) - (own_max (own_max s0 s1) s2)), oJ (((8 : Int64) * ((own_max (own_max s0 s1) s2).toInt64)) + ((kr.toInt64) * ((((s0 + s1) + s2) - (own_max (own_max s0 s1) s2)).toInt64))), .second, oR h0.size, oF tb, oF r] [(.int (0 : Int32))])
    refine own_by (fun t_ k_ => XS.ifNo XT35.here hx rfl (hb hby at_169) rfl (XT.i0_ne_f (by decide)) k_) ?_
    show own_Go p e below _ T35 (mkF m 172 #[oI i0, oI i1, oI i2, oI i3, oI i4, oI s0, oI s1, oI s2, oI (3 : Int32), oI kr, oI s0, oI s1, oI s2, oI (own_max (own_max s0 s1) s2), oI (((s0 + s1) + s2) - (own_max (own_max s0 s1) s2)), oJ (((8 : Int64) * ((own_max (own_max s0 s1) s2).toInt64)) + ((kr.toInt64) * ((((s0 + s1) + s2) - (own_max (own_max s0 s1) s2)).toInt64))), .second, oR h0.size, oF tb, oF r] [])
    refine own_by (fun t_ k_ => XT.iconstV XT35.here hx rfl (1 : Int32) (hb hby at_172) (by decide) k_) ?_
    show own_Go p e below _ T35 (mkF m 173 #[oI i0, oI i1, oI i2, oI i3, oI i4, oI s0, oI s1, oI s2, oI (3 : Int32), oI kr, oI s0, oI s1, oI s2, oI (own_max (own_max s0 s1) s2), oI (((s0 + s1) + s2) - (own_max (own_max s0 s1) s2)), oJ (((8 : Int64) * ((own_max (own_max s0 s1) s2).toInt64)) + ((kr.toInt64) * ((((s0 + s1) + s2) - (own_max (own_max s0 s1) s2)).toInt64))), .second, oR h0.size, oF tb, oF r] [(.int (1 : Int32))])
    refine own_by (fun t_ k_ => XS.goto XT35.here hx rfl (pc0 := 173) (pc' := 177) rfl (hb hby at_173) (by decide) (by decide) k_) ?_
    show own_Go p e below _ T35 (mkF m 177 #[oI i0, oI i1, oI i2, oI i3, oI i4, oI s0, oI s1, oI s2, oI (3 : Int32), oI kr, oI s0, oI s1, oI s2, oI (own_max (own_max s0 s1) s2), oI (((s0 + s1) + s2) - (own_max (own_max s0 s1) s2)), oJ (((8 : Int64) * ((own_max (own_max s0 s1) s2).toInt64)) + ((kr.toInt64) * ((((s0 + s1) + s2) - (own_max (own_max s0 s1) s2)).toInt64))), .second, oR h0.size, oF tb, oF r] [(.int (1 : Int32))])
    exact own_retN XT35 hx hlk hret (by simp) (w := (1 : Int32)) (hb hby at_177) (by decide) (by decide) (by decide) (⟨rfl, own_app3 NT33⟩)
set_option maxRecDepth 65536 in
set_option maxHeartbeats 40000000 in
theorem comes_1 {Post : Tables → Env → Array Value → State → Outcome → State → Prop} (hpost : ∀ tb e args s v u, (limb_1_1.after args s (.returned v) u = true ∧ limb_1_2.after args s (.returned v) u = true ∧ True) → FrameEnd s (.returned v) u (Jvm.fieldLocs frame_1_writes args s ++ Jvm.arrayLocs frame_1_arrays args s ++ Jvm.staticLocs frame_1_statics s) 16 128 → Post tb e args s (.returned v) u) :
    ArmFor flags0 classFile x code maxLocals ret World_1 tables_1 room_1 Calls_1 rest_1 Pre_1 Post := by
  intro l hfl _ _ p e ha hc hk s m args below hf hA hF happ hP
  obtain ⟨hcalls, hrest, hpre⟩ := hP
  obtain ⟨-, -, -, hnamed, -, -, -, hat⟩ := (Spec.applies_iff hf).mp happ
  obtain ⟨hg, hn⟩ := and_e (Cond.before_iff.mp (show (Jvm.Cond.and given_1 narrow_1).before args s = true from hpre))
  obtain ⟨g0, rg0⟩ := and_e hg
  obtain ⟨g1, rg1⟩ := and_e rg0
  obtain ⟨g2, rg2⟩ := and_e rg1
  obtain ⟨g3, rg3⟩ := and_e rg2
  obtain ⟨g4, rg4⟩ := and_e rg3
  have g5 := rg4
  obtain ⟨w0, w1, w2, w3, w4, rfl⟩ : ∃ w0 w1 w2 w3 w4 : Value, args = #[w0, w1, w2, w3, w4] := by
    have hs : args.size = 5 := by simpa [Cond.value] using g0
    obtain ⟨L⟩ := args
    match L, hs with
    | [w0, w1, w2, w3, w4], _ => exact ⟨w0, w1, w2, w3, w4, rfl⟩
  have hw := fun d (hd : d ∈ tables_1) => atoms_spec (ws := Jvm.Cond.code x code maxLocals ret :: tables_1) hat d (List.mem_cons_of_mem _ hd)
  obtain ⟨i0, ei0⟩ := is_v g1
  obtain rfl : w0 = (.int i0) := Option.some.inj ei0
  obtain ⟨i1, ei1⟩ := is_v g2
  obtain rfl : w1 = (.int i1) := Option.some.inj ei1
  obtain ⟨i2, ei2⟩ := is_v g3
  obtain rfl : w2 = (.int i2) := Option.some.inj ei2
  obtain ⟨i3, ei3⟩ := is_v g4
  obtain rfl : w3 = (.int i3) := Option.some.inj ei3
  obtain ⟨i4, ei4⟩ := is_v g5
  obtain rfl : w4 = (.int i4) := Option.some.inj ei4
  obtain ⟨n, o, h1, h2, h3, _, L, rfl, ⟨rfl, N⟩, hq⟩ := own_law l s _ hw i0 i1 i2 i3 i4 s.heap p e ha hc hk s m _ below hf ((Spec.applies_iff_loose hf).mp happ).1 ⟨rfl, State.Warmed39.refl s, rfl⟩ trivial
  refine ⟨n, _, h1, h2, h3, hpost _ _ _ _ _ _ ⟨Cond.after_iff.mpr rfl, Cond.after_iff.mpr (eq_i res_at (Term.int_eval (1)) rfl), trivial⟩ ⟨hq.1, hq.2.1, (hq.2.2.sift fun y hy => Or.inr (N y hy)).mono (by decide) (by decide)⟩⟩
theorem main_1_1 : Claimed_1_1 := comes_1 fun _ _ _ _ _ _ h hF => ⟨h.1, hF⟩
theorem main_1_2 : Claimed_1_2 := comes_1 fun _ _ _ _ _ _ h hF => ⟨h.2.1, hF⟩
end Jvm.Pilot.@@N@@
namespace Jvm.Pilot.@@N@@
open Jvm Jvm.ClassFile Sem Op Lib Jvm.Free Jvm.Stand Jvm.Pilot.@@N@@.Jvm.D
/-! MADE BY PROGRAM (witnessworld.py) out of the Statement's table words and the real class files: 12 classes; the members and pool entries that the words name. The judged class is class 1, her method 1. -/
namespace start1
open Jvm.ClassFile
def u (s : String) : CpInfo := .utf8 (stringToUtf16 s)
/-- a pool by its gaps: so many unusable entries, then the entry; so many at the end -/
def gap : Nat → List CpInfo → List CpInfo
  | 0, r => r
  | n + 1, r => .unusable :: gap n r
def poolList (es : List (Nat × CpInfo)) (last : Nat) : List CpInfo := es.foldr (fun e r => gap e.1 (e.2 :: r)) (gap last [])
def pool (es : List (Nat × CpInfo)) (last : Nat) : Array CpInfo := ⟨poolList es last⟩
def fileOf (pool : Array CpInfo) (this : Nat) (attrs : Array Attribute := #[]) (ms : Array MethodInfo := #[]) (fl : Nat := 33) (sup : Nat := 0) (ifs : Array Nat := #[]) (fds : Array FieldInfo := #[]) : ClassFile where
  minorVersion := 0
  majorVersion := 65
  constantPool := pool
  accessFlags := fl
  thisClass := this
  superClass := sup
  interfaces := ifs
  fields := fds
  methods := ms
  attributes := attrs
def plain (name : String) (sup : Option ClassId) : Class where
  name := name
  kind := .ordinary
  loader := none
  accessFlags := 33
  super := sup
  interfaces := #[]
  cf := none
  fields := #[]
  methods := #[]
  instanceTypes := #[]
  staticTypes := #[]
  resolved := #[]
  callSites := []
  init := .initialized
  statics := none
  mirror := none

def pool0 : Array CpInfo := pool [(5, u "<init>"), (0, u "()V"), (1, .class_ 10), (1, u "java/lang/Object")] 113

def k0m0 : Method := { name := "<init>", desc := "()V", sig := { parameters := [], returnType := none }, accessFlags := 1, code := none }
/-- java/lang/Object -/
def k0 : Class := { plain "java/lang/Object" none with
  accessFlags := 33
  interfaces := #[]
  cf := some (fileOf pool0 8 #[] #[{ accessFlags := 1, nameIndex := 5, descriptorIndex := 6, attributes := #[] }] 33 0 #[] #[])
  fields := #[]
  methods := #[k0m0]
  instanceTypes := #[]
  staticTypes := #[]
  resolved := Array.replicate 124 none
  statics := none }

def pool1 : Array CpInfo := pool [(2, .class_ 4), (1, u "java/lang/Object"), (0, u "<init>"), (0, u "()V"), (0, .integer 65535), (0, .integer 2147483647), (0, .methodref 10 11), (0, .class_ 12), (0, .nameAndType 13 14), (0, u "java/lang/Math"), (0, u "max"), (0, u "(II)I"), (0, .long 8), (1, .float 1090519040), (0, .methodref 19 20), (0, .class_ 21), (0, .nameAndType 22 23), (0, u "com/example/weighted_terms/weightedterms/search/Scores"), (0, u "bestPlus"), (0, u "([FIF)F"), (0, .class_ 25), (0, u "com/example/weighted_terms/weightedterms/search/ScoresBestPlusPinLaw"), (2, u "law"), (0, u "(IIIII)Z")] 5

def k1m0 : Method := { name := "<init>", desc := "()V", sig := { parameters := [], returnType := none }, accessFlags := 2, code := none }
def k1c1 : Code := { maxStack := 6, maxLocals := 20, code := code, exceptionTable := #[], attributes := #[] }
def k1m1 : Method := { name := "law", desc := "(IIIII)Z", sig := { parameters := [.int, .int, .int, .int, .int], returnType := some .boolean }, accessFlags := 9, code := some k1c1 }
/-- com/example/weighted_terms/weightedterms/search/ScoresBestPlusPinLaw -/
def k1 : Class := { plain "com/example/weighted_terms/weightedterms/search/ScoresBestPlusPinLaw" (some 0) with
  accessFlags := 49
  interfaces := #[]
  cf := some (fileOf pool1 24 #[] #[{ accessFlags := 2, nameIndex := 5, descriptorIndex := 6, attributes := #[] }, { accessFlags := 9, nameIndex := 28, descriptorIndex := 29, attributes := #[] }] 49 2 #[] #[])
  fields := #[]
  methods := #[k1m0, k1m1]
  instanceTypes := #[]
  staticTypes := #[]
  resolved := Array.replicate 35 none
  statics := none }

def pool2 : Array CpInfo := pool [(1, .class_ 2), (0, u "java/lang/Math"), (1, .class_ 6), (1, u "java/lang/Object"), (0, u "<init>"), (0, u "()V"), (89, .class_ 100), (1, u "java/lang/Math$RandomNumberGeneratorHolder"), (71, u "negativeZeroFloatBits"), (0, u "J"), (2, u "negativeZeroDoubleBits"), (21, u "max"), (46, u "$assertionsDisabled"), (0, u "Z"), (88, u "(II)I"), (2, u "twoToTheDoubleScaleDown"), (0, u "D"), (4, u "twoToTheDoubleScaleUp"), (9, u "E"), (3, u "PI"), (2, u "TAU"), (2, u "DEGREES_TO_RADIANS"), (0, u "RADIANS_TO_DEGREES")] 94

def k2m0 : Method := { name := "<init>", desc := "()V", sig := { parameters := [], returnType := none }, accessFlags := 2, code := none }
def k2c1 : Code := { maxStack := 2, maxLocals := 2, code := jdk_29_method_65_code, exceptionTable := #[], attributes := #[] }
def k2m1 : Method := { name := "max", desc := "(II)I", sig := { parameters := [.int, .int], returnType := some .int }, accessFlags := 9, code := some k2c1 }
/-- java/lang/Math -/
def k2 : Class := { plain "java/lang/Math" (some 0) with
  accessFlags := 49
  interfaces := #[]
  cf := some (fileOf pool2 1 #[.nestMembers #[98]] #[{ accessFlags := 2, nameIndex := 7, descriptorIndex := 8, attributes := #[] }, { accessFlags := 9, nameIndex := 198, descriptorIndex := 335, attributes := #[] }] 49 4 #[] #[{ accessFlags := 25, nameIndex := 354, descriptorIndex := 339, attributes := #[] }, { accessFlags := 25, nameIndex := 358, descriptorIndex := 339, attributes := #[] }, { accessFlags := 25, nameIndex := 361, descriptorIndex := 339, attributes := #[] }, { accessFlags := 26, nameIndex := 364, descriptorIndex := 339, attributes := #[] }, { accessFlags := 26, nameIndex := 365, descriptorIndex := 339, attributes := #[] }, { accessFlags := 26, nameIndex := 172, descriptorIndex := 173, attributes := #[] }, { accessFlags := 26, nameIndex := 176, descriptorIndex := 173, attributes := #[] }, { accessFlags := 8, nameIndex := 344, descriptorIndex := 339, attributes := #[] }, { accessFlags := 8, nameIndex := 338, descriptorIndex := 339, attributes := #[] }, { accessFlags := 4120, nameIndex := 245, descriptorIndex := 246, attributes := #[] }])
  fields := #[{ name := "E", type := .double, accessFlags := 25, slot := 0, constantValue := 0 }, { name := "PI", type := .double, accessFlags := 25, slot := 1, constantValue := 0 }, { name := "TAU", type := .double, accessFlags := 25, slot := 2, constantValue := 0 }, { name := "DEGREES_TO_RADIANS", type := .double, accessFlags := 26, slot := 3, constantValue := 0 }, { name := "RADIANS_TO_DEGREES", type := .double, accessFlags := 26, slot := 4, constantValue := 0 }, { name := "negativeZeroFloatBits", type := .long, accessFlags := 26, slot := 5, constantValue := 0 }, { name := "negativeZeroDoubleBits", type := .long, accessFlags := 26, slot := 6, constantValue := 0 }, { name := "twoToTheDoubleScaleUp", type := .double, accessFlags := 8, slot := 7, constantValue := 0 }, { name := "twoToTheDoubleScaleDown", type := .double, accessFlags := 8, slot := 8, constantValue := 0 }, { name := "$assertionsDisabled", type := .boolean, accessFlags := 4120, slot := 9, constantValue := 0 }]
  methods := #[k2m0, k2m1]
  instanceTypes := #[]
  staticTypes := #[.double, .double, .double, .double, .double, .long, .long, .double, .double, .boolean]
  resolved := Array.replicate 460 none
  statics := none }

def pool3 : Array CpInfo := pool [(2, .class_ 4), (1, u "java/lang/Object"), (0, u "<init>"), (0, u "()V"), (1, .class_ 10), (1, u "com/example/weighted_terms/weightedterms/search/Scores"), (8, u "bestPlus"), (0, u "([FIF)F")] 35

def k3m0 : Method := { name := "<init>", desc := "()V", sig := { parameters := [], returnType := none }, accessFlags := 2, code := none }
def k3c1 : Code := { maxStack := 6, maxLocals := 8, code := prog_41_method_4_code, exceptionTable := #[], attributes := #[] }
def k3m1 : Method := { name := "bestPlus", desc := "([FIF)F", sig := { parameters := [(.array .float), .int, .float], returnType := some .float }, accessFlags := 8, code := some k3c1 }
/-- com/example/weighted_terms/weightedterms/search/Scores -/
def k3 : Class := { plain "com/example/weighted_terms/weightedterms/search/Scores" (some 0) with
  accessFlags := 48
  interfaces := #[]
  cf := some (fileOf pool3 8 #[] #[{ accessFlags := 2, nameIndex := 5, descriptorIndex := 6, attributes := #[] }, { accessFlags := 8, nameIndex := 19, descriptorIndex := 20, attributes := #[] }] 48 2 #[] #[])
  fields := #[]
  methods := #[k3m0, k3m1]
  instanceTypes := #[]
  staticTypes := #[]
  resolved := Array.replicate 56 none
  statics := none }

def pool4 : Array CpInfo := pool [(1, u "java/lang/Cloneable"), (0, .class_ 1), (0, u "java/lang/Object"), (0, .class_ 3)] 3

/-- java/lang/Cloneable -/
def k4 : Class := { plain "java/lang/Cloneable" (some 0) with
  accessFlags := 1537
  interfaces := #[]
  cf := some (fileOf pool4 2 #[] #[] 1537 4 #[] #[])
  fields := #[]
  methods := #[]
  instanceTypes := #[]
  staticTypes := #[]
  resolved := Array.replicate 8 none
  statics := none }

def pool5 : Array CpInfo := pool [(1, u "java/io/Serializable"), (0, .class_ 1), (0, u "java/lang/Object"), (0, .class_ 3)] 3

/-- java/io/Serializable -/
def k5 : Class := { plain "java/io/Serializable" (some 0) with
  accessFlags := 1537
  interfaces := #[]
  cf := some (fileOf pool5 2 #[] #[] 1537 4 #[] #[])
  fields := #[]
  methods := #[]
  instanceTypes := #[]
  staticTypes := #[]
  resolved := Array.replicate 8 none
  statics := none }

/-- the primitive byte -/
def k6 : Class := { plain "byte" none with kind := .primitive 'B', accessFlags := 0x411 }
/-- [B -/
def k7 : Class := { plain "[B" (some 0) with kind := .array 6 .byte, interfaces := #[4, 5], accessFlags := 1041 }

/-- the primitive float -/
def k8 : Class := { plain "float" none with kind := .primitive 'F', accessFlags := 0x411 }
/-- [F -/
def k9 : Class := { plain "[F" (some 0) with kind := .array 8 .float, interfaces := #[4, 5], accessFlags := 1041 }

/-- the primitive int -/
def k10 : Class := { plain "int" none with kind := .primitive 'I', accessFlags := 0x411 }
/-- [I -/
def k11 : Class := { plain "[I" (some 0) with kind := .array 10 .int, interfaces := #[4, 5], accessFlags := 1041 }

def heap : Heap := #[]
def classes : Array Class := #[k0, k1, k2, k3, k4, k5, k6, k7, k8, k9, k10, k11]
def interned : List (Array UInt16 × Addr) := []
def slotsUsed : Nat := 0
def theMethod : MethodId := ⟨1, 1⟩
def args0 : Array Value := #[.int 5, .int 3, .int 4, .int 3, .int 3]
def aboutOver (below : List Frame) : State where
  vm := { classes := classes, interned := interned.toArray }
  heap := heap
  slotsUsed := slotsUsed
  threads := #[{ frames := .invoking theMethod args0 :: below }]
def below0 : List Frame := [.native { method := ⟨0, 0⟩, args := #[] }]
def about1 : State := aboutOver below0
def p0 : Program := .bare "" "" ""
def e0 : Env := launch0.env 0 0 0
theorem w_frames : about1.frames = Frame.invoking theMethod args0 :: below0 := rfl
set_option maxRecDepth 65536 in
theorem w_args : argsFit about1.vm theMethod args0 = true := by decide +kernel
set_option maxRecDepth 65536 in
theorem w_heap : heapFits about1 = true := by decide +kernel
set_option maxRecDepth 65536 in
theorem w_runnable : about1.curStatus? = some .runnable := by decide +kernel
set_option maxRecDepth 65536 in
theorem w_alone : about1.alone = true := by decide +kernel
set_option maxRecDepth 65536 in
theorem w_named : about1.methodNamed? x = some theMethod := by decide +kernel
set_option maxRecDepth 65536 in
theorem w_hears : about1.hears theMethod below0 = true := by decide +kernel
set_option maxRecDepth 65536 in
theorem w_ripe : about1.ripe theMethod args0 below0 = true := by decide +kernel
theorem w_running : about1.status = .running := rfl
set_option maxRecDepth 65536 in
theorem w_room : about1.hasRoom e0.platform room_1 = true :=
  launch0.hasRoom_least _ room_1 (by decide +kernel) (by decide +kernel) (by decide +kernel) (by decide +kernel) (by decide +kernel) (by decide +kernel)
theorem allAtoms_all (ts : List Jvm.Cond) (a : Array Jvm.Value) (st : Jvm.State) : (allAtoms ts).before a st = ts.all (fun c => c.before a st) := by
  induction ts with
  | nil => rfl
  | cons c t ih =>
    show (Jvm.Cond.and c (allAtoms t)).before a st = _
    rw [Jvm.Cond.before_and, ih, List.all_cons]
def words1 : List Jvm.Cond := Jvm.Cond.code x code maxLocals ret :: tables_1
/-- a 'code' word, met by the world's own term for the bytes: nothing is compared byte by byte -/
theorem code_word {y : MethodName} {bytes : ByteArray} {mx : Nat} {rt : Option FieldType} {a : Array Value} {s : State} {m : MethodId} {meth : Method} {c : Code} (h1 : s.methodNamed? y = some m) (h2 : s.vm.method? m = some meth) (h3 : meth.code = some c) (h4 : c.code = bytes)
    (h5 : (c.maxLocals == mx && c.exceptionTable.isEmpty && decide (c.maxStack ≤ mostOperands) && decide (meth.sig.returnType = rt) && !meth.locks && decide (parseMethodDescriptor y.desc = some meth.sig)) = true) : (Jvm.Cond.code y bytes mx rt).before a s = true := by
  simp only [Bool.and_eq_true, beq_iff_eq, Bool.not_eq_true', decide_eq_true_eq] at h5
  obtain ⟨⟨⟨⟨⟨g1, g2⟩, g3⟩, g4⟩, g5⟩, g6⟩ := h5
  simp [Cond.before, Cond.holds, Cond.value, h1, h2, h3, h4, g1, g2, g3, g4, g5, g6]
def isCode : Jvm.Cond → Bool
  | .code _ _ _ _ => true
  | _ => false
theorem all_split {L : List Jvm.Cond} {P : Jvm.Cond → Bool} (h1 : L.all (fun c => isCode c || P c) = true) (h2 : ∀ c ∈ L.filter isCode, P c = true) : L.all P = true := by
  refine List.all_eq_true.mpr fun c hc => ?_
  have h := List.all_eq_true.mp h1 c hc
  rcases Bool.eq_false_or_eq_true (isCode c) with hi | hi
  · exact h2 c (List.mem_filter.mpr ⟨hc, hi⟩)
  · simpa [hi] using h
set_option maxRecDepth 65536 in
theorem w_c0 : (Jvm.Cond.code x code maxLocals ret).before args0 about1 = true := code_word (m := ⟨1, 1⟩) (meth := k1m1) (c := k1c1) (by decide +kernel) rfl rfl rfl (by decide +kernel)
set_option maxRecDepth 65536 in
theorem w_c1 : (Jvm.Cond.code ({ cls := "java/lang/Math", name := "max", desc := "(II)I" } : Jvm.MethodName) jdk_29_method_65_code (2 : Nat) (Option.some Jvm.ClassFile.FieldType.int)).before args0 about1 = true := code_word (m := ⟨2, 1⟩) (meth := k2m1) (c := k2c1) (by decide +kernel) rfl rfl rfl (by decide +kernel)
set_option maxRecDepth 65536 in
theorem w_c2 : (Jvm.Cond.code ({ cls := "com/example/weighted_terms/weightedterms/search/Scores", name := "bestPlus", desc := "([FIF)F" } : Jvm.MethodName) prog_41_method_4_code (8 : Nat) (Option.some Jvm.ClassFile.FieldType.float)).before args0 about1 = true := code_word (m := ⟨3, 1⟩) (meth := k3m1) (c := k3c1) (by decide +kernel) rfl rfl rfl (by decide +kernel)
def codes1 : List Jvm.Cond := [Jvm.Cond.code x code maxLocals ret, Jvm.Cond.code ({ cls := "java/lang/Math", name := "max", desc := "(II)I" } : Jvm.MethodName) jdk_29_method_65_code (2 : Nat) (Option.some Jvm.ClassFile.FieldType.int), Jvm.Cond.code ({ cls := "com/example/weighted_terms/weightedterms/search/Scores", name := "bestPlus", desc := "([FIF)F" } : Jvm.MethodName) prog_41_method_4_code (8 : Nat) (Option.some Jvm.ClassFile.FieldType.float)]
set_option maxRecDepth 65536 in
theorem codes_eq : words1.filter isCode = codes1 := rfl
theorem w_codes : ∀ c ∈ words1.filter isCode, c.before args0 about1 = true := by
  rw [codes_eq]
  intro c hc
  simp only [codes1, List.mem_cons, List.not_mem_nil, or_false] at hc
  rcases hc with rfl | rfl | rfl
  · exact w_c0
  · exact w_c1
  · exact w_c2
set_option maxRecDepth 65536 in
theorem w_t1 : words1.all (fun c => isCode c || c.before args0 about1) = true := by decide +kernel
theorem w_tables : (allAtoms (Jvm.Cond.code x code maxLocals ret :: tables_1)).before args0 about1 = true := by
  rw [allAtoms_all]
  show words1.all (fun c => c.before args0 about1) = true
  refine all_split ?_ w_codes
  rw [w_t1]
set_option maxRecDepth 65536 in
theorem w_case : (Jvm.Cond.and given_1 narrow_1).before args0 about1 = true := by decide +kernel
theorem w_applies : (headSpec (Jvm.Cond.code x code maxLocals ret :: tables_1) room_1).applies x e0.platform about1 = true :=
  (Spec.applies_iff w_frames).mpr ⟨w_running, w_runnable, w_alone, w_named, w_hears, w_ripe, w_room, w_tables⟩
theorem atStart : AtStart classFile x code maxLocals ret World_1 tables_1 room_1 Calls_1 rest_1 Pre_1 launch0 p0 e0 about1 theMethod args0 below0 :=
  ⟨lists_1, trivial, launch0.admits_env _ _ _, launch0.least_env, fairChoices_fair.cas, fairChoices_fair.clock, w_frames, w_args, w_heap, w_applies, trivial, trivial, w_case⟩
end start1
theorem witness_1 : WitnessClaimed_1 := ⟨start1.p0, start1.e0, start1.about1, start1.theMethod, start1.args0, start1.below0, start1.atStart⟩
end Jvm.Pilot.@@N@@
