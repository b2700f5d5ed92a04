import JvmDerived
import JvmDerived.Pilot.@@N@@Statement
import JvmDerived.Pilot.@@N@@Code
set_option linter.unusedVariables false
set_option linter.unusedSimpArgs false
namespace Jvm.Pilot.@@N@@
open Jvm Jvm.ClassFile Sem Op Lib Jvm.Free Jvm.Stand Jvm.LawKit Jvm.RoadKit Bundle Jvm.Pilot.@@N@@.Jvm.D
abbrev oI (x : Int32) : Slot := .val (.int x)
abbrev oR (x : Addr) : Slot := .val (.ref x)
abbrev oD (x : UInt64) : Slot := .val (.double x)
abbrev oF (x : UInt32) : Slot := .val (.float x)
abbrev oJ (x : Int64) : Slot := .val (.long x)
section Own
variable {p : Program} {l : Launch} {e : Env} {R : Room} {s : State} {m : MethodId} {args : Array Value} {below : List Frame} {meth : Method} {c : Code} {T T' : State} {locs : List Loc} {cells slots : Nat} {Z : State} {a0 : Array Value} {h h0 : Heap} {K : State → Outcome → Prop} {Q : Option Value → Heap → List Loc → Prop}
/-- from the frame g over the state T the run comes to an end that K takes -/
def own_Go (p : Program) (e : Env) (below : List Frame) (K : State → Outcome → Prop) (T : State) (g : JFrame) : Prop :=
  ∃ s₂ o, Steps p.tables e below (T.setTop g) s₂ ∧ s₂.status = .running ∧ Ended s₂ below o ∧ K s₂ o
theorem own_by {g g' : JFrame} (h : ∀ t, Steps p.tables e below (T'.setTop g') t → Steps p.tables e below (T.setTop g) t) (k : own_Go p e below K T' g') : own_Go p e below K T g := by
  obtain ⟨s2, o, h1, h2⟩ := k
  exact ⟨s2, o, h _ h1, h2⟩
def own_K (s : State) (k n : Nat) (Q : Option Value → Heap → List Loc → Prop) (t : State) (o : Outcome) : Prop := ∃ v L, o = .returned v ∧ Q v t.heap L ∧ FrameEnd s o t L k n
def own_Met (l : Launch) (y : MethodName) (bytes : ByteArray) (mx : Nat) (ret : Option FieldType) (ws : List Jvm.Cond) (rm : Room) (Z : State) (as' : Array Value) (h0 : Heap) (Q : Option Value → Heap → List Loc → Prop) : Prop :=
  MetFree l y (head1 (Jvm.Cond.code y bytes mx ret :: ws) rm) (fun a U => a = as' ∧ Z.Warmed39 U.vm ∧ U.heap = h0) (fun _ _ _ _ _ => True) (fun _ U o U' => ∃ v L, o = .returned v ∧ Q v U'.heap L ∧ FrameEnd U o U' L rm.cells rm.slots)
theorem own_enter {y : MethodName} {bytes : ByteArray} {mx : Nat} {ret : Option FieldType} {ws : List Jvm.Cond} {rm : Room} {as' : Array Value} (hn : plainFor y = true)
    (body : ∀ (p : Program) (e : Env) (s : State) (m : MethodId) (below : List Frame) (meth : Method) (c : Code) (T0 : State), p.tables.exec = Jvm.exec → c.code = bytes → c.maxLocals = mx → meth.sig.returnType = ret → meth.locks = false → s.vm.findClass y.cls = some m.cls → meth.name = y.name → Z.Warmed39 s.vm →
      Stand p l e rm s m as' below meth c T0 [] 0 0 → T0.heap = h0 → own_Go p e below (own_K s rm.cells rm.slots Q) T0 (entryFrame m as' mx)) : own_Met l y bytes mx ret ws rm Z as' h0 Q := by
  refine MetFree.of_bodySF hn hisR ?_
  intro p e s m args below meth c s₁ Bd hml hP hK
  obtain ⟨rfl, hZ, hh⟩ := hP
  obtain ⟨s2, o, h1, h2, h3, h4⟩ := body p e s m below meth c s₁ Bd.exec Bd.bytes hml Bd.returns Bd.notSynchronized (findClass_of_methodNamed Bd.named) (name_of_methodNamed Bd.named Bd.method).1 hZ (Stand.of_body Bd) (by rw [← hh, Bd.state]; rfl)
  exact ⟨s2, o, h1, h2, h3, h4⟩
theorem own_at {g g' : JFrame} (q : g = g') (k : own_Go p e below K T g') : own_Go p e below K T g := q ▸ k
theorem own_leave (X : Stand p l e R s m args below meth c T locs cells slots) (hlk : meth.locks = false) {v : Option Value} {k n : Nat} (hv : meth.sig.returnType = none → v = none) {g : JFrame}
    (step : ∀ fs, (∀ (f : JFrame) (acts : List Action), f.method = m → f.locked = none → f.entered = [] → (doReturn e (T.setTop f) acts v).1 = T.setFrames fs) → Steps p.tables e below (T.setTop g) (T.setFrames fs)) (hk : cells ≤ k) (hn : slots ≤ n) (hQ : Q v T.heap locs) : own_Go p e below (own_K s k n Q) T g := by
  obtain ⟨fs, hr, hrun, hended, hW, hsame⟩ := X.leave (v := v) hv hlk
  exact ⟨_, _, step fs hr, hrun, hended, v, locs, rfl, hQ, ⟨_, rfl⟩, hW, hsame.mono hk hn⟩
theorem own_retI (X : Stand p l e R s m args below meth c T locs cells slots) (hx : p.tables.exec = Jvm.exec) (hlk : meth.locks = false) (hret : meth.sig.returnType = some .int) {pc : Nat} {Ls : Array Slot} {z : Int32} {rest : List Value} {k n : Nat} (hd : decode c.code pc = .ok (.ireturn, 1)) (hk : cells ≤ k) (hn : slots ≤ n) (hQ : Q (some (.int z)) T.heap locs) :
    own_Go p e below (own_K s k n Q) T (mkF m pc Ls (.int z :: rest)) := by
  refine own_leave X hlk (v := some (.int z)) (fun h => by rw [hret] at h; cases h) (fun fs hl => ?_) hk hn hQ
  have hm' : T.vm.method? m = some meth := X.method'
  have hn : narrow .int (.int z) = .int z := rfl
  show Steps p.tables e below (T.setTop { method := m, pc := pc, locals := Ls, stack := _ :: rest, locked := none }) _
  jvm_step X.here [X.here.top, hx, hd, hm', hret, hn]
  first | (intro acts; rw [hl _ acts rfl rfl rfl]) | rw [hl _ _ rfl rfl rfl]
  exact Steps.refl _
theorem own_retN (X : Stand p l e R s m args below meth c T locs cells slots) (hx : p.tables.exec = Jvm.exec) (hlk : meth.locks = false) {t : FieldType} (hret : meth.sig.returnType = some t) (ht : t = .boolean ∨ t = .byte ∨ t = .char ∨ t = .short) {pc : Nat} {Ls : Array Slot} {z w : Int32} {rest : List Value} {k n : Nat} (hd : decode c.code pc = .ok (.ireturn, 1)) (hw : nar t z = w) (hk : cells ≤ k) (hn : slots ≤ n) (hQ : Q (some (.int w)) T.heap locs) :
    own_Go p e below (own_K s k n Q) T (mkF m pc Ls (.int z :: rest)) := by
  subst hw
  exact own_leave X hlk (v := some (.int (nar t z))) (fun h => by rw [hret] at h; cases h) (fun fs hl => retN X hx hret ht hd hl) hk hn hQ
theorem own_retA (X : Stand p l e R s m args below meth c T locs cells slots) (hx : p.tables.exec = Jvm.exec) (hlk : meth.locks = false) {t : FieldType} (hret : meth.sig.returnType = some t) (ht : t.isReference = true) {pc : Nat} {Ls : Array Slot} {v : Value} (hv : v.isRef = true) {rest : List Value} {k n : Nat} (hd : decode c.code pc = .ok (.areturn, 1)) (hk : cells ≤ k) (hn : slots ≤ n) (hQ : Q (some v) T.heap locs) :
    own_Go p e below (own_K s k n Q) T (mkF m pc Ls (v :: rest)) :=
  own_leave X hlk (v := some v) (fun h => by rw [hret] at h; cases h) (fun fs hl => retOut X hx hret (by cases t <;> first | (cases ht; done) | (rcases ref_cases hv with rfl | ⟨a, rfl⟩ <;> rfl)) (Or.inr (Or.inr (Or.inr (Or.inr ⟨rfl, ht, hv⟩)))) hd hl) hk hn hQ
theorem own_retV (X : Stand p l e R s m args below meth c T locs cells slots) (hx : p.tables.exec = Jvm.exec) (hlk : meth.locks = false) (hret : meth.sig.returnType = none) {pc : Nat} {Ls : Array Slot} {k n : Nat} (hd : decode c.code pc = .ok (.return_, 1)) (hk : cells ≤ k) (hn : slots ≤ n) (hQ : Q none T.heap locs) :
    own_Go p e below (own_K s k n Q) T (mkF m pc Ls []) :=
  own_leave X hlk (v := none) (fun _ => rfl) (fun fs hl => X.returnOut hx hret hd hl) hk hn hQ
theorem own_callS (X : Stand p l e R s m args below meth c T locs cells slots) (hx : p.tables.exec = Jvm.exec) (hZ : Z.Warmed39 s.vm) {own : String} {index : Nat} {y : MethodName} {bytes : ByteArray} {mx : Nat} {ret : Option FieldType} {rm : Room} (hown : s.vm.findClass own = some m.cls) (w1 : (Jvm.Cond.methodLink own index y).before a0 Z = true) (w2 : (Jvm.Cond.static y).before a0 Z = true) (w3 : (Jvm.Cond.initialized y.cls).before a0 Z = true) (w4 : (Jvm.Cond.code y bytes mx ret).before a0 Z = true)
    (hy : y.cls ≠ "java/lang/invoke/MethodHandle" ∧ y.cls ≠ "java/lang/invoke/VarHandle") (eT : T.heap = h) {argsL rest : List Value} (M : own_Met l y bytes mx ret [] rm Z argsL.toArray h Q) (W : Nat) (hf : rm.frames + 1 ≤ R.frames) (hl : W + (mx + 11) + rm.locals ≤ R.locals) {pc : Nat} {Ls : Array Slot} (hsize : Ls.size = c.maxLocals)
    (hlen : ∀ sig, parseMethodDescriptor y.desc = some sig → argsL.length = sig.parameters.length) (hW : (rest.map fun v => v.category).sum ≤ W) (hd : decode c.code pc = .ok (.invokestatic index, 3)) (hc : cells + rm.cells ≤ R.cells) (hs : slots + rm.slots ≤ R.slots) {st : List Value} (hst : st = argsL.reverse ++ rest)
    (k : ∀ (T' : State) (L : List Loc) (v : Option Value), Stand p l e R s m args below meth c T' (locs ++ L) (cells + rm.cells) (slots + rm.slots) → Q v T'.heap L → own_Go p e below K T' (mkF m (pc + 3) Ls (v.toList ++ rest))) : own_Go p e below K T (mkF m pc Ls st) := by
  obtain ⟨v, _, ⟨T1, L1, k1, n1⟩, -, X1, ⟨Lc, hQ, l1, y1, z1⟩, stp⟩ := Jvm.LawKit.callS X hx hown (mvT hZ w1) (mvT hZ w2) (mvT hZ w3) (mvT hZ w4) hy (backOf (W := W) M hZ w4 w3 hf hl) (g := mkF m pc Ls st) rfl hsize (argsL := argsL) (rest := rest) hlen hst (by show 2 * 0 + _ ≤ _; omega) hd (fun _ _ => ⟨rfl, eT, hc, hs⟩)
  dsimp only [Pt.U, Pt.locs, Pt.cells, Pt.slots] at X1 l1 y1 z1 stp hQ
  subst l1 y1 z1
  exact own_by stp (k T1 Lc v X1 hQ)
theorem own_callV (X : Stand p l e R s m args below meth c T locs cells slots) (hx : p.tables.exec = Jvm.exec) (hZ : Z.Warmed39 s.vm) {own C : String} {index : Nat} {y : MethodName} {bytes : ByteArray} {mx : Nat} {ret : Option FieldType} {rm : Room} (hown : s.vm.findClass own = some m.cls) (w1 : (Jvm.Cond.methodLink own index y).before a0 Z = true) (w2 : (Jvm.Cond.declares y).before a0 Z = true) (w3 : (Jvm.Cond.selects C y y).before a0 Z = true) (w4 : (Jvm.Cond.instanceMethod y).before a0 Z = true) (w5 : (Jvm.Cond.code y bytes mx ret).before a0 Z = true) (w6 : (Jvm.Cond.initialized y.cls).before a0 Z = true)
    (hy : y.cls ≠ "java/lang/invoke/MethodHandle" ∧ y.cls ≠ "java/lang/invoke/VarHandle") (eT : T.heap = h) {b : Addr} (E : Exa Z h b C) {argsL rest : List Value} (M : own_Met l y bytes mx ret [] rm Z (.ref b :: argsL).toArray h Q) (W : Nat) (hf : rm.frames + 1 ≤ R.frames) (hl : W + (mx + 11) + rm.locals ≤ R.locals) {pc : Nat} {Ls : Array Slot} (hsize : Ls.size = c.maxLocals)
    (hlen : ∀ sig, parseMethodDescriptor y.desc = some sig → argsL.length = sig.parameters.length) (hW : (rest.map fun v => v.category).sum ≤ W) (hd : decode c.code pc = .ok (.invokevirtual index, 3)) (hc : cells + rm.cells ≤ R.cells) (hs : slots + rm.slots ≤ R.slots) {st : List Value} (hst : st = argsL.reverse ++ .ref b :: rest)
    (k : ∀ (T' : State) (L : List Loc) (v : Option Value), Stand p l e R s m args below meth c T' (locs ++ L) (cells + rm.cells) (slots + rm.slots) → Q v T'.heap L → own_Go p e below K T' (mkF m (pc + 3) Ls (v.toList ++ rest))) : own_Go p e below K T (mkF m pc Ls st) := by
  obtain ⟨cq, kq, qa, qb, qc⟩ := isOf (T := T) hZ eT E
  obtain ⟨v, _, ⟨T1, L1, k1, n1⟩, -, X1, ⟨Lc, hQ, l1, y1, z1⟩, stp⟩ := X.virtualBack hx hown (mvT hZ w1) (mvT hZ w2) (notFace_of_selects (args := #[]) (mvT hZ w3)) (mvT hZ w3) (mvT hZ w4) hy (backOf (W := W) M hZ w5 w6 hf hl) qa qc (g := mkF m pc Ls st) rfl hsize (Steps.refl _) (argsL := argsL) (rest := rest) hlen hst (by show 2 * 0 + _ ≤ _; omega) hd (fun _ _ => ⟨rfl, eT, hc, hs⟩)
  dsimp only [Pt.U, Pt.locs, Pt.cells, Pt.slots] at X1 l1 y1 z1 stp hQ
  subst l1 y1 z1
  exact own_by (fun t q => stp.trans q) (k T1 Lc v X1 hQ)
theorem own_callN (X : Stand p l e R s m args below meth c T locs cells slots) (hx : p.tables.exec = Jvm.exec) (hZ : Z.Warmed39 s.vm) {own : String} {index : Nat} {y : MethodName} {bytes : ByteArray} {mx : Nat} {rm : Room} (hy1 : y.name = "<init>") (hown : s.vm.findClass own = some m.cls) (w1 : (Jvm.Cond.methodLink own index y).before a0 Z = true) (w2 : (Jvm.Cond.instanceMethod y).before a0 Z = true) (w3 : (Jvm.Cond.code y bytes mx none).before a0 Z = true) (w4 : (Jvm.Cond.initialized y.cls).before a0 Z = true)
    (hy : y.cls ≠ "java/lang/invoke/MethodHandle" ∧ y.cls ≠ "java/lang/invoke/VarHandle") (eT : T.heap = h) {b : Addr} {argsL rest : List Value} (M : own_Met l y bytes mx none [] rm Z (.ref b :: argsL).toArray h Q) (W : Nat) (hf : rm.frames + 1 ≤ R.frames) (hl : W + (mx + 11) + rm.locals ≤ R.locals) {pc : Nat} {Ls : Array Slot} (hsize : Ls.size = c.maxLocals)
    (hlen : ∀ sig, parseMethodDescriptor y.desc = some sig → argsL.length = sig.parameters.length) (hW : (rest.map fun v => v.category).sum ≤ W) (hd : decode c.code pc = .ok (.invokespecial index, 3)) (hc : cells + rm.cells ≤ R.cells) (hs : slots + rm.slots ≤ R.slots) {st : List Value} (hst : st = argsL.reverse ++ .ref b :: rest)
    (k : ∀ (T' : State) (L : List Loc) (v : Option Value), Stand p l e R s m args below meth c T' (locs ++ L) (cells + rm.cells) (slots + rm.slots) → Q v T'.heap L → own_Go p e below K T' (mkF m (pc + 3) Ls (v.toList ++ rest))) : own_Go p e below K T (mkF m pc Ls st) := by
  obtain ⟨v, _, ⟨T1, L1, k1, n1⟩, -, X1, ⟨Lc, hQ, l1, y1, z1⟩, stp⟩ := X.specialBack hx hy1 hown (mvT hZ w1) (mvT hZ w2) (mvT hZ w3) hy (backOf (W := W) M hZ w3 w4 hf hl) (g := mkF m pc Ls st) rfl hsize (Steps.refl _) (a := b) (argsL := argsL) (rest := rest) hlen hst (by show 2 * 0 + _ ≤ _; omega) hd (fun _ _ => ⟨rfl, eT, hc, hs⟩)
  dsimp only [Pt.U, Pt.locs, Pt.cells, Pt.slots] at X1 l1 y1 z1 stp hQ
  subst l1 y1 z1
  exact own_by (fun t q => stp.trans q) (k T1 Lc v X1 hQ)
end Own
section OwnHeap
variable {p : Program} {l : Launch} {e : Env} {R : Room} {s : State} {m : MethodId} {args : Array Value} {below : List Frame} {meth : Method} {c : Code} {T T' : State} {locs : List Loc} {cells slots : Nat} {Z : State} {a0 : Array Value} {h h' h0 : Heap} {K : State → Outcome → Prop} {Q : Option Value → Heap → List Loc → Prop} {a b : Addr} {ty : FieldType} {k : ClassId} {vs : List Value} {ws : List Addr} {sl : Nat} {v w : Value} {C n d : String}
/-- the array at a, of the class k, holds just vs -/
def own_A (Z : State) (h : Heap) (a : Addr) (ty : FieldType) (k : ClassId) (vs : List Value) : Prop := ∃ c : Cell, Arr Z h a c ty ∧ c.cls = k ∧ c.slots.toList = vs
theorem own_A.ext (V : own_A Z h a ty k vs) (E : Ext h h') : own_A Z h' a ty k vs := by obtain ⟨c, A, r⟩ := V; exact ⟨c, A.ext E, r⟩
theorem own_A.keep (V : own_A Z h a ty k vs) (K : Keep h h' ws) (q : a ∉ ws) : own_A Z h' a ty k vs := by obtain ⟨c, A, r⟩ := V; exact ⟨c, ⟨K.2.1 a c A.1 q, A.2⟩, r⟩
theorem own_A.other (V : own_A Z h b ty k vs) (W : Wr h h' a sl v) (q : b ≠ a) : own_A Z h' b ty k vs := by obtain ⟨c, A, r⟩ := V; exact ⟨c, A.other W q, r⟩
theorem own_A.set (V : own_A Z h a ty k vs) (W : Wr h h' a sl v) : own_A Z h' a ty k (vs.set sl v) := by
  obtain ⟨c, A, r1, r2⟩ := V
  exact ⟨_, A.same W, r1, by rw [← r2]; simp [Cell.setSlot]⟩
theorem own_A.lt (V : own_A Z h a ty k vs) : a < h.size := by obtain ⟨c, A, -⟩ := V; exact A.lt
theorem own_ek (E : Ext h h') : Keep h h' [] := (Keep.refl h []).ext E
theorem own_stak (F : Sta Z h C n d v) (K : Keep h h' []) : Sta Z h' C n d v := by
  obtain ⟨cf, i, k, f, st, cell, h1, h2, h3, h4, h5, r⟩ := F
  exact ⟨cf, i, k, f, st, cell, h1, h2, h3, h4, K.2.1 _ _ h5 nin0, r⟩
theorem own_in {c : Cell} (q : c.slots.toList = vs) {j : Int32} (hj : ¬ j < 0) (hi : j.toNatClampNeg < vs.length) : ¬ (j < 0 ∨ c.slots.size ≤ j.toNatClampNeg) := by
  rintro (h | h)
  · exact hj h
  · rw [← q, Array.length_toList] at hi; omega
theorem own_get {c : Cell} (q : c.slots.toList = vs) (i : Nat) : c.slots[i]? = vs[i]? := by rw [← q, Array.getElem?_toList]
theorem own_newP (X : Stand p l e R s m args below meth c T locs cells slots) (hx : p.tables.exec = Jvm.exec) (hZ : Z.Warmed39 s.vm) {aty : ArrayType} (w : (Jvm.Cond.arrayClass (newarray.typeOf aty)).before a0 Z = true) (eT : T.heap = h) {pc : Nat} {Ls : Array Slot} {n : Int32} {rest : List Value} (hd : decode c.code pc = .ok (.newarray aty, 2)) (N cap : Nat) (hN : n.toNatClampNeg = N) (hn : ¬ n < 0) (hcap : N ≤ cap) (hb : cap * 8 ≤ 536870912) (hc : cells + 1 ≤ R.cells) (hl : slots + cap ≤ R.slots)
    (kk : ∀ (T' : State) (h' : Heap) (cA : ClassId), Stand p l e R s m args below meth c T' locs (cells + 1) (slots + cap) → T'.heap = h' → Ext h h' → own_A Z h' h.size (newarray.typeOf aty) cA (List.replicate N (defaultValue (newarray.typeOf aty))) → own_Go p e below K T' (mkF m (pc + 2) Ls (.ref h.size :: rest))) :
    own_Go p e below K T (mkF m pc Ls (.int n :: rest)) := by
  obtain ⟨T', h', cA, X', e', E, A, st⟩ := newP X hx hZ w eT (g := mkF m pc Ls (.int n :: rest)) rfl hd (n := n) (rest := rest) rfl hn (cap := cap) (by rw [hN]; exact hcap) hb hc hl
  exact own_by st (kk T' h' cA X' e' E ⟨_, A, rfl, by simp [newA, hN]⟩)
theorem own_newR (X : Stand p l e R s m args below meth c T locs cells slots) (hx : p.tables.exec = Jvm.exec) (hZ : Z.Warmed39 s.vm) {own C : String} {index : Nat} (hown : s.vm.findClass own = some m.cls) (w1 : (Jvm.Cond.classLink own index C).before a0 Z = true) (w2 : (Jvm.Cond.arrayOver (.object C)).before a0 Z = true) (eT : T.heap = h) {pc : Nat} {Ls : Array Slot} {n : Int32} {rest : List Value} (hd : decode c.code pc = .ok (.anewarray index, 3)) (N cap : Nat) (hN : n.toNatClampNeg = N) (hn : ¬ n < 0) (hcap : N ≤ cap) (hb : cap * 8 ≤ 536870912) (hc : cells + 1 ≤ R.cells) (hl : slots + cap ≤ R.slots)
    (kk : ∀ (T' : State) (h' : Heap) (cA : ClassId), Stand p l e R s m args below meth c T' locs (cells + 1) (slots + cap) → T'.heap = h' → Ext h h' → own_A Z h' h.size (.object C) cA (List.replicate N .null) → Ovr Z cA C → own_Go p e below K T' (mkF m (pc + 3) Ls (.ref h.size :: rest))) :
    own_Go p e below K T (mkF m pc Ls (.int n :: rest)) := by
  obtain ⟨T', h', cA, X', e', E, A, O, st⟩ := newR X hx hZ hown w1 w2 eT (g := mkF m pc Ls (.int n :: rest)) rfl hd (n := n) (rest := rest) rfl hn (cap := cap) (by rw [hN]; exact hcap) hb hc hl
  exact own_by st (kk T' h' cA X' e' E ⟨_, A, rfl, by simp [newA, hN, defaultValue]⟩ O)
theorem own_stI (X : Stand p l e R s m args below meth c T locs cells slots) (hx : p.tables.exec = Jvm.exec) (hZ : Z.Warmed39 s.vm) (eT : T.heap = h) (V : own_A Z h a .int k vs) {j x : Int32} (i : Nat) (hi : j.toNatClampNeg = i) (hj : ¬ j < 0) (hl : i < vs.length) {pc : Nat} {Ls : Array Slot} {rest : List Value} (hd : decode c.code pc = .ok (.iastore, 1))
    (kk : ∀ (T' : State) (h' : Heap), Stand p l e R s m args below meth c T' (locs ++ [⟨a, i⟩]) cells slots → T'.heap = h' → Wr h h' a i (.int x) → own_A Z h' a .int k (vs.set i (.int x)) → own_Go p e below K T' (mkF m (pc + 1) Ls rest)) :
    own_Go p e below K T (mkF m pc Ls (.int x :: .int j :: .ref a :: rest)) := by
  subst hi
  obtain ⟨cl, A, q1, q2⟩ := V
  obtain ⟨T', h', X', e', W, st⟩ := stI X hx hZ eT A (j := j) (x := x) (own_in q2 hj hl) (g := mkF m pc Ls (.int x :: .int j :: .ref a :: rest)) rfl rfl hd
  exact own_by st (kk T' h' X' e' W (own_A.set ⟨cl, A, q1, q2⟩ W))
theorem own_stC (X : Stand p l e R s m args below meth c T locs cells slots) (hx : p.tables.exec = Jvm.exec) (hZ : Z.Warmed39 s.vm) (eT : T.heap = h) (V : own_A Z h a .char k vs) {j x y : Int32} (i : Nat) (hi : j.toNatClampNeg = i) (hj : ¬ j < 0) (hl : i < vs.length) (hy : nar .char x = y) {pc : Nat} {Ls : Array Slot} {rest : List Value} (hd : decode c.code pc = .ok (.castore, 1))
    (kk : ∀ (T' : State) (h' : Heap), Stand p l e R s m args below meth c T' (locs ++ [⟨a, i⟩]) cells slots → T'.heap = h' → Wr h h' a i (.int y) → own_A Z h' a .char k (vs.set i (.int y)) → own_Go p e below K T' (mkF m (pc + 1) Ls rest)) :
    own_Go p e below K T (mkF m pc Ls (.int x :: .int j :: .ref a :: rest)) := by
  subst hi; subst hy
  obtain ⟨cl, A, q1, q2⟩ := V
  obtain ⟨T', h', X', e', W, st⟩ := stC X hx hZ eT A (j := j) (x := x) (own_in q2 hj hl) (g := mkF m pc Ls (.int x :: .int j :: .ref a :: rest)) rfl rfl hd
  exact own_by st (kk T' h' X' e' W (own_A.set ⟨cl, A, q1, q2⟩ W))
theorem own_stZ (X : Stand p l e R s m args below meth c T locs cells slots) (hx : p.tables.exec = Jvm.exec) (hZ : Z.Warmed39 s.vm) (eT : T.heap = h) (V : own_A Z h a .boolean k vs) {j x y : Int32} (i : Nat) (hi : j.toNatClampNeg = i) (hj : ¬ j < 0) (hl : i < vs.length) (hy : nar .boolean x = y) {pc : Nat} {Ls : Array Slot} {rest : List Value} (hd : decode c.code pc = .ok (.bastore, 1))
    (kk : ∀ (T' : State) (h' : Heap), Stand p l e R s m args below meth c T' (locs ++ [⟨a, i⟩]) cells slots → T'.heap = h' → Wr h h' a i (.int y) → own_A Z h' a .boolean k (vs.set i (.int y)) → own_Go p e below K T' (mkF m (pc + 1) Ls rest)) :
    own_Go p e below K T (mkF m pc Ls (.int x :: .int j :: .ref a :: rest)) := by
  subst hi; subst hy
  obtain ⟨cl, A, q1, q2⟩ := V
  obtain ⟨T', h', X', e', W, st⟩ := stZ X hx hZ eT A (j := j) (x := x) (own_in q2 hj hl) (g := mkF m pc Ls (.int x :: .int j :: .ref a :: rest)) rfl rfl hd
  exact own_by st (kk T' h' X' e' W (own_A.set ⟨cl, A, q1, q2⟩ W))
theorem own_stR (X : Stand p l e R s m args below meth c T locs cells slots) (hx : p.tables.exec = Jvm.exec) (hZ : Z.Warmed39 s.vm) (eT : T.heap = h) (V : own_A Z h a ty k vs) (hty : ty.isReference = true) {j : Int32} {v : Value} (i : Nat) (hi : j.toNatClampNeg = i) (hj : ¬ j < 0) (hl : i < vs.length) (F : Sto Z h a v) {pc : Nat} {Ls : Array Slot} {rest : List Value} (hd : decode c.code pc = .ok (.aastore, 1))
    (kk : ∀ (T' : State) (h' : Heap), Stand p l e R s m args below meth c T' (locs ++ [⟨a, i⟩]) cells slots → T'.heap = h' → Wr h h' a i v → own_A Z h' a ty k (vs.set i v) → own_Go p e below K T' (mkF m (pc + 1) Ls rest)) :
    own_Go p e below K T (mkF m pc Ls (v :: .int j :: .ref a :: rest)) := by
  subst hi
  obtain ⟨cl, A, q1, q2⟩ := V
  obtain ⟨T', h', X', e', W, st⟩ := stR X hx hZ eT A (j := j) (v := v) (own_in q2 hj hl) hty F (g := mkF m pc Ls (v :: .int j :: .ref a :: rest)) rfl rfl hd
  exact own_by st (kk T' h' X' e' W (own_A.set ⟨cl, A, q1, q2⟩ W))
theorem own_sto {y : Addr} {C : String} (V : own_A Z h a ty k vs) (O : Ovr Z k C) (E : Exa Z h y C) : Sto Z h a (.ref y) := by
  obtain ⟨cl, A, q1, -⟩ := V
  exact Sto.ofV A q1 O (Ins.self E)
theorem own_ldI (X : Stand p l e R s m args below meth c T locs cells slots) (hx : p.tables.exec = Jvm.exec) (hZ : Z.Warmed39 s.vm) (eT : T.heap = h) (V : own_A Z h a .int k vs) {j : Int32} {v : Value} (i : Nat) (hi : j.toNatClampNeg = i) (hj : ¬ j < 0) (hv : vs[i]? = some v) {pc : Nat} {Ls : Array Slot} {rest : List Value} (hd : decode c.code pc = .ok (.iaload, 1))
    (kk : own_Go p e below K T (mkF m (pc + 1) Ls (v :: rest))) : own_Go p e below K T (mkF m pc Ls (.int j :: .ref a :: rest)) := by
  subst hi
  obtain ⟨cl, A, q1, q2⟩ := V
  exact own_by (fun t q => X.iaload hx (j := j) (v := v) (by rw [eT]; exact A.1) (State.isArrayOf_alike hZ.alike A.2.1) A.2.2 (own_in q2 hj (List.getElem?_eq_some_iff.mp hv).1) (by rw [own_get q2]; exact hv) (g := mkF m pc Ls (.int j :: .ref a :: rest)) rfl rfl hd t q) kk
theorem own_ldC (X : Stand p l e R s m args below meth c T locs cells slots) (hx : p.tables.exec = Jvm.exec) (hZ : Z.Warmed39 s.vm) (eT : T.heap = h) (V : own_A Z h a .char k vs) {j : Int32} {v : Value} (i : Nat) (hi : j.toNatClampNeg = i) (hj : ¬ j < 0) (hv : vs[i]? = some v) {pc : Nat} {Ls : Array Slot} {rest : List Value} (hd : decode c.code pc = .ok (.caload, 1))
    (kk : own_Go p e below K T (mkF m (pc + 1) Ls (v :: rest))) : own_Go p e below K T (mkF m pc Ls (.int j :: .ref a :: rest)) := by
  subst hi
  obtain ⟨cl, A, q1, q2⟩ := V
  exact own_by (fun t q => X.caload hx (j := j) (v := v) (by rw [eT]; exact A.1) (State.isArrayOf_alike hZ.alike A.2.1) A.2.2 (own_in q2 hj (List.getElem?_eq_some_iff.mp hv).1) (by rw [own_get q2]; exact hv) (g := mkF m pc Ls (.int j :: .ref a :: rest)) rfl rfl hd t q) kk
theorem own_ldR (X : Stand p l e R s m args below meth c T locs cells slots) (hx : p.tables.exec = Jvm.exec) (hZ : Z.Warmed39 s.vm) (eT : T.heap = h) (V : own_A Z h a ty k vs) (hty : ty.isReference = true) {j : Int32} {v : Value} (i : Nat) (hi : j.toNatClampNeg = i) (hj : ¬ j < 0) (hv : vs[i]? = some v) {pc : Nat} {Ls : Array Slot} {rest : List Value} (hd : decode c.code pc = .ok (.aaload, 1))
    (kk : own_Go p e below K T (mkF m (pc + 1) Ls (v :: rest))) : own_Go p e below K T (mkF m pc Ls (.int j :: .ref a :: rest)) := by
  subst hi
  obtain ⟨cl, A, q1, q2⟩ := V
  exact own_by (fun t q => X.aaload hx (j := j) (v := v) (by rw [eT]; exact A.1) (State.isArrayOf_alike hZ.alike A.2.1) hty A.2.2 (own_in q2 hj (List.getElem?_eq_some_iff.mp hv).1) (by rw [own_get q2]; exact hv) (g := mkF m pc Ls (.int j :: .ref a :: rest)) rfl rfl hd t q) kk
theorem own_len (X : Stand p l e R s m args below meth c T locs cells slots) (hx : p.tables.exec = Jvm.exec) (hZ : Z.Warmed39 s.vm) (eT : T.heap = h) (V : own_A Z h a ty k vs) (n : Int32) (hn : vs.length.toInt32 = n) {pc : Nat} {Ls : Array Slot} {rest : List Value} (hd : decode c.code pc = .ok (.arraylength, 1))
    (kk : own_Go p e below K T (mkF m (pc + 1) Ls (.int n :: rest))) : own_Go p e below K T (mkF m pc Ls (.ref a :: rest)) := by
  subst hn
  obtain ⟨cl, A, q1, rfl⟩ := V
  refine own_by (fun t q => X.arraylength hx (cell := cl) (by rw [eT]; exact A.1) (State.isArrayOf_alike hZ.alike A.2.1) (g := mkF m pc Ls (.ref a :: rest)) rfl (rest := rest) rfl hd t q) ?_
  rw [Array.length_toList] at kk
  exact kk
theorem own_new (X : Stand p l e R s m args below meth c T locs cells slots) (hx : p.tables.exec = Jvm.exec) (hZ : Z.Warmed39 s.vm) {own C : String} {index n : Nat} (hown : s.vm.findClass own = some m.cls) (w1 : (Jvm.Cond.classLink own index C).before a0 Z = true) (w2 : (Jvm.Cond.instantiable C n).before a0 Z = true) (w3 : (Jvm.Cond.initialized C).before a0 Z = true) (eT : T.heap = h) {pc : Nat} {Ls : Array Slot} {st : List Value} (hd : decode c.code pc = .ok (.new index, 3)) (hc : cells + 1 ≤ R.cells) (hl : slots + n ≤ R.slots)
    (kk : ∀ (T' : State) (h' : Heap), Stand p l e R s m args below meth c T' locs (cells + 1) (slots + n) → T'.heap = h' → Ext h h' → Exa Z h' h.size C → (∀ {O nm d : String} {ty : FieldType}, Laid Z a0 C O nm d → parseFieldDescriptor d = some ty → Fld Z h' h.size O nm d (defaultValue ty)) → own_Go p e below K T' (mkF m (pc + 3) Ls (.ref h.size :: st))) :
    own_Go p e below K T (mkF m pc Ls st) := by
  obtain ⟨T', h', X', e', E, A, D, -, stp⟩ := newO X hx hZ hown w1 w2 w3 eT (g := mkF m pc Ls st) rfl hd hc hl
  exact own_by stp (kk T' h' X' e' E A D)
theorem own_getF (X : Stand p l e R s m args below meth c T locs cells slots) (hx : p.tables.exec = Jvm.exec) (hZ : Z.Warmed39 s.vm) {own O n d : String} {index : Nat} (hown : s.vm.findClass own = some m.cls) (w : (Jvm.Cond.fieldLink own index O n d).before a0 Z = true) (eT : T.heap = h) (F : Fld Z h a O n d v) {pc : Nat} {Ls : Array Slot} {rest : List Value} (hd : decode c.code pc = .ok (.getfield index, 3))
    (kk : ∀ T' : State, Stand p l e R s m args below meth c T' locs cells slots → T'.heap = h → own_Go p e below K T' (mkF m (pc + 3) Ls (v :: rest))) : own_Go p e below K T (mkF m pc Ls (.ref a :: rest)) := by
  obtain ⟨T', X', e', st⟩ := getF X hx hZ hown (host := "") (Or.inl w) Via.refl eT F (g := mkF m pc Ls (.ref a :: rest)) rfl rfl hd
  exact own_by st (kk T' X' e')
theorem own_putF (X : Stand p l e R s m args below meth c T locs cells slots) (hx : p.tables.exec = Jvm.exec) (hZ : Z.Warmed39 s.vm) {own O n d C : String} {index kn : Nat} {ty : FieldType} (hown : s.vm.findClass own = some m.cls) (w : (Jvm.Cond.fieldLink own index O n d).before a0 Z = true) (eT : T.heap = h) {old : Value} (F : Fld Z h a O n d old) (E : Exa Z h a C) (L : (Jvm.Cond.lays C O n d).before a0 Z = true ∨ ((Jvm.Cond.laysFinal C O n d).before a0 Z = true ∧ own = O ∧ meth.name = "<init>")) (wi : (Jvm.Cond.instantiable C kn).before a0 Z = true) (hty : parseFieldDescriptor d = some ty) (hn : narrow ty v = v) (hf : fits ty v = true) {pc : Nat} {Ls : Array Slot} {rest : List Value} (hd : decode c.code pc = .ok (.putfield index, 3))
    (kk : ∀ (T' : State) (h' : Heap), Stand p l e R s m args below meth c T' (locs ++ [⟨a, Jvm.RoadKit.slotOf Z O n d⟩]) cells slots → T'.heap = h' → Wr h h' a (Jvm.RoadKit.slotOf Z O n d) v → own_Go p e below K T' (mkF m (pc + 3) Ls rest)) : own_Go p e below K T (mkF m pc Ls (v :: .ref a :: rest)) := by
  obtain ⟨T', h', X', e', W, st⟩ := putF X hx hZ hown (host := "") (Or.inl w) Via.refl eT F E L wi hty hn hf (g := mkF m pc Ls (v :: .ref a :: rest)) rfl rfl hd
  exact own_by st (kk T' h' X' e' W)
end OwnHeap
section OwnHeapF
variable {p : Program} {l : Launch} {e : Env} {R : Room} {s : State} {m : MethodId} {args : Array Value} {below : List Frame} {meth : Method} {c : Code} {T T' : State} {locs : List Loc} {cells slots : Nat} {Z : State} {a0 : Array Value} {h h' h0 : Heap} {K : State → Outcome → Prop} {a b : Addr} {k : ClassId} {vs : List Value}
theorem own_stD (X : Stand p l e R s m args below meth c T locs cells slots) (hx : p.tables.exec = Jvm.exec) (hZ : Z.Warmed39 s.vm) (eT : T.heap = h) (V : own_A Z h a .double k vs) {j : Int32} {x : UInt64} (i : Nat) (hi : j.toNatClampNeg = i) (hj : ¬ j < 0) (hl : i < vs.length) {pc : Nat} {Ls : Array Slot} {rest : List Value} (hd : decode c.code pc = .ok (.dastore, 1))
    (kk : ∀ (T' : State) (h' : Heap), Stand p l e R s m args below meth c T' (locs ++ [⟨a, i⟩]) cells slots → T'.heap = h' → Wr h h' a i (.double x) → own_A Z h' a .double k (vs.set i (.double x)) → own_Go p e below K T' (mkF m (pc + 1) Ls rest)) :
    own_Go p e below K T (mkF m pc Ls (.double x :: .int j :: .ref a :: rest)) := by
  subst hi
  obtain ⟨cl, A, q1, q2⟩ := V
  obtain ⟨T', h', X', e', W, st⟩ := stD X hx hZ eT A (j := j) (x := x) (own_in q2 hj hl) (g := mkF m pc Ls (.double x :: .int j :: .ref a :: rest)) rfl rfl hd
  exact own_by st (kk T' h' X' e' W (own_A.set ⟨cl, A, q1, q2⟩ W))
theorem own_stF (X : Stand p l e R s m args below meth c T locs cells slots) (hx : p.tables.exec = Jvm.exec) (hZ : Z.Warmed39 s.vm) (eT : T.heap = h) (V : own_A Z h a .float k vs) {j : Int32} {x : UInt32} (i : Nat) (hi : j.toNatClampNeg = i) (hj : ¬ j < 0) (hl : i < vs.length) {pc : Nat} {Ls : Array Slot} {rest : List Value} (hd : decode c.code pc = .ok (.fastore, 1))
    (kk : ∀ (T' : State) (h' : Heap), Stand p l e R s m args below meth c T' (locs ++ [⟨a, i⟩]) cells slots → T'.heap = h' → Wr h h' a i (.float x) → own_A Z h' a .float k (vs.set i (.float x)) → own_Go p e below K T' (mkF m (pc + 1) Ls rest)) :
    own_Go p e below K T (mkF m pc Ls (.float x :: .int j :: .ref a :: rest)) := by
  subst hi
  obtain ⟨cl, A, q1, q2⟩ := V
  obtain ⟨T', h', X', e', W, st⟩ := stF X hx hZ eT A (j := j) (x := x) (own_in q2 hj hl) (g := mkF m pc Ls (.float x :: .int j :: .ref a :: rest)) rfl rfl hd
  exact own_by st (kk T' h' X' e' W (own_A.set ⟨cl, A, q1, q2⟩ W))
theorem own_ldD (X : Stand p l e R s m args below meth c T locs cells slots) (hx : p.tables.exec = Jvm.exec) (hZ : Z.Warmed39 s.vm) (eT : T.heap = h) (V : own_A Z h a .double k vs) {j : Int32} {v : Value} (i : Nat) (hi : j.toNatClampNeg = i) (hj : ¬ j < 0) (hv : vs[i]? = some v) {pc : Nat} {Ls : Array Slot} {rest : List Value} (hd : decode c.code pc = .ok (.daload, 1))
    (kk : own_Go p e below K T (mkF m (pc + 1) Ls (v :: rest))) : own_Go p e below K T (mkF m pc Ls (.int j :: .ref a :: rest)) := by
  subst hi
  obtain ⟨cl, A, q1, q2⟩ := V
  exact own_by (fun t q => X.daload hx (j := j) (v := v) (by rw [eT]; exact A.1) (State.isArrayOf_alike hZ.alike A.2.1) A.2.2 (own_in q2 hj (List.getElem?_eq_some_iff.mp hv).1) (by rw [own_get q2]; exact hv) (g := mkF m pc Ls (.int j :: .ref a :: rest)) rfl rfl hd t q) kk
theorem own_ldF (X : Stand p l e R s m args below meth c T locs cells slots) (hx : p.tables.exec = Jvm.exec) (hZ : Z.Warmed39 s.vm) (eT : T.heap = h) (V : own_A Z h a .float k vs) {j : Int32} {v : Value} (i : Nat) (hi : j.toNatClampNeg = i) (hj : ¬ j < 0) (hv : vs[i]? = some v) {pc : Nat} {Ls : Array Slot} {rest : List Value} (hd : decode c.code pc = .ok (.faload, 1))
    (kk : own_Go p e below K T (mkF m (pc + 1) Ls (v :: rest))) : own_Go p e below K T (mkF m pc Ls (.int j :: .ref a :: rest)) := by
  subst hi
  obtain ⟨cl, A, q1, q2⟩ := V
  exact own_by (fun t q => X.faload hx (j := j) (v := v) (by rw [eT]; exact A.1) (State.isArrayOf_alike hZ.alike A.2.1) A.2.2 (own_in q2 hj (List.getElem?_eq_some_iff.mp hv).1) (by rw [own_get q2]; exact hv) (g := mkF m pc Ls (.int j :: .ref a :: rest)) rfl rfl hd t q) kk
theorem own_retD {Q : Option Value → Heap → List Loc → Prop} (X : Stand p l e R s m args below meth c T locs cells slots) (hx : p.tables.exec = Jvm.exec) (hlk : meth.locks = false) (hret : meth.sig.returnType = some .double) {pc : Nat} {Ls : Array Slot} {z : UInt64} {rest : List Value} {k n : Nat} (hd : decode c.code pc = .ok (.dreturn, 1)) (hk : cells ≤ k) (hn : slots ≤ n) (hQ : Q (some (.double z)) T.heap locs) :
    own_Go p e below (own_K s k n Q) T (mkF m pc Ls (.double z :: rest)) :=
  own_leave X hlk (v := some (.double z)) (fun h => by rw [hret] at h; cases h) (fun fs hl => retOut X hx hret rfl (Or.inr (Or.inr (Or.inl ⟨rfl, rfl, z, rfl⟩))) hd hl) hk hn hQ
theorem own_retF {Q : Option Value → Heap → List Loc → Prop} (X : Stand p l e R s m args below meth c T locs cells slots) (hx : p.tables.exec = Jvm.exec) (hlk : meth.locks = false) (hret : meth.sig.returnType = some .float) {pc : Nat} {Ls : Array Slot} {z : UInt32} {rest : List Value} {k n : Nat} (hd : decode c.code pc = .ok (.freturn, 1)) (hk : cells ≤ k) (hn : slots ≤ n) (hQ : Q (some (.float z)) T.heap locs) :
    own_Go p e below (own_K s k n Q) T (mkF m pc Ls (.float z :: rest)) :=
  own_leave X hlk (v := some (.float z)) (fun h => by rw [hret] at h; cases h) (fun fs hl => retOut X hx hret rfl (Or.inr (Or.inr (Or.inr (Or.inl ⟨rfl, rfl, z, rfl⟩)))) hd hl) hk hn hQ
end OwnHeapF
section OwnScaled
open Jvm.FP.Core
/-- the exponent moved by k -/
def own_sh (k : Int) : Datum → Datum
  | .fin s c q => .fin s c (q + k)
  | .nan => .nan
  | .inf s => .inf s
/-- d is i / 2^k -/
def own_Sc (k : Int) (i : Int) (d : Datum) : Prop := Whole i (own_sh k d)
theorem own_sc_fin {k i : Int} {d : Datum} (h : own_Sc k i d) : ∃ s c q, d = .fin s c q := by
  cases d with
  | nan => exact h.elim
  | inf => exact h.elim
  | fin s c q => exact ⟨s, c, q, rfl⟩
theorem own_sc0 {i : Int} {d : Datum} (h : Whole i d) : own_Sc 0 i d := by
  cases d with
  | nan => exact h.elim
  | inf => exact h.elim
  | fin s c q => show Whole i (.fin s c (q + 0)); rw [Int.add_zero]; exact h
theorem own_sc_sum {k i j : Int} {x y : Datum} (hx : own_Sc k i x) (hy : own_Sc k j y) : own_Sc k (i + j) (exactSum x y) := by
  obtain ⟨s, c, q, rfl⟩ := own_sc_fin hx
  obtain ⟨t, d, r, rfl⟩ := own_sc_fin hy
  have h := whole_sum (x := .fin s c (q + k)) (y := .fin t d (r + k)) hx hy
  have e : exactSum (.fin s c (q + k)) (.fin t d (r + k)) = own_sh k (exactSum (.fin s c q) (.fin t d r)) := by
    have e1 : min (q + k) (r + k) = min q r + k := by omega
    simp only [exactSum, own_sh, sumUnits, inUnits, e1, show ∀ a : Int, a + k - (min q r + k) = a - min q r from fun a => by omega]
  rw [e] at h
  exact h
theorem own_sc_product {k l i j : Int} {x y : Datum} (hx : own_Sc k i x) (hy : own_Sc l j y) : own_Sc (k + l) (i * j) (exactProduct x y) := by
  obtain ⟨s, c, q, rfl⟩ := own_sc_fin hx
  obtain ⟨t, d, r, rfl⟩ := own_sc_fin hy
  have h := whole_product (x := .fin s c (q + k)) (y := .fin t d (r + l)) hx hy
  have e : exactProduct (.fin s c (q + k)) (.fin t d (r + l)) = own_sh (k + l) (exactProduct (.fin s c q) (.fin t d r)) := by
    simp only [exactProduct, own_sh]
    rw [show q + k + (r + l) = q + r + (k + l) by omega]
  rw [e] at h
  exact h
theorem own_sc_negate {k i : Int} {x : Datum} (hx : own_Sc k i x) : own_Sc k (-i) (negate x) := by
  obtain ⟨s, c, q, rfl⟩ := own_sc_fin hx
  exact whole_negate (x := .fin s c (q + k)) hx
theorem own_sc_order {k i j : Int} {x y : Datum} (hx : own_Sc k i x) (hy : own_Sc k j y) : order x y = some (compare i j) := by
  obtain ⟨s, c, q, rfl⟩ := own_sc_fin hx
  obtain ⟨t, d, r, rfl⟩ := own_sc_fin hy
  have h := order_whole (x := .fin s c (q + k)) (y := .fin t d (r + k)) hx hy
  have e1 : min (q + k) (r + k) = min q r + k := by omega
  have e : order (.fin s c (q + k)) (.fin t d (r + k)) = order (.fin s c q) (.fin t d r) := by
    simp only [order, inUnits, e1, show ∀ a : Int, a + k - (min q r + k) = a - min q r from fun a => by omega]
  rw [← e]; exact h
/-- what is n / 2^k in one writing is so in another -/
theorem own_sc_of_units {f : Fmt} {s : Bool} {c' n : Nat} {q' k i : Int} (h1 : f.qmin ≤ q') (h2 : f.qmin ≤ -k) (hu : inUnits c' q' f.qmin = inUnits n (-k) f.qmin) (hs : signed s n = i) : own_Sc k i (.fin s c' q') := by
  show signed s (c' * 2 ^ (q' + k).toNat) = i * ((2 ^ (-(q' + k)).toNat : Nat) : Int)
  have e : c' * 2 ^ (q' + k).toNat = n * 2 ^ (-(q' + k)).toNat := by
    unfold inUnits at hu
    by_cases h : 0 ≤ q' + k
    · rw [show (q' - f.qmin).toNat = (q' + k).toNat + (-k - f.qmin).toNat by omega, Nat.pow_add, ← Nat.mul_assoc] at hu
      rw [show (-(q' + k)).toNat = 0 by omega, Nat.pow_zero, Nat.mul_one]
      exact Nat.eq_of_mul_eq_mul_right (Nat.two_pow_pos _) hu
    · rw [show (-k - f.qmin).toNat = (-(q' + k)).toNat + (q' - f.qmin).toNat by omega, Nat.pow_add, ← Nat.mul_assoc] at hu
      rw [show (q' + k).toNat = 0 by omega, Nat.pow_zero, Nat.mul_one]
      exact Nat.eq_of_mul_eq_mul_right (Nat.two_pow_pos _) hu
  rw [e, signed_mul, hs]
theorem own_signed_abs {s : Bool} {i : Int} (h : i ≠ 0 → s = decide (i < 0)) : signed s i.natAbs = i := by
  by_cases hi : i = 0
  · rw [hi]; exact signed_zero s
  · rw [h hi]; unfold signed
    by_cases h : i < 0 <;> simp [h] <;> omega
theorem own_sc_ratio {f : Fmt} (hf : Good f) {s : Bool} {i k : Int} (hi : i.natAbs ≤ 2 ^ f.p) (h1 : f.qmin ≤ -k) (h2 : -k + f.p ≤ f.qmax) (hs : i ≠ 0 → s = decide (i < 0)) : own_Sc k i (roundRatio f s i.natAbs 1 (-k)) := by
  have hp : 2 ≤ f.p := hf.2
  rcases Nat.lt_or_ge i.natAbs (2 ^ f.p) with hlt | hge
  · obtain ⟨c', q', e, hu⟩ := round_exact hf s hlt h1 (by omega)
    have hfit : FP.Core.fits f (.fin s c' q') := by rw [← e]; exact round_fits hf _
    have e' : roundRatio f s i.natAbs 1 (-k) = .fin s c' q' := e
    rw [e']
    exact own_sc_of_units hfit.2.1 h1 hu (own_signed_abs hs)
  · have he : i.natAbs = 2 ^ f.p := by omega
    have h3 : (1 : Nat) < 2 ^ f.p := Nat.one_lt_two_pow (by omega)
    obtain ⟨c', q', e, hu⟩ := round_exact hf s h3 (q := -k + f.p) (by omega) h2
    have hfit : FP.Core.fits f (.fin s c' q') := by rw [← e]; exact round_fits hf _
    have e' : roundRatio f s i.natAbs 1 (-k) = .fin s c' q' := by
      rw [← e]
      refine roundRatio_congr (by decide) (by decide) ?_
      rw [he, show (-k - (-k + (f.p : Int))).toNat = 0 by omega, show (-k + (f.p : Int) - -k).toNat = f.p by omega]
      simp
    rw [e']
    refine own_sc_of_units hfit.2.1 h1 (hu.trans ?_) (own_signed_abs hs)
    unfold inUnits
    rw [he, show (-k + (f.p : Int) - f.qmin).toNat = f.p + (-k - f.qmin).toNat by omega, Nat.pow_add]
    simp
/-- small enough numbers over 2^k are kept by rounding -/
theorem own_sc_round {f : Fmt} (hf : Good f) {k i : Int} {d : Datum} (h : own_Sc k i d) (hi : i.natAbs ≤ 2 ^ f.p) (h1 : f.qmin ≤ -k) (h2 : -k + f.p ≤ f.qmax) : own_Sc k i (round f d) := by
  obtain ⟨s, c, q, rfl⟩ := own_sc_fin h
  have hn : c * 2 ^ (q + k).toNat = i.natAbs * 2 ^ (-(q + k)).toNat := whole_natAbs h
  have e : round f (.fin s c q) = roundRatio f s i.natAbs 1 (-k) := by
    refine roundRatio_congr (by decide) (by decide) ?_
    rw [show (q - -k).toNat = (q + k).toNat by omega, show (-k - q).toNat = (-(q + k)).toNat by omega]
    simpa using hn
  rw [e]
  exact own_sc_ratio hf hi h1 h2 (fun hz => whole_sign h hz)
/-- a quotient that is j / 2^(k - l) -/
theorem own_sc_quot {f : Fmt} (hf : Good f) {k l i j : Int} {x y : Datum} (hx : own_Sc k (j * i) x) (hy : own_Sc l i y) (hi0 : i ≠ 0) (hj : j.natAbs ≤ 2 ^ f.p) (h1 : f.qmin ≤ -(k - l)) (h2 : -(k - l) + f.p ≤ f.qmax) : own_Sc (k - l) j (quotient f x y) := by
  obtain ⟨s, c, q, rfl⟩ := own_sc_fin hx
  obtain ⟨t, d, r, rfl⟩ := own_sc_fin hy
  have hn : c * 2 ^ (q + k).toNat = (j * i).natAbs * 2 ^ (-(q + k)).toNat := whole_natAbs hx
  have hm : d * 2 ^ (r + l).toNat = i.natAbs * 2 ^ (-(r + l)).toNat := whole_natAbs hy
  have hd : d ≠ 0 := fun q => hi0 ((whole_zero hy).mp q)
  have hs : j ≠ 0 → (s != t) = decide (j < 0) := fun hj0 => by
    rw [whole_sign hx (Int.mul_ne_zero hj0 hi0), whole_sign hy hi0]
    by_cases a : j < 0 <;> by_cases b : i < 0
    · have : 0 < j * i := Int.mul_pos_of_neg_of_neg a b
      simp [a, b, show ¬ j * i < 0 by omega]
    · have : j * i < 0 := Int.mul_neg_of_neg_of_pos a (by omega)
      simp [a, b, this]
    · have : j * i < 0 := Int.mul_neg_of_pos_of_neg (by omega) b
      simp [a, b, this]
    · have : 0 < j * i := Int.mul_pos (by omega) (by omega)
      simp [a, b, show ¬ j * i < 0 by omega]
  have e : quotient f (.fin s c q) (.fin t d r) = roundRatio f (s != t) j.natAbs 1 (-(k - l)) := by
    show (if d = 0 then _ else _) = _
    rw [if_neg hd]
    refine roundRatio_congr (by omega) (by decide) ?_
    rw [Int.natAbs_mul] at hn
    have hip : 0 < i.natAbs := by omega
    -- c 2^(q+k) = |j||i|, d 2^(r+l) = |i|
    have p0 : 0 < i.natAbs * 2 ^ ((-(q + k)).toNat + (-(r + l)).toNat + (q + k).toNat + (r + l).toNat) := Nat.mul_pos hip (Nat.two_pow_pos _)
    refine Nat.eq_of_mul_eq_mul_right p0 ?_
    have a1 : (q - r - -(k - l)).toNat + ((-(q + k)).toNat + (r + l).toNat) = (-(k - l) - (q - r)).toNat + ((q + k).toNat + (-(r + l)).toNat) := by omega
    generalize (q - r - -(k - l)).toNat = u1 at *
    generalize (-(k - l) - (q - r)).toNat = u2 at *
    generalize (q + k).toNat = a at *
    generalize (-(q + k)).toNat = b at *
    generalize (r + l).toNat = cc at *
    generalize (-(r + l)).toNat = dd at *
    generalize i.natAbs = I at *
    generalize j.natAbs = J at *
    have hh : 2 ^ (u1 + (b + cc)) = 2 ^ (u2 + (a + dd)) := by rw [a1]
    simp only [Nat.pow_add] at hh ⊢
    -- both sides by hn, hm
    calc c * 1 * 2 ^ u1 * (I * (2 ^ b * 2 ^ dd * 2 ^ a * 2 ^ cc)) = (c * 2 ^ a) * (I * 2 ^ dd) * (2 ^ u1 * (2 ^ b * 2 ^ cc)) := by simp only [Nat.mul_one]; ac_rfl
      _ = (J * I * 2 ^ b) * (d * 2 ^ cc) * (2 ^ u1 * (2 ^ b * 2 ^ cc)) := by rw [hn, hm]
      _ = (J * I * 2 ^ b) * (d * 2 ^ cc) * (2 ^ u2 * (2 ^ a * 2 ^ dd)) := by rw [hh]
      _ = J * d * 2 ^ u2 * (I * (2 ^ b * 2 ^ dd * 2 ^ a * 2 ^ cc)) := by ac_rfl
  rw [e]
  exact own_sc_ratio hf hj h1 h2 hs
theorem own_q64 {k : Int} (h : k ≤ 900) : k + (b64.p : Int) ≤ b64.qmax := by
  have h1 : b64.qmax = 971 := by decide
  have h2 : (b64.p : Int) = 53 := rfl
  rw [h1, h2]; omega
theorem own_q32 {k : Int} (h : k ≤ 60) : k + (b32.p : Int) ≤ b32.qmax := by
  have h1 : b32.qmax = 104 := by decide
  have h2 : (b32.p : Int) = 24 := rfl
  rw [h1, h2]; omega
/-! ### doubles and floats -/
def own_D (k i : Int) (a : UInt64) : Prop := own_Sc k i (val64 a)
def own_F (k i : Int) (a : UInt32) : Prop := own_Sc k i (val32 a)
theorem own_D_no {k i : Int} {a : UInt64} (h : own_D k i a) : Jvm.Free.Fl.NoNaN64 a := Jvm.Free.Fl.val64_no.mpr fun q => by unfold own_D at h; rw [q] at h; exact h
theorem own_F_no {k i : Int} {a : UInt32} (h : own_F k i a) : Jvm.Free.Fl.NoNaN32 a := Jvm.Free.Fl.val32_no.mpr fun q => by unfold own_F at h; rw [q] at h; exact h
theorem own_v_f2d {k i : Int} {a : UInt32} (ha : own_F k i a) : val64 (FP.f2d a) = round b64 (val32 a) := by
  rw [FP.f2d_core (Jvm.Free.Fl.noNaN32_no.mp (own_F_no ha))]; exact val64_f2d a
theorem own_v_d2f {k i : Int} {a : UInt64} (ha : own_D k i a) : val32 (FP.d2f a) = round b32 (val64 a) := by
  rw [FP.d2f_core (Jvm.Free.Fl.noNaN64_no.mp (own_D_no ha))]; exact val32_d2f a
theorem own_D_i2d (a : Int32) : own_D 0 a.toInt (FP.i2d a) := own_sc0 (i2d_int a)
theorem own_D_l2d {a : Int64} (h : a.toInt.natAbs ≤ 2 ^ 53) : own_D 0 a.toInt (FP.l2d a) := own_sc0 (l2d_int h)
theorem own_F_i2f {a : Int32} (h : a.toInt.natAbs ≤ 2 ^ 24) : own_F 0 a.toInt (FP.i2f a) := own_sc0 (i2f_int h)
theorem own_D_add {k i j : Int} {a b : UInt64} (ha : own_D k i a) (hb : own_D k j b) (h : (i + j).natAbs ≤ 2 ^ 53) (h1 : -900 ≤ -k) (h2 : -k ≤ 900) : own_D k (i + j) (FP.dadd a b) := by
  unfold own_D
  rw [show val64 (FP.dadd a b) = round b64 (exactSum (val64 a) (val64 b)) from val64_dadd a b]
  exact own_sc_round good_b64 (own_sc_sum ha hb) h (by rw [qmin_b64]; omega) (own_q64 (by omega))
theorem own_D_sub {k i j : Int} {a b : UInt64} (ha : own_D k i a) (hb : own_D k j b) (h : (i + -j).natAbs ≤ 2 ^ 53) (h1 : -900 ≤ -k) (h2 : -k ≤ 900) : own_D k (i + -j) (FP.dsub a b) := by
  unfold own_D
  rw [show val64 (FP.dsub a b) = round b64 (exactSum (val64 a) (negate (val64 b))) from val64_dsub a b]
  exact own_sc_round good_b64 (own_sc_sum ha (own_sc_negate hb)) h (by rw [qmin_b64]; omega) (own_q64 (by omega))
theorem own_D_mul {k l i j : Int} {a b : UInt64} (ha : own_D k i a) (hb : own_D l j b) (h : (i * j).natAbs ≤ 2 ^ 53) (h1 : -900 ≤ -(k + l)) (h2 : -(k + l) ≤ 900) : own_D (k + l) (i * j) (FP.dmul a b) := by
  unfold own_D
  rw [show val64 (FP.dmul a b) = round b64 (exactProduct (val64 a) (val64 b)) from val64_dmul a b]
  exact own_sc_round good_b64 (own_sc_product ha hb) h (by rw [qmin_b64]; omega) (own_q64 (by omega))
theorem own_D_div {k l i j : Int} {a b : UInt64} (ha : own_D k (j * i) a) (hb : own_D l i b) (hi : i ≠ 0) (h : j.natAbs ≤ 2 ^ 53) (h1 : -900 ≤ -(k - l)) (h2 : -(k - l) ≤ 900) : own_D (k - l) j (FP.ddiv a b) := by
  unfold own_D
  rw [show val64 (FP.ddiv a b) = quotient b64 (val64 a) (val64 b) from val64_ddiv a b]
  exact own_sc_quot good_b64 ha hb hi h (by rw [qmin_b64]; omega) (own_q64 (by omega))
theorem own_D_cmp {k i j : Int} {a b : UInt64} (ha : own_D k i a) (hb : own_D k j b) : FP.dcmp a b = some (compare i j) := own_sc_order ha hb
theorem own_F_mul {k l i j : Int} {a b : UInt32} (ha : own_F k i a) (hb : own_F l j b) (h : (i * j).natAbs ≤ 2 ^ 24) (h1 : -100 ≤ -(k + l)) (h2 : -(k + l) ≤ 60) : own_F (k + l) (i * j) (FP.fmul a b) := by
  unfold own_F
  rw [show val32 (FP.fmul a b) = round b32 (exactProduct (val32 a) (val32 b)) from val32_fmul a b]
  exact own_sc_round good_b32 (own_sc_product ha hb) h (by rw [qmin_b32]; omega) (own_q32 (by omega))
theorem own_F_div {k l i j : Int} {a b : UInt32} (ha : own_F k (j * i) a) (hb : own_F l i b) (hi : i ≠ 0) (h : j.natAbs ≤ 2 ^ 24) (h1 : -100 ≤ -(k - l)) (h2 : -(k - l) ≤ 60) : own_F (k - l) j (FP.fdiv a b) := by
  unfold own_F
  rw [show val32 (FP.fdiv a b) = quotient b32 (val32 a) (val32 b) from val32_fdiv a b]
  exact own_sc_quot good_b32 ha hb hi h (by rw [qmin_b32]; omega) (own_q32 (by omega))
theorem own_F_cmp {k i j : Int} {a b : UInt32} (ha : own_F k i a) (hb : own_F k j b) : FP.fcmp a b = some (compare i j) := own_sc_order ha hb
theorem own_D_f2d {k i : Int} {a : UInt32} (ha : own_F k i a) (h : i.natAbs ≤ 2 ^ 53) (h1 : -900 ≤ -k) (h2 : -k ≤ 900) : own_D k i (FP.f2d a) := by
  unfold own_D
  rw [own_v_f2d ha]
  exact own_sc_round good_b64 ha h (by rw [qmin_b64]; omega) (own_q64 (by omega))
theorem own_F_d2f {k i : Int} {a : UInt64} (ha : own_D k i a) (h : i.natAbs ≤ 2 ^ 24) (h1 : -100 ≤ -k) (h2 : -k ≤ 60) : own_F k i (FP.d2f a) := by
  unfold own_F
  rw [own_v_d2f ha]
  exact own_sc_round good_b32 ha h (by rw [qmin_b32]; omega) (own_q32 (by omega))
/-- the same value in smaller units -/
theorem own_sc_up {k i : Int} {d : Datum} (h : own_Sc k i d) (n : Nat) : own_Sc (k + n) (i * ((2 ^ n : Nat) : Int)) d := by
  obtain ⟨s, c, q, rfl⟩ := own_sc_fin h
  have h' : signed s (c * 2 ^ (q + k).toNat) = i * ((2 ^ (-(q + k)).toNat : Nat) : Int) := h
  show signed s (c * 2 ^ (q + (k + n)).toNat) = i * ((2 ^ n : Nat) : Int) * ((2 ^ (-(q + (k + n))).toNat : Nat) : Int)
  have e : (q + (k + n)).toNat + (-(q + k)).toNat = (q + k).toNat + (n + (-(q + (k + n))).toNat) := by omega
  have p : ((2 ^ (-(q + k)).toNat : Nat) : Int) ≠ 0 := by have := Nat.two_pow_pos (-(q + k)).toNat; omega
  refine Int.eq_of_mul_eq_mul_right p ?_
  rw [← signed_mul, Nat.mul_assoc, ← Nat.pow_add, e, Nat.pow_add, ← Nat.mul_assoc, signed_mul, h', Nat.pow_add, Int.natCast_mul]
  ac_rfl
theorem own_D_up {k i : Int} {a : UInt64} (h : own_D k i a) (n : Nat) : own_D (k + n) (i * ((2 ^ n : Nat) : Int)) a := own_sc_up h n
theorem own_F_up {k i : Int} {a : UInt32} (h : own_F k i a) (n : Nat) : own_F (k + n) (i * ((2 ^ n : Nat) : Int)) a := own_sc_up h n
/-! ### one rounding of a number of many digits -/
theorem own_leading {n : Nat} (h : n ≠ 0) : leading n 1 = (n.log2 : Int) := by
  have l1 : 2 ^ n.log2 ≤ n := Nat.log2_self_le h
  unfold leading
  have e : (n.log2 : Int) - ((1 : Nat).log2 : Int) = (n.log2 : Int) := by have : (1 : Nat).log2 = 0 := by decide
                                                                          rw [this]; simp
  simp only [e]
  rw [if_pos]
  rw [show ((n.log2 : Int)).toNat = n.log2 by omega, show (-(n.log2 : Int)).toNat = 0 by omega]
  simpa using l1
theorem own_rr {f : Fmt} (hf : Good f) {s : Bool} {n : Nat} (hn : n ≠ 0) {k : Int} (h0 : 0 ≤ k) (h1 : f.qmin < -k - ((f.p : Int) - 1)) (h2 : (n.log2 : Int) + 2 ≤ f.qmax + f.p) :
    ∃ c q, (roundRatio f s n 1 (-k) = .fin s c (q - k) ∧ roundRatio f s n 1 0 = .fin s c q) ∧ c < 2 ^ f.p ∧ -((f.p : Int) - 1) ≤ q ∧ q ≤ f.qmax ∧ f.tails ≤ c := by
  have hp : 2 ≤ f.p := hf.2
  have hL := own_leading hn
  have hq0 : quantum f n 1 0 = (n.log2 : Int) - ((f.p : Int) - 1) := by unfold quantum; rw [hL]; omega
  have hqk : quantum f n 1 (-k) = (n.log2 : Int) - ((f.p : Int) - 1) - k := by unfold quantum; rw [hL]; omega
  have hfit : FP.Core.fits f (roundRatio f s n 1 0) := roundRatio_fits hf s n Nat.one_pos 0
  generalize hQ : (n.log2 : Int) - ((f.p : Int) - 1) = Q at hq0 hqk
  have eN : unitsNum n (-k) (Q - k) = unitsNum n 0 Q := by unfold unitsNum; rw [show (-k - (Q - k)).toNat = (0 - Q).toNat by omega]
  have eD : unitsDen 1 (-k) (Q - k) = unitsDen 1 0 Q := by unfold unitsDen; rw [show (Q - k - -k).toNat = (Q - 0).toNat by omega]
  have r0 : roundRatio f s n 1 0 = settle f s (nearest (unitsNum n 0 Q) (unitsDen 1 0 Q)) Q := by
    unfold roundRatio roundAt; rw [if_neg hn, hq0]
  have rk : roundRatio f s n 1 (-k) = settle f s (nearest (unitsNum n 0 Q) (unitsDen 1 0 Q)) (Q - k) := by
    unfold roundRatio roundAt; rw [if_neg hn, hqk, eN, eD]
  generalize nearest (unitsNum n 0 Q) (unitsDen 1 0 Q) = c0 at r0 rk
  unfold settle bound at r0 rk
  by_cases hc : c0 < 2 ^ f.p
  · rw [if_pos hc, if_pos (by omega)] at r0 rk
    rw [r0] at hfit
    obtain ⟨f1, f2, f3, f4⟩ := hfit
    exact ⟨c0, Q, ⟨rk, r0⟩, f1, by omega, f3, by rcases f4 with f4 | f4 <;> omega⟩
  · rw [if_neg hc, if_pos (by omega)] at r0 rk
    rw [r0] at hfit
    obtain ⟨f1, f2, f3, f4⟩ := hfit
    exact ⟨f.tails, Q + 1, ⟨by rw [rk, show Q - k + 1 = Q + 1 - k by omega], r0⟩, f1, by omega, f3, Nat.le_refl _⟩
/-- i / 2^k, rounded once, is i rounded, over 2^k -/
theorem own_round_ratio {f : Fmt} {k i : Int} {d : Datum} (h : own_Sc k i d) (hi : i ≠ 0) : round f d = roundRatio f (decide (i < 0)) i.natAbs 1 (-k) := by
  obtain ⟨s, c, q, rfl⟩ := own_sc_fin h
  have hn : c * 2 ^ (q + k).toNat = i.natAbs * 2 ^ (-(q + k)).toNat := whole_natAbs h
  rw [← whole_sign h hi]
  refine roundRatio_congr (by decide) (by decide) ?_
  rw [show (q - -k).toNat = (q + k).toNat by omega, show (-k - q).toNat = (-(q + k)).toNat by omega]
  simpa using hn
/-- a datum over 2^k -/
theorem own_quot_pow {f : Fmt} (hf : Good f) {s : Bool} {c : Nat} {q : Int} {k : Nat} {y : Datum} (hy : own_Sc 0 ((2 ^ k : Nat) : Int) y) (h1 : c < 2 ^ f.p) (h2 : f.qmin ≤ q - k) (h3 : q ≤ f.qmax) (h4 : f.tails ≤ c) : quotient f (.fin s c q) y = .fin s c (q - k) := by
  obtain ⟨t, d, r, rfl⟩ := own_sc_fin hy
  have hp := Nat.two_pow_pos k
  have hm : d * 2 ^ (r + 0).toNat = ((2 ^ k : Nat) : Int).natAbs * 2 ^ (-(r + 0)).toNat := whole_natAbs hy
  rw [Int.add_zero, Int.natAbs_natCast] at hm
  have hz : ((2 ^ k : Nat) : Int) ≠ 0 := fun z => by have h9 : 2 ^ k = 0 := Int.ofNat_eq_zero.mp z
                                                     omega
  have ht : t = false := by
    rw [whole_sign hy hz]
    exact decide_eq_false (Int.not_lt.mpr (Int.natCast_nonneg _))
  have hd : d ≠ 0 := fun z => hz ((whole_zero hy).mp z)
  subst ht
  show (if d = 0 then _ else _) = _
  rw [if_neg hd]
  have e1 : (s != false) = s := by cases s <;> rfl
  rw [e1]
  refine roundRatio_exact hf (by omega) ⟨h1, h2, by omega, Or.inr h4⟩ ?_
  rw [show (q - r - (q - (k : Int))).toNat = ((k : Int) - r).toNat by omega, show (q - (k : Int) - (q - r)).toNat = (r - (k : Int)).toNat by omega, Nat.mul_assoc]
  congr 1
  rcases Int.lt_or_le r 0 with hr | hr
  · rw [show r.toNat = 0 by omega, Nat.pow_zero, Nat.mul_one] at hm
    rw [hm, ← Nat.pow_add, ← Nat.pow_add]
    congr 1
    omega
  · rw [show (-r).toNat = 0 by omega, Nat.pow_zero, Nat.mul_one] at hm
    rcases Int.lt_or_le (k : Int) r with h | h
    · have : 2 ^ k = d * 2 ^ (r.toNat - k) * 2 ^ k := by
        rw [Nat.mul_assoc, ← Nat.pow_add, show r.toNat - k + k = r.toNat by omega, hm]
      have h5 : d * 2 ^ (r.toNat - k) = 1 := by
        have h6 : 1 * 2 ^ k = d * 2 ^ (r.toNat - k) * 2 ^ k := by rw [Nat.one_mul]; exact this
        exact (Nat.eq_of_mul_eq_mul_right hp h6).symm
      rw [show ((k : Int) - r).toNat = 0 by omega, show (r - (k : Int)).toNat = r.toNat - k by omega, h5, Nat.pow_zero]
    · have h6 : d = 2 ^ (k - r.toNat) := by
        have : d * 2 ^ r.toNat = 2 ^ (k - r.toNat) * 2 ^ r.toNat := by rw [hm, ← Nat.pow_add]; congr 1; omega
        exact Nat.eq_of_mul_eq_mul_right (Nat.two_pow_pos _) this
      rw [show (r - (k : Int)).toNat = 0 by omega, Nat.pow_zero, Nat.mul_one, h6]
      congr 1
      omega
end OwnScaled
section OwnM3
open Jvm.FP.Core
theorem own_frs {k : Nat} {L : List Loc} {a : Addr} {i : Nat} (N : Fr k L) (q : k ≤ a) : Fr k (L ++ [⟨a, i⟩]) := N.app fun y hy => by cases List.mem_singleton.mp hy; exact q
theorem own_D_zero (k : Int) : own_D k 0 FP.dconst0 := by
  show Whole 0 (own_sh k (val64 FP.dconst0))
  rw [show val64 FP.dconst0 = .fin false 0 b64.qmin from val64_dconst0]
  show signed false (0 * _) = 0 * _
  rw [Nat.zero_mul, Int.zero_mul]; rfl
theorem own_F_l2f {a : Int64} (h : a.toInt.natAbs ≤ 2 ^ 24) : own_F 0 a.toInt (FP.l2f a) := by
  unfold own_F
  rw [show val32 (FP.l2f a) = round b32 (ofInt a.toInt) from val32_l2f a]
  exact own_sc_round good_b32 (own_sc0 (whole_ofInt _)) h (by decide) (by decide)
theorem own_of64 {t : Int} (h1 : -4611686018427387904 ≤ t) (h2 : t ≤ 4611686018427387904) : (Int64.ofInt t).toInt = t := by
  have e : ((Int64.size : Nat) : Int) = 18446744073709551616 := by decide
  rw [Int64.toInt_ofInt]; apply Int.bmod_eq_of_le <;> omega
theorem own_of32 {t : Int} (h1 : -1073741824 ≤ t) (h2 : t ≤ 1073741824) : (Int32.ofInt t).toInt = t := by
  have e : ((Int32.size : Nat) : Int) = 4294967296 := by decide
  rw [Int32.toInt_ofInt]; apply Int.bmod_eq_of_le <;> omega
/-- a whole number over a power of two -/
theorem own_F_divp {i : Int} {a b : UInt32} {k : Nat} (ha : own_F 0 i a) (hb : own_F 0 ((2 ^ k : Nat) : Int) b) (h : i.natAbs ≤ 2 ^ 24) (hk : k ≤ 15) : own_F k i (FP.fdiv a b) := by
  have hp := Nat.two_pow_pos k
  have h1 := own_F_up ha k
  rw [Int.zero_add] at h1
  have h2 := own_F_div (l := 0) h1 hb (by omega) h (by omega) (by omega)
  rw [Int.sub_zero] at h2
  exact h2
theorem own_lo32 {k : Nat} (h : k ≤ 15) : b32.qmin < -(k : Int) - ((b32.p : Int) - 1) := by
  have h1 : b32.qmin = -149 := by decide
  have h2 : (b32.p : Int) = 24 := rfl
  rw [h1, h2]; omega
theorem own_hi32 {n : Nat} (h : n ≤ 27) : (n : Int) + 2 ≤ b32.qmax + (b32.p : Int) := by
  have h1 : b32.qmax = 104 := by decide
  have h2 : (b32.p : Int) = 24 := rfl
  rw [h1, h2]; omega
theorem own_low32 {k : Nat} {q : Int} (hk : k ≤ 15) (h : -((b32.p : Int) - 1) ≤ q) : b32.qmin ≤ q - (k : Int) := by
  have h1 : b32.qmin = -149 := by decide
  have h2 : (b32.p : Int) = 24 := rfl
  rw [h2] at h; rw [h1]; omega
theorem own_m3 {t : Int64} {sv : UInt32} {acc : UInt64} {k : Nat} (ht : t.toInt.natAbs ≤ 2 ^ 27) (hk : k ≤ 15) (hs : own_F 0 ((2 ^ k : Nat) : Int) sv) (ha : own_D k t.toInt acc) :
    ∃ x y, val32 (FP.d2f acc) = x ∧ val32 (FP.fdiv (FP.l2f t) sv) = y ∧ x ≠ .nan ∧ y ≠ .nan ∧ order x y = some .eq := by
  by_cases h0 : t.toInt = 0
  · have h1 : own_F k 0 (FP.d2f acc) := own_F_d2f (h0 ▸ ha) (by decide) (by omega) (by omega)
    have h2 : own_F k 0 (FP.fdiv (FP.l2f t) sv) := own_F_divp (h0 ▸ own_F_l2f (by rw [h0]; decide)) hs (by decide) hk
    refine ⟨_, _, rfl, rfl, fun q => by unfold own_F at h1; rw [q] at h1; exact h1, fun q => by unfold own_F at h2; rw [q] at h2; exact h2, ?_⟩
    have h3 := own_F_cmp h1 h2
    have h4 : compare (0 : Int) 0 = .eq := by decide
    rw [h4] at h3
    exact h3
  · have hn : t.toInt.natAbs ≠ 0 := by omega
    have hl : t.toInt.natAbs.log2 ≤ 27 := by
      have h5 : 2 ^ t.toInt.natAbs.log2 ≤ t.toInt.natAbs := Nat.log2_self_le hn
      exact (Nat.pow_le_pow_iff_right (by decide : 1 < 2)).mp (Nat.le_trans h5 ht)
    obtain ⟨c, q, ⟨r1, r2⟩, f1, f2, f3, f4⟩ := own_rr (f := b32) good_b32 (s := decide (t.toInt < 0)) hn (k := k) (by omega) (own_lo32 hk) (own_hi32 hl)
    have e1 : val32 (FP.d2f acc) = .fin (decide (t.toInt < 0)) c (q - k) := by
      rw [own_v_d2f ha, own_round_ratio ha h0]; exact r1
    have e2 : val32 (FP.l2f t) = .fin (decide (t.toInt < 0)) c q := by
      rw [show val32 (FP.l2f t) = round b32 (ofInt t.toInt) from val32_l2f t]; exact r2
    have e3 : val32 (FP.fdiv (FP.l2f t) sv) = .fin (decide (t.toInt < 0)) c (q - k) := by
      rw [show val32 (FP.fdiv (FP.l2f t) sv) = quotient b32 (val32 (FP.l2f t)) (val32 sv) from val32_fdiv _ _, e2]
      exact own_quot_pow good_b32 hs f1 (own_low32 hk f2) f3 f4
    exact ⟨_, _, e1, e3, by simp, by simp, order_self (by simp)⟩
theorem own_m3_no1 {acc : UInt64} {t : Int64} {sv : UInt32} {k : Nat} (ht : t.toInt.natAbs ≤ 2 ^ 27) (hk : k ≤ 15) (hs : own_F 0 ((2 ^ k : Nat) : Int) sv) (ha : own_D k t.toInt acc) : Jvm.Free.Fl.NoNaN32 (FP.d2f acc) ∧ Jvm.Free.Fl.NoNaN32 (FP.fdiv (FP.l2f t) sv) ∧ cmpValue (FP.fcmp (FP.d2f acc) (FP.fdiv (FP.l2f t) sv)) .l = (0 : Int32) := by
  obtain ⟨x, y, h1, h2, h3, h4, h5⟩ := own_m3 ht hk hs ha
  subst h1 h2
  refine ⟨Jvm.Free.Fl.val32_no.mpr h3, Jvm.Free.Fl.val32_no.mpr h4, ?_⟩
  rw [show FP.fcmp (FP.d2f acc) (FP.fdiv (FP.l2f t) sv) = some .eq from h5]; rfl
theorem own_sh7 (x : Int32) : -16777216 ≤ (x >>> ((7 : Int32) &&& 31)).toInt ∧ (x >>> ((7 : Int32) &&& 31)).toInt < 16777216 := by
  have h := c_ishr x 7 7 (by decide)
  have h2 := rng32 x
  omega
theorem own_d2f_any {acc : UInt64} {k : Nat} {t : Int} (hk : k ≤ 15) (ht : t.natAbs ≤ 2 ^ 26) (ha : own_D k t acc) : Jvm.Free.Fl.NoNaN32 (FP.d2f acc) := by
  obtain ⟨T, hT⟩ : ∃ T : Int64, T.toInt = t := ⟨Int64.ofInt t, own_of64 (by omega) (by omega)⟩
  obtain ⟨sv, hsv⟩ : ∃ sv : UInt32, own_F 0 ((2 ^ k : Nat) : Int) sv := by
    have hp : (2 : Nat) ^ k ≤ 2 ^ 15 := Nat.pow_le_pow_right (by decide) hk
    have hp0 := Nat.two_pow_pos k
    have h := own_F_i2f (a := Int32.ofInt ((2 ^ k : Nat) : Int)) (by rw [own_of32 (by omega) (by omega), Int.natAbs_natCast]; omega)
    rw [own_of32 (by omega) (by omega)] at h
    exact ⟨_, h⟩
  exact (own_m3_no1 (t := T) (by omega) hk hsv (by rw [hT]; exact ha)).1
end OwnM3
theorem own_m15 (x : Int32) : x &&& (15 : Int32) = (0 : Int32) ∨ x &&& (15 : Int32) = (1 : Int32) ∨ x &&& (15 : Int32) = (2 : Int32) ∨ x &&& (15 : Int32) = (3 : Int32) ∨ x &&& (15 : Int32) = (4 : Int32) ∨ x &&& (15 : Int32) = (5 : Int32) ∨ x &&& (15 : Int32) = (6 : Int32) ∨ x &&& (15 : Int32) = (7 : Int32) ∨ x &&& (15 : Int32) = (8 : Int32) ∨ x &&& (15 : Int32) = (9 : Int32) ∨ x &&& (15 : Int32) = (10 : Int32) ∨ x &&& (15 : Int32) = (11 : Int32) ∨ x &&& (15 : Int32) = (12 : Int32) ∨ x &&& (15 : Int32) = (13 : Int32) ∨ x &&& (15 : Int32) = (14 : Int32) ∨ x &&& (15 : Int32) = (15 : Int32) := by
  have h := c_mask x (15 : Int32) 4 (by decide) (by decide)
  have h2 : (x &&& (15 : Int32)).toInt = 0 ∨ (x &&& (15 : Int32)).toInt = 1 ∨ (x &&& (15 : Int32)).toInt = 2 ∨ (x &&& (15 : Int32)).toInt = 3 ∨ (x &&& (15 : Int32)).toInt = 4 ∨ (x &&& (15 : Int32)).toInt = 5 ∨ (x &&& (15 : Int32)).toInt = 6 ∨ (x &&& (15 : Int32)).toInt = 7 ∨ (x &&& (15 : Int32)).toInt = 8 ∨ (x &&& (15 : Int32)).toInt = 9 ∨ (x &&& (15 : Int32)).toInt = 10 ∨ (x &&& (15 : Int32)).toInt = 11 ∨ (x &&& (15 : Int32)).toInt = 12 ∨ (x &&& (15 : Int32)).toInt = 13 ∨ (x &&& (15 : Int32)).toInt = 14 ∨ (x &&& (15 : Int32)).toInt = 15 := by omega
  rcases h2 with q | q | q | q | q | q | q | q | q | q | q | q | q | q | q | q
  · exact Or.inl (Int32.toInt_inj.mp (q.trans (by decide)))
  · exact Or.inr (Or.inl (Int32.toInt_inj.mp (q.trans (by decide))))
  · exact Or.inr (Or.inr (Or.inl (Int32.toInt_inj.mp (q.trans (by decide)))))
  · exact Or.inr (Or.inr (Or.inr (Or.inl (Int32.toInt_inj.mp (q.trans (by decide))))))
  · exact Or.inr (Or.inr (Or.inr (Or.inr (Or.inl (Int32.toInt_inj.mp (q.trans (by decide)))))))
  · exact Or.inr (Or.inr (Or.inr (Or.inr (Or.inr (Or.inl (Int32.toInt_inj.mp (q.trans (by decide))))))))
  · exact Or.inr (Or.inr (Or.inr (Or.inr (Or.inr (Or.inr (Or.inl (Int32.toInt_inj.mp (q.trans (by decide)))))))))
  · exact Or.inr (Or.inr (Or.inr (Or.inr (Or.inr (Or.inr (Or.inr (Or.inl (Int32.toInt_inj.mp (q.trans (by decide))))))))))
  · exact Or.inr (Or.inr (Or.inr (Or.inr (Or.inr (Or.inr (Or.inr (Or.inr (Or.inl (Int32.toInt_inj.mp (q.trans (by decide)))))))))))
  · exact Or.inr (Or.inr (Or.inr (Or.inr (Or.inr (Or.inr (Or.inr (Or.inr (Or.inr (Or.inl (Int32.toInt_inj.mp (q.trans (by decide))))))))))))
  · exact Or.inr (Or.inr (Or.inr (Or.inr (Or.inr (Or.inr (Or.inr (Or.inr (Or.inr (Or.inr (Or.inl (Int32.toInt_inj.mp (q.trans (by decide)))))))))))))
  · exact Or.inr (Or.inr (Or.inr (Or.inr (Or.inr (Or.inr (Or.inr (Or.inr (Or.inr (Or.inr (Or.inr (Or.inl (Int32.toInt_inj.mp (q.trans (by decide))))))))))))))
  · exact Or.inr (Or.inr (Or.inr (Or.inr (Or.inr (Or.inr (Or.inr (Or.inr (Or.inr (Or.inr (Or.inr (Or.inr (Or.inl (Int32.toInt_inj.mp (q.trans (by decide)))))))))))))))
  · exact Or.inr (Or.inr (Or.inr (Or.inr (Or.inr (Or.inr (Or.inr (Or.inr (Or.inr (Or.inr (Or.inr (Or.inr (Or.inr (Or.inl (Int32.toInt_inj.mp (q.trans (by decide))))))))))))))))
  · exact Or.inr (Or.inr (Or.inr (Or.inr (Or.inr (Or.inr (Or.inr (Or.inr (Or.inr (Or.inr (Or.inr (Or.inr (Or.inr (Or.inr (Or.inl (Int32.toInt_inj.mp (q.trans (by decide)))))))))))))))))
  · exact Or.inr (Or.inr (Or.inr (Or.inr (Or.inr (Or.inr (Or.inr (Or.inr (Or.inr (Or.inr (Or.inr (Or.inr (Or.inr (Or.inr (Or.inr ((Int32.toInt_inj.mp (q.trans (by decide))))))))))))))))))
theorem own_s (x : Int32) : ∃ k : Nat, k ≤ 15 ∧ ((1 : Int32) <<< ((x &&& (15 : Int32)) &&& 31)).toInt = ((2 ^ k : Nat) : Int) := by
  rcases own_m15 x with h | h | h | h | h | h | h | h | h | h | h | h | h | h | h | h
  · exact ⟨0, by decide, by rw [h]; decide⟩
  · exact ⟨1, by decide, by rw [h]; decide⟩
  · exact ⟨2, by decide, by rw [h]; decide⟩
  · exact ⟨3, by decide, by rw [h]; decide⟩
  · exact ⟨4, by decide, by rw [h]; decide⟩
  · exact ⟨5, by decide, by rw [h]; decide⟩
  · exact ⟨6, by decide, by rw [h]; decide⟩
  · exact ⟨7, by decide, by rw [h]; decide⟩
  · exact ⟨8, by decide, by rw [h]; decide⟩
  · exact ⟨9, by decide, by rw [h]; decide⟩
  · exact ⟨10, by decide, by rw [h]; decide⟩
  · exact ⟨11, by decide, by rw [h]; decide⟩
  · exact ⟨12, by decide, by rw [h]; decide⟩
  · exact ⟨13, by decide, by rw [h]; decide⟩
  · exact ⟨14, by decide, by rw [h]; decide⟩
  · exact ⟨15, by decide, by rw [h]; decide⟩
theorem own_n (i : Int32) : ((i &&& (7 : Int32)) % (5 : Int32)) = (0 : Int32) ∨ ((i &&& (7 : Int32)) % (5 : Int32)) = (1 : Int32) ∨ ((i &&& (7 : Int32)) % (5 : Int32)) = (2 : Int32) ∨ ((i &&& (7 : Int32)) % (5 : Int32)) = (3 : Int32) ∨ ((i &&& (7 : Int32)) % (5 : Int32)) = (4 : Int32) := by
  have h := c_mask i (7 : Int32) 3 (by decide) (by decide)
  have h1 := (c_irem (i &&& (7 : Int32)) (5 : Int32) 5 (by decide)).1 (by omega)
  have h2 : ((i &&& (7 : Int32)) % (5 : Int32)).toInt = 0 ∨ ((i &&& (7 : Int32)) % (5 : Int32)).toInt = 1 ∨ ((i &&& (7 : Int32)) % (5 : Int32)).toInt = 2 ∨ ((i &&& (7 : Int32)) % (5 : Int32)).toInt = 3 ∨ ((i &&& (7 : Int32)) % (5 : Int32)).toInt = 4 := by omega
  rcases h2 with q | q | q | q | q
  · exact Or.inl (Int32.toInt_inj.mp (q.trans (by decide)))
  · exact Or.inr (Or.inl (Int32.toInt_inj.mp (q.trans (by decide))))
  · exact Or.inr (Or.inr (Or.inl (Int32.toInt_inj.mp (q.trans (by decide)))))
  · exact Or.inr (Or.inr (Or.inr (Or.inl (Int32.toInt_inj.mp (q.trans (by decide))))))
  · exact Or.inr (Or.inr (Or.inr (Or.inr ((Int32.toInt_inj.mp (q.trans (by decide)))))))
theorem pn_0 : plainName "com/example/weighted_terms/weightedterms/search/Scores" = true := by first | (simp [plainName, overriddenIn]; done) | decide +kernel
theorem d1_0 : decode prog_41_method_2_code 0 = .ok (.dconst 0, 1) := by decide +kernel
theorem d1_1 : decode prog_41_method_2_code 1 = .ok (.dstore_n 2, 1) := by decide +kernel
theorem d1_2 : decode prog_41_method_2_code 2 = .ok (.iconst 0, 1) := by decide +kernel
theorem d1_3 : decode prog_41_method_2_code 3 = .ok (.istore 4, 2) := by decide +kernel
theorem d1_5 : decode prog_41_method_2_code 5 = .ok (.iload 4, 2) := by decide +kernel
theorem d1_7 : decode prog_41_method_2_code 7 = .ok (.iload_n 1, 1) := by decide +kernel
theorem d1_8 : decode prog_41_method_2_code 8 = .ok (.if_icmp .ge 17, 3) := by decide +kernel
theorem d1_25 : decode prog_41_method_2_code 25 = .ok (.dload_n 2, 1) := by decide +kernel
theorem d1_26 : decode prog_41_method_2_code 26 = .ok (.d2f, 1) := by decide +kernel
theorem d1_27 : decode prog_41_method_2_code 27 = .ok (.freturn, 1) := by decide +kernel
set_option maxRecDepth 65536 in
set_option maxHeartbeats 40000000 in
theorem own_sum0 (l : Launch) (Z : State) (a0 : Array Value) (hw : ∀ d ∈ tables_1, d.before a0 Z = true) (a : Addr) (kA : ClassId) (k : Nat) (d0 d1 d2 d3 : UInt32) (V0 V1 V2 V3 : Int) (h0 : Heap) (V : own_A Z h0 a .float kA [(.float d0), (.float d1), (.float d2), (.float d3)]) (hk : k ≤ 15) (F0 : own_F k V0 d0) (F1 : own_F k V1 d1) (F2 : own_F k V2 d2) (F3 : own_F k V3 d3) (B0 : -16777216 ≤ V0 ∧ V0 < 16777216) (B1 : -16777216 ≤ V1 ∧ V1 < 16777216) (B2 : -16777216 ≤ V2 ∧ V2 < 16777216) (B3 : -16777216 ≤ V3 ∧ V3 < 16777216) :
    own_Met l (⟨"com/example/weighted_terms/weightedterms/search/Scores", "sum", "([FI)F"⟩ : MethodName) prog_41_method_2_code 5 (some .float) [] ({ frames := 0, cells := 0, slots := 0, locals := 0 } : Room) Z #[(.ref a), (.int (0 : Int32))] h0 (fun v h L => (∃ acc, v = some (.float (FP.d2f acc)) ∧ own_D k (0) acc) ∧ h = h0 ∧ L = []) := by
  refine own_enter (plainFor_of_name pn_0) ?_
  intro p e s m below meth c T0 hx hby hml hret hlk hown hnm hZ X0 e0
  refine own_at (g' := (mkF m 0 #[oR a, oI (0 : Int32), .unset, .unset, .unset] [])) (by first | (simp [entryFrame, mkF, argsToLocals, Value.category]; done) | rfl) ?_
  show own_Go p e below _ T0 (mkF m 0 #[oR a, oI (0 : Int32), .unset, .unset, .unset] [])
  refine own_by (fun t_ k_ => XS.dconst0 X0.here hx rfl (hb hby d1_0) rfl k_) ?_
  show own_Go p e below _ T0 (mkF m 1 #[oR a, oI (0 : Int32), .unset, .unset, .unset] [(.double FP.dconst0)])
  refine own_by (fun t_ k_ => XS.dstoreN X0.here hx rfl (hb hby d1_1) rfl (l' := #[oR a, oI (0 : Int32), oD FP.dconst0, .second, .unset]) rfl k_) ?_
  show own_Go p e below _ T0 (mkF m 2 #[oR a, oI (0 : Int32), oD FP.dconst0, .second, .unset] [])
  refine own_by (fun t_ k_ => XT.iconstV X0.here hx rfl (0 : Int32) (hb hby d1_2) (by decide) k_) ?_
  show own_Go p e below _ T0 (mkF m 3 #[oR a, oI (0 : Int32), oD FP.dconst0, .second, .unset] [(.int (0 : Int32))])
  refine own_by (fun t_ k_ => XS.istore X0.here hx rfl (hb hby d1_3) rfl (l' := #[oR a, oI (0 : Int32), oD FP.dconst0, .second, oI (0 : Int32)]) rfl k_) ?_
  show own_Go p e below _ T0 (mkF m 5 #[oR a, oI (0 : Int32), oD FP.dconst0, .second, oI (0 : Int32)] [])
  refine own_by (fun t_ k_ => XS.iload X0.here hx rfl (hb hby d1_5) rfl  k_) ?_
  show own_Go p e below _ T0 (mkF m 7 #[oR a, oI (0 : Int32), oD FP.dconst0, .second, oI (0 : Int32)] [(.int (0 : Int32))])
  refine own_by (fun t_ k_ => XS.iloadN X0.here hx rfl (hb hby d1_7) rfl  k_) ?_
  show own_Go p e below _ T0 (mkF m 8 #[oR a, oI (0 : Int32), oD FP.dconst0, .second, oI (0 : Int32)] [(.int (0 : Int32)), (.int (0 : Int32))])
  refine own_by (fun t_ k_ => XS.icmpYes X0.here hx rfl (pc0 := 8) (pc' := 25) rfl (hb hby d1_8) rfl (XT.ii_ge_t (by decide)) (by decide) (by decide) k_) ?_
  show own_Go p e below _ T0 (mkF m 25 #[oR a, oI (0 : Int32), oD FP.dconst0, .second, oI (0 : Int32)] [])
  refine own_by (fun t_ k_ => XS.dloadN X0.here hx rfl (hb hby d1_25) rfl  k_) ?_
  show own_Go p e below _ T0 (mkF m 26 #[oR a, oI (0 : Int32), oD FP.dconst0, .second, oI (0 : Int32)] [(.double FP.dconst0)])
  refine own_by (fun t_ k_ => XS.d2fS X0.here hx rfl (hb hby d1_26) rfl (own_d2f_any hk (by omega) (own_D_zero k)) rfl k_) ?_
  show own_Go p e below _ T0 (mkF m 27 #[oR a, oI (0 : Int32), oD FP.dconst0, .second, oI (0 : Int32)] [(.float (FP.d2f FP.dconst0))])
  exact own_retF X0 hx hlk hret (hb hby d1_27) (by decide) (by decide) (⟨⟨FP.dconst0, rfl, (own_D_zero k)⟩, e0, rfl⟩)
theorem d1_11 : decode prog_41_method_2_code 11 = .ok (.dload_n 2, 1) := by decide +kernel
theorem d1_12 : decode prog_41_method_2_code 12 = .ok (.aload_n 0, 1) := by decide +kernel
theorem d1_13 : decode prog_41_method_2_code 13 = .ok (.iload 4, 2) := by decide +kernel
theorem d1_15 : decode prog_41_method_2_code 15 = .ok (.faload, 1) := by decide +kernel
theorem d1_16 : decode prog_41_method_2_code 16 = .ok (.f2d, 1) := by decide +kernel
theorem d1_17 : decode prog_41_method_2_code 17 = .ok (.dadd, 1) := by decide +kernel
theorem d1_18 : decode prog_41_method_2_code 18 = .ok (.dstore_n 2, 1) := by decide +kernel
theorem d1_19 : decode prog_41_method_2_code 19 = .ok (.iinc 4 1, 3) := by decide +kernel
theorem d1_22 : decode prog_41_method_2_code 22 = .ok (.goto (-17), 3) := by decide +kernel
set_option maxRecDepth 65536 in
set_option maxHeartbeats 40000000 in
theorem own_sum1 (l : Launch) (Z : State) (a0 : Array Value) (hw : ∀ d ∈ tables_1, d.before a0 Z = true) (a : Addr) (kA : ClassId) (k : Nat) (d0 d1 d2 d3 : UInt32) (V0 V1 V2 V3 : Int) (h0 : Heap) (V : own_A Z h0 a .float kA [(.float d0), (.float d1), (.float d2), (.float d3)]) (hk : k ≤ 15) (F0 : own_F k V0 d0) (F1 : own_F k V1 d1) (F2 : own_F k V2 d2) (F3 : own_F k V3 d3) (B0 : -16777216 ≤ V0 ∧ V0 < 16777216) (B1 : -16777216 ≤ V1 ∧ V1 < 16777216) (B2 : -16777216 ≤ V2 ∧ V2 < 16777216) (B3 : -16777216 ≤ V3 ∧ V3 < 16777216) :
    own_Met l (⟨"com/example/weighted_terms/weightedterms/search/Scores", "sum", "([FI)F"⟩ : MethodName) prog_41_method_2_code 5 (some .float) [] ({ frames := 0, cells := 0, slots := 0, locals := 0 } : Room) Z #[(.ref a), (.int (1 : Int32))] h0 (fun v h L => (∃ acc, v = some (.float (FP.d2f acc)) ∧ own_D k (0 + V0) acc) ∧ h = h0 ∧ L = []) := by
  refine own_enter (plainFor_of_name pn_0) ?_
  intro p e s m below meth c T0 hx hby hml hret hlk hown hnm hZ X0 e0
  refine own_at (g' := (mkF m 0 #[oR a, oI (1 : Int32), .unset, .unset, .unset] [])) (by first | (simp [entryFrame, mkF, argsToLocals, Value.category]; done) | rfl) ?_
  show own_Go p e below _ T0 (mkF m 0 #[oR a, oI (1 : Int32), .unset, .unset, .unset] [])
  refine own_by (fun t_ k_ => XS.dconst0 X0.here hx rfl (hb hby d1_0) rfl k_) ?_
  show own_Go p e below _ T0 (mkF m 1 #[oR a, oI (1 : Int32), .unset, .unset, .unset] [(.double FP.dconst0)])
  refine own_by (fun t_ k_ => XS.dstoreN X0.here hx rfl (hb hby d1_1) rfl (l' := #[oR a, oI (1 : Int32), oD FP.dconst0, .second, .unset]) rfl k_) ?_
  show own_Go p e below _ T0 (mkF m 2 #[oR a, oI (1 : Int32), oD FP.dconst0, .second, .unset] [])
  refine own_by (fun t_ k_ => XT.iconstV X0.here hx rfl (0 : Int32) (hb hby d1_2) (by decide) k_) ?_
  show own_Go p e below _ T0 (mkF m 3 #[oR a, oI (1 : Int32), oD FP.dconst0, .second, .unset] [(.int (0 : Int32))])
  refine own_by (fun t_ k_ => XS.istore X0.here hx rfl (hb hby d1_3) rfl (l' := #[oR a, oI (1 : Int32), oD FP.dconst0, .second, oI (0 : Int32)]) rfl k_) ?_
  show own_Go p e below _ T0 (mkF m 5 #[oR a, oI (1 : Int32), oD FP.dconst0, .second, oI (0 : Int32)] [])
  refine own_by (fun t_ k_ => XS.iload X0.here hx rfl (hb hby d1_5) rfl  k_) ?_
  show own_Go p e below _ T0 (mkF m 7 #[oR a, oI (1 : Int32), oD FP.dconst0, .second, oI (0 : Int32)] [(.int (0 : Int32))])
  refine own_by (fun t_ k_ => XS.iloadN X0.here hx rfl (hb hby d1_7) rfl  k_) ?_
  show own_Go p e below _ T0 (mkF m 8 #[oR a, oI (1 : Int32), oD FP.dconst0, .second, oI (0 : Int32)] [(.int (1 : Int32)), (.int (0 : Int32))])
  refine own_by (fun t_ k_ => XS.icmpNo X0.here hx rfl (hb hby d1_8) rfl (XT.ii_ge_f (by decide)) k_) ?_
  show own_Go p e below _ T0 (mkF m 11 #[oR a, oI (1 : Int32), oD FP.dconst0, .second, oI (0 : Int32)] [])
  refine own_by (fun t_ k_ => XS.dloadN X0.here hx rfl (hb hby d1_11) rfl  k_) ?_
  show own_Go p e below _ T0 (mkF m 12 #[oR a, oI (1 : Int32), oD FP.dconst0, .second, oI (0 : Int32)] [(.double FP.dconst0)])
  refine own_by (fun t_ k_ => XS.aloadN X0.here hx rfl (hb hby d1_12) rfl rfl  k_) ?_
  show own_Go p e below _ T0 (mkF m 13 #[oR a, oI (1 : Int32), oD FP.dconst0, .second, oI (0 : Int32)] [(.ref a), (.double FP.dconst0)])
  refine own_by (fun t_ k_ => XS.iload X0.here hx rfl (hb hby d1_13) rfl  k_) ?_
  show own_Go p e below _ T0 (mkF m 15 #[oR a, oI (1 : Int32), oD FP.dconst0, .second, oI (0 : Int32)] [(.int (0 : Int32)), (.ref a), (.double FP.dconst0)])
  refine own_ldF X0 hx hZ e0 V 0 (by decide) (by decide) (v := (.float d0)) rfl (hb hby d1_15) ?_
  show own_Go p e below _ T0 (mkF m 16 #[oR a, oI (1 : Int32), oD FP.dconst0, .second, oI (0 : Int32)] [(.float d0), (.double FP.dconst0)])
  have D1 := own_D_f2d F0 (by omega) (by omega) (by omega)
  refine own_by (fun t_ k_ => XS.f2dS X0.here hx rfl (hb hby d1_16) rfl (own_D_no D1) rfl k_) ?_
  show own_Go p e below _ T0 (mkF m 17 #[oR a, oI (1 : Int32), oD FP.dconst0, .second, oI (0 : Int32)] [(.double (FP.f2d d0)), (.double FP.dconst0)])
  generalize (FP.f2d d0) = x1 at D1 ⊢
  show own_Go p e below _ T0 (mkF m 17 #[oR a, oI (1 : Int32), oD FP.dconst0, .second, oI (0 : Int32)] [(.double x1), (.double FP.dconst0)])
  have D2 := own_D_add (own_D_zero k) D1 (by omega) (by omega) (by omega)
  refine own_by (fun t_ k_ => XS.daddS X0.here hx rfl (hb hby d1_17) rfl (own_D_no D2) rfl k_) ?_
  show own_Go p e below _ T0 (mkF m 18 #[oR a, oI (1 : Int32), oD FP.dconst0, .second, oI (0 : Int32)] [(.double (FP.dadd FP.dconst0 x1))])
  generalize (FP.dadd FP.dconst0 x1) = x2 at D2 ⊢
  show own_Go p e below _ T0 (mkF m 18 #[oR a, oI (1 : Int32), oD FP.dconst0, .second, oI (0 : Int32)] [(.double x2)])
  refine own_by (fun t_ k_ => XS.dstoreN X0.here hx rfl (hb hby d1_18) rfl (l' := #[oR a, oI (1 : Int32), oD x2, .second, oI (0 : Int32)]) rfl k_) ?_
  show own_Go p e below _ T0 (mkF m 19 #[oR a, oI (1 : Int32), oD x2, .second, oI (0 : Int32)] [])
  refine own_by (fun t_ k_ => XT.iincV X0.here hx rfl (1 : Int32) (hb hby d1_19) (by decide) rfl (l' := #[oR a, oI (1 : Int32), oD x2, .second, oI ((0 : Int32) + (1 : Int32))]) rfl k_) ?_
  show own_Go p e below _ T0 (mkF m 22 #[oR a, oI (1 : Int32), oD x2, .second, oI ((0 : Int32) + (1 : Int32))] [])
  rw [show ((0 : Int32) + (1 : Int32)) = (1 : Int32) by decide]
  show own_Go p e below _ T0 (mkF m 22 #[oR a, oI (1 : Int32), oD x2, .second, oI (1 : Int32)] [])
  refine own_by (fun t_ k_ => XS.goto X0.here hx rfl (pc0 := 22) (pc' := 5) rfl (hb hby d1_22) (by decide) (by decide) k_) ?_
  show own_Go p e below _ T0 (mkF m 5 #[oR a, oI (1 : Int32), oD x2, .second, oI (1 : Int32)] [])
  refine own_by (fun t_ k_ => XS.iload X0.here hx rfl (hb hby d1_5) rfl  k_) ?_
  show own_Go p e below _ T0 (mkF m 7 #[oR a, oI (1 : Int32), oD x2, .second, oI (1 : Int32)] [(.int (1 : Int32))])
  refine own_by (fun t_ k_ => XS.iloadN X0.here hx rfl (hb hby d1_7) rfl  k_) ?_
  show own_Go p e below _ T0 (mkF m 8 #[oR a, oI (1 : Int32), oD x2, .second, oI (1 : Int32)] [(.int (1 : Int32)), (.int (1 : Int32))])
  refine own_by (fun t_ k_ => XS.icmpYes X0.here hx rfl (pc0 := 8) (pc' := 25) rfl (hb hby d1_8) rfl (XT.ii_ge_t (by decide)) (by decide) (by decide) k_) ?_
  show own_Go p e below _ T0 (mkF m 25 #[oR a, oI (1 : Int32), oD x2, .second, oI (1 : Int32)] [])
  refine own_by (fun t_ k_ => XS.dloadN X0.here hx rfl (hb hby d1_25) rfl  k_) ?_
  show own_Go p e below _ T0 (mkF m 26 #[oR a, oI (1 : Int32), oD x2, .second, oI (1 : Int32)] [(.double x2)])
  refine own_by (fun t_ k_ => XS.d2fS X0.here hx rfl (hb hby d1_26) rfl (own_d2f_any hk (by omega) D2) rfl k_) ?_
  show own_Go p e below _ T0 (mkF m 27 #[oR a, oI (1 : Int32), oD x2, .second, oI (1 : Int32)] [(.float (FP.d2f x2))])
  exact own_retF X0 hx hlk hret (hb hby d1_27) (by decide) (by decide) (⟨⟨x2, rfl, D2⟩, e0, rfl⟩)
set_option maxRecDepth 65536 in
set_option maxHeartbeats 40000000 in
theorem own_sum2 (l : Launch) (Z : State) (a0 : Array Value) (hw : ∀ d ∈ tables_1, d.before a0 Z = true) (a : Addr) (kA : ClassId) (k : Nat) (d0 d1 d2 d3 : UInt32) (V0 V1 V2 V3 : Int) (h0 : Heap) (V : own_A Z h0 a .float kA [(.float d0), (.float d1), (.float d2), (.float d3)]) (hk : k ≤ 15) (F0 : own_F k V0 d0) (F1 : own_F k V1 d1) (F2 : own_F k V2 d2) (F3 : own_F k V3 d3) (B0 : -16777216 ≤ V0 ∧ V0 < 16777216) (B1 : -16777216 ≤ V1 ∧ V1 < 16777216) (B2 : -16777216 ≤ V2 ∧ V2 < 16777216) (B3 : -16777216 ≤ V3 ∧ V3 < 16777216) :
    own_Met l (⟨"com/example/weighted_terms/weightedterms/search/Scores", "sum", "([FI)F"⟩ : MethodName) prog_41_method_2_code 5 (some .float) [] ({ frames := 0, cells := 0, slots := 0, locals := 0 } : Room) Z #[(.ref a), (.int (2 : Int32))] h0 (fun v h L => (∃ acc, v = some (.float (FP.d2f acc)) ∧ own_D k (0 + V0 + V1) acc) ∧ h = h0 ∧ L = []) := by
  refine own_enter (plainFor_of_name pn_0) ?_
  intro p e s m below meth c T0 hx hby hml hret hlk hown hnm hZ X0 e0
  refine own_at (g' := (mkF m 0 #[oR a, oI (2 : Int32), .unset, .unset, .unset] [])) (by first | (simp [entryFrame, mkF, argsToLocals, Value.category]; done) | rfl) ?_
  show own_Go p e below _ T0 (mkF m 0 #[oR a, oI (2 : Int32), .unset, .unset, .unset] [])
  refine own_by (fun t_ k_ => XS.dconst0 X0.here hx rfl (hb hby d1_0) rfl k_) ?_
  show own_Go p e below _ T0 (mkF m 1 #[oR a, oI (2 : Int32), .unset, .unset, .unset] [(.double FP.dconst0)])
  refine own_by (fun t_ k_ => XS.dstoreN X0.here hx rfl (hb hby d1_1) rfl (l' := #[oR a, oI (2 : Int32), oD FP.dconst0, .second, .unset]) rfl k_) ?_
  show own_Go p e below _ T0 (mkF m 2 #[oR a, oI (2 : Int32), oD FP.dconst0, .second, .unset] [])
  refine own_by (fun t_ k_ => XT.iconstV X0.here hx rfl (0 : Int32) (hb hby d1_2) (by decide) k_) ?_
  show own_Go p e below _ T0 (mkF m 3 #[oR a, oI (2 : Int32), oD FP.dconst0, .second, .unset] [(.int (0 : Int32))])
  refine own_by (fun t_ k_ => XS.istore X0.here hx rfl (hb hby d1_3) rfl (l' := #[oR a, oI (2 : Int32), oD FP.dconst0, .second, oI (0 : Int32)]) rfl k_) ?_
  show own_Go p e below _ T0 (mkF m 5 #[oR a, oI (2 : Int32), oD FP.dconst0, .second, oI (0 : Int32)] [])
  refine own_by (fun t_ k_ => XS.iload X0.here hx rfl (hb hby d1_5) rfl  k_) ?_
  show own_Go p e below _ T0 (mkF m 7 #[oR a, oI (2 : Int32), oD FP.dconst0, .second, oI (0 : Int32)] [(.int (0 : Int32))])
  refine own_by (fun t_ k_ => XS.iloadN X0.here hx rfl (hb hby d1_7) rfl  k_) ?_
  show own_Go p e below _ T0 (mkF m 8 #[oR a, oI (2 : Int32), oD FP.dconst0, .second, oI (0 : Int32)] [(.int (2 : Int32)), (.int (0 : Int32))])
  refine own_by (fun t_ k_ => XS.icmpNo X0.here hx rfl (hb hby d1_8) rfl (XT.ii_ge_f (by decide)) k_) ?_
  show own_Go p e below _ T0 (mkF m 11 #[oR a, oI (2 : Int32), oD FP.dconst0, .second, oI (0 : Int32)] [])
  refine own_by (fun t_ k_ => XS.dloadN X0.here hx rfl (hb hby d1_11) rfl  k_) ?_
  show own_Go p e below _ T0 (mkF m 12 #[oR a, oI (2 : Int32), oD FP.dconst0, .second, oI (0 : Int32)] [(.double FP.dconst0)])
  refine own_by (fun t_ k_ => XS.aloadN X0.here hx rfl (hb hby d1_12) rfl rfl  k_) ?_
  show own_Go p e below _ T0 (mkF m 13 #[oR a, oI (2 : Int32), oD FP.dconst0, .second, oI (0 : Int32)] [(.ref a), (.double FP.dconst0)])
  refine own_by (fun t_ k_ => XS.iload X0.here hx rfl (hb hby d1_13) rfl  k_) ?_
  show own_Go p e below _ T0 (mkF m 15 #[oR a, oI (2 : Int32), oD FP.dconst0, .second, oI (0 : Int32)] [(.int (0 : Int32)), (.ref a), (.double FP.dconst0)])
  refine own_ldF X0 hx hZ e0 V 0 (by decide) (by decide) (v := (.float d0)) rfl (hb hby d1_15) ?_
  show own_Go p e below _ T0 (mkF m 16 #[oR a, oI (2 : Int32), oD FP.dconst0, .second, oI (0 : Int32)] [(.float d0), (.double FP.dconst0)])
  have D1 := own_D_f2d F0 (by omega) (by omega) (by omega)
  refine own_by (fun t_ k_ => XS.f2dS X0.here hx rfl (hb hby d1_16) rfl (own_D_no D1) rfl k_) ?_
  show own_Go p e below _ T0 (mkF m 17 #[oR a, oI (2 : Int32), oD FP.dconst0, .second, oI (0 : Int32)] [(.double (FP.f2d d0)), (.double FP.dconst0)])
  generalize (FP.f2d d0) = x1 at D1 ⊢
  show own_Go p e below _ T0 (mkF m 17 #[oR a, oI (2 : Int32), oD FP.dconst0, .second, oI (0 : Int32)] [(.double x1), (.double FP.dconst0)])
  have D2 := own_D_add (own_D_zero k) D1 (by omega) (by omega) (by omega)
  refine own_by (fun t_ k_ => XS.daddS X0.here hx rfl (hb hby d1_17) rfl (own_D_no D2) rfl k_) ?_
  show own_Go p e below _ T0 (mkF m 18 #[oR a, oI (2 : Int32), oD FP.dconst0, .second, oI (0 : Int32)] [(.double (FP.dadd FP.dconst0 x1))])
  generalize (FP.dadd FP.dconst0 x1) = x2 at D2 ⊢
  show own_Go p e below _ T0 (mkF m 18 #[oR a, oI (2 : Int32), oD FP.dconst0, .second, oI (0 : Int32)] [(.double x2)])
  refine own_by (fun t_ k_ => XS.dstoreN X0.here hx rfl (hb hby d1_18) rfl (l' := #[oR a, oI (2 : Int32), oD x2, .second, oI (0 : Int32)]) rfl k_) ?_
  show own_Go p e below _ T0 (mkF m 19 #[oR a, oI (2 : Int32), oD x2, .second, oI (0 : Int32)] [])
  refine own_by (fun t_ k_ => XT.iincV X0.here hx rfl (1 : Int32) (hb hby d1_19) (by decide) rfl (l' := #[oR a, oI (2 : Int32), oD x2, .second, oI ((0 : Int32) + (1 : Int32))]) rfl k_) ?_
  show own_Go p e below _ T0 (mkF m 22 #[oR a, oI (2 : Int32), oD x2, .second, oI ((0 : Int32) + (1 : Int32))] [])
  rw [show ((0 : Int32) + (1 : Int32)) = (1 : Int32) by decide]
  show own_Go p e below _ T0 (mkF m 22 #[oR a, oI (2 : Int32), oD x2, .second, oI (1 : Int32)] [])
  refine own_by (fun t_ k_ => XS.goto X0.here hx rfl (pc0 := 22) (pc' := 5) rfl (hb hby d1_22) (by decide) (by decide) k_) ?_
  show own_Go p e below _ T0 (mkF m 5 #[oR a, oI (2 : Int32), oD x2, .second, oI (1 : Int32)] [])
  refine own_by (fun t_ k_ => XS.iload X0.here hx rfl (hb hby d1_5) rfl  k_) ?_
  show own_Go p e below _ T0 (mkF m 7 #[oR a, oI (2 : Int32), oD x2, .second, oI (1 : Int32)] [(.int (1 : Int32))])
  refine own_by (fun t_ k_ => XS.iloadN X0.here hx rfl (hb hby d1_7) rfl  k_) ?_
  show own_Go p e below _ T0 (mkF m 8 #[oR a, oI (2 : Int32), oD x2, .second, oI (1 : Int32)] [(.int (2 : Int32)), (.int (1 : Int32))])
  refine own_by (fun t_ k_ => XS.icmpNo X0.here hx rfl (hb hby d1_8) rfl (XT.ii_ge_f (by decide)) k_) ?_
  show own_Go p e below _ T0 (mkF m 11 #[oR a, oI (2 : Int32), oD x2, .second, oI (1 : Int32)] [])
  refine own_by (fun t_ k_ => XS.dloadN X0.here hx rfl (hb hby d1_11) rfl  k_) ?_
  show own_Go p e below _ T0 (mkF m 12 #[oR a, oI (2 : Int32), oD x2, .second, oI (1 : Int32)] [(.double x2)])
  refine own_by (fun t_ k_ => XS.aloadN X0.here hx rfl (hb hby d1_12) rfl rfl  k_) ?_
  show own_Go p e below _ T0 (mkF m 13 #[oR a, oI (2 : Int32), oD x2, .second, oI (1 : Int32)] [(.ref a), (.double x2)])
  refine own_by (fun t_ k_ => XS.iload X0.here hx rfl (hb hby d1_13) rfl  k_) ?_
  show own_Go p e below _ T0 (mkF m 15 #[oR a, oI (2 : Int32), oD x2, .second, oI (1 : Int32)] [(.int (1 : Int32)), (.ref a), (.double x2)])
  refine own_ldF X0 hx hZ e0 V 1 (by decide) (by decide) (v := (.float d1)) rfl (hb hby d1_15) ?_
  show own_Go p e below _ T0 (mkF m 16 #[oR a, oI (2 : Int32), oD x2, .second, oI (1 : Int32)] [(.float d1), (.double x2)])
  have D3 := own_D_f2d F1 (by omega) (by omega) (by omega)
  refine own_by (fun t_ k_ => XS.f2dS X0.here hx rfl (hb hby d1_16) rfl (own_D_no D3) rfl k_) ?_
  show own_Go p e below _ T0 (mkF m 17 #[oR a, oI (2 : Int32), oD x2, .second, oI (1 : Int32)] [(.double (FP.f2d d1)), (.double x2)])
  generalize (FP.f2d d1) = x3 at D3 ⊢
  show own_Go p e below _ T0 (mkF m 17 #[oR a, oI (2 : Int32), oD x2, .second, oI (1 : Int32)] [(.double x3), (.double x2)])
  have D4 := own_D_add D2 D3 (by omega) (by omega) (by omega)
  refine own_by (fun t_ k_ => XS.daddS X0.here hx rfl (hb hby d1_17) rfl (own_D_no D4) rfl k_) ?_
  show own_Go p e below _ T0 (mkF m 18 #[oR a, oI (2 : Int32), oD x2, .second, oI (1 : Int32)] [(.double (FP.dadd x2 x3))])
  generalize (FP.dadd x2 x3) = x4 at D4 ⊢
  show own_Go p e below _ T0 (mkF m 18 #[oR a, oI (2 : Int32), oD x2, .second, oI (1 : Int32)] [(.double x4)])
  refine own_by (fun t_ k_ => XS.dstoreN X0.here hx rfl (hb hby d1_18) rfl (l' := #[oR a, oI (2 : Int32), oD x4, .second, oI (1 : Int32)]) rfl k_) ?_
  show own_Go p e below _ T0 (mkF m 19 #[oR a, oI (2 : Int32), oD x4, .second, oI (1 : Int32)] [])
  refine own_by (fun t_ k_ => XT.iincV X0.here hx rfl (1 : Int32) (hb hby d1_19) (by decide) rfl (l' := #[oR a, oI (2 : Int32), oD x4, .second, oI ((1 : Int32) + (1 : Int32))]) rfl k_) ?_
  show own_Go p e below _ T0 (mkF m 22 #[oR a, oI (2 : Int32), oD x4, .second, oI ((1 : Int32) + (1 : Int32))] [])
  rw [show ((1 : Int32) + (1 : Int32)) = (2 : Int32) by decide]
  show own_Go p e below _ T0 (mkF m 22 #[oR a, oI (2 : Int32), oD x4, .second, oI (2 : Int32)] [])
  refine own_by (fun t_ k_ => XS.goto X0.here hx rfl (pc0 := 22) (pc' := 5) rfl (hb hby d1_22) (by decide) (by decide) k_) ?_
  show own_Go p e below _ T0 (mkF m 5 #[oR a, oI (2 : Int32), oD x4, .second, oI (2 : Int32)] [])
  refine own_by (fun t_ k_ => XS.iload X0.here hx rfl (hb hby d1_5) rfl  k_) ?_
  show own_Go p e below _ T0 (mkF m 7 #[oR a, oI (2 : Int32), oD x4, .second, oI (2 : Int32)] [(.int (2 : Int32))])
  refine own_by (fun t_ k_ => XS.iloadN X0.here hx rfl (hb hby d1_7) rfl  k_) ?_
  show own_Go p e below _ T0 (mkF m 8 #[oR a, oI (2 : Int32), oD x4, .second, oI (2 : Int32)] [(.int (2 : Int32)), (.int (2 : Int32))])
  refine own_by (fun t_ k_ => XS.icmpYes X0.here hx rfl (pc0 := 8) (pc' := 25) rfl (hb hby d1_8) rfl (XT.ii_ge_t (by decide)) (by decide) (by decide) k_) ?_
  show own_Go p e below _ T0 (mkF m 25 #[oR a, oI (2 : Int32), oD x4, .second, oI (2 : Int32)] [])
  refine own_by (fun t_ k_ => XS.dloadN X0.here hx rfl (hb hby d1_25) rfl  k_) ?_
  show own_Go p e below _ T0 (mkF m 26 #[oR a, oI (2 : Int32), oD x4, .second, oI (2 : Int32)] [(.double x4)])
  refine own_by (fun t_ k_ => XS.d2fS X0.here hx rfl (hb hby d1_26) rfl (own_d2f_any hk (by omega) D4) rfl k_) ?_
  show own_Go p e below _ T0 (mkF m 27 #[oR a, oI (2 : Int32), oD x4, .second, oI (2 : Int32)] [(.float (FP.d2f x4))])
  exact own_retF X0 hx hlk hret (hb hby d1_27) (by decide) (by decide) (⟨⟨x4, rfl, D4⟩, e0, rfl⟩)
set_option maxRecDepth 65536 in
set_option maxHeartbeats 40000000 in
theorem own_sum3 (l : Launch) (Z : State) (a0 : Array Value) (hw : ∀ d ∈ tables_1, d.before a0 Z = true) (a : Addr) (kA : ClassId) (k : Nat) (d0 d1 d2 d3 : UInt32) (V0 V1 V2 V3 : Int) (h0 : Heap) (V : own_A Z h0 a .float kA [(.float d0), (.float d1), (.float d2), (.float d3)]) (hk : k ≤ 15) (F0 : own_F k V0 d0) (F1 : own_F k V1 d1) (F2 : own_F k V2 d2) (F3 : own_F k V3 d3) (B0 : -16777216 ≤ V0 ∧ V0 < 16777216) (B1 : -16777216 ≤ V1 ∧ V1 < 16777216) (B2 : -16777216 ≤ V2 ∧ V2 < 16777216) (B3 : -16777216 ≤ V3 ∧ V3 < 16777216) :
    own_Met l (⟨"com/example/weighted_terms/weightedterms/search/Scores", "sum", "([FI)F"⟩ : MethodName) prog_41_method_2_code 5 (some .float) [] ({ frames := 0, cells := 0, slots := 0, locals := 0 } : Room) Z #[(.ref a), (.int (3 : Int32))] h0 (fun v h L => (∃ acc, v = some (.float (FP.d2f acc)) ∧ own_D k (0 + V0 + V1 + V2) acc) ∧ h = h0 ∧ L = []) := by
  refine own_enter (plainFor_of_name pn_0) ?_
  intro p e s m below meth c T0 hx hby hml hret hlk hown hnm hZ X0 e0
  refine own_at (g' := (mkF m 0 #[oR a, oI (3 : Int32), .unset, .unset, .unset] [])) (by first | (simp [entryFrame, mkF, argsToLocals, Value.category]; done) | rfl) ?_
  show own_Go p e below _ T0 (mkF m 0 #[oR a, oI (3 : Int32), .unset, .unset, .unset] [])
  refine own_by (fun t_ k_ => XS.dconst0 X0.here hx rfl (hb hby d1_0) rfl k_) ?_
  show own_Go p e below _ T0 (mkF m 1 #[oR a, oI (3 : Int32), .unset, .unset, .unset] [(.double FP.dconst0)])
  refine own_by (fun t_ k_ => XS.dstoreN X0.here hx rfl (hb hby d1_1) rfl (l' := #[oR a, oI (3 : Int32), oD FP.dconst0, .second, .unset]) rfl k_) ?_
  show own_Go p e below _ T0 (mkF m 2 #[oR a, oI (3 : Int32), oD FP.dconst0, .second, .unset] [])
  refine own_by (fun t_ k_ => XT.iconstV X0.here hx rfl (0 : Int32) (hb hby d1_2) (by decide) k_) ?_
  show own_Go p e below _ T0 (mkF m 3 #[oR a, oI (3 : Int32), oD FP.dconst0, .second, .unset] [(.int (0 : Int32))])
  refine own_by (fun t_ k_ => XS.istore X0.here hx rfl (hb hby d1_3) rfl (l' := #[oR a, oI (3 : Int32), oD FP.dconst0, .second, oI (0 : Int32)]) rfl k_) ?_
  show own_Go p e below _ T0 (mkF m 5 #[oR a, oI (3 : Int32), oD FP.dconst0, .second, oI (0 : Int32)] [])
  refine own_by (fun t_ k_ => XS.iload X0.here hx rfl (hb hby d1_5) rfl  k_) ?_
  show own_Go p e below _ T0 (mkF m 7 #[oR a, oI (3 : Int32), oD FP.dconst0, .second, oI (0 : Int32)] [(.int (0 : Int32))])
  refine own_by (fun t_ k_ => XS.iloadN X0.here hx rfl (hb hby d1_7) rfl  k_) ?_
  show own_Go p e below _ T0 (mkF m 8 #[oR a, oI (3 : Int32), oD FP.dconst0, .second, oI (0 : Int32)] [(.int (3 : Int32)), (.int (0 : Int32))])
  refine own_by (fun t_ k_ => XS.icmpNo X0.here hx rfl (hb hby d1_8) rfl (XT.ii_ge_f (by decide)) k_) ?_
  show own_Go p e below _ T0 (mkF m 11 #[oR a, oI (3 : Int32), oD FP.dconst0, .second, oI (0 : Int32)] [])
  refine own_by (fun t_ k_ => XS.dloadN X0.here hx rfl (hb hby d1_11) rfl  k_) ?_
  show own_Go p e below _ T0 (mkF m 12 #[oR a, oI (3 : Int32), oD FP.dconst0, .second, oI (0 : Int32)] [(.double FP.dconst0)])
  refine own_by (fun t_ k_ => XS.aloadN X0.here hx rfl (hb hby d1_12) rfl rfl  k_) ?_
  show own_Go p e below _ T0 (mkF m 13 #[oR a, oI (3 : Int32), oD FP.dconst0, .second, oI (0 : Int32)] [(.ref a), (.double FP.dconst0)])
  refine own_by (fun t_ k_ => XS.iload X0.here hx rfl (hb hby d1_13) rfl  k_) ?_
  show own_Go p e below _ T0 (mkF m 15 #[oR a, oI (3 : Int32), oD FP.dconst0, .second, oI (0 : Int32)] [(.int (0 : Int32)), (.ref a), (.double FP.dconst0)])
  refine own_ldF X0 hx hZ e0 V 0 (by decide) (by decide) (v := (.float d0)) rfl (hb hby d1_15) ?_
  show own_Go p e below _ T0 (mkF m 16 #[oR a, oI (3 : Int32), oD FP.dconst0, .second, oI (0 : Int32)] [(.float d0), (.double FP.dconst0)])
  have D1 := own_D_f2d F0 (by omega) (by omega) (by omega)
  refine own_by (fun t_ k_ => XS.f2dS X0.here hx rfl (hb hby d1_16) rfl (own_D_no D1) rfl k_) ?_
  show own_Go p e below _ T0 (mkF m 17 #[oR a, oI (3 : Int32), oD FP.dconst0, .second, oI (0 : Int32)] [(.double (FP.f2d d0)), (.double FP.dconst0)])
  generalize (FP.f2d d0) = x1 at D1 ⊢
  show own_Go p e below _ T0 (mkF m 17 #[oR a, oI (3 : Int32), oD FP.dconst0, .second, oI (0 : Int32)] [(.double x1), (.double FP.dconst0)])
  have D2 := own_D_add (own_D_zero k) D1 (by omega) (by omega) (by omega)
  refine own_by (fun t_ k_ => XS.daddS X0.here hx rfl (hb hby d1_17) rfl (own_D_no D2) rfl k_) ?_
  show own_Go p e below _ T0 (mkF m 18 #[oR a, oI (3 : Int32), oD FP.dconst0, .second, oI (0 : Int32)] [(.double (FP.dadd FP.dconst0 x1))])
  generalize (FP.dadd FP.dconst0 x1) = x2 at D2 ⊢
  show own_Go p e below _ T0 (mkF m 18 #[oR a, oI (3 : Int32), oD FP.dconst0, .second, oI (0 : Int32)] [(.double x2)])
  refine own_by (fun t_ k_ => XS.dstoreN X0.here hx rfl (hb hby d1_18) rfl (l' := #[oR a, oI (3 : Int32), oD x2, .second, oI (0 : Int32)]) rfl k_) ?_
  show own_Go p e below _ T0 (mkF m 19 #[oR a, oI (3 : Int32), oD x2, .second, oI (0 : Int32)] [])
  refine own_by (fun t_ k_ => XT.iincV X0.here hx rfl (1 : Int32) (hb hby d1_19) (by decide) rfl (l' := #[oR a, oI (3 : Int32), oD x2, .second, oI ((0 : Int32) + (1 : Int32))]) rfl k_) ?_
  show own_Go p e below _ T0 (mkF m 22 #[oR a, oI (3 : Int32), oD x2, .second, oI ((0 : Int32) + (1 : Int32))] [])
  rw [show ((0 : Int32) + (1 : Int32)) = (1 : Int32) by decide]
  show own_Go p e below _ T0 (mkF m 22 #[oR a, oI (3 : Int32), oD x2, .second, oI (1 : Int32)] [])
  refine own_by (fun t_ k_ => XS.goto X0.here hx rfl (pc0 := 22) (pc' := 5) rfl (hb hby d1_22) (by decide) (by decide) k_) ?_
  show own_Go p e below _ T0 (mkF m 5 #[oR a, oI (3 : Int32), oD x2, .second, oI (1 : Int32)] [])
  refine own_by (fun t_ k_ => XS.iload X0.here hx rfl (hb hby d1_5) rfl  k_) ?_
  show own_Go p e below _ T0 (mkF m 7 #[oR a, oI (3 : Int32), oD x2, .second, oI (1 : Int32)] [(.int (1 : Int32))])
  refine own_by (fun t_ k_ => XS.iloadN X0.here hx rfl (hb hby d1_7) rfl  k_) ?_
  show own_Go p e below _ T0 (mkF m 8 #[oR a, oI (3 : Int32), oD x2, .second, oI (1 : Int32)] [(.int (3 : Int32)), (.int (1 : Int32))])
  refine own_by (fun t_ k_ => XS.icmpNo X0.here hx rfl (hb hby d1_8) rfl (XT.ii_ge_f (by decide)) k_) ?_
  show own_Go p e below _ T0 (mkF m 11 #[oR a, oI (3 : Int32), oD x2, .second, oI (1 : Int32)] [])
  refine own_by (fun t_ k_ => XS.dloadN X0.here hx rfl (hb hby d1_11) rfl  k_) ?_
  show own_Go p e below _ T0 (mkF m 12 #[oR a, oI (3 : Int32), oD x2, .second, oI (1 : Int32)] [(.double x2)])
  refine own_by (fun t_ k_ => XS.aloadN X0.here hx rfl (hb hby d1_12) rfl rfl  k_) ?_
  show own_Go p e below _ T0 (mkF m 13 #[oR a, oI (3 : Int32), oD x2, .second, oI (1 : Int32)] [(.ref a), (.double x2)])
  refine own_by (fun t_ k_ => XS.iload X0.here hx rfl (hb hby d1_13) rfl  k_) ?_
  show own_Go p e below _ T0 (mkF m 15 #[oR a, oI (3 : Int32), oD x2, .second, oI (1 : Int32)] [(.int (1 : Int32)), (.ref a), (.double x2)])
  refine own_ldF X0 hx hZ e0 V 1 (by decide) (by decide) (v := (.float d1)) rfl (hb hby d1_15) ?_
  show own_Go p e below _ T0 (mkF m 16 #[oR a, oI (3 : Int32), oD x2, .second, oI (1 : Int32)] [(.float d1), (.double x2)])
  have D3 := own_D_f2d F1 (by omega) (by omega) (by omega)
  refine own_by (fun t_ k_ => XS.f2dS X0.here hx rfl (hb hby d1_16) rfl (own_D_no D3) rfl k_) ?_
  show own_Go p e below _ T0 (mkF m 17 #[oR a, oI (3 : Int32), oD x2, .second, oI (1 : Int32)] [(.double (FP.f2d d1)), (.double x2)])
  generalize (FP.f2d d1) = x3 at D3 ⊢
  show own_Go p e below _ T0 (mkF m 17 #[oR a, oI (3 : Int32), oD x2, .second, oI (1 : Int32)] [(.double x3), (.double x2)])
  have D4 := own_D_add D2 D3 (by omega) (by omega) (by omega)
  refine own_by (fun t_ k_ => XS.daddS X0.here hx rfl (hb hby d1_17) rfl (own_D_no D4) rfl k_) ?_
  show own_Go p e below _ T0 (mkF m 18 #[oR a, oI (3 : Int32), oD x2, .second, oI (1 : Int32)] [(.double (FP.dadd x2 x3))])
  generalize (FP.dadd x2 x3) = x4 at D4 ⊢
  show own_Go p e below _ T0 (mkF m 18 #[oR a, oI (3 : Int32), oD x2, .second, oI (1 : Int32)] [(.double x4)])
  refine own_by (fun t_ k_ => XS.dstoreN X0.here hx rfl (hb hby d1_18) rfl (l' := #[oR a, oI (3 : Int32), oD x4, .second, oI (1 : Int32)]) rfl k_) ?_
  show own_Go p e below _ T0 (mkF m 19 #[oR a, oI (3 : Int32), oD x4, .second, oI (1 : Int32)] [])
  refine own_by (fun t_ k_ => XT.iincV X0.here hx rfl (1 : Int32) (hb hby d1_19) (by decide) rfl (l' := #[oR a, oI (3 : Int32), oD x4, .second, oI ((1 : Int32) + (1 : Int32))]) rfl k_) ?_
  show own_Go p e below _ T0 (mkF m 22 #[oR a, oI (3 : Int32), oD x4, .second, oI ((1 : Int32) + (1 : Int32))] [])
  rw [show ((1 : Int32) + (1 : Int32)) = (2 : Int32) by decide]
  show own_Go p e below _ T0 (mkF m 22 #[oR a, oI (3 : Int32), oD x4, .second, oI (2 : Int32)] [])
  refine own_by (fun t_ k_ => XS.goto X0.here hx rfl (pc0 := 22) (pc' := 5) rfl (hb hby d1_22) (by decide) (by decide) k_) ?_
  show own_Go p e below _ T0 (mkF m 5 #[oR a, oI (3 : Int32), oD x4, .second, oI (2 : Int32)] [])
  refine own_by (fun t_ k_ => XS.iload X0.here hx rfl (hb hby d1_5) rfl  k_) ?_
  show own_Go p e below _ T0 (mkF m 7 #[oR a, oI (3 : Int32), oD x4, .second, oI (2 : Int32)] [(.int (2 : Int32))])
  refine own_by (fun t_ k_ => XS.iloadN X0.here hx rfl (hb hby d1_7) rfl  k_) ?_
  show own_Go p e below _ T0 (mkF m 8 #[oR a, oI (3 : Int32), oD x4, .second, oI (2 : Int32)] [(.int (3 : Int32)), (.int (2 : Int32))])
  refine own_by (fun t_ k_ => XS.icmpNo X0.here hx rfl (hb hby d1_8) rfl (XT.ii_ge_f (by decide)) k_) ?_
  show own_Go p e below _ T0 (mkF m 11 #[oR a, oI (3 : Int32), oD x4, .second, oI (2 : Int32)] [])
  refine own_by (fun t_ k_ => XS.dloadN X0.here hx rfl (hb hby d1_11) rfl  k_) ?_
  show own_Go p e below _ T0 (mkF m 12 #[oR a, oI (3 : Int32), oD x4, .second, oI (2 : Int32)] [(.double x4)])
  refine own_by (fun t_ k_ => XS.aloadN X0.here hx rfl (hb hby d1_12) rfl rfl  k_) ?_
  show own_Go p e below _ T0 (mkF m 13 #[oR a, oI (3 : Int32), oD x4, .second, oI (2 : Int32)] [(.ref a), (.double x4)])
  refine own_by (fun t_ k_ => XS.iload X0.here hx rfl (hb hby d1_13) rfl  k_) ?_
  show own_Go p e below _ T0 (mkF m 15 #[oR a, oI (3 : Int32), oD x4, .second, oI (2 : Int32)] [(.int (2 : Int32)), (.ref a), (.double x4)])
  refine own_ldF X0 hx hZ e0 V 2 (by decide) (by decide) (v := (.float d2)) rfl (hb hby d1_15) ?_
  show own_Go p e below _ T0 (mkF m 16 #[oR a, oI (3 : Int32), oD x4, .second, oI (2 : Int32)] [(.float d2), (.double x4)])
  have D5 := own_D_f2d F2 (by omega) (by omega) (by omega)
  refine own_by (fun t_ k_ => XS.f2dS X0.here hx rfl (hb hby d1_16) rfl (own_D_no D5) rfl k_) ?_
  show own_Go p e below _ T0 (mkF m 17 #[oR a, oI (3 : Int32), oD x4, .second, oI (2 : Int32)] [(.double (FP.f2d d2)), (.double x4)])
  generalize (FP.f2d d2) = x5 at D5 ⊢
  show own_Go p e below _ T0 (mkF m 17 #[oR a, oI (3 : Int32), oD x4, .second, oI (2 : Int32)] [(.double x5), (.double x4)])
  have D6 := own_D_add D4 D5 (by omega) (by omega) (by omega)
  refine own_by (fun t_ k_ => XS.daddS X0.here hx rfl (hb hby d1_17) rfl (own_D_no D6) rfl k_) ?_
  show own_Go p e below _ T0 (mkF m 18 #[oR a, oI (3 : Int32), oD x4, .second, oI (2 : Int32)] [(.double (FP.dadd x4 x5))])
  generalize (FP.dadd x4 x5) = x6 at D6 ⊢
  show own_Go p e below _ T0 (mkF m 18 #[oR a, oI (3 : Int32), oD x4, .second, oI (2 : Int32)] [(.double x6)])
  refine own_by (fun t_ k_ => XS.dstoreN X0.here hx rfl (hb hby d1_18) rfl (l' := #[oR a, oI (3 : Int32), oD x6, .second, oI (2 : Int32)]) rfl k_) ?_
  show own_Go p e below _ T0 (mkF m 19 #[oR a, oI (3 : Int32), oD x6, .second, oI (2 : Int32)] [])
  refine own_by (fun t_ k_ => XT.iincV X0.here hx rfl (1 : Int32) (hb hby d1_19) (by decide) rfl (l' := #[oR a, oI (3 : Int32), oD x6, .second, oI ((2 : Int32) + (1 : Int32))]) rfl k_) ?_
  show own_Go p e below _ T0 (mkF m 22 #[oR a, oI (3 : Int32), oD x6, .second, oI ((2 : Int32) + (1 : Int32))] [])
  rw [show ((2 : Int32) + (1 : Int32)) = (3 : Int32) by decide]
  show own_Go p e below _ T0 (mkF m 22 #[oR a, oI (3 : Int32), oD x6, .second, oI (3 : Int32)] [])
  refine own_by (fun t_ k_ => XS.goto X0.here hx rfl (pc0 := 22) (pc' := 5) rfl (hb hby d1_22) (by decide) (by decide) k_) ?_
  show own_Go p e below _ T0 (mkF m 5 #[oR a, oI (3 : Int32), oD x6, .second, oI (3 : Int32)] [])
  refine own_by (fun t_ k_ => XS.iload X0.here hx rfl (hb hby d1_5) rfl  k_) ?_
  show own_Go p e below _ T0 (mkF m 7 #[oR a, oI (3 : Int32), oD x6, .second, oI (3 : Int32)] [(.int (3 : Int32))])
  refine own_by (fun t_ k_ => XS.iloadN X0.here hx rfl (hb hby d1_7) rfl  k_) ?_
  show own_Go p e below _ T0 (mkF m 8 #[oR a, oI (3 : Int32), oD x6, .second, oI (3 : Int32)] [(.int (3 : Int32)), (.int (3 : Int32))])
  refine own_by (fun t_ k_ => XS.icmpYes X0.here hx rfl (pc0 := 8) (pc' := 25) rfl (hb hby d1_8) rfl (XT.ii_ge_t (by decide)) (by decide) (by decide) k_) ?_
  show own_Go p e below _ T0 (mkF m 25 #[oR a, oI (3 : Int32), oD x6, .second, oI (3 : Int32)] [])
  refine own_by (fun t_ k_ => XS.dloadN X0.here hx rfl (hb hby d1_25) rfl  k_) ?_
  show own_Go p e below _ T0 (mkF m 26 #[oR a, oI (3 : Int32), oD x6, .second, oI (3 : Int32)] [(.double x6)])
  refine own_by (fun t_ k_ => XS.d2fS X0.here hx rfl (hb hby d1_26) rfl (own_d2f_any hk (by omega) D6) rfl k_) ?_
  show own_Go p e below _ T0 (mkF m 27 #[oR a, oI (3 : Int32), oD x6, .second, oI (3 : Int32)] [(.float (FP.d2f x6))])
  exact own_retF X0 hx hlk hret (hb hby d1_27) (by decide) (by decide) (⟨⟨x6, rfl, D6⟩, e0, rfl⟩)
set_option maxRecDepth 65536 in
set_option maxHeartbeats 40000000 in
theorem own_sum4 (l : Launch) (Z : State) (a0 : Array Value) (hw : ∀ d ∈ tables_1, d.before a0 Z = true) (a : Addr) (kA : ClassId) (k : Nat) (d0 d1 d2 d3 : UInt32) (V0 V1 V2 V3 : Int) (h0 : Heap) (V : own_A Z h0 a .float kA [(.float d0), (.float d1), (.float d2), (.float d3)]) (hk : k ≤ 15) (F0 : own_F k V0 d0) (F1 : own_F k V1 d1) (F2 : own_F k V2 d2) (F3 : own_F k V3 d3) (B0 : -16777216 ≤ V0 ∧ V0 < 16777216) (B1 : -16777216 ≤ V1 ∧ V1 < 16777216) (B2 : -16777216 ≤ V2 ∧ V2 < 16777216) (B3 : -16777216 ≤ V3 ∧ V3 < 16777216) :
    own_Met l (⟨"com/example/weighted_terms/weightedterms/search/Scores", "sum", "([FI)F"⟩ : MethodName) prog_41_method_2_code 5 (some .float) [] ({ frames := 0, cells := 0, slots := 0, locals := 0 } : Room) Z #[(.ref a), (.int (4 : Int32))] h0 (fun v h L => (∃ acc, v = some (.float (FP.d2f acc)) ∧ own_D k (0 + V0 + V1 + V2 + V3) acc) ∧ h = h0 ∧ L = []) := by
  refine own_enter (plainFor_of_name pn_0) ?_
  intro p e s m below meth c T0 hx hby hml hret hlk hown hnm hZ X0 e0
  refine own_at (g' := (mkF m 0 #[oR a, oI (4 : Int32), .unset, .unset, .unset] [])) (by first | (simp [entryFrame, mkF, argsToLocals, Value.category]; done) | rfl) ?_
  show own_Go p e below _ T0 (mkF m 0 #[oR a, oI (4 : Int32), .unset, .unset, .unset] [])
  refine own_by (fun t_ k_ => XS.dconst0 X0.here hx rfl (hb hby d1_0) rfl k_) ?_
  show own_Go p e below _ T0 (mkF m 1 #[oR a, oI (4 : Int32), .unset, .unset, .unset] [(.double FP.dconst0)])
  refine own_by (fun t_ k_ => XS.dstoreN X0.here hx rfl (hb hby d1_1) rfl (l' := #[oR a, oI (4 : Int32), oD FP.dconst0, .second, .unset]) rfl k_) ?_
  show own_Go p e below _ T0 (mkF m 2 #[oR a, oI (4 : Int32), oD FP.dconst0, .second, .unset] [])
  refine own_by (fun t_ k_ => XT.iconstV X0.here hx rfl (0 : Int32) (hb hby d1_2) (by decide) k_) ?_
  show own_Go p e below _ T0 (mkF m 3 #[oR a, oI (4 : Int32), oD FP.dconst0, .second, .unset] [(.int (0 : Int32))])
  refine own_by (fun t_ k_ => XS.istore X0.here hx rfl (hb hby d1_3) rfl (l' := #[oR a, oI (4 : Int32), oD FP.dconst0, .second, oI (0 : Int32)]) rfl k_) ?_
  show own_Go p e below _ T0 (mkF m 5 #[oR a, oI (4 : Int32), oD FP.dconst0, .second, oI (0 : Int32)] [])
  refine own_by (fun t_ k_ => XS.iload X0.here hx rfl (hb hby d1_5) rfl  k_) ?_
  show own_Go p e below _ T0 (mkF m 7 #[oR a, oI (4 : Int32), oD FP.dconst0, .second, oI (0 : Int32)] [(.int (0 : Int32))])
  refine own_by (fun t_ k_ => XS.iloadN X0.here hx rfl (hb hby d1_7) rfl  k_) ?_
  show own_Go p e below _ T0 (mkF m 8 #[oR a, oI (4 : Int32), oD FP.dconst0, .second, oI (0 : Int32)] [(.int (4 : Int32)), (.int (0 : Int32))])
  refine own_by (fun t_ k_ => XS.icmpNo X0.here hx rfl (hb hby d1_8) rfl (XT.ii_ge_f (by decide)) k_) ?_
  show own_Go p e below _ T0 (mkF m 11 #[oR a, oI (4 : Int32), oD FP.dconst0, .second, oI (0 : Int32)] [])
  refine own_by (fun t_ k_ => XS.dloadN X0.here hx rfl (hb hby d1_11) rfl  k_) ?_
  show own_Go p e below _ T0 (mkF m 12 #[oR a, oI (4 : Int32), oD FP.dconst0, .second, oI (0 : Int32)] [(.double FP.dconst0)])
  refine own_by (fun t_ k_ => XS.aloadN X0.here hx rfl (hb hby d1_12) rfl rfl  k_) ?_
  show own_Go p e below _ T0 (mkF m 13 #[oR a, oI (4 : Int32), oD FP.dconst0, .second, oI (0 : Int32)] [(.ref a), (.double FP.dconst0)])
  refine own_by (fun t_ k_ => XS.iload X0.here hx rfl (hb hby d1_13) rfl  k_) ?_
  show own_Go p e below _ T0 (mkF m 15 #[oR a, oI (4 : Int32), oD FP.dconst0, .second, oI (0 : Int32)] [(.int (0 : Int32)), (.ref a), (.double FP.dconst0)])
  refine own_ldF X0 hx hZ e0 V 0 (by decide) (by decide) (v := (.float d0)) rfl (hb hby d1_15) ?_
  show own_Go p e below _ T0 (mkF m 16 #[oR a, oI (4 : Int32), oD FP.dconst0, .second, oI (0 : Int32)] [(.float d0), (.double FP.dconst0)])
  have D1 := own_D_f2d F0 (by omega) (by omega) (by omega)
  refine own_by (fun t_ k_ => XS.f2dS X0.here hx rfl (hb hby d1_16) rfl (own_D_no D1) rfl k_) ?_
  show own_Go p e below _ T0 (mkF m 17 #[oR a, oI (4 : Int32), oD FP.dconst0, .second, oI (0 : Int32)] [(.double (FP.f2d d0)), (.double FP.dconst0)])
  generalize (FP.f2d d0) = x1 at D1 ⊢
  show own_Go p e below _ T0 (mkF m 17 #[oR a, oI (4 : Int32), oD FP.dconst0, .second, oI (0 : Int32)] [(.double x1), (.double FP.dconst0)])
  have D2 := own_D_add (own_D_zero k) D1 (by omega) (by omega) (by omega)
  refine own_by (fun t_ k_ => XS.daddS X0.here hx rfl (hb hby d1_17) rfl (own_D_no D2) rfl k_) ?_
  show own_Go p e below _ T0 (mkF m 18 #[oR a, oI (4 : Int32), oD FP.dconst0, .second, oI (0 : Int32)] [(.double (FP.dadd FP.dconst0 x1))])
  generalize (FP.dadd FP.dconst0 x1) = x2 at D2 ⊢
  show own_Go p e below _ T0 (mkF m 18 #[oR a, oI (4 : Int32), oD FP.dconst0, .second, oI (0 : Int32)] [(.double x2)])
  refine own_by (fun t_ k_ => XS.dstoreN X0.here hx rfl (hb hby d1_18) rfl (l' := #[oR a, oI (4 : Int32), oD x2, .second, oI (0 : Int32)]) rfl k_) ?_
  show own_Go p e below _ T0 (mkF m 19 #[oR a, oI (4 : Int32), oD x2, .second, oI (0 : Int32)] [])
  refine own_by (fun t_ k_ => XT.iincV X0.here hx rfl (1 : Int32) (hb hby d1_19) (by decide) rfl (l' := #[oR a, oI (4 : Int32), oD x2, .second, oI ((0 : Int32) + (1 : Int32))]) rfl k_) ?_
  show own_Go p e below _ T0 (mkF m 22 #[oR a, oI (4 : Int32), oD x2, .second, oI ((0 : Int32) + (1 : Int32))] [])
  rw [show ((0 : Int32) + (1 : Int32)) = (1 : Int32) by decide]
  show own_Go p e below _ T0 (mkF m 22 #[oR a, oI (4 : Int32), oD x2, .second, oI (1 : Int32)] [])
  refine own_by (fun t_ k_ => XS.goto X0.here hx rfl (pc0 := 22) (pc' := 5) rfl (hb hby d1_22) (by decide) (by decide) k_) ?_
  show own_Go p e below _ T0 (mkF m 5 #[oR a, oI (4 : Int32), oD x2, .second, oI (1 : Int32)] [])
  refine own_by (fun t_ k_ => XS.iload X0.here hx rfl (hb hby d1_5) rfl  k_) ?_
  show own_Go p e below _ T0 (mkF m 7 #[oR a, oI (4 : Int32), oD x2, .second, oI (1 : Int32)] [(.int (1 : Int32))])
  refine own_by (fun t_ k_ => XS.iloadN X0.here hx rfl (hb hby d1_7) rfl  k_) ?_
  show own_Go p e below _ T0 (mkF m 8 #[oR a, oI (4 : Int32), oD x2, .second, oI (1 : Int32)] [(.int (4 : Int32)), (.int (1 : Int32))])
  refine own_by (fun t_ k_ => XS.icmpNo X0.here hx rfl (hb hby d1_8) rfl (XT.ii_ge_f (by decide)) k_) ?_
  show own_Go p e below _ T0 (mkF m 11 #[oR a, oI (4 : Int32), oD x2, .second, oI (1 : Int32)] [])
  refine own_by (fun t_ k_ => XS.dloadN X0.here hx rfl (hb hby d1_11) rfl  k_) ?_
  show own_Go p e below _ T0 (mkF m 12 #[oR a, oI (4 : Int32), oD x2, .second, oI (1 : Int32)] [(.double x2)])
  refine own_by (fun t_ k_ => XS.aloadN X0.here hx rfl (hb hby d1_12) rfl rfl  k_) ?_
  show own_Go p e below _ T0 (mkF m 13 #[oR a, oI (4 : Int32), oD x2, .second, oI (1 : Int32)] [(.ref a), (.double x2)])
  refine own_by (fun t_ k_ => XS.iload X0.here hx rfl (hb hby d1_13) rfl  k_) ?_
  show own_Go p e below _ T0 (mkF m 15 #[oR a, oI (4 : Int32), oD x2, .second, oI (1 : Int32)] [(.int (1 : Int32)), (.ref a), (.double x2)])
  refine own_ldF X0 hx hZ e0 V 1 (by decide) (by decide) (v := (.float d1)) rfl (hb hby d1_15) ?_
  show own_Go p e below _ T0 (mkF m 16 #[oR a, oI (4 : Int32), oD x2, .second, oI (1 : Int32)] [(.float d1), (.double x2)])
  have D3 := own_D_f2d F1 (by omega) (by omega) (by omega)
  refine own_by (fun t_ k_ => XS.f2dS X0.here hx rfl (hb hby d1_16) rfl (own_D_no D3) rfl k_) ?_
  show own_Go p e below _ T0 (mkF m 17 #[oR a, oI (4 : Int32), oD x2, .second, oI (1 : Int32)] [(.double (FP.f2d d1)), (.double x2)])
  generalize (FP.f2d d1) = x3 at D3 ⊢
  show own_Go p e below _ T0 (mkF m 17 #[oR a, oI (4 : Int32), oD x2, .second, oI (1 : Int32)] [(.double x3), (.double x2)])
  have D4 := own_D_add D2 D3 (by omega) (by omega) (by omega)
  refine own_by (fun t_ k_ => XS.daddS X0.here hx rfl (hb hby d1_17) rfl (own_D_no D4) rfl k_) ?_
  show own_Go p e below _ T0 (mkF m 18 #[oR a, oI (4 : Int32), oD x2, .second, oI (1 : Int32)] [(.double (FP.dadd x2 x3))])
  generalize (FP.dadd x2 x3) = x4 at D4 ⊢
  show own_Go p e below _ T0 (mkF m 18 #[oR a, oI (4 : Int32), oD x2, .second, oI (1 : Int32)] [(.double x4)])
  refine own_by (fun t_ k_ => XS.dstoreN X0.here hx rfl (hb hby d1_18) rfl (l' := #[oR a, oI (4 : Int32), oD x4, .second, oI (1 : Int32)]) rfl k_) ?_
  show own_Go p e below _ T0 (mkF m 19 #[oR a, oI (4 : Int32), oD x4, .second, oI (1 : Int32)] [])
  refine own_by (fun t_ k_ => XT.iincV X0.here hx rfl (1 : Int32) (hb hby d1_19) (by decide) rfl (l' := #[oR a, oI (4 : Int32), oD x4, .second, oI ((1 : Int32) + (1 : Int32))]) rfl k_) ?_
  show own_Go p e below _ T0 (mkF m 22 #[oR a, oI (4 : Int32), oD x4, .second, oI ((1 : Int32) + (1 : Int32))] [])
  rw [show ((1 : Int32) + (1 : Int32)) = (2 : Int32) by decide]
  show own_Go p e below _ T0 (mkF m 22 #[oR a, oI (4 : Int32), oD x4, .second, oI (2 : Int32)] [])
  refine own_by (fun t_ k_ => XS.goto X0.here hx rfl (pc0 := 22) (pc' := 5) rfl (hb hby d1_22) (by decide) (by decide) k_) ?_
  show own_Go p e below _ T0 (mkF m 5 #[oR a, oI (4 : Int32), oD x4, .second, oI (2 : Int32)] [])
  refine own_by (fun t_ k_ => XS.iload X0.here hx rfl (hb hby d1_5) rfl  k_) ?_
  show own_Go p e below _ T0 (mkF m 7 #[oR a, oI (4 : Int32), oD x4, .second, oI (2 : Int32)] [(.int (2 : Int32))])
  refine own_by (fun t_ k_ => XS.iloadN X0.here hx rfl (hb hby d1_7) rfl  k_) ?_
  show own_Go p e below _ T0 (mkF m 8 #[oR a, oI (4 : Int32), oD x4, .second, oI (2 : Int32)] [(.int (4 : Int32)), (.int (2 : Int32))])
  refine own_by (fun t_ k_ => XS.icmpNo X0.here hx rfl (hb hby d1_8) rfl (XT.ii_ge_f (by decide)) k_) ?_
  show own_Go p e below _ T0 (mkF m 11 #[oR a, oI (4 : Int32), oD x4, .second, oI (2 : Int32)] [])
  refine own_by (fun t_ k_ => XS.dloadN X0.here hx rfl (hb hby d1_11) rfl  k_) ?_
  show own_Go p e below _ T0 (mkF m 12 #[oR a, oI (4 : Int32), oD x4, .second, oI (2 : Int32)] [(.double x4)])
  refine own_by (fun t_ k_ => XS.aloadN X0.here hx rfl (hb hby d1_12) rfl rfl  k_) ?_
  show own_Go p e below _ T0 (mkF m 13 #[oR a, oI (4 : Int32), oD x4, .second, oI (2 : Int32)] [(.ref a), (.double x4)])
  refine own_by (fun t_ k_ => XS.iload X0.here hx rfl (hb hby d1_13) rfl  k_) ?_
  show own_Go p e below _ T0 (mkF m 15 #[oR a, oI (4 : Int32), oD x4, .second, oI (2 : Int32)] [(.int (2 : Int32)), (.ref a), (.double x4)])
  refine own_ldF X0 hx hZ e0 V 2 (by decide) (by decide) (v := (.float d2)) rfl (hb hby d1_15) ?_
  show own_Go p e below _ T0 (mkF m 16 #[oR a, oI (4 : Int32), oD x4, .second, oI (2 : Int32)] [(.float d2), (.double x4)])
  have D5 := own_D_f2d F2 (by omega) (by omega) (by omega)
  refine own_by (fun t_ k_ => XS.f2dS X0.here hx rfl (hb hby d1_16) rfl (own_D_no D5) rfl k_) ?_
  show own_Go p e below _ T0 (mkF m 17 #[oR a, oI (4 : Int32), oD x4, .second, oI (2 : Int32)] [(.double (FP.f2d d2)), (.double x4)])
  generalize (FP.f2d d2) = x5 at D5 ⊢
  show own_Go p e below _ T0 (mkF m 17 #[oR a, oI (4 : Int32), oD x4, .second, oI (2 : Int32)] [(.double x5), (.double x4)])
  have D6 := own_D_add D4 D5 (by omega) (by omega) (by omega)
  refine own_by (fun t_ k_ => XS.daddS X0.here hx rfl (hb hby d1_17) rfl (own_D_no D6) rfl k_) ?_
  show own_Go p e below _ T0 (mkF m 18 #[oR a, oI (4 : Int32), oD x4, .second, oI (2 : Int32)] [(.double (FP.dadd x4 x5))])
  generalize (FP.dadd x4 x5) = x6 at D6 ⊢
  show own_Go p e below _ T0 (mkF m 18 #[oR a, oI (4 : Int32), oD x4, .second, oI (2 : Int32)] [(.double x6)])
  refine own_by (fun t_ k_ => XS.dstoreN X0.here hx rfl (hb hby d1_18) rfl (l' := #[oR a, oI (4 : Int32), oD x6, .second, oI (2 : Int32)]) rfl k_) ?_
  show own_Go p e below _ T0 (mkF m 19 #[oR a, oI (4 : Int32), oD x6, .second, oI (2 : Int32)] [])
  refine own_by (fun t_ k_ => XT.iincV X0.here hx rfl (1 : Int32) (hb hby d1_19) (by decide) rfl (l' := #[oR a, oI (4 : Int32), oD x6, .second, oI ((2 : Int32) + (1 : Int32))]) rfl k_) ?_
  show own_Go p e below _ T0 (mkF m 22 #[oR a, oI (4 : Int32), oD x6, .second, oI ((2 : Int32) + (1 : Int32))] [])
  rw [show ((2 : Int32) + (1 : Int32)) = (3 : Int32) by decide]
  show own_Go p e below _ T0 (mkF m 22 #[oR a, oI (4 : Int32), oD x6, .second, oI (3 : Int32)] [])
  refine own_by (fun t_ k_ => XS.goto X0.here hx rfl (pc0 := 22) (pc' := 5) rfl (hb hby d1_22) (by decide) (by decide) k_) ?_
  show own_Go p e below _ T0 (mkF m 5 #[oR a, oI (4 : Int32), oD x6, .second, oI (3 : Int32)] [])
  refine own_by (fun t_ k_ => XS.iload X0.here hx rfl (hb hby d1_5) rfl  k_) ?_
  show own_Go p e below _ T0 (mkF m 7 #[oR a, oI (4 : Int32), oD x6, .second, oI (3 : Int32)] [(.int (3 : Int32))])
  refine own_by (fun t_ k_ => XS.iloadN X0.here hx rfl (hb hby d1_7) rfl  k_) ?_
  show own_Go p e below _ T0 (mkF m 8 #[oR a, oI (4 : Int32), oD x6, .second, oI (3 : Int32)] [(.int (4 : Int32)), (.int (3 : Int32))])
  refine own_by (fun t_ k_ => XS.icmpNo X0.here hx rfl (hb hby d1_8) rfl (XT.ii_ge_f (by decide)) k_) ?_
  show own_Go p e below _ T0 (mkF m 11 #[oR a, oI (4 : Int32), oD x6, .second, oI (3 : Int32)] [])
  refine own_by (fun t_ k_ => XS.dloadN X0.here hx rfl (hb hby d1_11) rfl  k_) ?_
  show own_Go p e below _ T0 (mkF m 12 #[oR a, oI (4 : Int32), oD x6, .second, oI (3 : Int32)] [(.double x6)])
  refine own_by (fun t_ k_ => XS.aloadN X0.here hx rfl (hb hby d1_12) rfl rfl  k_) ?_
  show own_Go p e below _ T0 (mkF m 13 #[oR a, oI (4 : Int32), oD x6, .second, oI (3 : Int32)] [(.ref a), (.double x6)])
  refine own_by (fun t_ k_ => XS.iload X0.here hx rfl (hb hby d1_13) rfl  k_) ?_
  show own_Go p e below _ T0 (mkF m 15 #[oR a, oI (4 : Int32), oD x6, .second, oI (3 : Int32)] [(.int (3 : Int32)), (.ref a), (.double x6)])
  refine own_ldF X0 hx hZ e0 V 3 (by decide) (by decide) (v := (.float d3)) rfl (hb hby d1_15) ?_
  show own_Go p e below _ T0 (mkF m 16 #[oR a, oI (4 : Int32), oD x6, .second, oI (3 : Int32)] [(.float d3), (.double x6)])
  have D7 := own_D_f2d F3 (by omega) (by omega) (by omega)
  refine own_by (fun t_ k_ => XS.f2dS X0.here hx rfl (hb hby d1_16) rfl (own_D_no D7) rfl k_) ?_
  show own_Go p e below _ T0 (mkF m 17 #[oR a, oI (4 : Int32), oD x6, .second, oI (3 : Int32)] [(.double (FP.f2d d3)), (.double x6)])
  generalize (FP.f2d d3) = x7 at D7 ⊢
  show own_Go p e below _ T0 (mkF m 17 #[oR a, oI (4 : Int32), oD x6, .second, oI (3 : Int32)] [(.double x7), (.double x6)])
  have D8 := own_D_add D6 D7 (by omega) (by omega) (by omega)
  refine own_by (fun t_ k_ => XS.daddS X0.here hx rfl (hb hby d1_17) rfl (own_D_no D8) rfl k_) ?_
  show own_Go p e below _ T0 (mkF m 18 #[oR a, oI (4 : Int32), oD x6, .second, oI (3 : Int32)] [(.double (FP.dadd x6 x7))])
  generalize (FP.dadd x6 x7) = x8 at D8 ⊢
  show own_Go p e below _ T0 (mkF m 18 #[oR a, oI (4 : Int32), oD x6, .second, oI (3 : Int32)] [(.double x8)])
  refine own_by (fun t_ k_ => XS.dstoreN X0.here hx rfl (hb hby d1_18) rfl (l' := #[oR a, oI (4 : Int32), oD x8, .second, oI (3 : Int32)]) rfl k_) ?_
  show own_Go p e below _ T0 (mkF m 19 #[oR a, oI (4 : Int32), oD x8, .second, oI (3 : Int32)] [])
  refine own_by (fun t_ k_ => XT.iincV X0.here hx rfl (1 : Int32) (hb hby d1_19) (by decide) rfl (l' := #[oR a, oI (4 : Int32), oD x8, .second, oI ((3 : Int32) + (1 : Int32))]) rfl k_) ?_
  show own_Go p e below _ T0 (mkF m 22 #[oR a, oI (4 : Int32), oD x8, .second, oI ((3 : Int32) + (1 : Int32))] [])
  rw [show ((3 : Int32) + (1 : Int32)) = (4 : Int32) by decide]
  show own_Go p e below _ T0 (mkF m 22 #[oR a, oI (4 : Int32), oD x8, .second, oI (4 : Int32)] [])
  refine own_by (fun t_ k_ => XS.goto X0.here hx rfl (pc0 := 22) (pc' := 5) rfl (hb hby d1_22) (by decide) (by decide) k_) ?_
  show own_Go p e below _ T0 (mkF m 5 #[oR a, oI (4 : Int32), oD x8, .second, oI (4 : Int32)] [])
  refine own_by (fun t_ k_ => XS.iload X0.here hx rfl (hb hby d1_5) rfl  k_) ?_
  show own_Go p e below _ T0 (mkF m 7 #[oR a, oI (4 : Int32), oD x8, .second, oI (4 : Int32)] [(.int (4 : Int32))])
  refine own_by (fun t_ k_ => XS.iloadN X0.here hx rfl (hb hby d1_7) rfl  k_) ?_
  show own_Go p e below _ T0 (mkF m 8 #[oR a, oI (4 : Int32), oD x8, .second, oI (4 : Int32)] [(.int (4 : Int32)), (.int (4 : Int32))])
  refine own_by (fun t_ k_ => XS.icmpYes X0.here hx rfl (pc0 := 8) (pc' := 25) rfl (hb hby d1_8) rfl (XT.ii_ge_t (by decide)) (by decide) (by decide) k_) ?_
  show own_Go p e below _ T0 (mkF m 25 #[oR a, oI (4 : Int32), oD x8, .second, oI (4 : Int32)] [])
  refine own_by (fun t_ k_ => XS.dloadN X0.here hx rfl (hb hby d1_25) rfl  k_) ?_
  show own_Go p e below _ T0 (mkF m 26 #[oR a, oI (4 : Int32), oD x8, .second, oI (4 : Int32)] [(.double x8)])
  refine own_by (fun t_ k_ => XS.d2fS X0.here hx rfl (hb hby d1_26) rfl (own_d2f_any hk (by omega) D8) rfl k_) ?_
  show own_Go p e below _ T0 (mkF m 27 #[oR a, oI (4 : Int32), oD x8, .second, oI (4 : Int32)] [(.float (FP.d2f x8))])
  exact own_retF X0 hx hlk hret (hb hby d1_27) (by decide) (by decide) (⟨⟨x8, rfl, D8⟩, e0, rfl⟩)
theorem own_app0 {k : Nat} {L : List Loc} (N : Fr k L) : Fr k (L ++ []) := by rw [List.append_nil]; exact N
theorem own_exp_no {t : Int64} {sv : UInt32} {k : Nat} (ht : t.toInt.natAbs ≤ 2 ^ 27) (hk : k ≤ 15) (hs : own_F 0 ((2 ^ k : Nat) : Int) sv) : Jvm.Free.Fl.NoNaN32 (FP.fdiv (FP.l2f t) sv) := by
  have h1 := own_D_l2d (a := t) (by omega)
  have hp := Nat.two_pow_pos k
  have hp2 : (2 : Nat) ^ k ≤ 2 ^ 15 := Nat.pow_le_pow_right (by decide) hk
  have h2 := own_D_i2d (Int32.ofInt ((2 ^ k : Nat) : Int))
  rw [own_of32 (by omega) (by omega)] at h2
  have h3 := own_D_up h1 k
  rw [Int.zero_add] at h3
  have h4 := own_D_div (l := 0) h3 h2 (by omega) (by omega) (by omega) (by omega)
  rw [Int.sub_zero] at h4
  exact (own_m3_no1 ht hk hs h4).2.1
theorem pn_1 : plainName "com/example/weighted_terms/weightedterms/search/ScoresSumPinLaw" = true := by first | (simp [plainName, overriddenIn]; done) | decide +kernel
theorem pd_0 : parseMethodDescriptor "([FI)F" = some ⟨[(.array .float), .int], some .float⟩ := by decide +kernel
set_option maxRecDepth 65536 in
set_option maxHeartbeats 40000000 in
theorem own_law (l : Launch) (Z : State) (a0 : Array Value) (hw : ∀ d ∈ tables_1, d.before a0 Z = true) (i0 i1 i2 i3 i4 i5 : Int32) (h0 : Heap)  :
    own_Met l x code maxLocals ret tables_1 room_1 Z #[(.int i0), (.int i1), (.int i2), (.int i3), (.int i4), (.int i5)] h0 (fun v h L => v = some (.int (1 : Int32)) ∧ Fr h0.size L) := by
  refine own_enter (plainFor_of_name pn_1) ?_
  intro p e s m below meth c T0 hx hby hml hret hlk hown hnm hZ X0 e0
  refine own_at (g' := (mkF m 0 #[oI i0, oI i1, oI i2, oI i3, oI i4, oI i5, .unset, .unset, .unset, .unset, .unset, .unset, .unset, .unset, .unset, .unset, .unset, .unset] [])) (by first | (simp [entryFrame, mkF, argsToLocals, Value.category, maxLocals]; done) | rfl) ?_
  show own_Go p e below _ T0 (mkF m 0 #[oI i0, oI i1, oI i2, oI i3, oI i4, oI i5, .unset, .unset, .unset, .unset, .unset, .unset, .unset, .unset, .unset, .unset, .unset, .unset] [])
  refine own_by (fun t_ k_ => XS.iload X0.here hx rfl (hb hby at_0) rfl  k_) ?_
  show own_Go p e below _ T0 (mkF m 2 #[oI i0, oI i1, oI i2, oI i3, oI i4, oI i5, .unset, .unset, .unset, .unset, .unset, .unset, .unset, .unset, .unset, .unset, .unset, .unset] [(.int i5)])
  refine own_by (fun t_ k_ => XT.bipushV X0.here hx rfl (7 : Int32) (hb hby at_2) (by decide) k_) ?_
  show own_Go p e below _ T0 (mkF m 4 #[oI i0, oI i1, oI i2, oI i3, oI i4, oI i5, .unset, .unset, .unset, .unset, .unset, .unset, .unset, .unset, .unset, .unset, .unset, .unset] [(.int (7 : Int32)), (.int i5)])
  refine own_by (fun t_ k_ => XS.iand X0.here hx rfl (hb hby at_4) rfl k_) ?_
  show own_Go p e below _ T0 (mkF m 5 #[oI i0, oI i1, oI i2, oI i3, oI i4, oI i5, .unset, .unset, .unset, .unset, .unset, .unset, .unset, .unset, .unset, .unset, .unset, .unset] [(.int (i5 &&& (7 : Int32)))])
  refine own_by (fun t_ k_ => XT.iconstV X0.here hx rfl (5 : Int32) (hb hby at_5) (by decide) k_) ?_
  show own_Go p e below _ T0 (mkF m 6 #[oI i0, oI i1, oI i2, oI i3, oI i4, oI i5, .unset, .unset, .unset, .unset, .unset, .unset, .unset, .unset, .unset, .unset, .unset, .unset] [(.int (5 : Int32)), (.int (i5 &&& (7 : Int32)))])
  refine own_by (fun t_ k_ => iremM X0 hx rfl (hb hby at_6) rfl (by decide) k_) ?_
  show own_Go p e below _ T0 (mkF m 7 #[oI i0, oI i1, oI i2, oI i3, oI i4, oI i5, .unset, .unset, .unset, .unset, .unset, .unset, .unset, .unset, .unset, .unset, .unset, .unset] [(.int ((i5 &&& (7 : Int32)) % (5 : Int32)))])
  refine own_by (fun t_ k_ => XS.istore X0.here hx rfl (hb hby at_7) rfl (l' := #[oI i0, oI i1, oI i2, oI i3, oI i4, oI i5, oI ((i5 &&& (7 : Int32)) % (5 : Int32)), .unset, .unset, .unset, .unset, .unset, .unset, .unset, .unset, .unset, .unset, .unset]) rfl k_) ?_
  show own_Go p e below _ T0 (mkF m 9 #[oI i0, oI i1, oI i2, oI i3, oI i4, oI i5, oI ((i5 &&& (7 : Int32)) % (5 : Int32)), .unset, .unset, .unset, .unset, .unset, .unset, .unset, .unset, .unset, .unset, .unset] [])
  refine own_by (fun t_ k_ => XS.iload X0.here hx rfl (hb hby at_9) rfl  k_) ?_
  show own_Go p e below _ T0 (mkF m 11 #[oI i0, oI i1, oI i2, oI i3, oI i4, oI i5, oI ((i5 &&& (7 : Int32)) % (5 : Int32)), .unset, .unset, .unset, .unset, .unset, .unset, .unset, .unset, .unset, .unset, .unset] [(.int i4)])
  refine own_by (fun t_ k_ => XT.bipushV X0.here hx rfl (15 : Int32) (hb hby at_11) (by decide) k_) ?_
  show own_Go p e below _ T0 (mkF m 13 #[oI i0, oI i1, oI i2, oI i3, oI i4, oI i5, oI ((i5 &&& (7 : Int32)) % (5 : Int32)), .unset, .unset, .unset, .unset, .unset, .unset, .unset, .unset, .unset, .unset, .unset] [(.int (15 : Int32)), (.int i4)])
  refine own_by (fun t_ k_ => XS.iand X0.here hx rfl (hb hby at_13) rfl k_) ?_
  show own_Go p e below _ T0 (mkF m 14 #[oI i0, oI i1, oI i2, oI i3, oI i4, oI i5, oI ((i5 &&& (7 : Int32)) % (5 : Int32)), .unset, .unset, .unset, .unset, .unset, .unset, .unset, .unset, .unset, .unset, .unset] [(.int (i4 &&& (15 : Int32)))])
  refine own_by (fun t_ k_ => XS.istore X0.here hx rfl (hb hby at_14) rfl (l' := #[oI i0, oI i1, oI i2, oI i3, oI i4, oI i5, oI ((i5 &&& (7 : Int32)) % (5 : Int32)), oI (i4 &&& (15 : Int32)), .unset, .unset, .unset, .unset, .unset, .unset, .unset, .unset, .unset, .unset]) rfl k_) ?_
  show own_Go p e below _ T0 (mkF m 16 #[oI i0, oI i1, oI i2, oI i3, oI i4, oI i5, oI ((i5 &&& (7 : Int32)) % (5 : Int32)), oI (i4 &&& (15 : Int32)), .unset, .unset, .unset, .unset, .unset, .unset, .unset, .unset, .unset, .unset] [])
  refine own_by (fun t_ k_ => XT.iconstV X0.here hx rfl (1 : Int32) (hb hby at_16) (by decide) k_) ?_
  show own_Go p e below _ T0 (mkF m 17 #[oI i0, oI i1, oI i2, oI i3, oI i4, oI i5, oI ((i5 &&& (7 : Int32)) % (5 : Int32)), oI (i4 &&& (15 : Int32)), .unset, .unset, .unset, .unset, .unset, .unset, .unset, .unset, .unset, .unset] [(.int (1 : Int32))])
  refine own_by (fun t_ k_ => XS.iload X0.here hx rfl (hb hby at_17) rfl  k_) ?_
  show own_Go p e below _ T0 (mkF m 19 #[oI i0, oI i1, oI i2, oI i3, oI i4, oI i5, oI ((i5 &&& (7 : Int32)) % (5 : Int32)), oI (i4 &&& (15 : Int32)), .unset, .unset, .unset, .unset, .unset, .unset, .unset, .unset, .unset, .unset] [(.int (i4 &&& (15 : Int32))), (.int (1 : Int32))])
  refine own_by (fun t_ k_ => XT.ishl X0.here hx rfl (hb hby at_19) rfl k_) ?_
  show own_Go p e below _ T0 (mkF m 20 #[oI i0, oI i1, oI i2, oI i3, oI i4, oI i5, oI ((i5 &&& (7 : Int32)) % (5 : Int32)), oI (i4 &&& (15 : Int32)), .unset, .unset, .unset, .unset, .unset, .unset, .unset, .unset, .unset, .unset] [(.int ((1 : Int32) <<< ((i4 &&& (15 : Int32)) &&& 31)))])
  refine own_by (fun t_ k_ => XS.i2fS X0.here hx rfl (hb hby at_20) rfl rfl k_) ?_
  show own_Go p e below _ T0 (mkF m 21 #[oI i0, oI i1, oI i2, oI i3, oI i4, oI i5, oI ((i5 &&& (7 : Int32)) % (5 : Int32)), oI (i4 &&& (15 : Int32)), .unset, .unset, .unset, .unset, .unset, .unset, .unset, .unset, .unset, .unset] [(.float (FP.i2f ((1 : Int32) <<< ((i4 &&& (15 : Int32)) &&& 31))))])
  obtain ⟨k, hk15, hs⟩ := own_s i4
  have hp : (2 : Nat) ^ k ≤ 2 ^ 15 := Nat.pow_le_pow_right (by decide) hk15
  have Fs := own_F_i2f (a := ((1 : Int32) <<< ((i4 &&& (15 : Int32)) &&& 31))) (by rw [hs, Int.natAbs_natCast]; omega)
  rw [hs] at Fs
  generalize (FP.i2f ((1 : Int32) <<< ((i4 &&& (15 : Int32)) &&& 31))) = sv at Fs ⊢
  show own_Go p e below _ T0 (mkF m 21 #[oI i0, oI i1, oI i2, oI i3, oI i4, oI i5, oI ((i5 &&& (7 : Int32)) % (5 : Int32)), oI (i4 &&& (15 : Int32)), .unset, .unset, .unset, .unset, .unset, .unset, .unset, .unset, .unset, .unset] [(.float sv)])
  refine own_by (fun t_ k_ => XS.fstore X0.here hx rfl (hb hby at_21) rfl (l' := #[oI i0, oI i1, oI i2, oI i3, oI i4, oI i5, oI ((i5 &&& (7 : Int32)) % (5 : Int32)), oI (i4 &&& (15 : Int32)), oF sv, .unset, .unset, .unset, .unset, .unset, .unset, .unset, .unset, .unset]) rfl k_) ?_
  show own_Go p e below _ T0 (mkF m 23 #[oI i0, oI i1, oI i2, oI i3, oI i4, oI i5, oI ((i5 &&& (7 : Int32)) % (5 : Int32)), oI (i4 &&& (15 : Int32)), oF sv, .unset, .unset, .unset, .unset, .unset, .unset, .unset, .unset, .unset] [])
  refine own_by (fun t_ k_ => XS.iloadN X0.here hx rfl (hb hby at_23) rfl  k_) ?_
  show own_Go p e below _ T0 (mkF m 24 #[oI i0, oI i1, oI i2, oI i3, oI i4, oI i5, oI ((i5 &&& (7 : Int32)) % (5 : Int32)), oI (i4 &&& (15 : Int32)), oF sv, .unset, .unset, .unset, .unset, .unset, .unset, .unset, .unset, .unset] [(.int i0)])
  refine own_by (fun t_ k_ => XT.bipushV X0.here hx rfl (7 : Int32) (hb hby at_24) (by decide) k_) ?_
  show own_Go p e below _ T0 (mkF m 26 #[oI i0, oI i1, oI i2, oI i3, oI i4, oI i5, oI ((i5 &&& (7 : Int32)) % (5 : Int32)), oI (i4 &&& (15 : Int32)), oF sv, .unset, .unset, .unset, .unset, .unset, .unset, .unset, .unset, .unset] [(.int (7 : Int32)), (.int i0)])
  refine own_by (fun t_ k_ => XT.ishr X0.here hx rfl (hb hby at_26) rfl k_) ?_
  show own_Go p e below _ T0 (mkF m 27 #[oI i0, oI i1, oI i2, oI i3, oI i4, oI i5, oI ((i5 &&& (7 : Int32)) % (5 : Int32)), oI (i4 &&& (15 : Int32)), oF sv, .unset, .unset, .unset, .unset, .unset, .unset, .unset, .unset, .unset] [(.int (i0 >>> ((7 : Int32) &&& 31)))])
  refine own_by (fun t_ k_ => XS.istore X0.here hx rfl (hb hby at_27) rfl (l' := #[oI i0, oI i1, oI i2, oI i3, oI i4, oI i5, oI ((i5 &&& (7 : Int32)) % (5 : Int32)), oI (i4 &&& (15 : Int32)), oF sv, oI (i0 >>> ((7 : Int32) &&& 31)), .unset, .unset, .unset, .unset, .unset, .unset, .unset, .unset]) rfl k_) ?_
  show own_Go p e below _ T0 (mkF m 29 #[oI i0, oI i1, oI i2, oI i3, oI i4, oI i5, oI ((i5 &&& (7 : Int32)) % (5 : Int32)), oI (i4 &&& (15 : Int32)), oF sv, oI (i0 >>> ((7 : Int32) &&& 31)), .unset, .unset, .unset, .unset, .unset, .unset, .unset, .unset] [])
  refine own_by (fun t_ k_ => XS.iloadN X0.here hx rfl (hb hby at_29) rfl  k_) ?_
  show own_Go p e below _ T0 (mkF m 30 #[oI i0, oI i1, oI i2, oI i3, oI i4, oI i5, oI ((i5 &&& (7 : Int32)) % (5 : Int32)), oI (i4 &&& (15 : Int32)), oF sv, oI (i0 >>> ((7 : Int32) &&& 31)), .unset, .unset, .unset, .unset, .unset, .unset, .unset, .unset] [(.int i1)])
  refine own_by (fun t_ k_ => XT.bipushV X0.here hx rfl (7 : Int32) (hb hby at_30) (by decide) k_) ?_
  show own_Go p e below _ T0 (mkF m 32 #[oI i0, oI i1, oI i2, oI i3, oI i4, oI i5, oI ((i5 &&& (7 : Int32)) % (5 : Int32)), oI (i4 &&& (15 : Int32)), oF sv, oI (i0 >>> ((7 : Int32) &&& 31)), .unset, .unset, .unset, .unset, .unset, .unset, .unset, .unset] [(.int (7 : Int32)), (.int i1)])
  refine own_by (fun t_ k_ => XT.ishr X0.here hx rfl (hb hby at_32) rfl k_) ?_
  show own_Go p e below _ T0 (mkF m 33 #[oI i0, oI i1, oI i2, oI i3, oI i4, oI i5, oI ((i5 &&& (7 : Int32)) % (5 : Int32)), oI (i4 &&& (15 : Int32)), oF sv, oI (i0 >>> ((7 : Int32) &&& 31)), .unset, .unset, .unset, .unset, .unset, .unset, .unset, .unset] [(.int (i1 >>> ((7 : Int32) &&& 31)))])
  refine own_by (fun t_ k_ => XS.istore X0.here hx rfl (hb hby at_33) rfl (l' := #[oI i0, oI i1, oI i2, oI i3, oI i4, oI i5, oI ((i5 &&& (7 : Int32)) % (5 : Int32)), oI (i4 &&& (15 : Int32)), oF sv, oI (i0 >>> ((7 : Int32) &&& 31)), oI (i1 >>> ((7 : Int32) &&& 31)), .unset, .unset, .unset, .unset, .unset, .unset, .unset]) rfl k_) ?_
  show own_Go p e below _ T0 (mkF m 35 #[oI i0, oI i1, oI i2, oI i3, oI i4, oI i5, oI ((i5 &&& (7 : Int32)) % (5 : Int32)), oI (i4 &&& (15 : Int32)), oF sv, oI (i0 >>> ((7 : Int32) &&& 31)), oI (i1 >>> ((7 : Int32) &&& 31)), .unset, .unset, .unset, .unset, .unset, .unset, .unset] [])
  refine own_by (fun t_ k_ => XS.iloadN X0.here hx rfl (hb hby at_35) rfl  k_) ?_
  show own_Go p e below _ T0 (mkF m 36 #[oI i0, oI i1, oI i2, oI i3, oI i4, oI i5, oI ((i5 &&& (7 : Int32)) % (5 : Int32)), oI (i4 &&& (15 : Int32)), oF sv, oI (i0 >>> ((7 : Int32) &&& 31)), oI (i1 >>> ((7 : Int32) &&& 31)), .unset, .unset, .unset, .unset, .unset, .unset, .unset] [(.int i2)])
  refine own_by (fun t_ k_ => XT.bipushV X0.here hx rfl (7 : Int32) (hb hby at_36) (by decide) k_) ?_
  show own_Go p e below _ T0 (mkF m 38 #[oI i0, oI i1, oI i2, oI i3, oI i4, oI i5, oI ((i5 &&& (7 : Int32)) % (5 : Int32)), oI (i4 &&& (15 : Int32)), oF sv, oI (i0 >>> ((7 : Int32) &&& 31)), oI (i1 >>> ((7 : Int32) &&& 31)), .unset, .unset, .unset, .unset, .unset, .unset, .unset] [(.int (7 : Int32)), (.int i2)])
  refine own_by (fun t_ k_ => XT.ishr X0.here hx rfl (hb hby at_38) rfl k_) ?_
  show own_Go p e below _ T0 (mkF m 39 #[oI i0, oI i1, oI i2, oI i3, oI i4, oI i5, oI ((i5 &&& (7 : Int32)) % (5 : Int32)), oI (i4 &&& (15 : Int32)), oF sv, oI (i0 >>> ((7 : Int32) &&& 31)), oI (i1 >>> ((7 : Int32) &&& 31)), .unset, .unset, .unset, .unset, .unset, .unset, .unset] [(.int (i2 >>> ((7 : Int32) &&& 31)))])
  refine own_by (fun t_ k_ => XS.istore X0.here hx rfl (hb hby at_39) rfl (l' := #[oI i0, oI i1, oI i2, oI i3, oI i4, oI i5, oI ((i5 &&& (7 : Int32)) % (5 : Int32)), oI (i4 &&& (15 : Int32)), oF sv, oI (i0 >>> ((7 : Int32) &&& 31)), oI (i1 >>> ((7 : Int32) &&& 31)), oI (i2 >>> ((7 : Int32) &&& 31)), .unset, .unset, .unset, .unset, .unset, .unset]) rfl k_) ?_
  show own_Go p e below _ T0 (mkF m 41 #[oI i0, oI i1, oI i2, oI i3, oI i4, oI i5, oI ((i5 &&& (7 : Int32)) % (5 : Int32)), oI (i4 &&& (15 : Int32)), oF sv, oI (i0 >>> ((7 : Int32) &&& 31)), oI (i1 >>> ((7 : Int32) &&& 31)), oI (i2 >>> ((7 : Int32) &&& 31)), .unset, .unset, .unset, .unset, .unset, .unset] [])
  refine own_by (fun t_ k_ => XS.iloadN X0.here hx rfl (hb hby at_41) rfl  k_) ?_
  show own_Go p e below _ T0 (mkF m 42 #[oI i0, oI i1, oI i2, oI i3, oI i4, oI i5, oI ((i5 &&& (7 : Int32)) % (5 : Int32)), oI (i4 &&& (15 : Int32)), oF sv, oI (i0 >>> ((7 : Int32) &&& 31)), oI (i1 >>> ((7 : Int32) &&& 31)), oI (i2 >>> ((7 : Int32) &&& 31)), .unset, .unset, .unset, .unset, .unset, .unset] [(.int i3)])
  refine own_by (fun t_ k_ => XT.bipushV X0.here hx rfl (7 : Int32) (hb hby at_42) (by decide) k_) ?_
  show own_Go p e below _ T0 (mkF m 44 #[oI i0, oI i1, oI i2, oI i3, oI i4, oI i5, oI ((i5 &&& (7 : Int32)) % (5 : Int32)), oI (i4 &&& (15 : Int32)), oF sv, oI (i0 >>> ((7 : Int32) &&& 31)), oI (i1 >>> ((7 : Int32) &&& 31)), oI (i2 >>> ((7 : Int32) &&& 31)), .unset, .unset, .unset, .unset, .unset, .unset] [(.int (7 : Int32)), (.int i3)])
  refine own_by (fun t_ k_ => XT.ishr X0.here hx rfl (hb hby at_44) rfl k_) ?_
  show own_Go p e below _ T0 (mkF m 45 #[oI i0, oI i1, oI i2, oI i3, oI i4, oI i5, oI ((i5 &&& (7 : Int32)) % (5 : Int32)), oI (i4 &&& (15 : Int32)), oF sv, oI (i0 >>> ((7 : Int32) &&& 31)), oI (i1 >>> ((7 : Int32) &&& 31)), oI (i2 >>> ((7 : Int32) &&& 31)), .unset, .unset, .unset, .unset, .unset, .unset] [(.int (i3 >>> ((7 : Int32) &&& 31)))])
  refine own_by (fun t_ k_ => XS.istore X0.here hx rfl (hb hby at_45) rfl (l' := #[oI i0, oI i1, oI i2, oI i3, oI i4, oI i5, oI ((i5 &&& (7 : Int32)) % (5 : Int32)), oI (i4 &&& (15 : Int32)), oF sv, oI (i0 >>> ((7 : Int32) &&& 31)), oI (i1 >>> ((7 : Int32) &&& 31)), oI (i2 >>> ((7 : Int32) &&& 31)), oI (i3 >>> ((7 : Int32) &&& 31)), .unset, .unset, .unset, .unset, .unset]) rfl k_) ?_
  show own_Go p e below _ T0 (mkF m 47 #[oI i0, oI i1, oI i2, oI i3, oI i4, oI i5, oI ((i5 &&& (7 : Int32)) % (5 : Int32)), oI (i4 &&& (15 : Int32)), oF sv, oI (i0 >>> ((7 : Int32) &&& 31)), oI (i1 >>> ((7 : Int32) &&& 31)), oI (i2 >>> ((7 : Int32) &&& 31)), oI (i3 >>> ((7 : Int32) &&& 31)), .unset, .unset, .unset, .unset, .unset] [])
  refine own_by (fun t_ k_ => XT.iconstV X0.here hx rfl (4 : Int32) (hb hby at_47) (by decide) k_) ?_
  show own_Go p e below _ T0 (mkF m 48 #[oI i0, oI i1, oI i2, oI i3, oI i4, oI i5, oI ((i5 &&& (7 : Int32)) % (5 : Int32)), oI (i4 &&& (15 : Int32)), oF sv, oI (i0 >>> ((7 : Int32) &&& 31)), oI (i1 >>> ((7 : Int32) &&& 31)), oI (i2 >>> ((7 : Int32) &&& 31)), oI (i3 >>> ((7 : Int32) &&& 31)), .unset, .unset, .unset, .unset, .unset] [(.int (4 : Int32))])
  refine own_newP X0 hx hZ (aty := .float) (hw _ (List.mem_of_getElem? (i := 0) rfl)) e0 (hb hby at_48) 4 4 (by decide) (by decide) (by decide) (by decide) (by decide) (by decide) ?_
  intro T1 hT1 kA XT1 eT1 ET1 YT1
  have VT1 : own_A Z hT1 h0.size .float kA [(.float 0), (.float 0), (.float 0), (.float 0)] := YT1
  have NT1 := Fr.nil h0.size
  clear YT1
  show own_Go p e below _ T1 (mkF m 50 #[oI i0, oI i1, oI i2, oI i3, oI i4, oI i5, oI ((i5 &&& (7 : Int32)) % (5 : Int32)), oI (i4 &&& (15 : Int32)), oF sv, oI (i0 >>> ((7 : Int32) &&& 31)), oI (i1 >>> ((7 : Int32) &&& 31)), oI (i2 >>> ((7 : Int32) &&& 31)), oI (i3 >>> ((7 : Int32) &&& 31)), .unset, .unset, .unset, .unset, .unset] [(.ref h0.size)])
  refine own_by (fun t_ k_ => XS.astore XT1.here hx rfl (hb hby at_50) rfl rfl (l' := #[oI i0, oI i1, oI i2, oI i3, oI i4, oI i5, oI ((i5 &&& (7 : Int32)) % (5 : Int32)), oI (i4 &&& (15 : Int32)), oF sv, oI (i0 >>> ((7 : Int32) &&& 31)), oI (i1 >>> ((7 : Int32) &&& 31)), oI (i2 >>> ((7 : Int32) &&& 31)), oI (i3 >>> ((7 : Int32) &&& 31)), oR h0.size, .unset, .unset, .unset, .unset]) rfl k_) ?_
  show own_Go p e below _ T1 (mkF m 52 #[oI i0, oI i1, oI i2, oI i3, oI i4, oI i5, oI ((i5 &&& (7 : Int32)) % (5 : Int32)), oI (i4 &&& (15 : Int32)), oF sv, oI (i0 >>> ((7 : Int32) &&& 31)), oI (i1 >>> ((7 : Int32) &&& 31)), oI (i2 >>> ((7 : Int32) &&& 31)), oI (i3 >>> ((7 : Int32) &&& 31)), oR h0.size, .unset, .unset, .unset, .unset] [])
  refine own_by (fun t_ k_ => XS.aload XT1.here hx rfl (hb hby at_52) rfl rfl  k_) ?_
  show own_Go p e below _ T1 (mkF m 54 #[oI i0, oI i1, oI i2, oI i3, oI i4, oI i5, oI ((i5 &&& (7 : Int32)) % (5 : Int32)), oI (i4 &&& (15 : Int32)), oF sv, oI (i0 >>> ((7 : Int32) &&& 31)), oI (i1 >>> ((7 : Int32) &&& 31)), oI (i2 >>> ((7 : Int32) &&& 31)), oI (i3 >>> ((7 : Int32) &&& 31)), oR h0.size, .unset, .unset, .unset, .unset] [(.ref h0.size)])
  refine own_by (fun t_ k_ => XT.iconstV XT1.here hx rfl (0 : Int32) (hb hby at_54) (by decide) k_) ?_
  show own_Go p e below _ T1 (mkF m 55 #[oI i0, oI i1, oI i2, oI i3, oI i4, oI i5, oI ((i5 &&& (7 : Int32)) % (5 : Int32)), oI (i4 &&& (15 : Int32)), oF sv, oI (i0 >>> ((7 : Int32) &&& 31)), oI (i1 >>> ((7 : Int32) &&& 31)), oI (i2 >>> ((7 : Int32) &&& 31)), oI (i3 >>> ((7 : Int32) &&& 31)), oR h0.size, .unset, .unset, .unset, .unset] [(.int (0 : Int32)), (.ref h0.size)])
  refine own_by (fun t_ k_ => XS.iload XT1.here hx rfl (hb hby at_55) rfl  k_) ?_
  show own_Go p e below _ T1 (mkF m 57 #[oI i0, oI i1, oI i2, oI i3, oI i4, oI i5, oI ((i5 &&& (7 : Int32)) % (5 : Int32)), oI (i4 &&& (15 : Int32)), oF sv, oI (i0 >>> ((7 : Int32) &&& 31)), oI (i1 >>> ((7 : Int32) &&& 31)), oI (i2 >>> ((7 : Int32) &&& 31)), oI (i3 >>> ((7 : Int32) &&& 31)), oR h0.size, .unset, .unset, .unset, .unset] [(.int (i0 >>> ((7 : Int32) &&& 31))), (.int (0 : Int32)), (.ref h0.size)])
  refine own_by (fun t_ k_ => XS.i2fS XT1.here hx rfl (hb hby at_57) rfl rfl k_) ?_
  show own_Go p e below _ T1 (mkF m 58 #[oI i0, oI i1, oI i2, oI i3, oI i4, oI i5, oI ((i5 &&& (7 : Int32)) % (5 : Int32)), oI (i4 &&& (15 : Int32)), oF sv, oI (i0 >>> ((7 : Int32) &&& 31)), oI (i1 >>> ((7 : Int32) &&& 31)), oI (i2 >>> ((7 : Int32) &&& 31)), oI (i3 >>> ((7 : Int32) &&& 31)), oR h0.size, .unset, .unset, .unset, .unset] [(.float (FP.i2f (i0 >>> ((7 : Int32) &&& 31)))), (.int (0 : Int32)), (.ref h0.size)])
  refine own_by (fun t_ k_ => XS.fload XT1.here hx rfl (hb hby at_58) rfl  k_) ?_
  show own_Go p e below _ T1 (mkF m 60 #[oI i0, oI i1, oI i2, oI i3, oI i4, oI i5, oI ((i5 &&& (7 : Int32)) % (5 : Int32)), oI (i4 &&& (15 : Int32)), oF sv, oI (i0 >>> ((7 : Int32) &&& 31)), oI (i1 >>> ((7 : Int32) &&& 31)), oI (i2 >>> ((7 : Int32) &&& 31)), oI (i3 >>> ((7 : Int32) &&& 31)), oR h0.size, .unset, .unset, .unset, .unset] [(.float sv), (.float (FP.i2f (i0 >>> ((7 : Int32) &&& 31)))), (.int (0 : Int32)), (.ref h0.size)])
  have F0 := own_F_divp (own_F_i2f (a := (i0 >>> ((7 : Int32) &&& 31))) (by have := own_sh7 i0; omega)) Fs (by have := own_sh7 i0; omega) hk15
  refine own_by (fun t_ k_ => XS.fdivS XT1.here hx rfl (hb hby at_60) rfl (own_F_no F0) rfl k_) ?_
  show own_Go p e below _ T1 (mkF m 61 #[oI i0, oI i1, oI i2, oI i3, oI i4, oI i5, oI ((i5 &&& (7 : Int32)) % (5 : Int32)), oI (i4 &&& (15 : Int32)), oF sv, oI (i0 >>> ((7 : Int32) &&& 31)), oI (i1 >>> ((7 : Int32) &&& 31)), oI (i2 >>> ((7 : Int32) &&& 31)), oI (i3 >>> ((7 : Int32) &&& 31)), oR h0.size, .unset, .unset, .unset, .unset] [(.float (FP.fdiv (FP.i2f (i0 >>> ((7 : Int32) &&& 31))) sv)), (.int (0 : Int32)), (.ref h0.size)])
  generalize (FP.fdiv (FP.i2f (i0 >>> ((7 : Int32) &&& 31))) sv) = f0 at F0 ⊢
  show own_Go p e below _ T1 (mkF m 61 #[oI i0, oI i1, oI i2, oI i3, oI i4, oI i5, oI ((i5 &&& (7 : Int32)) % (5 : Int32)), oI (i4 &&& (15 : Int32)), oF sv, oI (i0 >>> ((7 : Int32) &&& 31)), oI (i1 >>> ((7 : Int32) &&& 31)), oI (i2 >>> ((7 : Int32) &&& 31)), oI (i3 >>> ((7 : Int32) &&& 31)), oR h0.size, .unset, .unset, .unset, .unset] [(.float f0), (.int (0 : Int32)), (.ref h0.size)])
  refine own_stF XT1 hx hZ eT1 VT1 0 (by decide) (by decide) (by simp) (hb hby at_61) ?_
  intro T2 hT2 XT2 eT2 WT2 YT2
  have VT2 : own_A Z hT2 h0.size .float kA [(.float f0), (.float 0), (.float 0), (.float 0)] := YT2
  have NT2 := own_frs (i := 0) NT1 (Nat.le_refl h0.size)
  clear YT2
  show own_Go p e below _ T2 (mkF m 62 #[oI i0, oI i1, oI i2, oI i3, oI i4, oI i5, oI ((i5 &&& (7 : Int32)) % (5 : Int32)), oI (i4 &&& (15 : Int32)), oF sv, oI (i0 >>> ((7 : Int32) &&& 31)), oI (i1 >>> ((7 : Int32) &&& 31)), oI (i2 >>> ((7 : Int32) &&& 31)), oI (i3 >>> ((7 : Int32) &&& 31)), oR h0.size, .unset, .unset, .unset, .unset] [])
  refine own_by (fun t_ k_ => XS.aload XT2.here hx rfl (hb hby at_62) rfl rfl  k_) ?_
  show own_Go p e below _ T2 (mkF m 64 #[oI i0, oI i1, oI i2, oI i3, oI i4, oI i5, oI ((i5 &&& (7 : Int32)) % (5 : Int32)), oI (i4 &&& (15 : Int32)), oF sv, oI (i0 >>> ((7 : Int32) &&& 31)), oI (i1 >>> ((7 : Int32) &&& 31)), oI (i2 >>> ((7 : Int32) &&& 31)), oI (i3 >>> ((7 : Int32) &&& 31)), oR h0.size, .unset, .unset, .unset, .unset] [(.ref h0.size)])
  refine own_by (fun t_ k_ => XT.iconstV XT2.here hx rfl (1 : Int32) (hb hby at_64) (by decide) k_) ?_
  show own_Go p e below _ T2 (mkF m 65 #[oI i0, oI i1, oI i2, oI i3, oI i4, oI i5, oI ((i5 &&& (7 : Int32)) % (5 : Int32)), oI (i4 &&& (15 : Int32)), oF sv, oI (i0 >>> ((7 : Int32) &&& 31)), oI (i1 >>> ((7 : Int32) &&& 31)), oI (i2 >>> ((7 : Int32) &&& 31)), oI (i3 >>> ((7 : Int32) &&& 31)), oR h0.size, .unset, .unset, .unset, .unset] [(.int (1 : Int32)), (.ref h0.size)])
  refine own_by (fun t_ k_ => XS.iload XT2.here hx rfl (hb hby at_65) rfl  k_) ?_
  show own_Go p e below _ T2 (mkF m 67 #[oI i0, oI i1, oI i2, oI i3, oI i4, oI i5, oI ((i5 &&& (7 : Int32)) % (5 : Int32)), oI (i4 &&& (15 : Int32)), oF sv, oI (i0 >>> ((7 : Int32) &&& 31)), oI (i1 >>> ((7 : Int32) &&& 31)), oI (i2 >>> ((7 : Int32) &&& 31)), oI (i3 >>> ((7 : Int32) &&& 31)), oR h0.size, .unset, .unset, .unset, .unset] [(.int (i1 >>> ((7 : Int32) &&& 31))), (.int (1 : Int32)), (.ref h0.size)])
  refine own_by (fun t_ k_ => XS.i2fS XT2.here hx rfl (hb hby at_67) rfl rfl k_) ?_
  show own_Go p e below _ T2 (mkF m 68 #[oI i0, oI i1, oI i2, oI i3, oI i4, oI i5, oI ((i5 &&& (7 : Int32)) % (5 : Int32)), oI (i4 &&& (15 : Int32)), oF sv, oI (i0 >>> ((7 : Int32) &&& 31)), oI (i1 >>> ((7 : Int32) &&& 31)), oI (i2 >>> ((7 : Int32) &&& 31)), oI (i3 >>> ((7 : Int32) &&& 31)), oR h0.size, .unset, .unset, .unset, .unset] [(.float (FP.i2f (i1 >>> ((7 : Int32) &&& 31)))), (.int (1 : Int32)), (.ref h0.size)])
  refine own_by (fun t_ k_ => XS.fload XT2.here hx rfl (hb hby at_68) rfl  k_) ?_
  show own_Go p e below _ T2 (mkF m 70 #[oI i0, oI i1, oI i2, oI i3, oI i4, oI i5, oI ((i5 &&& (7 : Int32)) % (5 : Int32)), oI (i4 &&& (15 : Int32)), oF sv, oI (i0 >>> ((7 : Int32) &&& 31)), oI (i1 >>> ((7 : Int32) &&& 31)), oI (i2 >>> ((7 : Int32) &&& 31)), oI (i3 >>> ((7 : Int32) &&& 31)), oR h0.size, .unset, .unset, .unset, .unset] [(.float sv), (.float (FP.i2f (i1 >>> ((7 : Int32) &&& 31)))), (.int (1 : Int32)), (.ref h0.size)])
  have F1 := own_F_divp (own_F_i2f (a := (i1 >>> ((7 : Int32) &&& 31))) (by have := own_sh7 i1; omega)) Fs (by have := own_sh7 i1; omega) hk15
  refine own_by (fun t_ k_ => XS.fdivS XT2.here hx rfl (hb hby at_70) rfl (own_F_no F1) rfl k_) ?_
  show own_Go p e below _ T2 (mkF m 71 #[oI i0, oI i1, oI i2, oI i3, oI i4, oI i5, oI ((i5 &&& (7 : Int32)) % (5 : Int32)), oI (i4 &&& (15 : Int32)), oF sv, oI (i0 >>> ((7 : Int32) &&& 31)), oI (i1 >>> ((7 : Int32) &&& 31)), oI (i2 >>> ((7 : Int32) &&& 31)), oI (i3 >>> ((7 : Int32) &&& 31)), oR h0.size, .unset, .unset, .unset, .unset] [(.float (FP.fdiv (FP.i2f (i1 >>> ((7 : Int32) &&& 31))) sv)), (.int (1 : Int32)), (.ref h0.size)])
  generalize (FP.fdiv (FP.i2f (i1 >>> ((7 : Int32) &&& 31))) sv) = f1 at F1 ⊢
  show own_Go p e below _ T2 (mkF m 71 #[oI i0, oI i1, oI i2, oI i3, oI i4, oI i5, oI ((i5 &&& (7 : Int32)) % (5 : Int32)), oI (i4 &&& (15 : Int32)), oF sv, oI (i0 >>> ((7 : Int32) &&& 31)), oI (i1 >>> ((7 : Int32) &&& 31)), oI (i2 >>> ((7 : Int32) &&& 31)), oI (i3 >>> ((7 : Int32) &&& 31)), oR h0.size, .unset, .unset, .unset, .unset] [(.float f1), (.int (1 : Int32)), (.ref h0.size)])
  refine own_stF XT2 hx hZ eT2 VT2 1 (by decide) (by decide) (by simp) (hb hby at_71) ?_
  intro T3 hT3 XT3 eT3 WT3 YT3
  have VT3 : own_A Z hT3 h0.size .float kA [(.float f0), (.float f1), (.float 0), (.float 0)] := YT3
  have NT3 := own_frs (i := 1) NT2 (Nat.le_refl h0.size)
  clear YT3
  show own_Go p e below _ T3 (mkF m 72 #[oI i0, oI i1, oI i2, oI i3, oI i4, oI i5, oI ((i5 &&& (7 : Int32)) % (5 : Int32)), oI (i4 &&& (15 : Int32)), oF sv, oI (i0 >>> ((7 : Int32) &&& 31)), oI (i1 >>> ((7 : Int32) &&& 31)), oI (i2 >>> ((7 : Int32) &&& 31)), oI (i3 >>> ((7 : Int32) &&& 31)), oR h0.size, .unset, .unset, .unset, .unset] [])
  refine own_by (fun t_ k_ => XS.aload XT3.here hx rfl (hb hby at_72) rfl rfl  k_) ?_
  show own_Go p e below _ T3 (mkF m 74 #[oI i0, oI i1, oI i2, oI i3, oI i4, oI i5, oI ((i5 &&& (7 : Int32)) % (5 : Int32)), oI (i4 &&& (15 : Int32)), oF sv, oI (i0 >>> ((7 : Int32) &&& 31)), oI (i1 >>> ((7 : Int32) &&& 31)), oI (i2 >>> ((7 : Int32) &&& 31)), oI (i3 >>> ((7 : Int32) &&& 31)), oR h0.size, .unset, .unset, .unset, .unset] [(.ref h0.size)])
  refine own_by (fun t_ k_ => XT.iconstV XT3.here hx rfl (2 : Int32) (hb hby at_74) (by decide) k_) ?_
  show own_Go p e below _ T3 (mkF m 75 #[oI i0, oI i1, oI i2, oI i3, oI i4, oI i5, oI ((i5 &&& (7 : Int32)) % (5 : Int32)), oI (i4 &&& (15 : Int32)), oF sv, oI (i0 >>> ((7 : Int32) &&& 31)), oI (i1 >>> ((7 : Int32) &&& 31)), oI (i2 >>> ((7 : Int32) &&& 31)), oI (i3 >>> ((7 : Int32) &&& 31)), oR h0.size, .unset, .unset, .unset, .unset] [(.int (2 : Int32)), (.ref h0.size)])
  refine own_by (fun t_ k_ => XS.iload XT3.here hx rfl (hb hby at_75) rfl  k_) ?_
  show own_Go p e below _ T3 (mkF m 77 #[oI i0, oI i1, oI i2, oI i3, oI i4, oI i5, oI ((i5 &&& (7 : Int32)) % (5 : Int32)), oI (i4 &&& (15 : Int32)), oF sv, oI (i0 >>> ((7 : Int32) &&& 31)), oI (i1 >>> ((7 : Int32) &&& 31)), oI (i2 >>> ((7 : Int32) &&& 31)), oI (i3 >>> ((7 : Int32) &&& 31)), oR h0.size, .unset, .unset, .unset, .unset] [(.int (i2 >>> ((7 : Int32) &&& 31))), (.int (2 : Int32)), (.ref h0.size)])
  refine own_by (fun t_ k_ => XS.i2fS XT3.here hx rfl (hb hby at_77) rfl rfl k_) ?_
  show own_Go p e below _ T3 (mkF m 78 #[oI i0, oI i1, oI i2, oI i3, oI i4, oI i5, oI ((i5 &&& (7 : Int32)) % (5 : Int32)), oI (i4 &&& (15 : Int32)), oF sv, oI (i0 >>> ((7 : Int32) &&& 31)), oI (i1 >>> ((7 : Int32) &&& 31)), oI (i2 >>> ((7 : Int32) &&& 31)), oI (i3 >>> ((7 : Int32) &&& 31)), oR h0.size, .unset, .unset, .unset, .unset] [(.float (FP.i2f (i2 >>> ((7 : Int32) &&& 31)))), (.int (2 : Int32)), (.ref h0.size)])
  refine own_by (fun t_ k_ => XS.fload XT3.here hx rfl (hb hby at_78) rfl  k_) ?_
  show own_Go p e below _ T3 (mkF m 80 #[oI i0, oI i1, oI i2, oI i3, oI i4, oI i5, oI ((i5 &&& (7 : Int32)) % (5 : Int32)), oI (i4 &&& (15 : Int32)), oF sv, oI (i0 >>> ((7 : Int32) &&& 31)), oI (i1 >>> ((7 : Int32) &&& 31)), oI (i2 >>> ((7 : Int32) &&& 31)), oI (i3 >>> ((7 : Int32) &&& 31)), oR h0.size, .unset, .unset, .unset, .unset] [(.float sv), (.float (FP.i2f (i2 >>> ((7 : Int32) &&& 31)))), (.int (2 : Int32)), (.ref h0.size)])
  have F2 := own_F_divp (own_F_i2f (a := (i2 >>> ((7 : Int32) &&& 31))) (by have := own_sh7 i2; omega)) Fs (by have := own_sh7 i2; omega) hk15
  refine own_by (fun t_ k_ => XS.fdivS XT3.here hx rfl (hb hby at_80) rfl (own_F_no F2) rfl k_) ?_
  show own_Go p e below _ T3 (mkF m 81 #[oI i0, oI i1, oI i2, oI i3, oI i4, oI i5, oI ((i5 &&& (7 : Int32)) % (5 : Int32)), oI (i4 &&& (15 : Int32)), oF sv, oI (i0 >>> ((7 : Int32) &&& 31)), oI (i1 >>> ((7 : Int32) &&& 31)), oI (i2 >>> ((7 : Int32) &&& 31)), oI (i3 >>> ((7 : Int32) &&& 31)), oR h0.size, .unset, .unset, .unset, .unset] [(.float (FP.fdiv (FP.i2f (i2 >>> ((7 : Int32) &&& 31))) sv)), (.int (2 : Int32)), (.ref h0.size)])
  generalize (FP.fdiv (FP.i2f (i2 >>> ((7 : Int32) &&& 31))) sv) = f2 at F2 ⊢
  show own_Go p e below _ T3 (mkF m 81 #[oI i0, oI i1, oI i2, oI i3, oI i4, oI i5, oI ((i5 &&& (7 : Int32)) % (5 : Int32)), oI (i4 &&& (15 : Int32)), oF sv, oI (i0 >>> ((7 : Int32) &&& 31)), oI (i1 >>> ((7 : Int32) &&& 31)), oI (i2 >>> ((7 : Int32) &&& 31)), oI (i3 >>> ((7 : Int32) &&& 31)), oR h0.size, .unset, .unset, .unset, .unset] [(.float f2), (.int (2 : Int32)), (.ref h0.size)])
  refine own_stF XT3 hx hZ eT3 VT3 2 (by decide) (by decide) (by simp) (hb hby at_81) ?_
  intro T4 hT4 XT4 eT4 WT4 YT4
  have VT4 : own_A Z hT4 h0.size .float kA [(.float f0), (.float f1), (.float f2), (.float 0)] := YT4
  have NT4 := own_frs (i := 2) NT3 (Nat.le_refl h0.size)
  clear YT4
  show own_Go p e below _ T4 (mkF m 82 #[oI i0, oI i1, oI i2, oI i3, oI i4, oI i5, oI ((i5 &&& (7 : Int32)) % (5 : Int32)), oI (i4 &&& (15 : Int32)), oF sv, oI (i0 >>> ((7 : Int32) &&& 31)), oI (i1 >>> ((7 : Int32) &&& 31)), oI (i2 >>> ((7 : Int32) &&& 31)), oI (i3 >>> ((7 : Int32) &&& 31)), oR h0.size, .unset, .unset, .unset, .unset] [])
  refine own_by (fun t_ k_ => XS.aload XT4.here hx rfl (hb hby at_82) rfl rfl  k_) ?_
  show own_Go p e below _ T4 (mkF m 84 #[oI i0, oI i1, oI i2, oI i3, oI i4, oI i5, oI ((i5 &&& (7 : Int32)) % (5 : Int32)), oI (i4 &&& (15 : Int32)), oF sv, oI (i0 >>> ((7 : Int32) &&& 31)), oI (i1 >>> ((7 : Int32) &&& 31)), oI (i2 >>> ((7 : Int32) &&& 31)), oI (i3 >>> ((7 : Int32) &&& 31)), oR h0.size, .unset, .unset, .unset, .unset] [(.ref h0.size)])
  refine own_by (fun t_ k_ => XT.iconstV XT4.here hx rfl (3 : Int32) (hb hby at_84) (by decide) k_) ?_
  show own_Go p e below _ T4 (mkF m 85 #[oI i0, oI i1, oI i2, oI i3, oI i4, oI i5, oI ((i5 &&& (7 : Int32)) % (5 : Int32)), oI (i4 &&& (15 : Int32)), oF sv, oI (i0 >>> ((7 : Int32) &&& 31)), oI (i1 >>> ((7 : Int32) &&& 31)), oI (i2 >>> ((7 : Int32) &&& 31)), oI (i3 >>> ((7 : Int32) &&& 31)), oR h0.size, .unset, .unset, .unset, .unset] [(.int (3 : Int32)), (.ref h0.size)])
  refine own_by (fun t_ k_ => XS.iload XT4.here hx rfl (hb hby at_85) rfl  k_) ?_
  show own_Go p e below _ T4 (mkF m 87 #[oI i0, oI i1, oI i2, oI i3, oI i4, oI i5, oI ((i5 &&& (7 : Int32)) % (5 : Int32)), oI (i4 &&& (15 : Int32)), oF sv, oI (i0 >>> ((7 : Int32) &&& 31)), oI (i1 >>> ((7 : Int32) &&& 31)), oI (i2 >>> ((7 : Int32) &&& 31)), oI (i3 >>> ((7 : Int32) &&& 31)), oR h0.size, .unset, .unset, .unset, .unset] [(.int (i3 >>> ((7 : Int32) &&& 31))), (.int (3 : Int32)), (.ref h0.size)])
  refine own_by (fun t_ k_ => XS.i2fS XT4.here hx rfl (hb hby at_87) rfl rfl k_) ?_
  show own_Go p e below _ T4 (mkF m 88 #[oI i0, oI i1, oI i2, oI i3, oI i4, oI i5, oI ((i5 &&& (7 : Int32)) % (5 : Int32)), oI (i4 &&& (15 : Int32)), oF sv, oI (i0 >>> ((7 : Int32) &&& 31)), oI (i1 >>> ((7 : Int32) &&& 31)), oI (i2 >>> ((7 : Int32) &&& 31)), oI (i3 >>> ((7 : Int32) &&& 31)), oR h0.size, .unset, .unset, .unset, .unset] [(.float (FP.i2f (i3 >>> ((7 : Int32) &&& 31)))), (.int (3 : Int32)), (.ref h0.size)])
  refine own_by (fun t_ k_ => XS.fload XT4.here hx rfl (hb hby at_88) rfl  k_) ?_
  show own_Go p e below _ T4 (mkF m 90 #[oI i0, oI i1, oI i2, oI i3, oI i4, oI i5, oI ((i5 &&& (7 : Int32)) % (5 : Int32)), oI (i4 &&& (15 : Int32)), oF sv, oI (i0 >>> ((7 : Int32) &&& 31)), oI (i1 >>> ((7 : Int32) &&& 31)), oI (i2 >>> ((7 : Int32) &&& 31)), oI (i3 >>> ((7 : Int32) &&& 31)), oR h0.size, .unset, .unset, .unset, .unset] [(.float sv), (.float (FP.i2f (i3 >>> ((7 : Int32) &&& 31)))), (.int (3 : Int32)), (.ref h0.size)])
  have F3 := own_F_divp (own_F_i2f (a := (i3 >>> ((7 : Int32) &&& 31))) (by have := own_sh7 i3; omega)) Fs (by have := own_sh7 i3; omega) hk15
  refine own_by (fun t_ k_ => XS.fdivS XT4.here hx rfl (hb hby at_90) rfl (own_F_no F3) rfl k_) ?_
  show own_Go p e below _ T4 (mkF m 91 #[oI i0, oI i1, oI i2, oI i3, oI i4, oI i5, oI ((i5 &&& (7 : Int32)) % (5 : Int32)), oI (i4 &&& (15 : Int32)), oF sv, oI (i0 >>> ((7 : Int32) &&& 31)), oI (i1 >>> ((7 : Int32) &&& 31)), oI (i2 >>> ((7 : Int32) &&& 31)), oI (i3 >>> ((7 : Int32) &&& 31)), oR h0.size, .unset, .unset, .unset, .unset] [(.float (FP.fdiv (FP.i2f (i3 >>> ((7 : Int32) &&& 31))) sv)), (.int (3 : Int32)), (.ref h0.size)])
  generalize (FP.fdiv (FP.i2f (i3 >>> ((7 : Int32) &&& 31))) sv) = f3 at F3 ⊢
  show own_Go p e below _ T4 (mkF m 91 #[oI i0, oI i1, oI i2, oI i3, oI i4, oI i5, oI ((i5 &&& (7 : Int32)) % (5 : Int32)), oI (i4 &&& (15 : Int32)), oF sv, oI (i0 >>> ((7 : Int32) &&& 31)), oI (i1 >>> ((7 : Int32) &&& 31)), oI (i2 >>> ((7 : Int32) &&& 31)), oI (i3 >>> ((7 : Int32) &&& 31)), oR h0.size, .unset, .unset, .unset, .unset] [(.float f3), (.int (3 : Int32)), (.ref h0.size)])
  refine own_stF XT4 hx hZ eT4 VT4 3 (by decide) (by decide) (by simp) (hb hby at_91) ?_
  intro T5 hT5 XT5 eT5 WT5 YT5
  have VT5 : own_A Z hT5 h0.size .float kA [(.float f0), (.float f1), (.float f2), (.float f3)] := YT5
  have NT5 := own_frs (i := 3) NT4 (Nat.le_refl h0.size)
  clear YT5
  show own_Go p e below _ T5 (mkF m 92 #[oI i0, oI i1, oI i2, oI i3, oI i4, oI i5, oI ((i5 &&& (7 : Int32)) % (5 : Int32)), oI (i4 &&& (15 : Int32)), oF sv, oI (i0 >>> ((7 : Int32) &&& 31)), oI (i1 >>> ((7 : Int32) &&& 31)), oI (i2 >>> ((7 : Int32) &&& 31)), oI (i3 >>> ((7 : Int32) &&& 31)), oR h0.size, .unset, .unset, .unset, .unset] [])
  refine own_by (fun t_ k_ => XT.lconstV XT5.here hx rfl (0 : Int64) (hb hby at_92) (by decide) k_) ?_
  show own_Go p e below _ T5 (mkF m 93 #[oI i0, oI i1, oI i2, oI i3, oI i4, oI i5, oI ((i5 &&& (7 : Int32)) % (5 : Int32)), oI (i4 &&& (15 : Int32)), oF sv, oI (i0 >>> ((7 : Int32) &&& 31)), oI (i1 >>> ((7 : Int32) &&& 31)), oI (i2 >>> ((7 : Int32) &&& 31)), oI (i3 >>> ((7 : Int32) &&& 31)), oR h0.size, .unset, .unset, .unset, .unset] [(.long (0 : Int64))])
  refine own_by (fun t_ k_ => XT.lstore XT5.here hx rfl (hb hby at_93) rfl (l' := #[oI i0, oI i1, oI i2, oI i3, oI i4, oI i5, oI ((i5 &&& (7 : Int32)) % (5 : Int32)), oI (i4 &&& (15 : Int32)), oF sv, oI (i0 >>> ((7 : Int32) &&& 31)), oI (i1 >>> ((7 : Int32) &&& 31)), oI (i2 >>> ((7 : Int32) &&& 31)), oI (i3 >>> ((7 : Int32) &&& 31)), oR h0.size, oJ (0 : Int64), .second, .unset, .unset]) rfl k_) ?_
  show own_Go p e below _ T5 (mkF m 95 #[oI i0, oI i1, oI i2, oI i3, oI i4, oI i5, oI ((i5 &&& (7 : Int32)) % (5 : Int32)), oI (i4 &&& (15 : Int32)), oF sv, oI (i0 >>> ((7 : Int32) &&& 31)), oI (i1 >>> ((7 : Int32) &&& 31)), oI (i2 >>> ((7 : Int32) &&& 31)), oI (i3 >>> ((7 : Int32) &&& 31)), oR h0.size, oJ (0 : Int64), .second, .unset, .unset] [])
  rcases own_n i5 with hk | hk | hk | hk | hk
  · rw [hk]
    show own_Go p e below _ T5 (mkF m 95 #[oI i0, oI i1, oI i2, oI i3, oI i4, oI i5, oI (0 : Int32), oI (i4 &&& (15 : Int32)), oF sv, oI (i0 >>> ((7 : Int32) &&& 31)), oI (i1 >>> ((7 : Int32) &&& 31)), oI (i2 >>> ((7 : Int32) &&& 31)), oI (i3 >>> ((7 : Int32) &&& 31)), oR h0.size, oJ (0 : Int64), .second, .unset, .unset] [])
    refine own_by (fun t_ k_ => XS.iload XT5.here hx rfl (hb hby at_95) rfl  k_) ?_
    show own_Go p e below _ T5 (mkF m 97 #[oI i0, oI i1, oI i2, oI i3, oI i4, oI i5, oI (0 : Int32), oI (i4 &&& (15 : Int32)), oF sv, oI (i0 >>> ((7 : Int32) &&& 31)), oI (i1 >>> ((7 : Int32) &&& 31)), oI (i2 >>> ((7 : Int32) &&& 31)), oI (i3 >>> ((7 : Int32) &&& 31)), oR h0.size, oJ (0 : Int64), .second, .unset, .unset] [(.int (0 : Int32))])
    refine own_by (fun t_ k_ => XS.ifYes XT5.here hx rfl (pc0 := 97) (pc' := 108) rfl (hb hby at_97) rfl (XT.i0_le_t (by decide)) (by decide) (by decide) k_) ?_
    show own_Go p e below _ T5 (mkF m 108 #[oI i0, oI i1, oI i2, oI i3, oI i4, oI i5, oI (0 : Int32), oI (i4 &&& (15 : Int32)), oF sv, oI (i0 >>> ((7 : Int32) &&& 31)), oI (i1 >>> ((7 : Int32) &&& 31)), oI (i2 >>> ((7 : Int32) &&& 31)), oI (i3 >>> ((7 : Int32) &&& 31)), oR h0.size, oJ (0 : Int64), .second, .unset, .unset] [])
    refine own_by (fun t_ k_ => XS.iload XT5.here hx rfl (hb hby at_108) rfl  k_) ?_
    show own_Go p e below _ T5 (mkF m 110 #[oI i0, oI i1, oI i2, oI i3, oI i4, oI i5, oI (0 : Int32), oI (i4 &&& (15 : Int32)), oF sv, oI (i0 >>> ((7 : Int32) &&& 31)), oI (i1 >>> ((7 : Int32) &&& 31)), oI (i2 >>> ((7 : Int32) &&& 31)), oI (i3 >>> ((7 : Int32) &&& 31)), oR h0.size, oJ (0 : Int64), .second, .unset, .unset] [(.int (0 : Int32))])
    refine own_by (fun t_ k_ => XT.iconstV XT5.here hx rfl (1 : Int32) (hb hby at_110) (by decide) k_) ?_
    show own_Go p e below _ T5 (mkF m 111 #[oI i0, oI i1, oI i2, oI i3, oI i4, oI i5, oI (0 : Int32), oI (i4 &&& (15 : Int32)), oF sv, oI (i0 >>> ((7 : Int32) &&& 31)), oI (i1 >>> ((7 : Int32) &&& 31)), oI (i2 >>> ((7 : Int32) &&& 31)), oI (i3 >>> ((7 : Int32) &&& 31)), oR h0.size, oJ (0 : Int64), .second, .unset, .unset] [(.int (1 : Int32)), (.int (0 : Int32))])
    refine own_by (fun t_ k_ => XS.icmpYes XT5.here hx rfl (pc0 := 111) (pc' := 122) rfl (hb hby at_111) rfl (XT.ii_le_t (by decide)) (by decide) (by decide) k_) ?_
    show own_Go p e below _ T5 (mkF m 122 #[oI i0, oI i1, oI i2, oI i3, oI i4, oI i5, oI (0 : Int32), oI (i4 &&& (15 : Int32)), oF sv, oI (i0 >>> ((7 : Int32) &&& 31)), oI (i1 >>> ((7 : Int32) &&& 31)), oI (i2 >>> ((7 : Int32) &&& 31)), oI (i3 >>> ((7 : Int32) &&& 31)), oR h0.size, oJ (0 : Int64), .second, .unset, .unset] [])
    refine own_by (fun t_ k_ => XS.iload XT5.here hx rfl (hb hby at_122) rfl  k_) ?_
    show own_Go p e below _ T5 (mkF m 124 #[oI i0, oI i1, oI i2, oI i3, oI i4, oI i5, oI (0 : Int32), oI (i4 &&& (15 : Int32)), oF sv, oI (i0 >>> ((7 : Int32) &&& 31)), oI (i1 >>> ((7 : Int32) &&& 31)), oI (i2 >>> ((7 : Int32) &&& 31)), oI (i3 >>> ((7 : Int32) &&& 31)), oR h0.size, oJ (0 : Int64), .second, .unset, .unset] [(.int (0 : Int32))])
    refine own_by (fun t_ k_ => XT.iconstV XT5.here hx rfl (2 : Int32) (hb hby at_124) (by decide) k_) ?_
    show own_Go p e below _ T5 (mkF m 125 #[oI i0, oI i1, oI i2, oI i3, oI i4, oI i5, oI (0 : Int32), oI (i4 &&& (15 : Int32)), oF sv, oI (i0 >>> ((7 : Int32) &&& 31)), oI (i1 >>> ((7 : Int32) &&& 31)), oI (i2 >>> ((7 : Int32) &&& 31)), oI (i3 >>> ((7 : Int32) &&& 31)), oR h0.size, oJ (0 : Int64), .second, .unset, .unset] [(.int (2 : Int32)), (.int (0 : Int32))])
    refine own_by (fun t_ k_ => XS.icmpYes XT5.here hx rfl (pc0 := 125) (pc' := 136) rfl (hb hby at_125) rfl (XT.ii_le_t (by decide)) (by decide) (by decide) k_) ?_
    show own_Go p e below _ T5 (mkF m 136 #[oI i0, oI i1, oI i2, oI i3, oI i4, oI i5, oI (0 : Int32), oI (i4 &&& (15 : Int32)), oF sv, oI (i0 >>> ((7 : Int32) &&& 31)), oI (i1 >>> ((7 : Int32) &&& 31)), oI (i2 >>> ((7 : Int32) &&& 31)), oI (i3 >>> ((7 : Int32) &&& 31)), oR h0.size, oJ (0 : Int64), .second, .unset, .unset] [])
    refine own_by (fun t_ k_ => XS.iload XT5.here hx rfl (hb hby at_136) rfl  k_) ?_
    show own_Go p e below _ T5 (mkF m 138 #[oI i0, oI i1, oI i2, oI i3, oI i4, oI i5, oI (0 : Int32), oI (i4 &&& (15 : Int32)), oF sv, oI (i0 >>> ((7 : Int32) &&& 31)), oI (i1 >>> ((7 : Int32) &&& 31)), oI (i2 >>> ((7 : Int32) &&& 31)), oI (i3 >>> ((7 : Int32) &&& 31)), oR h0.size, oJ (0 : Int64), .second, .unset, .unset] [(.int (0 : Int32))])
    refine own_by (fun t_ k_ => XT.iconstV XT5.here hx rfl (3 : Int32) (hb hby at_138) (by decide) k_) ?_
    show own_Go p e below _ T5 (mkF m 139 #[oI i0, oI i1, oI i2, oI i3, oI i4, oI i5, oI (0 : Int32), oI (i4 &&& (15 : Int32)), oF sv, oI (i0 >>> ((7 : Int32) &&& 31)), oI (i1 >>> ((7 : Int32) &&& 31)), oI (i2 >>> ((7 : Int32) &&& 31)), oI (i3 >>> ((7 : Int32) &&& 31)), oR h0.size, oJ (0 : Int64), .second, .unset, .unset] [(.int (3 : Int32)), (.int (0 : Int32))])
    refine own_by (fun t_ k_ => XS.icmpYes XT5.here hx rfl (pc0 := 139) (pc' := 150) rfl (hb hby at_139) rfl (XT.ii_le_t (by decide)) (by decide) (by decide) k_) ?_
    show own_Go p e below _ T5 (mkF m 150 #[oI i0, oI i1, oI i2, oI i3, oI i4, oI i5, oI (0 : Int32), oI (i4 &&& (15 : Int32)), oF sv, oI (i0 >>> ((7 : Int32) &&& 31)), oI (i1 >>> ((7 : Int32) &&& 31)), oI (i2 >>> ((7 : Int32) &&& 31)), oI (i3 >>> ((7 : Int32) &&& 31)), oR h0.size, oJ (0 : Int64), .second, .unset, .unset] [])
    refine own_by (fun t_ k_ => XT.lload XT5.here hx rfl (hb hby at_150) rfl  k_) ?_
    show own_Go p e below _ T5 (mkF m 152 #[oI i0, oI i1, oI i2, oI i3, oI i4, oI i5, oI (0 : Int32), oI (i4 &&& (15 : Int32)), oF sv, oI (i0 >>> ((7 : Int32) &&& 31)), oI (i1 >>> ((7 : Int32) &&& 31)), oI (i2 >>> ((7 : Int32) &&& 31)), oI (i3 >>> ((7 : Int32) &&& 31)), oR h0.size, oJ (0 : Int64), .second, .unset, .unset] [(.long (0 : Int64))])
    refine own_by (fun t_ k_ => XS.l2fS XT5.here hx rfl (hb hby at_152) rfl rfl k_) ?_
    show own_Go p e below _ T5 (mkF m 153 #[oI i0, oI i1, oI i2, oI i3, oI i4, oI i5, oI (0 : Int32), oI (i4 &&& (15 : Int32)), oF sv, oI (i0 >>> ((7 : Int32) &&& 31)), oI (i1 >>> ((7 : Int32) &&& 31)), oI (i2 >>> ((7 : Int32) &&& 31)), oI (i3 >>> ((7 : Int32) &&& 31)), oR h0.size, oJ (0 : Int64), .second, .unset, .unset] [(.float (FP.l2f (0 : Int64)))])
    refine own_by (fun t_ k_ => XS.fload XT5.here hx rfl (hb hby at_153) rfl  k_) ?_
    show own_Go p e below _ T5 (mkF m 155 #[oI i0, oI i1, oI i2, oI i3, oI i4, oI i5, oI (0 : Int32), oI (i4 &&& (15 : Int32)), oF sv, oI (i0 >>> ((7 : Int32) &&& 31)), oI (i1 >>> ((7 : Int32) &&& 31)), oI (i2 >>> ((7 : Int32) &&& 31)), oI (i3 >>> ((7 : Int32) &&& 31)), oR h0.size, oJ (0 : Int64), .second, .unset, .unset] [(.float sv), (.float (FP.l2f (0 : Int64)))])
    have B0 := own_sh7 i0
    have B1 := own_sh7 i1
    have B2 := own_sh7 i2
    have B3 := own_sh7 i3
    have htot : ((0 : Int64)).toInt = 0 := by
      have g0 : ((0 : Int64)).toInt = 0 := by decide
      omega
    have nn := own_exp_no (t := (0 : Int64)) (by omega) hk15 Fs
    refine own_by (fun t_ k_ => XS.fdivS XT5.here hx rfl (hb hby at_155) rfl nn rfl k_) ?_
    show own_Go p e below _ T5 (mkF m 156 #[oI i0, oI i1, oI i2, oI i3, oI i4, oI i5, oI (0 : Int32), oI (i4 &&& (15 : Int32)), oF sv, oI (i0 >>> ((7 : Int32) &&& 31)), oI (i1 >>> ((7 : Int32) &&& 31)), oI (i2 >>> ((7 : Int32) &&& 31)), oI (i3 >>> ((7 : Int32) &&& 31)), oR h0.size, oJ (0 : Int64), .second, .unset, .unset] [(.float (FP.fdiv (FP.l2f (0 : Int64)) sv))])
    refine own_by (fun t_ k_ => XS.fstore XT5.here hx rfl (hb hby at_156) rfl (l' := #[oI i0, oI i1, oI i2, oI i3, oI i4, oI i5, oI (0 : Int32), oI (i4 &&& (15 : Int32)), oF sv, oI (i0 >>> ((7 : Int32) &&& 31)), oI (i1 >>> ((7 : Int32) &&& 31)), oI (i2 >>> ((7 : Int32) &&& 31)), oI (i3 >>> ((7 : Int32) &&& 31)), oR h0.size, oJ (0 : Int64), .second, oF (FP.fdiv (FP.l2f (0 : Int64)) sv), .unset]) rfl k_) ?_
    show own_Go p e below _ T5 (mkF m 158 #[oI i0, oI i1, oI i2, oI i3, oI i4, oI i5, oI (0 : Int32), oI (i4 &&& (15 : Int32)), oF sv, oI (i0 >>> ((7 : Int32) &&& 31)), oI (i1 >>> ((7 : Int32) &&& 31)), oI (i2 >>> ((7 : Int32) &&& 31)), oI (i3 >>> ((7 : Int32) &&& 31)), oR h0.size, oJ (0 : Int64), .second, oF (FP.fdiv (FP.l2f (0 : Int64)) sv), .unset] [])
    refine own_by (fun t_ k_ => XS.aload XT5.here hx rfl (hb hby at_158) rfl rfl  k_) ?_
    show own_Go p e below _ T5 (mkF m 160 #[oI i0, oI i1, oI i2, oI i3, oI i4, oI i5, oI (0 : Int32), oI (i4 &&& (15 : Int32)), oF sv, oI (i0 >>> ((7 : Int32) &&& 31)), oI (i1 >>> ((7 : Int32) &&& 31)), oI (i2 >>> ((7 : Int32) &&& 31)), oI (i3 >>> ((7 : Int32) &&& 31)), oR h0.size, oJ (0 : Int64), .second, oF (FP.fdiv (FP.l2f (0 : Int64)) sv), .unset] [(.ref h0.size)])
    refine own_by (fun t_ k_ => XS.iload XT5.here hx rfl (hb hby at_160) rfl  k_) ?_
    show own_Go p e below _ T5 (mkF m 162 #[oI i0, oI i1, oI i2, oI i3, oI i4, oI i5, oI (0 : Int32), oI (i4 &&& (15 : Int32)), oF sv, oI (i0 >>> ((7 : Int32) &&& 31)), oI (i1 >>> ((7 : Int32) &&& 31)), oI (i2 >>> ((7 : Int32) &&& 31)), oI (i3 >>> ((7 : Int32) &&& 31)), oR h0.size, oJ (0 : Int64), .second, oF (FP.fdiv (FP.l2f (0 : Int64)) sv), .unset] [(.int (0 : Int32)), (.ref h0.size)])
    refine own_callS XT5 hx hZ hown (hw _ (List.mem_of_getElem? (i := 1) rfl)) (hw _ (List.mem_of_getElem? (i := 2) rfl)) (hw _ (List.mem_of_getElem? (i := 3) rfl)) (hw _ (List.mem_of_getElem? (i := 4) rfl)) (by decide) eT5 (argsL := [(.ref h0.size), (.int (0 : Int32))]) (rest := []) (own_sum0 l Z a0 hw h0.size kA k f0 f1 f2 f3 (i0 >>> ((7 : Int32) &&& 31)).toInt (i1 >>> ((7 : Int32) &&& 31)).toInt (i2 >>> ((7 : Int32) &&& 31)).toInt (i3 >>> ((7 : Int32) &&& 31)).toInt hT5 VT5 hk15 F0 F1 F2 F3 B0 B1 B2 B3) 0 (by decide) (by decide) (by rw [hml]; rfl) (lenOf pd_0 rfl) (Nat.le_of_eq rfl) (hb hby at_162) (by decide) (by decide) (st := [(.int (0 : Int32)), (.ref h0.size)]) rfl ?_
    intro T6 LT6 vT6 XT6 hQT6
    obtain ⟨⟨acc, rfl, hacc⟩, eT6, rfl⟩ := hQT6
    show own_Go p e below _ T6 (mkF m 165 #[oI i0, oI i1, oI i2, oI i3, oI i4, oI i5, oI (0 : Int32), oI (i4 &&& (15 : Int32)), oF sv, oI (i0 >>> ((7 : Int32) &&& 31)), oI (i1 >>> ((7 : Int32) &&& 31)), oI (i2 >>> ((7 : Int32) &&& 31)), oI (i3 >>> ((7 : Int32) &&& 31)), oR h0.size, oJ (0 : Int64), .second, oF (FP.fdiv (FP.l2f (0 : Int64)) sv), .unset] [(.float (FP.d2f acc))])
    have hcmp := (own_m3_no1 (t := (0 : Int64)) (by omega) hk15 Fs (by rw [htot]; exact hacc)).2.2
    show own_Go p e below _ T6 (mkF m 165 #[oI i0, oI i1, oI i2, oI i3, oI i4, oI i5, oI (0 : Int32), oI (i4 &&& (15 : Int32)), oF sv, oI (i0 >>> ((7 : Int32) &&& 31)), oI (i1 >>> ((7 : Int32) &&& 31)), oI (i2 >>> ((7 : Int32) &&& 31)), oI (i3 >>> ((7 : Int32) &&& 31)), oR h0.size, oJ (0 : Int64), .second, oF (FP.fdiv (FP.l2f (0 : Int64)) sv), .unset] [(.float (FP.d2f acc))])
    refine own_by (fun t_ k_ => XS.fstore XT6.here hx rfl (hb hby at_165) rfl (l' := #[oI i0, oI i1, oI i2, oI i3, oI i4, oI i5, oI (0 : Int32), oI (i4 &&& (15 : Int32)), oF sv, oI (i0 >>> ((7 : Int32) &&& 31)), oI (i1 >>> ((7 : Int32) &&& 31)), oI (i2 >>> ((7 : Int32) &&& 31)), oI (i3 >>> ((7 : Int32) &&& 31)), oR h0.size, oJ (0 : Int64), .second, oF (FP.fdiv (FP.l2f (0 : Int64)) sv), oF (FP.d2f acc)]) rfl k_) ?_
    show own_Go p e below _ T6 (mkF m 167 #[oI i0, oI i1, oI i2, oI i3, oI i4, oI i5, oI (0 : Int32), oI (i4 &&& (15 : Int32)), oF sv, oI (i0 >>> ((7 : Int32) &&& 31)), oI (i1 >>> ((7 : Int32) &&& 31)), oI (i2 >>> ((7 : Int32) &&& 31)), oI (i3 >>> ((7 : Int32) &&& 31)), oR h0.size, oJ (0 : Int64), .second, oF (FP.fdiv (FP.l2f (0 : Int64)) sv), oF (FP.d2f acc)] [])
    refine own_by (fun t_ k_ => XS.fload XT6.here hx rfl (hb hby at_167) rfl  k_) ?_
    show own_Go p e below _ T6 (mkF m 169 #[oI i0, oI i1, oI i2, oI i3, oI i4, oI i5, oI (0 : Int32), oI (i4 &&& (15 : Int32)), oF sv, oI (i0 >>> ((7 : Int32) &&& 31)), oI (i1 >>> ((7 : Int32) &&& 31)), oI (i2 >>> ((7 : Int32) &&& 31)), oI (i3 >>> ((7 : Int32) &&& 31)), oR h0.size, oJ (0 : Int64), .second, oF (FP.fdiv (FP.l2f (0 : Int64)) sv), oF (FP.d2f acc)] [(.float (FP.d2f acc))])
    refine own_by (fun t_ k_ => XS.fload XT6.here hx rfl (hb hby at_169) rfl  k_) ?_
    show own_Go p e below _ T6 (mkF m 171 #[oI i0, oI i1, oI i2, oI i3, oI i4, oI i5, oI (0 : Int32), oI (i4 &&& (15 : Int32)), oF sv, oI (i0 >>> ((7 : Int32) &&& 31)), oI (i1 >>> ((7 : Int32) &&& 31)), oI (i2 >>> ((7 : Int32) &&& 31)), oI (i3 >>> ((7 : Int32) &&& 31)), oR h0.size, oJ (0 : Int64), .second, oF (FP.fdiv (FP.l2f (0 : Int64)) sv), oF (FP.d2f acc)] [(.float (FP.fdiv (FP.l2f (0 : Int64)) sv)), (.float (FP.d2f acc))])
    refine own_by (fun t_ k_ => XS.fcmpS XT6.here hx rfl (hb hby at_171) rfl hcmp k_) ?_
    show own_Go p e below _ T6 (mkF m 172 #[oI i0, oI i1, oI i2, oI i3, oI i4, oI i5, oI (0 : Int32), oI (i4 &&& (15 : Int32)), oF sv, oI (i0 >>> ((7 : Int32) &&& 31)), oI (i1 >>> ((7 : Int32) &&& 31)), oI (i2 >>> ((7 : Int32) &&& 31)), oI (i3 >>> ((7 : Int32) &&& 31)), oR h0.size, oJ (0 : Int64), .second, oF (FP.fdiv (FP.l2f (0 : Int64)) sv), oF (FP.d2f acc)] [(.int (0 : Int32))])
    refine own_by (fun t_ k_ => XS.ifNo XT6.here hx rfl (hb hby at_172) rfl (XT.i0_ne_f (by decide)) k_) ?_
    show own_Go p e below _ T6 (mkF m 175 #[oI i0, oI i1, oI i2, oI i3, oI i4, oI i5, oI (0 : Int32), oI (i4 &&& (15 : Int32)), oF sv, oI (i0 >>> ((7 : Int32) &&& 31)), oI (i1 >>> ((7 : Int32) &&& 31)), oI (i2 >>> ((7 : Int32) &&& 31)), oI (i3 >>> ((7 : Int32) &&& 31)), oR h0.size, oJ (0 : Int64), .second, oF (FP.fdiv (FP.l2f (0 : Int64)) sv), oF (FP.d2f acc)] [])
    refine own_by (fun t_ k_ => XT.iconstV XT6.here hx rfl (1 : Int32) (hb hby at_175) (by decide) k_) ?_
    show own_Go p e below _ T6 (mkF m 176 #[oI i0, oI i1, oI i2, oI i3, oI i4, oI i5, oI (0 : Int32), oI (i4 &&& (15 : Int32)), oF sv, oI (i0 >>> ((7 : Int32) &&& 31)), oI (i1 >>> ((7 : Int32) &&& 31)), oI (i2 >>> ((7 : Int32) &&& 31)), oI (i3 >>> ((7 : Int32) &&& 31)), oR h0.size, oJ (0 : Int64), .second, oF (FP.fdiv (FP.l2f (0 : Int64)) sv), oF (FP.d2f acc)] [(.int (1 : Int32))])
    refine own_by (fun t_ k_ => XS.goto XT6.here hx rfl (pc0 := 176) (pc' := 180) rfl (hb hby at_176) (by decide) (by decide) k_) ?_
    show own_Go p e below _ T6 (mkF m 180 #[oI i0, oI i1, oI i2, oI i3, oI i4, oI i5, oI (0 : Int32), oI (i4 &&& (15 : Int32)), oF sv, oI (i0 >>> ((7 : Int32) &&& 31)), oI (i1 >>> ((7 : Int32) &&& 31)), oI (i2 >>> ((7 : Int32) &&& 31)), oI (i3 >>> ((7 : Int32) &&& 31)), oR h0.size, oJ (0 : Int64), .second, oF (FP.fdiv (FP.l2f (0 : Int64)) sv), oF (FP.d2f acc)] [(.int (1 : Int32))])
    exact own_retN XT6 hx hlk hret (by simp) (w := (1 : Int32)) (hb hby at_180) (by decide) (by decide) (by decide) (⟨rfl, own_app0 NT5⟩)
  · rw [hk]
    show own_Go p e below _ T5 (mkF m 95 #[oI i0, oI i1, oI i2, oI i3, oI i4, oI i5, oI (1 : Int32), oI (i4 &&& (15 : Int32)), oF sv, oI (i0 >>> ((7 : Int32) &&& 31)), oI (i1 >>> ((7 : Int32) &&& 31)), oI (i2 >>> ((7 : Int32) &&& 31)), oI (i3 >>> ((7 : Int32) &&& 31)), oR h0.size, oJ (0 : Int64), .second, .unset, .unset] [])
    refine own_by (fun t_ k_ => XS.iload XT5.here hx rfl (hb hby at_95) rfl  k_) ?_
    show own_Go p e below _ T5 (mkF m 97 #[oI i0, oI i1, oI i2, oI i3, oI i4, oI i5, oI (1 : Int32), oI (i4 &&& (15 : Int32)), oF sv, oI (i0 >>> ((7 : Int32) &&& 31)), oI (i1 >>> ((7 : Int32) &&& 31)), oI (i2 >>> ((7 : Int32) &&& 31)), oI (i3 >>> ((7 : Int32) &&& 31)), oR h0.size, oJ (0 : Int64), .second, .unset, .unset] [(.int (1 : Int32))])
    refine own_by (fun t_ k_ => XS.ifNo XT5.here hx rfl (hb hby at_97) rfl (XT.i0_le_f (by decide)) k_) ?_
    show own_Go p e below _ T5 (mkF m 100 #[oI i0, oI i1, oI i2, oI i3, oI i4, oI i5, oI (1 : Int32), oI (i4 &&& (15 : Int32)), oF sv, oI (i0 >>> ((7 : Int32) &&& 31)), oI (i1 >>> ((7 : Int32) &&& 31)), oI (i2 >>> ((7 : Int32) &&& 31)), oI (i3 >>> ((7 : Int32) &&& 31)), oR h0.size, oJ (0 : Int64), .second, .unset, .unset] [])
    refine own_by (fun t_ k_ => XT.lload XT5.here hx rfl (hb hby at_100) rfl  k_) ?_
    show own_Go p e below _ T5 (mkF m 102 #[oI i0, oI i1, oI i2, oI i3, oI i4, oI i5, oI (1 : Int32), oI (i4 &&& (15 : Int32)), oF sv, oI (i0 >>> ((7 : Int32) &&& 31)), oI (i1 >>> ((7 : Int32) &&& 31)), oI (i2 >>> ((7 : Int32) &&& 31)), oI (i3 >>> ((7 : Int32) &&& 31)), oR h0.size, oJ (0 : Int64), .second, .unset, .unset] [(.long (0 : Int64))])
    refine own_by (fun t_ k_ => XS.iload XT5.here hx rfl (hb hby at_102) rfl  k_) ?_
    show own_Go p e below _ T5 (mkF m 104 #[oI i0, oI i1, oI i2, oI i3, oI i4, oI i5, oI (1 : Int32), oI (i4 &&& (15 : Int32)), oF sv, oI (i0 >>> ((7 : Int32) &&& 31)), oI (i1 >>> ((7 : Int32) &&& 31)), oI (i2 >>> ((7 : Int32) &&& 31)), oI (i3 >>> ((7 : Int32) &&& 31)), oR h0.size, oJ (0 : Int64), .second, .unset, .unset] [(.int (i0 >>> ((7 : Int32) &&& 31))), (.long (0 : Int64))])
    refine own_by (fun t_ k_ => XT.i2l XT5.here hx rfl (hb hby at_104) rfl k_) ?_
    show own_Go p e below _ T5 (mkF m 105 #[oI i0, oI i1, oI i2, oI i3, oI i4, oI i5, oI (1 : Int32), oI (i4 &&& (15 : Int32)), oF sv, oI (i0 >>> ((7 : Int32) &&& 31)), oI (i1 >>> ((7 : Int32) &&& 31)), oI (i2 >>> ((7 : Int32) &&& 31)), oI (i3 >>> ((7 : Int32) &&& 31)), oR h0.size, oJ (0 : Int64), .second, .unset, .unset] [(.long ((i0 >>> ((7 : Int32) &&& 31)).toInt64)), (.long (0 : Int64))])
    refine own_by (fun t_ k_ => XT.ladd XT5.here hx rfl (hb hby at_105) rfl k_) ?_
    show own_Go p e below _ T5 (mkF m 106 #[oI i0, oI i1, oI i2, oI i3, oI i4, oI i5, oI (1 : Int32), oI (i4 &&& (15 : Int32)), oF sv, oI (i0 >>> ((7 : Int32) &&& 31)), oI (i1 >>> ((7 : Int32) &&& 31)), oI (i2 >>> ((7 : Int32) &&& 31)), oI (i3 >>> ((7 : Int32) &&& 31)), oR h0.size, oJ (0 : Int64), .second, .unset, .unset] [(.long ((0 : Int64) + ((i0 >>> ((7 : Int32) &&& 31)).toInt64)))])
    refine own_by (fun t_ k_ => XT.lstore XT5.here hx rfl (hb hby at_106) rfl (l' := #[oI i0, oI i1, oI i2, oI i3, oI i4, oI i5, oI (1 : Int32), oI (i4 &&& (15 : Int32)), oF sv, oI (i0 >>> ((7 : Int32) &&& 31)), oI (i1 >>> ((7 : Int32) &&& 31)), oI (i2 >>> ((7 : Int32) &&& 31)), oI (i3 >>> ((7 : Int32) &&& 31)), oR h0.size, oJ ((0 : Int64) + ((i0 >>> ((7 : Int32) &&& 31)).toInt64)), .second, .unset, .unset]) rfl k_) ?_
    show own_Go p e below _ T5 (mkF m 108 #[oI i0, oI i1, oI i2, oI i3, oI i4, oI i5, oI (1 : Int32), oI (i4 &&& (15 : Int32)), oF sv, oI (i0 >>> ((7 : Int32) &&& 31)), oI (i1 >>> ((7 : Int32) &&& 31)), oI (i2 >>> ((7 : Int32) &&& 31)), oI (i3 >>> ((7 : Int32) &&& 31)), oR h0.size, oJ ((0 : Int64) + ((i0 >>> ((7 : Int32) &&& 31)).toInt64)), .second, .unset, .unset] [])
    refine own_by (fun t_ k_ => XS.iload XT5.here hx rfl (hb hby at_108) rfl  k_) ?_
    show own_Go p e below _ T5 (mkF m 110 #[oI i0, oI i1, oI i2, oI i3, oI i4, oI i5, oI (1 : Int32), oI (i4 &&& (15 : Int32)), oF sv, oI (i0 >>> ((7 : Int32) &&& 31)), oI (i1 >>> ((7 : Int32) &&& 31)), oI (i2 >>> ((7 : Int32) &&& 31)), oI (i3 >>> ((7 : Int32) &&& 31)), oR h0.size, oJ ((0 : Int64) + ((i0 >>> ((7 : Int32) &&& 31)).toInt64)), .second, .unset, .unset] [(.int (1 : Int32))])
    refine own_by (fun t_ k_ => XT.iconstV XT5.here hx rfl (1 : Int32) (hb hby at_110) (by decide) k_) ?_
    show own_Go p e below _ T5 (mkF m 111 #[oI i0, oI i1, oI i2, oI i3, oI i4, oI i5, oI (1 : Int32), oI (i4 &&& (15 : Int32)), oF sv, oI (i0 >>> ((7 : Int32) &&& 31)), oI (i1 >>> ((7 : Int32) &&& 31)), oI (i2 >>> ((7 : Int32) &&& 31)), oI (i3 >>> ((7 : Int32) &&& 31)), oR h0.size, oJ ((0 : Int64) + ((i0 >>> ((7 : Int32) &&& 31)).toInt64)), .second, .unset, .unset] [(.int (1 : Int32)), (.int (1 : Int32))])
    refine own_by (fun t_ k_ => XS.icmpYes XT5.here hx rfl (pc0 := 111) (pc' := 122) rfl (hb hby at_111) rfl (XT.ii_le_t (by decide)) (by decide) (by decide) k_) ?_
    show own_Go p e below _ T5 (mkF m 122 #[oI i0, oI i1, oI i2, oI i3, oI i4, oI i5, oI (1 : Int32), oI (i4 &&& (15 : Int32)), oF sv, oI (i0 >>> ((7 : Int32) &&& 31)), oI (i1 >>> ((7 : Int32) &&& 31)), oI (i2 >>> ((7 : Int32) &&& 31)), oI (i3 >>> ((7 : Int32) &&& 31)), oR h0.size, oJ ((0 : Int64) + ((i0 >>> ((7 : Int32) &&& 31)).toInt64)), .second, .unset, .unset] [])
    refine own_by (fun t_ k_ => XS.iload XT5.here hx rfl (hb hby at_122) rfl  k_) ?_
    show own_Go p e below _ T5 (mkF m 124 #[oI i0, oI i1, oI i2, oI i3, oI i4, oI i5, oI (1 : Int32), oI (i4 &&& (15 : Int32)), oF sv, oI (i0 >>> ((7 : Int32) &&& 31)), oI (i1 >>> ((7 : Int32) &&& 31)), oI (i2 >>> ((7 : Int32) &&& 31)), oI (i3 >>> ((7 : Int32) &&& 31)), oR h0.size, oJ ((0 : Int64) + ((i0 >>> ((7 : Int32) &&& 31)).toInt64)), .second, .unset, .unset] [(.int (1 : Int32))])
    refine own_by (fun t_ k_ => XT.iconstV XT5.here hx rfl (2 : Int32) (hb hby at_124) (by decide) k_) ?_
    show own_Go p e below _ T5 (mkF m 125 #[oI i0, oI i1, oI i2, oI i3, oI i4, oI i5, oI (1 : Int32), oI (i4 &&& (15 : Int32)), oF sv, oI (i0 >>> ((7 : Int32) &&& 31)), oI (i1 >>> ((7 : Int32) &&& 31)), oI (i2 >>> ((7 : Int32) &&& 31)), oI (i3 >>> ((7 : Int32) &&& 31)), oR h0.size, oJ ((0 : Int64) + ((i0 >>> ((7 : Int32) &&& 31)).toInt64)), .second, .unset, .unset] [(.int (2 : Int32)), (.int (1 : Int32))])
    refine own_by (fun t_ k_ => XS.icmpYes XT5.here hx rfl (pc0 := 125) (pc' := 136) rfl (hb hby at_125) rfl (XT.ii_le_t (by decide)) (by decide) (by decide) k_) ?_
    show own_Go p e below _ T5 (mkF m 136 #[oI i0, oI i1, oI i2, oI i3, oI i4, oI i5, oI (1 : Int32), oI (i4 &&& (15 : Int32)), oF sv, oI (i0 >>> ((7 : Int32) &&& 31)), oI (i1 >>> ((7 : Int32) &&& 31)), oI (i2 >>> ((7 : Int32) &&& 31)), oI (i3 >>> ((7 : Int32) &&& 31)), oR h0.size, oJ ((0 : Int64) + ((i0 >>> ((7 : Int32) &&& 31)).toInt64)), .second, .unset, .unset] [])
    refine own_by (fun t_ k_ => XS.iload XT5.here hx rfl (hb hby at_136) rfl  k_) ?_
    show own_Go p e below _ T5 (mkF m 138 #[oI i0, oI i1, oI i2, oI i3, oI i4, oI i5, oI (1 : Int32), oI (i4 &&& (15 : Int32)), oF sv, oI (i0 >>> ((7 : Int32) &&& 31)), oI (i1 >>> ((7 : Int32) &&& 31)), oI (i2 >>> ((7 : Int32) &&& 31)), oI (i3 >>> ((7 : Int32) &&& 31)), oR h0.size, oJ ((0 : Int64) + ((i0 >>> ((7 : Int32) &&& 31)).toInt64)), .second, .unset, .unset] [(.int (1 : Int32))])
    refine own_by (fun t_ k_ => XT.iconstV XT5.here hx rfl (3 : Int32) (hb hby at_138) (by decide) k_) ?_
    show own_Go p e below _ T5 (mkF m 139 #[oI i0, oI i1, oI i2, oI i3, oI i4, oI i5, oI (1 : Int32), oI (i4 &&& (15 : Int32)), oF sv, oI (i0 >>> ((7 : Int32) &&& 31)), oI (i1 >>> ((7 : Int32) &&& 31)), oI (i2 >>> ((7 : Int32) &&& 31)), oI (i3 >>> ((7 : Int32) &&& 31)), oR h0.size, oJ ((0 : Int64) + ((i0 >>> ((7 : Int32) &&& 31)).toInt64)), .second, .unset, .unset] [(.int (3 : Int32)), (.int (1 : Int32))])
    refine own_by (fun t_ k_ => XS.icmpYes XT5.here hx rfl (pc0 := 139) (pc' := 150) rfl (hb hby at_139) rfl (XT.ii_le_t (by decide)) (by decide) (by decide) k_) ?_
    show own_Go p e below _ T5 (mkF m 150 #[oI i0, oI i1, oI i2, oI i3, oI i4, oI i5, oI (1 : Int32), oI (i4 &&& (15 : Int32)), oF sv, oI (i0 >>> ((7 : Int32) &&& 31)), oI (i1 >>> ((7 : Int32) &&& 31)), oI (i2 >>> ((7 : Int32) &&& 31)), oI (i3 >>> ((7 : Int32) &&& 31)), oR h0.size, oJ ((0 : Int64) + ((i0 >>> ((7 : Int32) &&& 31)).toInt64)), .second, .unset, .unset] [])
    refine own_by (fun t_ k_ => XT.lload XT5.here hx rfl (hb hby at_150) rfl  k_) ?_
    show own_Go p e below _ T5 (mkF m 152 #[oI i0, oI i1, oI i2, oI i3, oI i4, oI i5, oI (1 : Int32), oI (i4 &&& (15 : Int32)), oF sv, oI (i0 >>> ((7 : Int32) &&& 31)), oI (i1 >>> ((7 : Int32) &&& 31)), oI (i2 >>> ((7 : Int32) &&& 31)), oI (i3 >>> ((7 : Int32) &&& 31)), oR h0.size, oJ ((0 : Int64) + ((i0 >>> ((7 : Int32) &&& 31)).toInt64)), .second, .unset, .unset] [(.long ((0 : Int64) + ((i0 >>> ((7 : Int32) &&& 31)).toInt64)))])
    refine own_by (fun t_ k_ => XS.l2fS XT5.here hx rfl (hb hby at_152) rfl rfl k_) ?_
    show own_Go p e below _ T5 (mkF m 153 #[oI i0, oI i1, oI i2, oI i3, oI i4, oI i5, oI (1 : Int32), oI (i4 &&& (15 : Int32)), oF sv, oI (i0 >>> ((7 : Int32) &&& 31)), oI (i1 >>> ((7 : Int32) &&& 31)), oI (i2 >>> ((7 : Int32) &&& 31)), oI (i3 >>> ((7 : Int32) &&& 31)), oR h0.size, oJ ((0 : Int64) + ((i0 >>> ((7 : Int32) &&& 31)).toInt64)), .second, .unset, .unset] [(.float (FP.l2f ((0 : Int64) + ((i0 >>> ((7 : Int32) &&& 31)).toInt64))))])
    refine own_by (fun t_ k_ => XS.fload XT5.here hx rfl (hb hby at_153) rfl  k_) ?_
    show own_Go p e below _ T5 (mkF m 155 #[oI i0, oI i1, oI i2, oI i3, oI i4, oI i5, oI (1 : Int32), oI (i4 &&& (15 : Int32)), oF sv, oI (i0 >>> ((7 : Int32) &&& 31)), oI (i1 >>> ((7 : Int32) &&& 31)), oI (i2 >>> ((7 : Int32) &&& 31)), oI (i3 >>> ((7 : Int32) &&& 31)), oR h0.size, oJ ((0 : Int64) + ((i0 >>> ((7 : Int32) &&& 31)).toInt64)), .second, .unset, .unset] [(.float sv), (.float (FP.l2f ((0 : Int64) + ((i0 >>> ((7 : Int32) &&& 31)).toInt64))))])
    have B0 := own_sh7 i0
    have B1 := own_sh7 i1
    have B2 := own_sh7 i2
    have B3 := own_sh7 i3
    have htot : (((0 : Int64) + ((i0 >>> ((7 : Int32) &&& 31)).toInt64))).toInt = 0 + (i0 >>> ((7 : Int32) &&& 31)).toInt := by
      have g0 : ((0 : Int64)).toInt = 0 := by decide
      have a0 := c_ladd (0 : Int64) ((i0 >>> ((7 : Int32) &&& 31)).toInt64)
      have b0 := c_i2l (i0 >>> ((7 : Int32) &&& 31))
      have r0 := rng64 ((0 : Int64) + ((i0 >>> ((7 : Int32) &&& 31)).toInt64))
      omega
    have nn := own_exp_no (t := ((0 : Int64) + ((i0 >>> ((7 : Int32) &&& 31)).toInt64))) (by omega) hk15 Fs
    refine own_by (fun t_ k_ => XS.fdivS XT5.here hx rfl (hb hby at_155) rfl nn rfl k_) ?_
    show own_Go p e below _ T5 (mkF m 156 #[oI i0, oI i1, oI i2, oI i3, oI i4, oI i5, oI (1 : Int32), oI (i4 &&& (15 : Int32)), oF sv, oI (i0 >>> ((7 : Int32) &&& 31)), oI (i1 >>> ((7 : Int32) &&& 31)), oI (i2 >>> ((7 : Int32) &&& 31)), oI (i3 >>> ((7 : Int32) &&& 31)), oR h0.size, oJ ((0 : Int64) + ((i0 >>> ((7 : Int32) &&& 31)).toInt64)), .second, .unset, .unset] [(.float (FP.fdiv (FP.l2f ((0 : Int64) + ((i0 >>> ((7 : Int32) &&& 31)).toInt64))) sv))])
    refine own_by (fun t_ k_ => XS.fstore XT5.here hx rfl (hb hby at_156) rfl (l' := #[oI i0, oI i1, oI i2, oI i3, oI i4, oI i5, oI (1 : Int32), oI (i4 &&& (15 : Int32)), oF sv, oI (i0 >>> ((7 : Int32) &&& 31)), oI (i1 >>> ((7 : Int32) &&& 31)), oI (i2 >>> ((7 : Int32) &&& 31)), oI (i3 >>> ((7 : Int32) &&& 31)), oR h0.size, oJ ((0 : Int64) + ((i0 >>> ((7 : Int32) &&& 31)).toInt64)), .second, oF (FP.fdiv (FP.l2f ((0 : Int64) + ((i0 >>> ((7 : Int32) &&& 31)).toInt64))) sv), .unset]) rfl k_) ?_
    show own_Go p e below _ T5 (mkF m 158 #[oI i0, oI i1, oI i2, oI i3, oI i4, oI i5, oI (1 : Int32), oI (i4 &&& (15 : Int32)), oF sv, oI (i0 >>> ((7 : Int32) &&& 31)), oI (i1 >>> ((7 : Int32) &&& 31)), oI (i2 >>> ((7 : Int32) &&& 31)), oI (i3 >>> ((7 : Int32) &&& 31)), oR h0.size, oJ ((0 : Int64) + ((i0 >>> ((7 : Int32) &&& 31)).toInt64)), .second, oF (FP.fdiv (FP.l2f ((0 : Int64) + ((i0 >>> ((7 : Int32) &&& 31)).toInt64))) sv), .unset] [])
    refine own_by (fun t_ k_ => XS.aload XT5.here hx rfl (hb hby at_158) rfl rfl  k_) ?_
    show own_Go p e below _ T5 (mkF m 160 #[oI i0, oI i1, oI i2, oI i3, oI i4, oI i5, oI (1 : Int32), oI (i4 &&& (15 : Int32)), oF sv, oI (i0 >>> ((7 : Int32) &&& 31)), oI (i1 >>> ((7 : Int32) &&& 31)), oI (i2 >>> ((7 : Int32) &&& 31)), oI (i3 >>> ((7 : Int32) &&& 31)), oR h0.size, oJ ((0 : Int64) + ((i0 >>> ((7 : Int32) &&& 31)).toInt64)), .second, oF (FP.fdiv (FP.l2f ((0 : Int64) + ((i0 >>> ((7 : Int32) &&& 31)).toInt64))) sv), .unset] [(.ref h0.size)])
    refine own_by (fun t_ k_ => XS.iload XT5.here hx rfl (hb hby at_160) rfl  k_) ?_
    show own_Go p e below _ T5 (mkF m 162 #[oI i0, oI i1, oI i2, oI i3, oI i4, oI i5, oI (1 : Int32), oI (i4 &&& (15 : Int32)), oF sv, oI (i0 >>> ((7 : Int32) &&& 31)), oI (i1 >>> ((7 : Int32) &&& 31)), oI (i2 >>> ((7 : Int32) &&& 31)), oI (i3 >>> ((7 : Int32) &&& 31)), oR h0.size, oJ ((0 : Int64) + ((i0 >>> ((7 : Int32) &&& 31)).toInt64)), .second, oF (FP.fdiv (FP.l2f ((0 : Int64) + ((i0 >>> ((7 : Int32) &&& 31)).toInt64))) sv), .unset] [(.int (1 : Int32)), (.ref h0.size)])
    refine own_callS XT5 hx hZ hown (hw _ (List.mem_of_getElem? (i := 1) rfl)) (hw _ (List.mem_of_getElem? (i := 2) rfl)) (hw _ (List.mem_of_getElem? (i := 3) rfl)) (hw _ (List.mem_of_getElem? (i := 4) rfl)) (by decide) eT5 (argsL := [(.ref h0.size), (.int (1 : Int32))]) (rest := []) (own_sum1 l Z a0 hw h0.size kA k f0 f1 f2 f3 (i0 >>> ((7 : Int32) &&& 31)).toInt (i1 >>> ((7 : Int32) &&& 31)).toInt (i2 >>> ((7 : Int32) &&& 31)).toInt (i3 >>> ((7 : Int32) &&& 31)).toInt hT5 VT5 hk15 F0 F1 F2 F3 B0 B1 B2 B3) 0 (by decide) (by decide) (by rw [hml]; rfl) (lenOf pd_0 rfl) (Nat.le_of_eq rfl) (hb hby at_162) (by decide) (by decide) (st := [(.int (1 : Int32)), (.ref h0.size)]) rfl ?_
    intro T7 LT7 vT7 XT7 hQT7
    obtain ⟨⟨acc, rfl, hacc⟩, eT7, rfl⟩ := hQT7
    show own_Go p e below _ T7 (mkF m 165 #[oI i0, oI i1, oI i2, oI i3, oI i4, oI i5, oI (1 : Int32), oI (i4 &&& (15 : Int32)), oF sv, oI (i0 >>> ((7 : Int32) &&& 31)), oI (i1 >>> ((7 : Int32) &&& 31)), oI (i2 >>> ((7 : Int32) &&& 31)), oI (i3 >>> ((7 : Int32) &&& 31)), oR h0.size, oJ ((0 : Int64) + ((i0 >>> ((7 : Int32) &&& 31)).toInt64)), .second, oF (FP.fdiv (FP.l2f ((0 : Int64) + ((i0 >>> ((7 : Int32) &&& 31)).toInt64))) sv), .unset] [(.float (FP.d2f acc))])
    have hcmp := (own_m3_no1 (t := ((0 : Int64) + ((i0 >>> ((7 : Int32) &&& 31)).toInt64))) (by omega) hk15 Fs (by rw [htot]; exact hacc)).2.2
    show own_Go p e below _ T7 (mkF m 165 #[oI i0, oI i1, oI i2, oI i3, oI i4, oI i5, oI (1 : Int32), oI (i4 &&& (15 : Int32)), oF sv, oI (i0 >>> ((7 : Int32) &&& 31)), oI (i1 >>> ((7 : Int32) &&& 31)), oI (i2 >>> ((7 : Int32) &&& 31)), oI (i3 >>> ((7 : Int32) &&& 31)), oR h0.size, oJ ((0 : Int64) + ((i0 >>> ((7 : Int32) &&& 31)).toInt64)), .second, oF (FP.fdiv (FP.l2f ((0 : Int64) + ((i0 >>> ((7 : Int32) &&& 31)).toInt64))) sv), .unset] [(.float (FP.d2f acc))])
    refine own_by (fun t_ k_ => XS.fstore XT7.here hx rfl (hb hby at_165) rfl (l' := #[oI i0, oI i1, oI i2, oI i3, oI i4, oI i5, oI (1 : Int32), oI (i4 &&& (15 : Int32)), oF sv, oI (i0 >>> ((7 : Int32) &&& 31)), oI (i1 >>> ((7 : Int32) &&& 31)), oI (i2 >>> ((7 : Int32) &&& 31)), oI (i3 >>> ((7 : Int32) &&& 31)), oR h0.size, oJ ((0 : Int64) + ((i0 >>> ((7 : Int32) &&& 31)).toInt64)), .second, oF (FP.fdiv (FP.l2f ((0 : Int64) + ((i0 >>> ((7 : Int32) &&& 31)).toInt64))) sv), oF (FP.d2f acc)]) rfl k_) ?_
    show own_Go p e below _ T7 (mkF m 167 #[oI i0, oI i1, oI i2, oI i3, oI i4, oI i5, oI (1 : Int32), oI (i4 &&& (15 : Int32)), oF sv, oI (i0 >>> ((7 : Int32) &&& 31)), oI (i1 >>> ((7 : Int32) &&& 31)), oI (i2 >>> ((7 : Int32) &&& 31)), oI (i3 >>> ((7 : Int32) &&& 31)), oR h0.size, oJ ((0 : Int64) + ((i0 >>> ((7 : Int32) &&& 31)).toInt64)), .second, oF (FP.fdiv (FP.l2f ((0 : Int64) + ((i0 >>> ((7 : Int32) &&& 31)).toInt64))) sv), oF (FP.d2f acc)] [])
    refine own_by (fun t_ k_ => XS.fload XT7.here hx rfl (hb hby at_167) rfl  k_) ?_
    show own_Go p e below _ T7 (mkF m 169 #[oI i0, oI i1, oI i2, oI i3, oI i4, oI i5, oI (1 : Int32), oI (i4 &&& (15 : Int32)), oF sv, oI (i0 >>> ((7 : Int32) &&& 31)), oI (i1 >>> ((7 : Int32) &&& 31)), oI (i2 >>> ((7 : Int32) &&& 31)), oI (i3 >>> ((7 : Int32) &&& 31)), oR h0.size, oJ ((0 : Int64) + ((i0 >>> ((7 : Int32) &&& 31)).toInt64)), .second, oF (FP.fdiv (FP.l2f ((0 : Int64) + ((i0 >>> ((7 : Int32) &&& 31)).toInt64))) sv), oF (FP.d2f acc)] [(.float (FP.d2f acc))])
    refine own_by (fun t_ k_ => XS.fload XT7.here hx rfl (hb hby at_169) rfl  k_) ?_
    show own_Go p e below _ T7 (mkF m 171 #[oI i0, oI i1, oI i2, oI i3, oI i4, oI i5, oI (1 : Int32), oI (i4 &&& (15 : Int32)), oF sv, oI (i0 >>> ((7 : Int32) &&& 31)), oI (i1 >>> ((7 : Int32) &&& 31)), oI (i2 >>> ((7 : Int32) &&& 31)), oI (i3 >>> ((7 : Int32) &&& 31)), oR h0.size, oJ ((0 : Int64) + ((i0 >>> ((7 : Int32) &&& 31)).toInt64)), .second, oF (FP.fdiv (FP.l2f ((0 : Int64) + ((i0 >>> ((7 : Int32) &&& 31)).toInt64))) sv), oF (FP.d2f acc)] [(.float (FP.fdiv (FP.l2f ((0 : Int64) + ((i0 >>> ((7 : Int32) &&& 31)).toInt64))) sv)), (.float (FP.d2f acc))])
    refine own_by (fun t_ k_ => XS.fcmpS XT7.here hx rfl (hb hby at_171) rfl hcmp k_) ?_
    show own_Go p e below _ T7 (mkF m 172 #[oI i0, oI i1, oI i2, oI i3, oI i4, oI i5, oI (1 : Int32), oI (i4 &&& (15 : Int32)), oF sv, oI (i0 >>> ((7 : Int32) &&& 31)), oI (i1 >>> ((7 : Int32) &&& 31)), oI (i2 >>> ((7 : Int32) &&& 31)), oI (i3 >>> ((7 : Int32) &&& 31)), oR h0.size, oJ ((0 : Int64) + ((i0 >>> ((7 : Int32) &&& 31)).toInt64)), .second, oF (FP.fdiv (FP.l2f ((0 : Int64) + ((i0 >>> ((7 : Int32) &&& 31)).toInt64))) sv), oF (FP.d2f acc)] [(.int (0 : Int32))])
    refine own_by (fun t_ k_ => XS.ifNo XT7.here hx rfl (hb hby at_172) rfl (XT.i0_ne_f (by decide)) k_) ?_
    show own_Go p e below _ T7 (mkF m 175 #[oI i0, oI i1, oI i2, oI i3, oI i4, oI i5, oI (1 : Int32), oI (i4 &&& (15 : Int32)), oF sv, oI (i0 >>> ((7 : Int32) &&& 31)), oI (i1 >>> ((7 : Int32) &&& 31)), oI (i2 >>> ((7 : Int32) &&& 31)), oI (i3 >>> ((7 : Int32) &&& 31)), oR h0.size, oJ ((0 : Int64) + ((i0 >>> ((7 : Int32) &&& 31)).toInt64)), .second, oF (FP.fdiv (FP.l2f ((0 : Int64) + ((i0 >>> ((7 : Int32) &&& 31)).toInt64))) sv), oF (FP.d2f acc)] [])
    refine own_by (fun t_ k_ => XT.iconstV XT7.here hx rfl (1 : Int32) (hb hby at_175) (by decide) k_) ?_
    show own_Go p e below _ T7 (mkF m 176 #[oI i0, oI i1, oI i2, oI i3, oI i4, oI i5, oI (1 : Int32), oI (i4 &&& (15 : Int32)), oF sv, oI (i0 >>> ((7 : Int32) &&& 31)), oI (i1 >>> ((7 : Int32) &&& 31)), oI (i2 >>> ((7 : Int32) &&& 31)), oI (i3 >>> ((7 : Int32) &&& 31)), oR h0.size, oJ ((0 : Int64) + ((i0 >>> ((7 : Int32) &&& 31)).toInt64)), .second, oF (FP.fdiv (FP.l2f ((0 : Int64) + ((i0 >>> ((7 : Int32) &&& 31)).toInt64))) sv), oF (FP.d2f acc)] [(.int (1 : Int32))])
    refine own_by (fun t_ k_ => XS.goto XT7.here hx rfl (pc0 := 176) (pc' := 180) rfl (hb hby at_176) (by decide) (by decide) k_) ?_
    show own_Go p e below _ T7 (mkF m 180 #[oI i0, oI i1, oI i2, oI i3, oI i4, oI i5, oI (1 : Int32), oI (i4 &&& (15 : Int32)), oF sv, oI (i0 >>> ((7 : Int32) &&& 31)), oI (i1 >>> ((7 : Int32) &&& 31)), oI (i2 >>> ((7 : Int32) &&& 31)), oI (i3 >>> ((7 : Int32) &&& 31)), oR h0.size, oJ ((0 : Int64) + ((i0 >>> ((7 : Int32) &&& 31)).toInt64)), .second, oF (FP.fdiv (FP.l2f ((0 : Int64) + ((i0 >>> ((7 : Int32) &&& 31)).toInt64))) sv), oF (FP.d2f acc)] [(.int (1 : Int32))])
    exact own_retN XT7 hx hlk hret (by simp) (w := (1 : Int32)) (hb hby at_180) (by decide) (by decide) (by decide) (⟨rfl, own_app0 NT5⟩)
  · rw [hk]
    show own_Go p e below _ T5 (mkF m 95 #[oI i0, oI i1, oI i2, oI i3, oI i4, oI i5, oI (2 : Int32), oI (i4 &&& (15 : Int32)), oF sv, oI (i0 >>> ((7 : Int32) &&& 31)), oI (i1 >>> ((7 : Int32) &&& 31)), oI (i2 >>> ((7 : Int32) &&& 31)), oI (i3 >>> ((7 : Int32) &&& 31)), oR h0.size, oJ (0 : Int64), .second, .unset, .unset] [])
    refine own_by (fun t_ k_ => XS.iload XT5.here hx rfl (hb hby at_95) rfl  k_) ?_
    show own_Go p e below _ T5 (mkF m 97 #[oI i0, oI i1, oI i2, oI i3, oI i4, oI i5, oI (2 : Int32), oI (i4 &&& (15 : Int32)), oF sv, oI (i0 >>> ((7 : Int32) &&& 31)), oI (i1 >>> ((7 : Int32) &&& 31)), oI (i2 >>> ((7 : Int32) &&& 31)), oI (i3 >>> ((7 : Int32) &&& 31)), oR h0.size, oJ (0 : Int64), .second, .unset, .unset] [(.int (2 : Int32))])
    refine own_by (fun t_ k_ => XS.ifNo XT5.here hx rfl (hb hby at_97) rfl (XT.i0_le_f (by decide)) k_) ?_
    show own_Go p e below _ T5 (mkF m 100 #[oI i0, oI i1, oI i2, oI i3, oI i4, oI i5, oI (2 : Int32), oI (i4 &&& (15 : Int32)), oF sv, oI (i0 >>> ((7 : Int32) &&& 31)), oI (i1 >>> ((7 : Int32) &&& 31)), oI (i2 >>> ((7 : Int32) &&& 31)), oI (i3 >>> ((7 : Int32) &&& 31)), oR h0.size, oJ (0 : Int64), .second, .unset, .unset] [])
    refine own_by (fun t_ k_ => XT.lload XT5.here hx rfl (hb hby at_100) rfl  k_) ?_
    show own_Go p e below _ T5 (mkF m 102 #[oI i0, oI i1, oI i2, oI i3, oI i4, oI i5, oI (2 : Int32), oI (i4 &&& (15 : Int32)), oF sv, oI (i0 >>> ((7 : Int32) &&& 31)), oI (i1 >>> ((7 : Int32) &&& 31)), oI (i2 >>> ((7 : Int32) &&& 31)), oI (i3 >>> ((7 : Int32) &&& 31)), oR h0.size, oJ (0 : Int64), .second, .unset, .unset] [(.long (0 : Int64))])
    refine own_by (fun t_ k_ => XS.iload XT5.here hx rfl (hb hby at_102) rfl  k_) ?_
    show own_Go p e below _ T5 (mkF m 104 #[oI i0, oI i1, oI i2, oI i3, oI i4, oI i5, oI (2 : Int32), oI (i4 &&& (15 : Int32)), oF sv, oI (i0 >>> ((7 : Int32) &&& 31)), oI (i1 >>> ((7 : Int32) &&& 31)), oI (i2 >>> ((7 : Int32) &&& 31)), oI (i3 >>> ((7 : Int32) &&& 31)), oR h0.size, oJ (0 : Int64), .second, .unset, .unset] [(.int (i0 >>> ((7 : Int32) &&& 31))), (.long (0 : Int64))])
    refine own_by (fun t_ k_ => XT.i2l XT5.here hx rfl (hb hby at_104) rfl k_) ?_
    show own_Go p e below _ T5 (mkF m 105 #[oI i0, oI i1, oI i2, oI i3, oI i4, oI i5, oI (2 : Int32), oI (i4 &&& (15 : Int32)), oF sv, oI (i0 >>> ((7 : Int32) &&& 31)), oI (i1 >>> ((7 : Int32) &&& 31)), oI (i2 >>> ((7 : Int32) &&& 31)), oI (i3 >>> ((7 : Int32) &&& 31)), oR h0.size, oJ (0 : Int64), .second, .unset, .unset] [(.long ((i0 >>> ((7 : Int32) &&& 31)).toInt64)), (.long (0 : Int64))])
    refine own_by (fun t_ k_ => XT.ladd XT5.here hx rfl (hb hby at_105) rfl k_) ?_
    show own_Go p e below _ T5 (mkF m 106 #[oI i0, oI i1, oI i2, oI i3, oI i4, oI i5, oI (2 : Int32), oI (i4 &&& (15 : Int32)), oF sv, oI (i0 >>> ((7 : Int32) &&& 31)), oI (i1 >>> ((7 : Int32) &&& 31)), oI (i2 >>> ((7 : Int32) &&& 31)), oI (i3 >>> ((7 : Int32) &&& 31)), oR h0.size, oJ (0 : Int64), .second, .unset, .unset] [(.long ((0 : Int64) + ((i0 >>> ((7 : Int32) &&& 31)).toInt64)))])
    refine own_by (fun t_ k_ => XT.lstore XT5.here hx rfl (hb hby at_106) rfl (l' := #[oI i0, oI i1, oI i2, oI i3, oI i4, oI i5, oI (2 : Int32), oI (i4 &&& (15 : Int32)), oF sv, oI (i0 >>> ((7 : Int32) &&& 31)), oI (i1 >>> ((7 : Int32) &&& 31)), oI (i2 >>> ((7 : Int32) &&& 31)), oI (i3 >>> ((7 : Int32) &&& 31)), oR h0.size, oJ ((0 : Int64) + ((i0 >>> ((7 : Int32) &&& 31)).toInt64)), .second, .unset, .unset]) rfl k_) ?_
    show own_Go p e below _ T5 (mkF m 108 #[oI i0, oI i1, oI i2, oI i3, oI i4, oI i5, oI (2 : Int32), oI (i4 &&& (15 : Int32)), oF sv, oI (i0 >>> ((7 : Int32) &&& 31)), oI (i1 >>> ((7 : Int32) &&& 31)), oI (i2 >>> ((7 : Int32) &&& 31)), oI (i3 >>> ((7 : Int32) &&& 31)), oR h0.size, oJ ((0 : Int64) + ((i0 >>> ((7 : Int32) &&& 31)).toInt64)), .second, .unset, .unset] [])
    refine own_by (fun t_ k_ => XS.iload XT5.here hx rfl (hb hby at_108) rfl  k_) ?_
    show own_Go p e below _ T5 (mkF m 110 #[oI i0, oI i1, oI i2, oI i3, oI i4, oI i5, oI (2 : Int32), oI (i4 &&& (15 : Int32)), oF sv, oI (i0 >>> ((7 : Int32) &&& 31)), oI (i1 >>> ((7 : Int32) &&& 31)), oI (i2 >>> ((7 : Int32) &&& 31)), oI (i3 >>> ((7 : Int32) &&& 31)), oR h0.size, oJ ((0 : Int64) + ((i0 >>> ((7 : Int32) &&& 31)).toInt64)), .second, .unset, .unset] [(.int (2 : Int32))])
    refine own_by (fun t_ k_ => XT.iconstV XT5.here hx rfl (1 : Int32) (hb hby at_110) (by decide) k_) ?_
    show own_Go p e below _ T5 (mkF m 111 #[oI i0, oI i1, oI i2, oI i3, oI i4, oI i5, oI (2 : Int32), oI (i4 &&& (15 : Int32)), oF sv, oI (i0 >>> ((7 : Int32) &&& 31)), oI (i1 >>> ((7 : Int32) &&& 31)), oI (i2 >>> ((7 : Int32) &&& 31)), oI (i3 >>> ((7 : Int32) &&& 31)), oR h0.size, oJ ((0 : Int64) + ((i0 >>> ((7 : Int32) &&& 31)).toInt64)), .second, .unset, .unset] [(.int (1 : Int32)), (.int (2 : Int32))])
    refine own_by (fun t_ k_ => XS.icmpNo XT5.here hx rfl (hb hby at_111) rfl (XT.ii_le_f (by decide)) k_) ?_
    show own_Go p e below _ T5 (mkF m 114 #[oI i0, oI i1, oI i2, oI i3, oI i4, oI i5, oI (2 : Int32), oI (i4 &&& (15 : Int32)), oF sv, oI (i0 >>> ((7 : Int32) &&& 31)), oI (i1 >>> ((7 : Int32) &&& 31)), oI (i2 >>> ((7 : Int32) &&& 31)), oI (i3 >>> ((7 : Int32) &&& 31)), oR h0.size, oJ ((0 : Int64) + ((i0 >>> ((7 : Int32) &&& 31)).toInt64)), .second, .unset, .unset] [])
    refine own_by (fun t_ k_ => XT.lload XT5.here hx rfl (hb hby at_114) rfl  k_) ?_
    show own_Go p e below _ T5 (mkF m 116 #[oI i0, oI i1, oI i2, oI i3, oI i4, oI i5, oI (2 : Int32), oI (i4 &&& (15 : Int32)), oF sv, oI (i0 >>> ((7 : Int32) &&& 31)), oI (i1 >>> ((7 : Int32) &&& 31)), oI (i2 >>> ((7 : Int32) &&& 31)), oI (i3 >>> ((7 : Int32) &&& 31)), oR h0.size, oJ ((0 : Int64) + ((i0 >>> ((7 : Int32) &&& 31)).toInt64)), .second, .unset, .unset] [(.long ((0 : Int64) + ((i0 >>> ((7 : Int32) &&& 31)).toInt64)))])
    refine own_by (fun t_ k_ => XS.iload XT5.here hx rfl (hb hby at_116) rfl  k_) ?_
    show own_Go p e below _ T5 (mkF m 118 #[oI i0, oI i1, oI i2, oI i3, oI i4, oI i5, oI (2 : Int32), oI (i4 &&& (15 : Int32)), oF sv, oI (i0 >>> ((7 : Int32) &&& 31)), oI (i1 >>> ((7 : Int32) &&& 31)), oI (i2 >>> ((7 : Int32) &&& 31)), oI (i3 >>> ((7 : Int32) &&& 31)), oR h0.size, oJ ((0 : Int64) + ((i0 >>> ((7 : Int32) &&& 31)).toInt64)), .second, .unset, .unset] [(.int (i1 >>> ((7 : Int32) &&& 31))), (.long ((0 : Int64) + ((i0 >>> ((7 : Int32) &&& 31)).toInt64)))])
    refine own_by (fun t_ k_ => XT.i2l XT5.here hx rfl (hb hby at_118) rfl k_) ?_
    show own_Go p e below _ T5 (mkF m 119 #[oI i0, oI i1, oI i2, oI i3, oI i4, oI i5, oI (2 : Int32), oI (i4 &&& (15 : Int32)), oF sv, oI (i0 >>> ((7 : Int32) &&& 31)), oI (i1 >>> ((7 : Int32) &&& 31)), oI (i2 >>> ((7 : Int32) &&& 31)), oI (i3 >>> ((7 : Int32) &&& 31)), oR h0.size, oJ ((0 : Int64) + ((i0 >>> ((7 : Int32) &&& 31)).toInt64)), .second, .unset, .unset] [(.long ((i1 >>> ((7 : Int32) &&& 31)).toInt64)), (.long ((0 : Int64) + ((i0 >>> ((7 : Int32) &&& 31)).toInt64)))])
    refine own_by (fun t_ k_ => XT.ladd XT5.here hx rfl (hb hby at_119) rfl k_) ?_
    show own_Go p e below _ T5 (mkF m 120 #[oI i0, oI i1, oI i2, oI i3, oI i4, oI i5, oI (2 : Int32), oI (i4 &&& (15 : Int32)), oF sv, oI (i0 >>> ((7 : Int32) &&& 31)), oI (i1 >>> ((7 : Int32) &&& 31)), oI (i2 >>> ((7 : Int32) &&& 31)), oI (i3 >>> ((7 : Int32) &&& 31)), oR h0.size, oJ ((0 : Int64) + ((i0 >>> ((7 : Int32) &&& 31)).toInt64)), .second, .unset, .unset] [(.long (((0 : Int64) + ((i0 >>> ((7 : Int32) &&& 31)).toInt64)) + ((i1 >>> ((7 : Int32) &&& 31)).toInt64)))])
    refine own_by (fun t_ k_ => XT.lstore XT5.here hx rfl (hb hby at_120) rfl (l' := #[oI i0, oI i1, oI i2, oI i3, oI i4, oI i5, oI (2 : Int32), oI (i4 &&& (15 : Int32)), oF sv, oI (i0 >>> ((7 : Int32) &&& 31)), oI (i1 >>> ((7 : Int32) &&& 31)), oI (i2 >>> ((7 : Int32) &&& 31)), oI (i3 >>> ((7 : Int32) &&& 31)), oR h0.size, oJ (((0 : Int64) + ((i0 >>> ((7 : Int32) &&& 31)).toInt64)) + ((i1 >>> ((7 : Int32) &&& 31)).toInt64)), .second, .unset, .unset]) rfl k_) ?_
    show own_Go p e below _ T5 (mkF m 122 #[oI i0, oI i1, oI i2, oI i3, oI i4, oI i5, oI (2 : Int32), oI (i4 &&& (15 : Int32)), oF sv, oI (i0 >>> ((7 : Int32) &&& 31)), oI (i1 >>> ((7 : Int32) &&& 31)), oI (i2 >>> ((7 : Int32) &&& 31)), oI (i3 >>> ((7 : Int32) &&& 31)), oR h0.size, oJ (((0 : Int64) + ((i0 >>> ((7 : Int32) &&& 31)).toInt64)) + ((i1 >>> ((7 : Int32) &&& 31)).toInt64)), .second, .unset, .unset] [])
    refine own_by (fun t_ k_ => XS.iload XT5.here hx rfl (hb hby at_122) rfl  k_) ?_
    show own_Go p e below _ T5 (mkF m 124 #[oI i0, oI i1, oI i2, oI i3, oI i4, oI i5, oI (2 : Int32), oI (i4 &&& (15 : Int32)), oF sv, oI (i0 >>> ((7 : Int32) &&& 31)), oI (i1 >>> ((7 : Int32) &&& 31)), oI (i2 >>> ((7 : Int32) &&& 31)), oI (i3 >>> ((7 : Int32) &&& 31)), oR h0.size, oJ (((0 : Int64) + ((i0 >>> ((7 : Int32) &&& 31)).toInt64)) + ((i1 >>> ((7 : Int32) &&& 31)).toInt64)), .second, .unset, .unset] [(.int (2 : Int32))])
    refine own_by (fun t_ k_ => XT.iconstV XT5.here hx rfl (2 : Int32) (hb hby at_124) (by decide) k_) ?_
    show own_Go p e below _ T5 (mkF m 125 #[oI i0, oI i1, oI i2, oI i3, oI i4, oI i5, oI (2 : Int32), oI (i4 &&& (15 : Int32)), oF sv, oI (i0 >>> ((7 : Int32) &&& 31)), oI (i1 >>> ((7 : Int32) &&& 31)), oI (i2 >>> ((7 : Int32) &&& 31)), oI (i3 >>> ((7 : Int32) &&& 31)), oR h0.size, oJ (((0 : Int64) + ((i0 >>> ((7 : Int32) &&& 31)).toInt64)) + ((i1 >>> ((7 : Int32) &&& 31)).toInt64)), .second, .unset, .unset] [(.int (2 : Int32)), (.int (2 : Int32))])
    refine own_by (fun t_ k_ => XS.icmpYes XT5.here hx rfl (pc0 := 125) (pc' := 136) rfl (hb hby at_125) rfl (XT.ii_le_t (by decide)) (by decide) (by decide) k_) ?_
    show own_Go p e below _ T5 (mkF m 136 #[oI i0, oI i1, oI i2, oI i3, oI i4, oI i5, oI (2 : Int32), oI (i4 &&& (15 : Int32)), oF sv, oI (i0 >>> ((7 : Int32) &&& 31)), oI (i1 >>> ((7 : Int32) &&& 31)), oI (i2 >>> ((7 : Int32) &&& 31)), oI (i3 >>> ((7 : Int32) &&& 31)), oR h0.size, oJ (((0 : Int64) + ((i0 >>> ((7 : Int32) &&& 31)).toInt64)) + ((i1 >>> ((7 : Int32) &&& 31)).toInt64)), .second, .unset, .unset] [])
    refine own_by (fun t_ k_ => XS.iload XT5.here hx rfl (hb hby at_136) rfl  k_) ?_
    show own_Go p e below _ T5 (mkF m 138 #[oI i0, oI i1, oI i2, oI i3, oI i4, oI i5, oI (2 : Int32), oI (i4 &&& (15 : Int32)), oF sv, oI (i0 >>> ((7 : Int32) &&& 31)), oI (i1 >>> ((7 : Int32) &&& 31)), oI (i2 >>> ((7 : Int32) &&& 31)), oI (i3 >>> ((7 : Int32) &&& 31)), oR h0.size, oJ (((0 : Int64) + ((i0 >>> ((7 : Int32) &&& 31)).toInt64)) + ((i1 >>> ((7 : Int32) &&& 31)).toInt64)), .second, .unset, .unset] [(.int (2 : Int32))])
    refine own_by (fun t_ k_ => XT.iconstV XT5.here hx rfl (3 : Int32) (hb hby at_138) (by decide) k_) ?_
    show own_Go p e below _ T5 (mkF m 139 #[oI i0, oI i1, oI i2, oI i3, oI i4, oI i5, oI (2 : Int32), oI (i4 &&& (15 : Int32)), oF sv, oI (i0 >>> ((7 : Int32) &&& 31)), oI (i1 >>> ((7 : Int32) &&& 31)), oI (i2 >>> ((7 : Int32) &&& 31)), oI (i3 >>> ((7 : Int32) &&& 31)), oR h0.size, oJ (((0 : Int64) + ((i0 >>> ((7 : Int32) &&& 31)).toInt64)) + ((i1 >>> ((7 : Int32) &&& 31)).toInt64)), .second, .unset, .unset] [(.int (3 : Int32)), (.int (2 : Int32))])
    refine own_by (fun t_ k_ => XS.icmpYes XT5.here hx rfl (pc0 := 139) (pc' := 150) rfl (hb hby at_139) rfl (XT.ii_le_t (by decide)) (by decide) (by decide) k_) ?_
    show own_Go p e below _ T5 (mkF m 150 #[oI i0, oI i1, oI i2, oI i3, oI i4, oI i5, oI (2 : Int32), oI (i4 &&& (15 : Int32)), oF sv, oI (i0 >>> ((7 : Int32) &&& 31)), oI (i1 >>> ((7 : Int32) &&& 31)), oI (i2 >>> ((7 : Int32) &&& 31)), oI (i3 >>> ((7 : Int32) &&& 31)), oR h0.size, oJ (((0 : Int64) + ((i0 >>> ((7 : Int32) &&& 31)).toInt64)) + ((i1 >>> ((7 : Int32) &&& 31)).toInt64)), .second, .unset, .unset] [])
    refine own_by (fun t_ k_ => XT.lload XT5.here hx rfl (hb hby at_150) rfl  k_) ?_
    show own_Go p e below _ T5 (mkF m 152 #[oI i0, oI i1, oI i2, oI i3, oI i4, oI i5, oI (2 : Int32), oI (i4 &&& (15 : Int32)), oF sv, oI (i0 >>> ((7 : Int32) &&& 31)), oI (i1 >>> ((7 : Int32) &&& 31)), oI (i2 >>> ((7 : Int32) &&& 31)), oI (i3 >>> ((7 : Int32) &&& 31)), oR h0.size, oJ (((0 : Int64) + ((i0 >>> ((7 : Int32) &&& 31)).toInt64)) + ((i1 >>> ((7 : Int32) &&& 31)).toInt64)), .second, .unset, .unset] [(.long (((0 : Int64) + ((i0 >>> ((7 : Int32) &&& 31)).toInt64)) + ((i1 >>> ((7 : Int32) &&& 31)).toInt64)))])
    refine own_by (fun t_ k_ => XS.l2fS XT5.here hx rfl (hb hby at_152) rfl rfl k_) ?_
    show own_Go p e below _ T5 (mkF m 153 #[oI i0, oI i1, oI i2, oI i3, oI i4, oI i5, oI (2 : Int32), oI (i4 &&& (15 : Int32)), oF sv, oI (i0 >>> ((7 : Int32) &&& 31)), oI (i1 >>> ((7 : Int32) &&& 31)), oI (i2 >>> ((7 : Int32) &&& 31)), oI (i3 >>> ((7 : Int32) &&& 31)), oR h0.size, oJ (((0 : Int64) + ((i0 >>> ((7 : Int32) &&& 31)).toInt64)) + ((i1 >>> ((7 : Int32) &&& 31)).toInt64)), .second, .unset, .unset] [(.float (FP.l2f (((0 : Int64) + ((i0 >>> ((7 : Int32) &&& 31)).toInt64)) + ((i1 >>> ((7 : Int32) &&& 31)).toInt64))))])
    refine own_by (fun t_ k_ => XS.fload XT5.here hx rfl (hb hby at_153) rfl  k_) ?_
    show own_Go p e below _ T5 (mkF m 155 #[oI i0, oI i1, oI i2, oI i3, oI i4, oI i5, oI (2 : Int32), oI (i4 &&& (15 : Int32)), oF sv, oI (i0 >>> ((7 : Int32) &&& 31)), oI (i1 >>> ((7 : Int32) &&& 31)), oI (i2 >>> ((7 : Int32) &&& 31)), oI (i3 >>> ((7 : Int32) &&& 31)), oR h0.size, oJ (((0 : Int64) + ((i0 >>> ((7 : Int32) &&& 31)).toInt64)) + ((i1 >>> ((7 : Int32) &&& 31)).toInt64)), .second, .unset, .unset] [(.float sv), (.float (FP.l2f (((0 : Int64) + ((i0 >>> ((7 : Int32) &&& 31)).toInt64)) + ((i1 >>> ((7 : Int32) &&& 31)).toInt64))))])
    have B0 := own_sh7 i0
    have B1 := own_sh7 i1
    have B2 := own_sh7 i2
    have B3 := own_sh7 i3
    have htot : ((((0 : Int64) + ((i0 >>> ((7 : Int32) &&& 31)).toInt64)) + ((i1 >>> ((7 : Int32) &&& 31)).toInt64))).toInt = 0 + (i0 >>> ((7 : Int32) &&& 31)).toInt + (i1 >>> ((7 : Int32) &&& 31)).toInt := by
      have g0 : ((0 : Int64)).toInt = 0 := by decide
      have a0 := c_ladd (0 : Int64) ((i0 >>> ((7 : Int32) &&& 31)).toInt64)
      have b0 := c_i2l (i0 >>> ((7 : Int32) &&& 31))
      have r0 := rng64 ((0 : Int64) + ((i0 >>> ((7 : Int32) &&& 31)).toInt64))
      have a1 := c_ladd ((0 : Int64) + ((i0 >>> ((7 : Int32) &&& 31)).toInt64)) ((i1 >>> ((7 : Int32) &&& 31)).toInt64)
      have b1 := c_i2l (i1 >>> ((7 : Int32) &&& 31))
      have r1 := rng64 (((0 : Int64) + ((i0 >>> ((7 : Int32) &&& 31)).toInt64)) + ((i1 >>> ((7 : Int32) &&& 31)).toInt64))
      omega
    have nn := own_exp_no (t := (((0 : Int64) + ((i0 >>> ((7 : Int32) &&& 31)).toInt64)) + ((i1 >>> ((7 : Int32) &&& 31)).toInt64))) (by omega) hk15 Fs
    refine own_by (fun t_ k_ => XS.fdivS XT5.here hx rfl (hb hby at_155) rfl nn rfl k_) ?_
    show own_Go p e below _ T5 (mkF m 156 #[oI i0, oI i1, oI i2, oI i3, oI i4, oI i5, oI (2 : Int32), oI (i4 &&& (15 : Int32)), oF sv, oI (i0 >>> ((7 : Int32) &&& 31)), oI (i1 >>> ((7 : Int32) &&& 31)), oI (i2 >>> ((7 : Int32) &&& 31)), oI (i3 >>> ((7 : Int32) &&& 31)), oR h0.size, oJ (((0 : Int64) + ((i0 >>> ((7 : Int32) &&& 31)).toInt64)) + ((i1 >>> ((7 : Int32) &&& 31)).toInt64)), .second, .unset, .unset] [(.float (FP.fdiv (FP.l2f (((0 : Int64) + ((i0 >>> ((7 : Int32) &&& 31)).toInt64)) + ((i1 >>> ((7 : Int32) &&& 31)).toInt64))) sv))])
    refine own_by (fun t_ k_ => XS.fstore XT5.here hx rfl (hb hby at_156) rfl (l' := #[oI i0, oI i1, oI i2, oI i3, oI i4, oI i5, oI (2 : Int32), oI (i4 &&& (15 : Int32)), oF sv, oI (i0 >>> ((7 : Int32) &&& 31)), oI (i1 >>> ((7 : Int32) &&& 31)), oI (i2 >>> ((7 : Int32) &&& 31)), oI (i3 >>> ((7 : Int32) &&& 31)), oR h0.size, oJ (((0 : Int64) + ((i0 >>> ((7 : Int32) &&& 31)).toInt64)) + ((i1 >>> ((7 : Int32) &&& 31)).toInt64)), .second, oF (FP.fdiv (FP.l2f (((0 : Int64) + ((i0 >>> ((7 : Int32) &&& 31)).toInt64)) + ((i1 >>> ((7 : Int32) &&& 31)).toInt64))) sv), .unset]) rfl k_) ?_
    show own_Go p e below _ T5 (mkF m 158 #[oI i0, oI i1, oI i2, oI i3, oI i4, oI i5, oI (2 : Int32), oI (i4 &&& (15 : Int32)), oF sv, oI (i0 >>> ((7 : Int32) &&& 31)), oI (i1 >>> ((7 : Int32) &&& 31)), oI (i2 >>> ((7 : Int32) &&& 31)), oI (i3 >>> ((7 : Int32) &&& 31)), oR h0.size, oJ (((0 : Int64) + ((i0 >>> ((7 : Int32) &&& 31)).toInt64)) + ((i1 >>> ((7 : Int32) &&& 31)).toInt64)), .second, oF (FP.fdiv (FP.l2f (((0 : Int64) + ((i0 >>> ((7 : Int32) &&& 31)).toInt64)) + ((i1 >>> ((7 : Int32) &&& 31)).toInt64))) sv), .unset] [])
    refine own_by (fun t_ k_ => XS.aload XT5.here hx rfl (hb hby at_158) rfl rfl  k_) ?_
    show own_Go p e below _ T5 (mkF m 160 #[oI i0, oI i1, oI i2, oI i3, oI i4, oI i5, oI (2 : Int32), oI (i4 &&& (15 : Int32)), oF sv, oI (i0 >>> ((7 : Int32) &&& 31)), oI (i1 >>> ((7 : Int32) &&& 31)), oI (i2 >>> ((7 : Int32) &&& 31)), oI (i3 >>> ((7 : Int32) &&& 31)), oR h0.size, oJ (((0 : Int64) + ((i0 >>> ((7 : Int32) &&& 31)).toInt64)) + ((i1 >>> ((7 : Int32) &&& 31)).toInt64)), .second, oF (FP.fdiv (FP.l2f (((0 : Int64) + ((i0 >>> ((7 : Int32) &&& 31)).toInt64)) + ((i1 >>> ((7 : Int32) &&& 31)).toInt64))) sv), .unset] [(.ref h0.size)])
    refine own_by (fun t_ k_ => XS.iload XT5.here hx rfl (hb hby at_160) rfl  k_) ?_
    show own_Go p e below _ T5 (mkF m 162 #[oI i0, oI i1, oI i2, oI i3, oI i4, oI i5, oI (2 : Int32), oI (i4 &&& (15 : Int32)), oF sv, oI (i0 >>> ((7 : Int32) &&& 31)), oI (i1 >>> ((7 : Int32) &&& 31)), oI (i2 >>> ((7 : Int32) &&& 31)), oI (i3 >>> ((7 : Int32) &&& 31)), oR h0.size, oJ (((0 : Int64) + ((i0 >>> ((7 : Int32) &&& 31)).toInt64)) + ((i1 >>> ((7 : Int32) &&& 31)).toInt64)), .second, oF (FP.fdiv (FP.l2f (((0 : Int64) + ((i0 >>> ((7 : Int32) &&& 31)).toInt64)) + ((i1 >>> ((7 : Int32) &&& 31)).toInt64))) sv), .unset] [(.int (2 : Int32)), (.ref h0.size)])
    refine own_callS XT5 hx hZ hown (hw _ (List.mem_of_getElem? (i := 1) rfl)) (hw _ (List.mem_of_getElem? (i := 2) rfl)) (hw _ (List.mem_of_getElem? (i := 3) rfl)) (hw _ (List.mem_of_getElem? (i := 4) rfl)) (by decide) eT5 (argsL := [(.ref h0.size), (.int (2 : Int32))]) (rest := []) (own_sum2 l Z a0 hw h0.size kA k f0 f1 f2 f3 (i0 >>> ((7 : Int32) &&& 31)).toInt (i1 >>> ((7 : Int32) &&& 31)).toInt (i2 >>> ((7 : Int32) &&& 31)).toInt (i3 >>> ((7 : Int32) &&& 31)).toInt hT5 VT5 hk15 F0 F1 F2 F3 B0 B1 B2 B3) 0 (by decide) (by decide) (by rw [hml]; rfl) (lenOf pd_0 rfl) (Nat.le_of_eq rfl) (hb hby at_162) (by decide) (by decide) (st := [(.int (2 : Int32)), (.ref h0.size)]) rfl ?_
    intro T8 LT8 vT8 XT8 hQT8
    obtain ⟨⟨acc, rfl, hacc⟩, eT8, rfl⟩ := hQT8
    show own_Go p e below _ T8 (mkF m 165 #[oI i0, oI i1, oI i2, oI i3, oI i4, oI i5, oI (2 : Int32), oI (i4 &&& (15 : Int32)), oF sv, oI (i0 >>> ((7 : Int32) &&& 31)), oI (i1 >>> ((7 : Int32) &&& 31)), oI (i2 >>> ((7 : Int32) &&& 31)), oI (i3 >>> ((7 : Int32) &&& 31)), oR h0.size, oJ (((0 : Int64) + ((i0 >>> ((7 : Int32) &&& 31)).toInt64)) + ((i1 >>> ((7 : Int32) &&& 31)).toInt64)), .second, oF (FP.fdiv (FP.l2f (((0 : Int64) + ((i0 >>> ((7 : Int32) &&& 31)).toInt64)) + ((i1 >>> ((7 : Int32) &&& 31)).toInt64))) sv), .unset] [(.float (FP.d2f acc))])
    have hcmp := (own_m3_no1 (t := (((0 : Int64) + ((i0 >>> ((7 : Int32) &&& 31)).toInt64)) + ((i1 >>> ((7 : Int32) &&& 31)).toInt64))) (by omega) hk15 Fs (by rw [htot]; exact hacc)).2.2
    show own_Go p e below _ T8 (mkF m 165 #[oI i0, oI i1, oI i2, oI i3, oI i4, oI i5, oI (2 : Int32), oI (i4 &&& (15 : Int32)), oF sv, oI (i0 >>> ((7 : Int32) &&& 31)), oI (i1 >>> ((7 : Int32) &&& 31)), oI (i2 >>> ((7 : Int32) &&& 31)), oI (i3 >>> ((7 : Int32) &&& 31)), oR h0.size, oJ (((0 : Int64) + ((i0 >>> ((7 : Int32) &&& 31)).toInt64)) + ((i1 >>> ((7 : Int32) &&& 31)).toInt64)), .second, oF (FP.fdiv (FP.l2f (((0 : Int64) + ((i0 >>> ((7 : Int32) &&& 31)).toInt64)) + ((i1 >>> ((7 : Int32) &&& 31)).toInt64))) sv), .unset] [(.float (FP.d2f acc))])
    refine own_by (fun t_ k_ => XS.fstore XT8.here hx rfl (hb hby at_165) rfl (l' := #[oI i0, oI i1, oI i2, oI i3, oI i4, oI i5, oI (2 : Int32), oI (i4 &&& (15 : Int32)), oF sv, oI (i0 >>> ((7 : Int32) &&& 31)), oI (i1 >>> ((7 : Int32) &&& 31)), oI (i2 >>> ((7 : Int32) &&& 31)), oI (i3 >>> ((7 : Int32) &&& 31)), oR h0.size, oJ (((0 : Int64) + ((i0 >>> ((7 : Int32) &&& 31)).toInt64)) + ((i1 >>> ((7 : Int32) &&& 31)).toInt64)), .second, oF (FP.fdiv (FP.l2f (((0 : Int64) + ((i0 >>> ((7 : Int32) &&& 31)).toInt64)) + ((i1 >>> ((7 : Int32) &&& 31)).toInt64))) sv), oF (FP.d2f acc)]) rfl k_) ?_
    show own_Go p e below _ T8 (mkF m 167 #[oI i0, oI i1, oI i2, oI i3, oI i4, oI i5, oI (2 : Int32), oI (i4 &&& (15 : Int32)), oF sv, oI (i0 >>> ((7 : Int32) &&& 31)), oI (i1 >>> ((7 : Int32) &&& 31)), oI (i2 >>> ((7 : Int32) &&& 31)), oI (i3 >>> ((7 : Int32) &&& 31)), oR h0.size, oJ (((0 : Int64) + ((i0 >>> ((7 : Int32) &&& 31)).toInt64)) + ((i1 >>> ((7 : Int32) &&& 31)).toInt64)), .second, oF (FP.fdiv (FP.l2f (((0 : Int64) + ((i0 >>> ((7 : Int32) &&& 31)).toInt64)) + ((i1 >>> ((7 : Int32) &&& 31)).toInt64))) sv), oF (FP.d2f acc)] [])
    refine own_by (fun t_ k_ => XS.fload XT8.here hx rfl (hb hby at_167) rfl  k_) ?_
    show own_Go p e below _ T8 (mkF m 169 #[oI i0, oI i1, oI i2, oI i3, oI i4, oI i5, oI (2 : Int32), oI (i4 &&& (15 : Int32)), oF sv, oI (i0 >>> ((7 : Int32) &&& 31)), oI (i1 >>> ((7 : Int32) &&& 31)), oI (i2 >>> ((7 : Int32) &&& 31)), oI (i3 >>> ((7 : Int32) &&& 31)), oR h0.size, oJ (((0 : Int64) + ((i0 >>> ((7 : Int32) &&& 31)).toInt64)) + ((i1 >>> ((7 : Int32) &&& 31)).toInt64)), .second, oF (FP.fdiv (FP.l2f (((0 : Int64) + ((i0 >>> ((7 : Int32) &&& 31)).toInt64)) + ((i1 >>> ((7 : Int32) &&& 31)).toInt64))) sv), oF (FP.d2f acc)] [(.float (FP.d2f acc))])
    refine own_by (fun t_ k_ => XS.fload XT8.here hx rfl (hb hby at_169) rfl  k_) ?_
    show own_Go p e below _ T8 (mkF m 171 #[oI i0, oI i1, oI i2, oI i3, oI i4, oI i5, oI (2 : Int32), oI (i4 &&& (15 : Int32)), oF sv, oI (i0 >>> ((7 : Int32) &&& 31)), oI (i1 >>> ((7 : Int32) &&& 31)), oI (i2 >>> ((7 : Int32) &&& 31)), oI (i3 >>> ((7 : Int32) &&& 31)), oR h0.size, oJ (((0 : Int64) + ((i0 >>> ((7 : Int32) &&& 31)).toInt64)) + ((i1 >>> ((7 : Int32) &&& 31)).toInt64)), .second, oF (FP.fdiv (FP.l2f (((0 : Int64) + ((i0 >>> ((7 : Int32) &&& 31)).toInt64)) + ((i1 >>> ((7 : Int32) &&& 31)).toInt64))) sv), oF (FP.d2f acc)] [(.float (FP.fdiv (FP.l2f (((0 : Int64) + ((i0 >>> ((7 : Int32) &&& 31)).toInt64)) + ((i1 >>> ((7 : Int32) &&& 31)).toInt64))) sv)), (.float (FP.d2f acc))])
    refine own_by (fun t_ k_ => XS.fcmpS XT8.here hx rfl (hb hby at_171) rfl hcmp k_) ?_
    show own_Go p e below _ T8 (mkF m 172 #[oI i0, oI i1, oI i2, oI i3, oI i4, oI i5, oI (2 : Int32), oI (i4 &&& (15 : Int32)), oF sv, oI (i0 >>> ((7 : Int32) &&& 31)), oI (i1 >>> ((7 : Int32) &&& 31)), oI (i2 >>> ((7 : Int32) &&& 31)), oI (i3 >>> ((7 : Int32) &&& 31)), oR h0.size, oJ (((0 : Int64) + ((i0 >>> ((7 : Int32) &&& 31)).toInt64)) + ((i1 >>> ((7 : Int32) &&& 31)).toInt64)), .second, oF (FP.fdiv (FP.l2f (((0 : Int64) + ((i0 >>> ((7 : Int32) &&& 31)).toInt64)) + ((i1 >>> ((7 : Int32) &&& 31)).toInt64))) sv), oF (FP.d2f acc)] [(.int (0 : Int32))])
    refine own_by (fun t_ k_ => XS.ifNo XT8.here hx rfl (hb hby at_172) rfl (XT.i0_ne_f (by decide)) k_) ?_
    show own_Go p e below _ T8 (mkF m 175 #[oI i0, oI i1, oI i2, oI i3, oI i4, oI i5, oI (2 : Int32), oI (i4 &&& (15 : Int32)), oF sv, oI (i0 >>> ((7 : Int32) &&& 31)), oI (i1 >>> ((7 : Int32) &&& 31)), oI (i2 >>> ((7 : Int32) &&& 31)), oI (i3 >>> ((7 : Int32) &&& 31)), oR h0.size, oJ (((0 : Int64) + ((i0 >>> ((7 : Int32) &&& 31)).toInt64)) + ((i1 >>> ((7 : Int32) &&& 31)).toInt64)), .second, oF (FP.fdiv (FP.l2f (((0 : Int64) + ((i0 >>> ((7 : Int32) &&& 31)).toInt64)) + ((i1 >>> ((7 : Int32) &&& 31)).toInt64))) sv), oF (FP.d2f acc)] [])
    refine own_by (fun t_ k_ => XT.iconstV XT8.here hx rfl (1 : Int32) (hb hby at_175) (by decide) k_) ?_
    show own_Go p e below _ T8 (mkF m 176 #[oI i0, oI i1, oI i2, oI i3, oI i4, oI i5, oI (2 : Int32), oI (i4 &&& (15 : Int32)), oF sv, oI (i0 >>> ((7 : Int32) &&& 31)), oI (i1 >>> ((7 : Int32) &&& 31)), oI (i2 >>> ((7 : Int32) &&& 31)), oI (i3 >>> ((7 : Int32) &&& 31)), oR h0.size, oJ (((0 : Int64) + ((i0 >>> ((7 : Int32) &&& 31)).toInt64)) + ((i1 >>> ((7 : Int32) &&& 31)).toInt64)), .second, oF (FP.fdiv (FP.l2f (((0 : Int64) + ((i0 >>> ((7 : Int32) &&& 31)).toInt64)) + ((i1 >>> ((7 : Int32) &&& 31)).toInt64))) sv), oF (FP.d2f acc)] [(.int (1 : Int32))])
    refine own_by (fun t_ k_ => XS.goto XT8.here hx rfl (pc0 := 176) (pc' := 180) rfl (hb hby at_176) (by decide) (by decide) k_) ?_
    show own_Go p e below _ T8 (mkF m 180 #[oI i0, oI i1, oI i2, oI i3, oI i4, oI i5, oI (2 : Int32), oI (i4 &&& (15 : Int32)), oF sv, oI (i0 >>> ((7 : Int32) &&& 31)), oI (i1 >>> ((7 : Int32) &&& 31)), oI (i2 >>> ((7 : Int32) &&& 31)), oI (i3 >>> ((7 : Int32) &&& 31)), oR h0.size, oJ (((0 : Int64) + ((i0 >>> ((7 : Int32) &&& 31)).toInt64)) + ((i1 >>> ((7 : Int32) &&& 31)).toInt64)), .second, oF (FP.fdiv (FP.l2f (((0 : Int64) + ((i0 >>> ((7 : Int32) &&& 31)).toInt64)) + ((i1 >>> ((7 : Int32) &&& 31)).toInt64))) sv), oF (FP.d2f acc)] [(.int (1 : Int32))])
    exact own_retN XT8 hx hlk hret (by simp) (w := (1 : Int32)) (hb hby at_180) (by decide) (by decide) (by decide) (⟨rfl, own_app0 NT5⟩)
  · rw [hk]
    show own_Go p e below _ T5 (mkF m 95 #[oI i0, oI i1, oI i2, oI i3, oI i4, oI i5, oI (3 : Int32), oI (i4 &&& (15 : Int32)), oF sv, oI (i0 >>> ((7 : Int32) &&& 31)), oI (i1 >>> ((7 : Int32) &&& 31)), oI (i2 >>> ((7 : Int32) &&& 31)), oI (i3 >>> ((7 : Int32) &&& 31)), oR h0.size, oJ (0 : Int64), .second, .unset, .unset] [])
    refine own_by (fun t_ k_ => XS.iload XT5.here hx rfl (hb hby at_95) rfl  k_) ?_
    show own_Go p e below _ T5 (mkF m 97 #[oI i0, oI i1, oI i2, oI i3, oI i4, oI i5, oI (3 : Int32), oI (i4 &&& (15 : Int32)), oF sv, oI (i0 >>> ((7 : Int32) &&& 31)), oI (i1 >>> ((7 : Int32) &&& 31)), oI (i2 >>> ((7 : Int32) &&& 31)), oI (i3 >>> ((7 : Int32) &&& 31)), oR h0.size, oJ (0 : Int64), .second, .unset, .unset] [(.int (3 : Int32))])
    refine own_by (fun t_ k_ => XS.ifNo XT5.here hx rfl (hb hby at_97) rfl (XT.i0_le_f (by decide)) k_) ?_
    show own_Go p e below _ T5 (mkF m 100 #[oI i0, oI i1, oI i2, oI i3, oI i4, oI i5, oI (3 : Int32), oI (i4 &&& (15 : Int32)), oF sv, oI (i0 >>> ((7 : Int32) &&& 31)), oI (i1 >>> ((7 : Int32) &&& 31)), oI (i2 >>> ((7 : Int32) &&& 31)), oI (i3 >>> ((7 : Int32) &&& 31)), oR h0.size, oJ (0 : Int64), .second, .unset, .unset] [])
    refine own_by (fun t_ k_ => XT.lload XT5.here hx rfl (hb hby at_100) rfl  k_) ?_
    show own_Go p e below _ T5 (mkF m 102 #[oI i0, oI i1, oI i2, oI i3, oI i4, oI i5, oI (3 : Int32), oI (i4 &&& (15 : Int32)), oF sv, oI (i0 >>> ((7 : Int32) &&& 31)), oI (i1 >>> ((7 : Int32) &&& 31)), oI (i2 >>> ((7 : Int32) &&& 31)), oI (i3 >>> ((7 : Int32) &&& 31)), oR h0.size, oJ (0 : Int64), .second, .unset, .unset] [(.long (0 : Int64))])
    refine own_by (fun t_ k_ => XS.iload XT5.here hx rfl (hb hby at_102) rfl  k_) ?_
    show own_Go p e below _ T5 (mkF m 104 #[oI i0, oI i1, oI i2, oI i3, oI i4, oI i5, oI (3 : Int32), oI (i4 &&& (15 : Int32)), oF sv, oI (i0 >>> ((7 : Int32) &&& 31)), oI (i1 >>> ((7 : Int32) &&& 31)), oI (i2 >>> ((7 : Int32) &&& 31)), oI (i3 >>> ((7 : Int32) &&& 31)), oR h0.size, oJ (0 : Int64), .second, .unset, .unset] [(.int (i0 >>> ((7 : Int32) &&& 31))), (.long (0 : Int64))])
    refine own_by (fun t_ k_ => XT.i2l XT5.here hx rfl (hb hby at_104) rfl k_) ?_
    show own_Go p e below _ T5 (mkF m 105 #[oI i0, oI i1, oI i2, oI i3, oI i4, oI i5, oI (3 : Int32), oI (i4 &&& (15 : Int32)), oF sv, oI (i0 >>> ((7 : Int32) &&& 31)), oI (i1 >>> ((7 : Int32) &&& 31)), oI (i2 >>> ((7 : Int32) &&& 31)), oI (i3 >>> ((7 : Int32) &&& 31)), oR h0.size, oJ (0 : Int64), .second, .unset, .unset] [(.long ((i0 >>> ((7 : Int32) &&& 31)).toInt64)), (.long (0 : Int64))])
    refine own_by (fun t_ k_ => XT.ladd XT5.here hx rfl (hb hby at_105) rfl k_) ?_
    show own_Go p e below _ T5 (mkF m 106 #[oI i0, oI i1, oI i2, oI i3, oI i4, oI i5, oI (3 : Int32), oI (i4 &&& (15 : Int32)), oF sv, oI (i0 >>> ((7 : Int32) &&& 31)), oI (i1 >>> ((7 : Int32) &&& 31)), oI (i2 >>> ((7 : Int32) &&& 31)), oI (i3 >>> ((7 : Int32) &&& 31)), oR h0.size, oJ (0 : Int64), .second, .unset, .unset] [(.long ((0 : Int64) + ((i0 >>> ((7 : Int32) &&& 31)).toInt64)))])
    refine own_by (fun t_ k_ => XT.lstore XT5.here hx rfl (hb hby at_106) rfl (l' := #[oI i0, oI i1, oI i2, oI i3, oI i4, oI i5, oI (3 : Int32), oI (i4 &&& (15 : Int32)), oF sv, oI (i0 >>> ((7 : Int32) &&& 31)), oI (i1 >>> ((7 : Int32) &&& 31)), oI (i2 >>> ((7 : Int32) &&& 31)), oI (i3 >>> ((7 : Int32) &&& 31)), oR h0.size, oJ ((0 : Int64) + ((i0 >>> ((7 : Int32) &&& 31)).toInt64)), .second, .unset, .unset]) rfl k_) ?_
    show own_Go p e below _ T5 (mkF m 108 #[oI i0, oI i1, oI i2, oI i3, oI i4, oI i5, oI (3 : Int32), oI (i4 &&& (15 : Int32)), oF sv, oI (i0 >>> ((7 : Int32) &&& 31)), oI (i1 >>> ((7 : Int32) &&& 31)), oI (i2 >>> ((7 : Int32) &&& 31)), oI (i3 >>> ((7 : Int32) &&& 31)), oR h0.size, oJ ((0 : Int64) + ((i0 >>> ((7 : Int32) &&& 31)).toInt64)), .second, .unset, .unset] [])
    refine own_by (fun t_ k_ => XS.iload XT5.here hx rfl (hb hby at_108) rfl  k_) ?_
    show own_Go p e below _ T5 (mkF m 110 #[oI i0, oI i1, oI i2, oI i3, oI i4, oI i5, oI (3 : Int32), oI (i4 &&& (15 : Int32)), oF sv, oI (i0 >>> ((7 : Int32) &&& 31)), oI (i1 >>> ((7 : Int32) &&& 31)), oI (i2 >>> ((7 : Int32) &&& 31)), oI (i3 >>> ((7 : Int32) &&& 31)), oR h0.size, oJ ((0 : Int64) + ((i0 >>> ((7 : Int32) &&& 31)).toInt64)), .second, .unset, .unset] [(.int (3 : Int32))])
    refine own_by (fun t_ k_ => XT.iconstV XT5.here hx rfl (1 : Int32) (hb hby at_110) (by decide) k_) ?_
    show own_Go p e below _ T5 (mkF m 111 #[oI i0, oI i1, oI i2, oI i3, oI i4, oI i5, oI (3 : Int32), oI (i4 &&& (15 : Int32)), oF sv, oI (i0 >>> ((7 : Int32) &&& 31)), oI (i1 >>> ((7 : Int32) &&& 31)), oI (i2 >>> ((7 : Int32) &&& 31)), oI (i3 >>> ((7 : Int32) &&& 31)), oR h0.size, oJ ((0 : Int64) + ((i0 >>> ((7 : Int32) &&& 31)).toInt64)), .second, .unset, .unset] [(.int (1 : Int32)), (.int (3 : Int32))])
    refine own_by (fun t_ k_ => XS.icmpNo XT5.here hx rfl (hb hby at_111) rfl (XT.ii_le_f (by decide)) k_) ?_
    show own_Go p e below _ T5 (mkF m 114 #[oI i0, oI i1, oI i2, oI i3, oI i4, oI i5, oI (3 : Int32), oI (i4 &&& (15 : Int32)), oF sv, oI (i0 >>> ((7 : Int32) &&& 31)), oI (i1 >>> ((7 : Int32) &&& 31)), oI (i2 >>> ((7 : Int32) &&& 31)), oI (i3 >>> ((7 : Int32) &&& 31)), oR h0.size, oJ ((0 : Int64) + ((i0 >>> ((7 : Int32) &&& 31)).toInt64)), .second, .unset, .unset] [])
    refine own_by (fun t_ k_ => XT.lload XT5.here hx rfl (hb hby at_114) rfl  k_) ?_
    show own_Go p e below _ T5 (mkF m 116 #[oI i0, oI i1, oI i2, oI i3, oI i4, oI i5, oI (3 : Int32), oI (i4 &&& (15 : Int32)), oF sv, oI (i0 >>> ((7 : Int32) &&& 31)), oI (i1 >>> ((7 : Int32) &&& 31)), oI (i2 >>> ((7 : Int32) &&& 31)), oI (i3 >>> ((7 : Int32) &&& 31)), oR h0.size, oJ ((0 : Int64) + ((i0 >>> ((7 : Int32) &&& 31)).toInt64)), .second, .unset, .unset] [(.long ((0 : Int64) + ((i0 >>> ((7 : Int32) &&& 31)).toInt64)))])
    refine own_by (fun t_ k_ => XS.iload XT5.here hx rfl (hb hby at_116) rfl  k_) ?_
    show own_Go p e below _ T5 (mkF m 118 #[oI i0, oI i1, oI i2, oI i3, oI i4, oI i5, oI (3 : Int32), oI (i4 &&& (15 : Int32)), oF sv, oI (i0 >>> ((7 : Int32) &&& 31)), oI (i1 >>> ((7 : Int32) &&& 31)), oI (i2 >>> ((7 : Int32) &&& 31)), oI (i3 >>> ((7 : Int32) &&& 31)), oR h0.size, oJ ((0 : Int64) + ((i0 >>> ((7 : Int32) &&& 31)).toInt64)), .second, .unset, .unset] [(.int (i1 >>> ((7 : Int32) &&& 31))), (.long ((0 : Int64) + ((i0 >>> ((7 : Int32) &&& 31)).toInt64)))])
    refine own_by (fun t_ k_ => XT.i2l XT5.here hx rfl (hb hby at_118) rfl k_) ?_
    show own_Go p e below _ T5 (mkF m 119 #[oI i0, oI i1, oI i2, oI i3, oI i4, oI i5, oI (3 : Int32), oI (i4 &&& (15 : Int32)), oF sv, oI (i0 >>> ((7 : Int32) &&& 31)), oI (i1 >>> ((7 : Int32) &&& 31)), oI (i2 >>> ((7 : Int32) &&& 31)), oI (i3 >>> ((7 : Int32) &&& 31)), oR h0.size, oJ ((0 : Int64) + ((i0 >>> ((7 : Int32) &&& 31)).toInt64)), .second, .unset, .unset] [(.long ((i1 >>> ((7 : Int32) &&& 31)).toInt64)), (.long ((0 : Int64) + ((i0 >>> ((7 : Int32) &&& 31)).toInt64)))])
    refine own_by (fun t_ k_ => XT.ladd XT5.here hx rfl (hb hby at_119) rfl k_) ?_
    show own_Go p e below _ T5 (mkF m 120 #[oI i0, oI i1, oI i2, oI i3, oI i4, oI i5, oI (3 : Int32), oI (i4 &&& (15 : Int32)), oF sv, oI (i0 >>> ((7 : Int32) &&& 31)), oI (i1 >>> ((7 : Int32) &&& 31)), oI (i2 >>> ((7 : Int32) &&& 31)), oI (i3 >>> ((7 : Int32) &&& 31)), oR h0.size, oJ ((0 : Int64) + ((i0 >>> ((7 : Int32) &&& 31)).toInt64)), .second, .unset, .unset] [(.long (((0 : Int64) + ((i0 >>> ((7 : Int32) &&& 31)).toInt64)) + ((i1 >>> ((7 : Int32) &&& 31)).toInt64)))])
    refine own_by (fun t_ k_ => XT.lstore XT5.here hx rfl (hb hby at_120) rfl (l' := #[oI i0, oI i1, oI i2, oI i3, oI i4, oI i5, oI (3 : Int32), oI (i4 &&& (15 : Int32)), oF sv, oI (i0 >>> ((7 : Int32) &&& 31)), oI (i1 >>> ((7 : Int32) &&& 31)), oI (i2 >>> ((7 : Int32) &&& 31)), oI (i3 >>> ((7 : Int32) &&& 31)), oR h0.size, oJ (((0 : Int64) + ((i0 >>> ((7 : Int32) &&& 31)).toInt64)) + ((i1 >>> ((7 : Int32) &&& 31)).toInt64)), .second, .unset, .unset]) rfl k_) ?_
    show own_Go p e below _ T5 (mkF m 122 #[oI i0, oI i1, oI i2, oI i3, oI i4, oI i5, oI (3 : Int32), oI (i4 &&& (15 : Int32)), oF sv, oI (i0 >>> ((7 : Int32) &&& 31)), oI (i1 >>> ((7 : Int32) &&& 31)), oI (i2 >>> ((7 : Int32) &&& 31)), oI (i3 >>> ((7 : Int32) &&& 31)), oR h0.size, oJ (((0 : Int64) + ((i0 >>> ((7 : Int32) &&& 31)).toInt64)) + ((i1 >>> ((7 : Int32) &&& 31)).toInt64)), .second, .unset, .unset] [])
    refine own_by (fun t_ k_ => XS.iload XT5.here hx rfl (hb hby at_122) rfl  k_) ?_
    show own_Go p e below _ T5 (mkF m 124 #[oI i0, oI i1, oI i2, oI i3, oI i4, oI i5, oI (3 : Int32), oI (i4 &&& (15 : Int32)), oF sv, oI (i0 >>> ((7 : Int32) &&& 31)), oI (i1 >>> ((7 : Int32) &&& 31)), oI (i2 >>> ((7 : Int32) &&& 31)), oI (i3 >>> ((7 : Int32) &&& 31)), oR h0.size, oJ (((0 : Int64) + ((i0 >>> ((7 : Int32) &&& 31)).toInt64)) + ((i1 >>> ((7 : Int32) &&& 31)).toInt64)), .second, .unset, .unset] [(.int (3 : Int32))])
    refine own_by (fun t_ k_ => XT.iconstV XT5.here hx rfl (2 : Int32) (hb hby at_124) (by decide) k_) ?_
    show own_Go p e below _ T5 (mkF m 125 #[oI i0, oI i1, oI i2, oI i3, oI i4, oI i5, oI (3 : Int32), oI (i4 &&& (15 : Int32)), oF sv, oI (i0 >>> ((7 : Int32) &&& 31)), oI (i1 >>> ((7 : Int32) &&& 31)), oI (i2 >>> ((7 : Int32) &&& 31)), oI (i3 >>> ((7 : Int32) &&& 31)), oR h0.size, oJ (((0 : Int64) + ((i0 >>> ((7 : Int32) &&& 31)).toInt64)) + ((i1 >>> ((7 : Int32) &&& 31)).toInt64)), .second, .unset, .unset] [(.int (2 : Int32)), (.int (3 : Int32))])
    refine own_by (fun t_ k_ => XS.icmpNo XT5.here hx rfl (hb hby at_125) rfl (XT.ii_le_f (by decide)) k_) ?_
    show own_Go p e below _ T5 (mkF m 128 #[oI i0, oI i1, oI i2, oI i3, oI i4, oI i5, oI (3 : Int32), oI (i4 &&& (15 : Int32)), oF sv, oI (i0 >>> ((7 : Int32) &&& 31)), oI (i1 >>> ((7 : Int32) &&& 31)), oI (i2 >>> ((7 : Int32) &&& 31)), oI (i3 >>> ((7 : Int32) &&& 31)), oR h0.size, oJ (((0 : Int64) + ((i0 >>> ((7 : Int32) &&& 31)).toInt64)) + ((i1 >>> ((7 : Int32) &&& 31)).toInt64)), .second, .unset, .unset] [])
    refine own_by (fun t_ k_ => XT.lload XT5.here hx rfl (hb hby at_128) rfl  k_) ?_
    show own_Go p e below _ T5 (mkF m 130 #[oI i0, oI i1, oI i2, oI i3, oI i4, oI i5, oI (3 : Int32), oI (i4 &&& (15 : Int32)), oF sv, oI (i0 >>> ((7 : Int32) &&& 31)), oI (i1 >>> ((7 : Int32) &&& 31)), oI (i2 >>> ((7 : Int32) &&& 31)), oI (i3 >>> ((7 : Int32) &&& 31)), oR h0.size, oJ (((0 : Int64) + ((i0 >>> ((7 : Int32) &&& 31)).toInt64)) + ((i1 >>> ((7 : Int32) &&& 31)).toInt64)), .second, .unset, .unset] [(.long (((0 : Int64) + ((i0 >>> ((7 : Int32) &&& 31)).toInt64)) + ((i1 >>> ((7 : Int32) &&& 31)).toInt64)))])
    refine own_by (fun t_ k_ => XS.iload XT5.here hx rfl (hb hby at_130) rfl  k_) ?_
    show own_Go p e below _ T5 (mkF m 132 #[oI i0, oI i1, oI i2, oI i3, oI i4, oI i5, oI (3 : Int32), oI (i4 &&& (15 : Int32)), oF sv, oI (i0 >>> ((7 : Int32) &&& 31)), oI (i1 >>> ((7 : Int32) &&& 31)), oI (i2 >>> ((7 : Int32) &&& 31)), oI (i3 >>> ((7 : Int32) &&& 31)), oR h0.size, oJ (((0 : Int64) + ((i0 >>> ((7 : Int32) &&& 31)).toInt64)) + ((i1 >>> ((7 : Int32) &&& 31)).toInt64)), .second, .unset, .unset] [(.int (i2 >>> ((7 : Int32) &&& 31))), (.long (((0 : Int64) + ((i0 >>> ((7 : Int32) &&& 31)).toInt64)) + ((i1 >>> ((7 : Int32) &&& 31)).toInt64)))])
    refine own_by (fun t_ k_ => XT.i2l XT5.here hx rfl (hb hby at_132) rfl k_) ?_
    show own_Go p e below _ T5 (mkF m 133 #[oI i0, oI i1, oI i2, oI i3, oI i4, oI i5, oI (3 : Int32), oI (i4 &&& (15 : Int32)), oF sv, oI (i0 >>> ((7 : Int32) &&& 31)), oI (i1 >>> ((7 : Int32) &&& 31)), oI (i2 >>> ((7 : Int32) &&& 31)), oI (i3 >>> ((7 : Int32) &&& 31)), oR h0.size, oJ (((0 : Int64) + ((i0 >>> ((7 : Int32) &&& 31)).toInt64)) + ((i1 >>> ((7 : Int32) &&& 31)).toInt64)), .second, .unset, .unset] [(.long ((i2 >>> ((7 : Int32) &&& 31)).toInt64)), (.long (((0 : Int64) + ((i0 >>> ((7 : Int32) &&& 31)).toInt64)) + ((i1 >>> ((7 : Int32) &&& 31)).toInt64)))])
    refine own_by (fun t_ k_ => XT.ladd XT5.here hx rfl (hb hby at_133) rfl k_) ?_
    show own_Go p e below _ T5 (mkF m 134 #[oI i0, oI i1, oI i2, oI i3, oI i4, oI i5, oI (3 : Int32), oI (i4 &&& (15 : Int32)), oF sv, oI (i0 >>> ((7 : Int32) &&& 31)), oI (i1 >>> ((7 : Int32) &&& 31)), oI (i2 >>> ((7 : Int32) &&& 31)), oI (i3 >>> ((7 : Int32) &&& 31)), oR h0.size, oJ (((0 : Int64) + ((i0 >>> ((7 : Int32) &&& 31)).toInt64)) + ((i1 >>> ((7 : Int32) &&& 31)).toInt64)), .second, .unset, .unset] [(.long ((((0 : Int64) + ((i0 >>> ((7 : Int32) &&& 31)).toInt64)) + ((i1 >>> ((7 : Int32) &&& 31)).toInt64)) + ((i2 >>> ((7 : Int32) &&& 31)).toInt64)))])
    refine own_by (fun t_ k_ => XT.lstore XT5.here hx rfl (hb hby at_134) rfl (l' := #[oI i0, oI i1, oI i2, oI i3, oI i4, oI i5, oI (3 : Int32), oI (i4 &&& (15 : Int32)), oF sv, oI (i0 >>> ((7 : Int32) &&& 31)), oI (i1 >>> ((7 : Int32) &&& 31)), oI (i2 >>> ((7 : Int32) &&& 31)), oI (i3 >>> ((7 : Int32) &&& 31)), oR h0.size, oJ ((((0 : Int64) + ((i0 >>> ((7 : Int32) &&& 31)).toInt64)) + ((i1 >>> ((7 : Int32) &&& 31)).toInt64)) + ((i2 >>> ((7 : Int32) &&& 31)).toInt64)), .second, .unset, .unset]) rfl k_) ?_
    show own_Go p e below _ T5 (mkF m 136 #[oI i0, oI i1, oI i2, oI i3, oI i4, oI i5, oI (3 : Int32), oI (i4 &&& (15 : Int32)), oF sv, oI (i0 >>> ((7 : Int32) &&& 31)), oI (i1 >>> ((7 : Int32) &&& 31)), oI (i2 >>> ((7 : Int32) &&& 31)), oI (i3 >>> ((7 : Int32) &&& 31)), oR h0.size, oJ ((((0 : Int64) + ((i0 >>> ((7 : Int32) &&& 31)).toInt64)) + ((i1 >>> ((7 : Int32) &&& 31)).toInt64)) + ((i2 >>> ((7 : Int32) &&& 31)).toInt64)), .second, .unset, .unset] [])
    refine own_by (fun t_ k_ => XS.iload XT5.here hx rfl (hb hby at_136) rfl  k_) ?_
    show own_Go p e below _ T5 (mkF m 138 #[oI i0, oI i1, oI i2, oI i3, oI i4, oI i5, oI (3 : Int32), oI (i4 &&& (15 : Int32)), oF sv, oI (i0 >>> ((7 : Int32) &&& 31)), oI (i1 >>> ((7 : Int32) &&& 31)), oI (i2 >>> ((7 : Int32) &&& 31)), oI (i3 >>> ((7 : Int32) &&& 31)), oR h0.size, oJ ((((0 : Int64) + ((i0 >>> ((7 : Int32) &&& 31)).toInt64)) + ((i1 >>> ((7 : Int32) &&& 31)).toInt64)) + ((i2 >>> ((7 : Int32) &&& 31)).toInt64)), .second, .unset, .unset] [(.int (3 : Int32))])
    refine own_by (fun t_ k_ => XT.iconstV XT5.here hx rfl (3 : Int32) (hb hby at_138) (by decide) k_) ?_
    show own_Go p e below _ T5 (mkF m 139 #[oI i0, oI i1, oI i2, oI i3, oI i4, oI i5, oI (3 : Int32), oI (i4 &&& (15 : Int32)), oF sv, oI (i0 >>> ((7 : Int32) &&& 31)), oI (i1 >>> ((7 : Int32) &&& 31)), oI (i2 >>> ((7 : Int32) &&& 31)), oI (i3 >>> ((7 : Int32) &&& 31)), oR h0.size, oJ ((((0 : Int64) + ((i0 >>> ((7 : Int32) &&& 31)).toInt64)) + ((i1 >>> ((7 : Int32) &&& 31)).toInt64)) + ((i2 >>> ((7 : Int32) &&& 31)).toInt64)), .second, .unset, .unset] [(.int (3 : Int32)), (.int (3 : Int32))])
    refine own_by (fun t_ k_ => XS.icmpYes XT5.here hx rfl (pc0 := 139) (pc' := 150) rfl (hb hby at_139) rfl (XT.ii_le_t (by decide)) (by decide) (by decide) k_) ?_
    show own_Go p e below _ T5 (mkF m 150 #[oI i0, oI i1, oI i2, oI i3, oI i4, oI i5, oI (3 : Int32), oI (i4 &&& (15 : Int32)), oF sv, oI (i0 >>> ((7 : Int32) &&& 31)), oI (i1 >>> ((7 : Int32) &&& 31)), oI (i2 >>> ((7 : Int32) &&& 31)), oI (i3 >>> ((7 : Int32) &&& 31)), oR h0.size, oJ ((((0 : Int64) + ((i0 >>> ((7 : Int32) &&& 31)).toInt64)) + ((i1 >>> ((7 : Int32) &&& 31)).toInt64)) + ((i2 >>> ((7 : Int32) &&& 31)).toInt64)), .second, .unset, .unset] [])
    refine own_by (fun t_ k_ => XT.lload XT5.here hx rfl (hb hby at_150) rfl  k_) ?_
    show own_Go p e below _ T5 (mkF m 152 #[oI i0, oI i1, oI i2, oI i3, oI i4, oI i5, oI (3 : Int32), oI (i4 &&& (15 : Int32)), oF sv, oI (i0 >>> ((7 : Int32) &&& 31)), oI (i1 >>> ((7 : Int32) &&& 31)), oI (i2 >>> ((7 : Int32) &&& 31)), oI (i3 >>> ((7 : Int32) &&& 31)), oR h0.size, oJ ((((0 : Int64) + ((i0 >>> ((7 : Int32) &&& 31)).toInt64)) + ((i1 >>> ((7 : Int32) &&& 31)).toInt64)) + ((i2 >>> ((7 : Int32) &&& 31)).toInt64)), .second, .unset, .unset] [(.long ((((0 : Int64) + ((i0 >>> ((7 : Int32) &&& 31)).toInt64)) + ((i1 >>> ((7 : Int32) &&& 31)).toInt64)) + ((i2 >>> ((7 : Int32) &&& 31)).toInt64)))])
    refine own_by (fun t_ k_ => XS.l2fS XT5.here hx rfl (hb hby at_152) rfl rfl k_) ?_
    show own_Go p e below _ T5 (mkF m 153 #[oI i0, oI i1, oI i2, oI i3, oI i4, oI i5, oI (3 : Int32), oI (i4 &&& (15 : Int32)), oF sv, oI (i0 >>> ((7 : Int32) &&& 31)), oI (i1 >>> ((7 : Int32) &&& 31)), oI (i2 >>> ((7 : Int32) &&& 31)), oI (i3 >>> ((7 : Int32) &&& 31)), oR h0.size, oJ ((((0 : Int64) + ((i0 >>> ((7 : Int32) &&& 31)).toInt64)) + ((i1 >>> ((7 : Int32) &&& 31)).toInt64)) + ((i2 >>> ((7 : Int32) &&& 31)).toInt64)), .second, .unset, .unset] [(.float (FP.l2f ((((0 : Int64) + ((i0 >>> ((7 : Int32) &&& 31)).toInt64)) + ((i1 >>> ((7 : Int32) &&& 31)).toInt64)) + ((i2 >>> ((7 : Int32) &&& 31)).toInt64))))])
    refine own_by (fun t_ k_ => XS.fload XT5.here hx rfl (hb hby at_153) rfl  k_) ?_
    show own_Go p e below _ T5 (mkF m 155 #[oI i0, oI i1, oI i2, oI i3, oI i4, oI i5, oI (3 : Int32), oI (i4 &&& (15 : Int32)), oF sv, oI (i0 >>> ((7 : Int32) &&& 31)), oI (i1 >>> ((7 : Int32) &&& 31)), oI (i2 >>> ((7 : Int32) &&& 31)), oI (i3 >>> ((7 : Int32) &&& 31)), oR h0.size, oJ ((((0 : Int64) + ((i0 >>> ((7 : Int32) &&& 31)).toInt64)) + ((i1 >>> ((7 : Int32) &&& 31)).toInt64)) + ((i2 >>> ((7 : Int32) &&& 31)).toInt64)), .second, .unset, .unset] [(.float sv), (.float (FP.l2f ((((0 : Int64) + ((i0 >>> ((7 : Int32) &&& 31)).toInt64)) + ((i1 >>> ((7 : Int32) &&& 31)).toInt64)) + ((i2 >>> ((7 : Int32) &&& 31)).toInt64))))])
    have B0 := own_sh7 i0
    have B1 := own_sh7 i1
    have B2 := own_sh7 i2
    have B3 := own_sh7 i3
    have htot : (((((0 : Int64) + ((i0 >>> ((7 : Int32) &&& 31)).toInt64)) + ((i1 >>> ((7 : Int32) &&& 31)).toInt64)) + ((i2 >>> ((7 : Int32) &&& 31)).toInt64))).toInt = 0 + (i0 >>> ((7 : Int32) &&& 31)).toInt + (i1 >>> ((7 : Int32) &&& 31)).toInt + (i2 >>> ((7 : Int32) &&& 31)).toInt := by
      have g0 : ((0 : Int64)).toInt = 0 := by decide
      have a0 := c_ladd (0 : Int64) ((i0 >>> ((7 : Int32) &&& 31)).toInt64)
      have b0 := c_i2l (i0 >>> ((7 : Int32) &&& 31))
      have r0 := rng64 ((0 : Int64) + ((i0 >>> ((7 : Int32) &&& 31)).toInt64))
      have a1 := c_ladd ((0 : Int64) + ((i0 >>> ((7 : Int32) &&& 31)).toInt64)) ((i1 >>> ((7 : Int32) &&& 31)).toInt64)
      have b1 := c_i2l (i1 >>> ((7 : Int32) &&& 31))
      have r1 := rng64 (((0 : Int64) + ((i0 >>> ((7 : Int32) &&& 31)).toInt64)) + ((i1 >>> ((7 : Int32) &&& 31)).toInt64))
      have a2 := c_ladd (((0 : Int64) + ((i0 >>> ((7 : Int32) &&& 31)).toInt64)) + ((i1 >>> ((7 : Int32) &&& 31)).toInt64)) ((i2 >>> ((7 : Int32) &&& 31)).toInt64)
      have b2 := c_i2l (i2 >>> ((7 : Int32) &&& 31))
      have r2 := rng64 ((((0 : Int64) + ((i0 >>> ((7 : Int32) &&& 31)).toInt64)) + ((i1 >>> ((7 : Int32) &&& 31)).toInt64)) + ((i2 >>> ((7 : Int32) &&& 31)).toInt64))
      omega
    have nn := own_exp_no (t := ((((0 : Int64) + ((i0 >>> ((7 : Int32) &&& 31)).toInt64)) + ((i1 >>> ((7 : Int32) &&& 31)).toInt64)) + ((i2 >>> ((7 : Int32) &&& 31)).toInt64))) (by omega) hk15 Fs
    refine own_by (fun t_ k_ => XS.fdivS XT5.here hx rfl (hb hby at_155) rfl nn rfl k_) ?_
    show own_Go p e below _ T5 (mkF m 156 #[oI i0, oI i1, oI i2, oI i3, oI i4, oI i5, oI (3 : Int32), oI (i4 &&& (15 : Int32)), oF sv, oI (i0 >>> ((7 : Int32) &&& 31)), oI (i1 >>> ((7 : Int32) &&& 31)), oI (i2 >>> ((7 : Int32) &&& 31)), oI (i3 >>> ((7 : Int32) &&& 31)), oR h0.size, oJ ((((0 : Int64) + ((i0 >>> ((7 : Int32) &&& 31)).toInt64)) + ((i1 >>> ((7 : Int32) &&& 31)).toInt64)) + ((i2 >>> ((7 : Int32) &&& 31)).toInt64)), .second, .unset, .unset] [(.float (FP.fdiv (FP.l2f ((((0 : Int64) + ((i0 >>> ((7 : Int32) &&& 31)).toInt64)) + ((i1 >>> ((7 : Int32) &&& 31)).toInt64)) + ((i2 >>> ((7 : Int32) &&& 31)).toInt64))) sv))])
    refine own_by (fun t_ k_ => XS.fstore XT5.here hx rfl (hb hby at_156) rfl (l' := #[oI i0, oI i1, oI i2, oI i3, oI i4, oI i5, oI (3 : Int32), oI (i4 &&& (15 : Int32)), oF sv, oI (i0 >>> ((7 : Int32) &&& 31)), oI (i1 >>> ((7 : Int32) &&& 31)), oI (i2 >>> ((7 : Int32) &&& 31)), oI (i3 >>> ((7 : Int32) &&& 31)), oR h0.size, oJ ((((0 : Int64) + ((i0 >>> ((7 : Int32) &&& 31)).toInt64)) + ((i1 >>> ((7 : Int32) &&& 31)).toInt64)) + ((i2 >>> ((7 : Int32) &&& 31)).toInt64)), .second, oF (FP.fdiv (FP.l2f ((((0 : Int64) + ((i0 >>> ((7 : Int32) &&& 31)).toInt64)) + ((i1 >>> ((7 : Int32) &&& 31)).toInt64)) + ((i2 >>> ((7 : Int32) &&& 31)).toInt64))) sv), .unset]) rfl k_) ?_
    show own_Go p e below _ T5 (mkF m 158 #[oI i0, oI i1, oI i2, oI i3, oI i4, oI i5, oI (3 : Int32), oI (i4 &&& (15 : Int32)), oF sv, oI (i0 >>> ((7 : Int32) &&& 31)), oI (i1 >>> ((7 : Int32) &&& 31)), oI (i2 >>> ((7 : Int32) &&& 31)), oI (i3 >>> ((7 : Int32) &&& 31)), oR h0.size, oJ ((((0 : Int64) + ((i0 >>> ((7 : Int32) &&& 31)).toInt64)) + ((i1 >>> ((7 : Int32) &&& 31)).toInt64)) + ((i2 >>> ((7 : Int32) &&& 31)).toInt64)), .second, oF (FP.fdiv (FP.l2f ((((0 : Int64) + ((i0 >>> ((7 : Int32) &&& 31)).toInt64)) + ((i1 >>> ((7 : Int32) &&& 31)).toInt64)) + ((i2 >>> ((7 : Int32) &&& 31)).toInt64))) sv), .unset] [])
    refine own_by (fun t_ k_ => XS.aload XT5.here hx rfl (hb hby at_158) rfl rfl  k_) ?_
    show own_Go p e below _ T5 (mkF m 160 #[oI i0, oI i1, oI i2, oI i3, oI i4, oI i5, oI (3 : Int32), oI (i4 &&& (15 : Int32)), oF sv, oI (i0 >>> ((7 : Int32) &&& 31)), oI (i1 >>> ((7 : Int32) &&& 31)), oI (i2 >>> ((7 : Int32) &&& 31)), oI (i3 >>> ((7 : Int32) &&& 31)), oR h0.size, oJ ((((0 : Int64) + ((i0 >>> ((7 : Int32) &&& 31)).toInt64)) + ((i1 >>> ((7 : Int32) &&& 31)).toInt64)) + ((i2 >>> ((7 : Int32) &&& 31)).toInt64)), .second, oF (FP.fdiv (FP.l2f ((((0 : Int64) + ((i0 >>> ((7 : Int32) &&& 31)).toInt64)) + ((i1 >>> ((7 : Int32) &&& 31)).toInt64)) + ((i2 >>> ((7 : Int32) &&& 31)).toInt64))) sv), .unset] [(.ref h0.size)])
    refine own_by (fun t_ k_ => XS.iload XT5.here hx rfl (hb hby at_160) rfl  k_) ?_
    show own_Go p e below _ T5 (mkF m 162 #[oI i0, oI i1, oI i2, oI i3, oI i4, oI i5, oI (3 : Int32), oI (i4 &&& (15 : Int32)), oF sv, oI (i0 >>> ((7 : Int32) &&& 31)), oI (i1 >>> ((7 : Int32) &&& 31)), oI (i2 >>> ((7 : Int32) &&& 31)), oI (i3 >>> ((7 : Int32) &&& 31)), oR h0.size, oJ ((((0 : Int64) + ((i0 >>> ((7 : Int32) &&& 31)).toInt64)) + ((i1 >>> ((7 : Int32) &&& 31)).toInt64)) + ((i2 >>> ((7 : Int32) &&& 31)).toInt64)), .second, oF (FP.fdiv (FP.l2f ((((0 : Int64) + ((i0 >>> ((7 : Int32) &&& 31)).toInt64)) + ((i1 >>> ((7 : Int32) &&& 31)).toInt64)) + ((i2 >>> ((7 : Int32) &&& 31)).toInt64))) sv), .unset] [(.int (3 : Int32)), (.ref h0.size)])
    refine own_callS XT5 hx hZ hown (hw _ (List.mem_of_getElem? (i := 1) rfl)) (hw _ (List.mem_of_getElem? (i := 2) rfl)) (hw _ (List.mem_of_getElem? (i := 3) rfl)) (hw _ (List.mem_of_getElem? (i := 4) rfl)) (by decide) eT5 (argsL := [(.ref h0.size), (.int (3 : Int32))]) (rest := []) (own_sum3 l Z a0 hw h0.size kA k f0 f1 f2 f3 (i0 >>> ((7 : Int32) &&& 31)).toInt (i1 >>> ((7 : Int32) &&& 31)).toInt (i2 >>> ((7 : Int32) &&& 31)).toInt (i3 >>> ((7 : Int32) &&& 31)).toInt hT5 VT5 hk15 F0 F1 F2 F3 B0 B1 B2 B3) 0 (by decide) (by decide) (by rw [hml]; rfl) (lenOf pd_0 rfl) (Nat.le_of_eq rfl) (hb hby at_162) (by decide) (by decide) (st := [(.int (3 : Int32)), (.ref h0.size)]) rfl ?_
    intro T9 LT9 vT9 XT9 hQT9
    obtain ⟨⟨acc, rfl, hacc⟩, eT9, rfl⟩ := hQT9
    show own_Go p e below _ T9 (mkF m 165 #[oI i0, oI i1, oI i2, oI i3, oI i4, oI i5, oI (3 : Int32), oI (i4 &&& (15 : Int32)), oF sv, oI (i0 >>> ((7 : Int32) &&& 31)), oI (i1 >>> ((7 : Int32) &&& 31)), oI (i2 >>> ((7 : Int32) &&& 31)), oI (i3 >>> ((7 : Int32) &&& 31)), oR h0.size, oJ ((((0 : Int64) + ((i0 >>> ((7 : Int32) &&& 31)).toInt64)) + ((i1 >>> ((7 : Int32) &&& 31)).toInt64)) + ((i2 >>> ((7 : Int32) &&& 31)).toInt64)), .second, oF (FP.fdiv (FP.l2f ((((0 : Int64) + ((i0 >>> ((7 : Int32) &&& 31)).toInt64)) + ((i1 >>> ((7 : Int32) &&& 31)).toInt64)) + ((i2 >>> ((7 : Int32) &&& 31)).toInt64))) sv), .unset] [(.float (FP.d2f acc))])
    have hcmp := (own_m3_no1 (t := ((((0 : Int64) + ((i0 >>> ((7 : Int32) &&& 31)).toInt64)) + ((i1 >>> ((7 : Int32) &&& 31)).toInt64)) + ((i2 >>> ((7 : Int32) &&& 31)).toInt64))) (by omega) hk15 Fs (by rw [htot]; exact hacc)).2.2
    show own_Go p e below _ T9 (mkF m 165 #[oI i0, oI i1, oI i2, oI i3, oI i4, oI i5, oI (3 : Int32), oI (i4 &&& (15 : Int32)), oF sv, oI (i0 >>> ((7 : Int32) &&& 31)), oI (i1 >>> ((7 : Int32) &&& 31)), oI (i2 >>> ((7 : Int32) &&& 31)), oI (i3 >>> ((7 : Int32) &&& 31)), oR h0.size, oJ ((((0 : Int64) + ((i0 >>> ((7 : Int32) &&& 31)).toInt64)) + ((i1 >>> ((7 : Int32) &&& 31)).toInt64)) + ((i2 >>> ((7 : Int32) &&& 31)).toInt64)), .second, oF (FP.fdiv (FP.l2f ((((0 : Int64) + ((i0 >>> ((7 : Int32) &&& 31)).toInt64)) + ((i1 >>> ((7 : Int32) &&& 31)).toInt64)) + ((i2 >>> ((7 : Int32) &&& 31)).toInt64))) sv), .unset] [(.float (FP.d2f acc))])
    refine own_by (fun t_ k_ => XS.fstore XT9.here hx rfl (hb hby at_165) rfl (l' := #[oI i0, oI i1, oI i2, oI i3, oI i4, oI i5, oI (3 : Int32), oI (i4 &&& (15 : Int32)), oF sv, oI (i0 >>> ((7 : Int32) &&& 31)), oI (i1 >>> ((7 : Int32) &&& 31)), oI (i2 >>> ((7 : Int32) &&& 31)), oI (i3 >>> ((7 : Int32) &&& 31)), oR h0.size, oJ ((((0 : Int64) + ((i0 >>> ((7 : Int32) &&& 31)).toInt64)) + ((i1 >>> ((7 : Int32) &&& 31)).toInt64)) + ((i2 >>> ((7 : Int32) &&& 31)).toInt64)), .second, oF (FP.fdiv (FP.l2f ((((0 : Int64) + ((i0 >>> ((7 : Int32) &&& 31)).toInt64)) + ((i1 >>> ((7 : Int32) &&& 31)).toInt64)) + ((i2 >>> ((7 : Int32) &&& 31)).toInt64))) sv), oF (FP.d2f acc)]) rfl k_) ?_
    show own_Go p e below _ T9 (mkF m 167 #[oI i0, oI i1, oI i2, oI i3, oI i4, oI i5, oI (3 : Int32), oI (i4 &&& (15 : Int32)), oF sv, oI (i0 >>> ((7 : Int32) &&& 31)), oI (i1 >>> ((7 : Int32) &&& 31)), oI (i2 >>> ((7 : Int32) &&& 31)), oI (i3 >>> ((7 : Int32) &&& 31)), oR h0.size, oJ ((((0 : Int64) + ((i0 >>> ((7 : Int32) &&& 31)).toInt64)) + ((i1 >>> ((7 : Int32) &&& 31)).toInt64)) + ((i2 >>> ((7 : Int32) &&& 31)).toInt64)), .second, oF (FP.fdiv (FP.l2f ((((0 : Int64) + ((i0 >>> ((7 : Int32) &&& 31)).toInt64)) + ((i1 >>> ((7 : Int32) &&& 31)).toInt64)) + ((i2 >>> ((7 : Int32) &&& 31)).toInt64))) sv), oF (FP.d2f acc)] [])
    refine own_by (fun t_ k_ => XS.fload XT9.here hx rfl (hb hby at_167) rfl  k_) ?_
    show own_Go p e below _ T9 (mkF m 169 #[oI i0, oI i1, oI i2, oI i3, oI i4, oI i5, oI (3 : Int32), oI (i4 &&& (15 : Int32)), oF sv, oI (i0 >>> ((7 : Int32) &&& 31)), oI (i1 >>> ((7 : Int32) &&& 31)), oI (i2 >>> ((7 : Int32) &&& 31)), oI (i3 >>> ((7 : Int32) &&& 31)), oR h0.size, oJ ((((0 : Int64) + ((i0 >>> ((7 : Int32) &&& 31)).toInt64)) + ((i1 >>> ((7 : Int32) &&& 31)).toInt64)) + ((i2 >>> ((7 : Int32) &&& 31)).toInt64)), .second, oF (FP.fdiv (FP.l2f ((((0 : Int64) + ((i0 >>> ((7 : Int32) &&& 31)).toInt64)) + ((i1 >>> ((7 : Int32) &&& 31)).toInt64)) + ((i2 >>> ((7 : Int32) &&& 31)).toInt64))) sv), oF (FP.d2f acc)] [(.float (FP.d2f acc))])
    refine own_by (fun t_ k_ => XS.fload XT9.here hx rfl (hb hby at_169) rfl  k_) ?_
    show own_Go p e below _ T9 (mkF m 171 #[oI i0, oI i1, oI i2, oI i3, oI i4, oI i5, oI (3 : Int32), oI (i4 &&& (15 : Int32)), oF sv, oI (i0 >>> ((7 : Int32) &&& 31)), oI (i1 >>> ((7 : Int32) &&& 31)), oI (i2 >>> ((7 : Int32) &&& 31)), oI (i3 >>> ((7 : Int32) &&& 31)), oR h0.size, oJ ((((0 : Int64) + ((i0 >>> ((7 : Int32) &&& 31)).toInt64)) + ((i1 >>> ((7 : Int32) &&& 31)).toInt64)) + ((i2 >>> ((7 : Int32) &&& 31)).toInt64)), .second, oF (FP.fdiv (FP.l2f ((((0 : Int64) + ((i0 >>> ((7 : Int32) &&& 31)).toInt64)) + ((i1 >>> ((7 : Int32) &&& 31)).toInt64)) + ((i2 >>> ((7 : Int32) &&& 31)).toInt64))) sv), oF (FP.d2f acc)] [(.float (FP.fdiv (FP.l2f ((((0 : Int64) + ((i0 >>> ((7 : Int32) &&& 31)).toInt64)) + ((i1 >>> ((7 : Int32) &&& 31)).toInt64)) + ((i2 >>> ((7 : Int32) &&& 31)).toInt64))) sv)), (.float (FP.d2f acc))])
    refine own_by (fun t_ k_ => XS.fcmpS XT9.here hx rfl (hb hby at_171) rfl hcmp k_) ?_
    show own_Go p e below _ T9 (mkF m 172 #[oI i0, oI i1, oI i2, oI i3, oI i4, oI i5, oI (3 : Int32), oI (i4 &&& (15 : Int32)), oF sv, oI (i0 >>> ((7 : Int32) &&& 31)), oI (i1 >>> ((7 : Int32) &&& 31)), oI (i2 >>> ((7 : Int32) &&& 31)), oI (i3 >>> ((7 : Int32) &&& 31)), oR h0.size, oJ ((((0 : Int64) + ((i0 >>> ((7 : Int32) &&& 31)).toInt64)) + ((i1 >>> ((7 : Int32) &&& 31)).toInt64)) + ((i2 >>> ((7 : Int32) &&& 31)).toInt64)), .second, oF (FP.fdiv (FP.l2f ((((0 : Int64) + ((i0 >>> ((7 : Int32) &&& 31)).toInt64)) + ((i1 >>> ((7 : Int32) &&& 31)).toInt64)) + ((i2 >>> ((7 : Int32) &&& 31)).toInt64))) sv), oF (FP.d2f acc)] [(.int (0 : Int32))])
    refine own_by (fun t_ k_ => XS.ifNo XT9.here hx rfl (hb hby at_172) rfl (XT.i0_ne_f (by decide)) k_) ?_
    show own_Go p e below _ T9 (mkF m 175 #[oI i0, oI i1, oI i2, oI i3, oI i4, oI i5, oI (3 : Int32), oI (i4 &&& (15 : Int32)), oF sv, oI (i0 >>> ((7 : Int32) &&& 31)), oI (i1 >>> ((7 : Int32) &&& 31)), oI (i2 >>> ((7 : Int32) &&& 31)), oI (i3 >>> ((7 : Int32) &&& 31)), oR h0.size, oJ ((((0 : Int64) + ((i0 >>> ((7 : Int32) &&& 31)).toInt64)) + ((i1 >>> ((7 : Int32) &&& 31)).toInt64)) + ((i2 >>> ((7 : Int32) &&& 31)).toInt64)), .second, oF (FP.fdiv (FP.l2f ((((0 : Int64) + ((i0 >>> ((7 : Int32) &&& 31)).toInt64)) + ((i1 >>> ((7 : Int32) &&& 31)).toInt64)) + ((i2 >>> ((7 : Int32) &&& 31)).toInt64))) sv), oF (FP.d2f acc)] [])
    refine own_by (fun t_ k_ => XT.iconstV XT9.here hx rfl (1 : Int32) (hb hby at_175) (by decide) k_) ?_
    show own_Go p e below _ T9 (mkF m 176 #[oI i0, oI i1, oI i2, oI i3, oI i4, oI i5, oI (3 : Int32), oI (i4 &&& (15 : Int32)), oF sv, oI (i0 >>> ((7 : Int32) &&& 31)), oI (i1 >>> ((7 : Int32) &&& 31)), oI (i2 >>> ((7 : Int32) &&& 31)), oI (i3 >>> ((7 : Int32) &&& 31)), oR h0.size, oJ ((((0 : Int64) + ((i0 >>> ((7 : Int32) &&& 31)).toInt64)) + ((i1 >>> ((7 : Int32) &&& 31)).toInt64)) + ((i2 >>> ((7 : Int32) &&& 31)).toInt64)), .second, oF (FP.fdiv (FP.l2f ((((0 : Int64) + ((i0 >>> ((7 : Int32) &&& 31)).toInt64)) + ((i1 >>> ((7 : Int32) &&& 31)).toInt64)) + ((i2 >>> ((7 : Int32) &&& 31)).toInt64))) sv), oF (FP.d2f acc)] [(.int (1 : Int32))])
    refine own_by (fun t_ k_ => XS.goto XT9.here hx rfl (pc0 := 176) (pc' := 180) rfl (hb hby at_176) (by decide) (by decide) k_) ?_
    show own_Go p e below _ T9 (mkF m 180 #[oI i0, oI i1, oI i2, oI i3, oI i4, oI i5, oI (3 : Int32), oI (i4 &&& (15 : Int32)), oF sv, oI (i0 >>> ((7 : Int32) &&& 31)), oI (i1 >>> ((7 : Int32) &&& 31)), oI (i2 >>> ((7 : Int32) &&& 31)), oI (i3 >>> ((7 : Int32) &&& 31)), oR h0.size, oJ ((((0 : Int64) + ((i0 >>> ((7 : Int32) &&& 31)).toInt64)) + ((i1 >>> ((7 : Int32) &&& 31)).toInt64)) + ((i2 >>> ((7 : Int32) &&& 31)).toInt64)), .second, oF (FP.fdiv (FP.l2f ((((0 : Int64) + ((i0 >>> ((7 : Int32) &&& 31)).toInt64)) + ((i1 >>> ((7 : Int32) &&& 31)).toInt64)) + ((i2 >>> ((7 : Int32) &&& 31)).toInt64))) sv), oF (FP.d2f acc)] [(.int (1 : Int32))])
    exact own_retN XT9 hx hlk hret (by simp) (w := (1 : Int32)) (hb hby at_180) (by decide) (by decide) (by decide) (⟨rfl, own_app0 NT5⟩)
  · rw [hk]
    show own_Go p e below _ T5 (mkF m 95 #[oI i0, oI i1, oI i2, oI i3, oI i4, oI i5, oI (4 : Int32), oI (i4 &&& (15 : Int32)), oF sv, oI (i0 >>> ((7 : Int32) &&& 31)), oI (i1 >>> ((7 : Int32) &&& 31)), oI (i2 >>> ((7 : Int32) &&& 31)), oI (i3 >>> ((7 : Int32) &&& 31)), oR h0.size, oJ (0 : Int64), .second, .unset, .unset] [])
    refine own_by (fun t_ k_ => XS.iload XT5.here hx rfl (hb hby at_95) rfl  k_) ?_
    show own_Go p e below _ T5 (mkF m 97 #[oI i0, oI i1, oI i2, oI i3, oI i4, oI i5, oI (4 : Int32), oI (i4 &&& (15 : Int32)), oF sv, oI (i0 >>> ((7 : Int32) &&& 31)), oI (i1 >>> ((7 : Int32) &&& 31)), oI (i2 >>> ((7 : Int32) &&& 31)), oI (i3 >>> ((7 : Int32) &&& 31)), oR h0.size, oJ (0 : Int64), .second, .unset, .unset] [(.int (4 : Int32))])
    refine own_by (fun t_ k_ => XS.ifNo XT5.here hx rfl (hb hby at_97) rfl (XT.i0_le_f (by decide)) k_) ?_
    show own_Go p e below _ T5 (mkF m 100 #[oI i0, oI i1, oI i2, oI i3, oI i4, oI i5, oI (4 : Int32), oI (i4 &&& (15 : Int32)), oF sv, oI (i0 >>> ((7 : Int32) &&& 31)), oI (i1 >>> ((7 : Int32) &&& 31)), oI (i2 >>> ((7 : Int32) &&& 31)), oI (i3 >>> ((7 : Int32) &&& 31)), oR h0.size, oJ (0 : Int64), .second, .unset, .unset] [])
    refine own_by (fun t_ k_ => XT.lload XT5.here hx rfl (hb hby at_100) rfl  k_) ?_
    show own_Go p e below _ T5 (mkF m 102 #[oI i0, oI i1, oI i2, oI i3, oI i4, oI i5, oI (4 : Int32), oI (i4 &&& (15 : Int32)), oF sv, oI (i0 >>> ((7 : Int32) &&& 31)), oI (i1 >>> ((7 : Int32) &&& 31)), oI (i2 >>> ((7 : Int32) &&& 31)), oI (i3 >>> ((7 : Int32) &&& 31)), oR h0.size, oJ (0 : Int64), .second, .unset, .unset] [(.long (0 : Int64))])
    refine own_by (fun t_ k_ => XS.iload XT5.here hx rfl (hb hby at_102) rfl  k_) ?_
    show own_Go p e below _ T5 (mkF m 104 #[oI i0, oI i1, oI i2, oI i3, oI i4, oI i5, oI (4 : Int32), oI (i4 &&& (15 : Int32)), oF sv, oI (i0 >>> ((7 : Int32) &&& 31)), oI (i1 >>> ((7 : Int32) &&& 31)), oI (i2 >>> ((7 : Int32) &&& 31)), oI (i3 >>> ((7 : Int32) &&& 31)), oR h0.size, oJ (0 : Int64), .second, .unset, .unset] [(.int (i0 >>> ((7 : Int32) &&& 31))), (.long (0 : Int64))])
    refine own_by (fun t_ k_ => XT.i2l XT5.here hx rfl (hb hby at_104) rfl k_) ?_
    show own_Go p e below _ T5 (mkF m 105 #[oI i0, oI i1, oI i2, oI i3, oI i4, oI i5, oI (4 : Int32), oI (i4 &&& (15 : Int32)), oF sv, oI (i0 >>> ((7 : Int32) &&& 31)), oI (i1 >>> ((7 : Int32) &&& 31)), oI (i2 >>> ((7 : Int32) &&& 31)), oI (i3 >>> ((7 : Int32) &&& 31)), oR h0.size, oJ (0 : Int64), .second, .unset, .unset] [(.long ((i0 >>> ((7 : Int32) &&& 31)).toInt64)), (.long (0 : Int64))])
    refine own_by (fun t_ k_ => XT.ladd XT5.here hx rfl (hb hby at_105) rfl k_) ?_
    show own_Go p e below _ T5 (mkF m 106 #[oI i0, oI i1, oI i2, oI i3, oI i4, oI i5, oI (4 : Int32), oI (i4 &&& (15 : Int32)), oF sv, oI (i0 >>> ((7 : Int32) &&& 31)), oI (i1 >>> ((7 : Int32) &&& 31)), oI (i2 >>> ((7 : Int32) &&& 31)), oI (i3 >>> ((7 : Int32) &&& 31)), oR h0.size, oJ (0 : Int64), .second, .unset, .unset] [(.long ((0 : Int64) + ((i0 >>> ((7 : Int32) &&& 31)).toInt64)))])
    refine own_by (fun t_ k_ => XT.lstore XT5.here hx rfl (hb hby at_106) rfl (l' := #[oI i0, oI i1, oI i2, oI i3, oI i4, oI i5, oI (4 : Int32), oI (i4 &&& (15 : Int32)), oF sv, oI (i0 >>> ((7 : Int32) &&& 31)), oI (i1 >>> ((7 : Int32) &&& 31)), oI (i2 >>> ((7 : Int32) &&& 31)), oI (i3 >>> ((7 : Int32) &&& 31)), oR h0.size, oJ ((0 : Int64) + ((i0 >>> ((7 : Int32) &&& 31)).toInt64)), .second, .unset, .unset]) rfl k_) ?_
    show own_Go p e below _ T5 (mkF m 108 #[oI i0, oI i1, oI i2, oI i3, oI i4, oI i5, oI (4 : Int32), oI (i4 &&& (15 : Int32)), oF sv, oI (i0 >>> ((7 : Int32) &&& 31)), oI (i1 >>> ((7 : Int32) &&& 31)), oI (i2 >>> ((7 : Int32) &&& 31)), oI (i3 >>> ((7 : Int32) &&& 31)), oR h0.size, oJ ((0 : Int64) + ((i0 >>> ((7 : Int32) &&& 31)).toInt64)), .second, .unset, .unset] [])
    refine own_by (fun t_ k_ => XS.iload XT5.here hx rfl (hb hby at_108) rfl  k_) ?_
    show own_Go p e below _ T5 (mkF m 110 #[oI i0, oI i1, oI i2, oI i3, oI i4, oI i5, oI (4 : Int32), oI (i4 &&& (15 : Int32)), oF sv, oI (i0 >>> ((7 : Int32) &&& 31)), oI (i1 >>> ((7 : Int32) &&& 31)), oI (i2 >>> ((7 : Int32) &&& 31)), oI (i3 >>> ((7 : Int32) &&& 31)), oR h0.size, oJ ((0 : Int64) + ((i0 >>> ((7 : Int32) &&& 31)).toInt64)), .second, .unset, .unset] [(.int (4 : Int32))])
    refine own_by (fun t_ k_ => XT.iconstV XT5.here hx rfl (1 : Int32) (hb hby at_110) (by decide) k_) ?_
    show own_Go p e below _ T5 (mkF m 111 #[oI i0, oI i1, oI i2, oI i3, oI i4, oI i5, oI (4 : Int32), oI (i4 &&& (15 : Int32)), oF sv, oI (i0 >>> ((7 : Int32) &&& 31)), oI (i1 >>> ((7 : Int32) &&& 31)), oI (i2 >>> ((7 : Int32) &&& 31)), oI (i3 >>> ((7 : Int32) &&& 31)), oR h0.size, oJ ((0 : Int64) + ((i0 >>> ((7 : Int32) &&& 31)).toInt64)), .second, .unset, .unset] [(.int (1 : Int32)), (.int (4 : Int32))])
    refine own_by (fun t_ k_ => XS.icmpNo XT5.here hx rfl (hb hby at_111) rfl (XT.ii_le_f (by decide)) k_) ?_
    show own_Go p e below _ T5 (mkF m 114 #[oI i0, oI i1, oI i2, oI i3, oI i4, oI i5, oI (4 : Int32), oI (i4 &&& (15 : Int32)), oF sv, oI (i0 >>> ((7 : Int32) &&& 31)), oI (i1 >>> ((7 : Int32) &&& 31)), oI (i2 >>> ((7 : Int32) &&& 31)), oI (i3 >>> ((7 : Int32) &&& 31)), oR h0.size, oJ ((0 : Int64) + ((i0 >>> ((7 : Int32) &&& 31)).toInt64)), .second, .unset, .unset] [])
    refine own_by (fun t_ k_ => XT.lload XT5.here hx rfl (hb hby at_114) rfl  k_) ?_
    show own_Go p e below _ T5 (mkF m 116 #[oI i0, oI i1, oI i2, oI i3, oI i4, oI i5, oI (4 : Int32), oI (i4 &&& (15 : Int32)), oF sv, oI (i0 >>> ((7 : Int32) &&& 31)), oI (i1 >>> ((7 : Int32) &&& 31)), oI (i2 >>> ((7 : Int32) &&& 31)), oI (i3 >>> ((7 : Int32) &&& 31)), oR h0.size, oJ ((0 : Int64) + ((i0 >>> ((7 : Int32) &&& 31)).toInt64)), .second, .unset, .unset] [(.long ((0 : Int64) + ((i0 >>> ((7 : Int32) &&& 31)).toInt64)))])
    refine own_by (fun t_ k_ => XS.iload XT5.here hx rfl (hb hby at_116) rfl  k_) ?_
    show own_Go p e below _ T5 (mkF m 118 #[oI i0, oI i1, oI i2, oI i3, oI i4, oI i5, oI (4 : Int32), oI (i4 &&& (15 : Int32)), oF sv, oI (i0 >>> ((7 : Int32) &&& 31)), oI (i1 >>> ((7 : Int32) &&& 31)), oI (i2 >>> ((7 : Int32) &&& 31)), oI (i3 >>> ((7 : Int32) &&& 31)), oR h0.size, oJ ((0 : Int64) + ((i0 >>> ((7 : Int32) &&& 31)).toInt64)), .second, .unset, .unset] [(.int (i1 >>> ((7 : Int32) &&& 31))), (.long ((0 : Int64) + ((i0 >>> ((7 : Int32) &&& 31)).toInt64)))])
    refine own_by (fun t_ k_ => XT.i2l XT5.here hx rfl (hb hby at_118) rfl k_) ?_
    show own_Go p e below _ T5 (mkF m 119 #[oI i0, oI i1, oI i2, oI i3, oI i4, oI i5, oI (4 : Int32), oI (i4 &&& (15 : Int32)), oF sv, oI (i0 >>> ((7 : Int32) &&& 31)), oI (i1 >>> ((7 : Int32) &&& 31)), oI (i2 >>> ((7 : Int32) &&& 31)), oI (i3 >>> ((7 : Int32) &&& 31)), oR h0.size, oJ ((0 : Int64) + ((i0 >>> ((7 : Int32) &&& 31)).toInt64)), .second, .unset, .unset] [(.long ((i1 >>> ((7 : Int32) &&& 31)).toInt64)), (.long ((0 : Int64) + ((i0 >>> ((7 : Int32) &&& 31)).toInt64)))])
    refine own_by (fun t_ k_ => XT.ladd XT5.here hx rfl (hb hby at_119) rfl k_) ?_
    show own_Go p e below _ T5 (mkF m 120 #[oI i0, oI i1, oI i2, oI i3, oI i4, oI i5, oI (4 : Int32), oI (i4 &&& (15 : Int32)), oF sv, oI (i0 >>> ((7 : Int32) &&& 31)), oI (i1 >>> ((7 : Int32) &&& 31)), oI (i2 >>> ((7 : Int32) &&& 31)), oI (i3 >>> ((7 : Int32) &&& 31)), oR h0.size, oJ ((0 : Int64) + ((i0 >>> ((7 : Int32) &&& 31)).toInt64)), .second, .unset, .unset] [(.long (((0 : Int64) + ((i0 >>> ((7 : Int32) &&& 31)).toInt64)) + ((i1 >>> ((7 : Int32) &&& 31)).toInt64)))])
    refine own_by (fun t_ k_ => XT.lstore XT5.here hx rfl (hb hby at_120) rfl (l' := #[oI i0, oI i1, oI i2, oI i3, oI i4, oI i5, oI (4 : Int32), oI (i4 &&& (15 : Int32)), oF sv, oI (i0 >>> ((7 : Int32) &&& 31)), oI (i1 >>> ((7 : Int32) &&& 31)), oI (i2 >>> ((7 : Int32) &&& 31)), oI (i3 >>> ((7 : Int32) &&& 31)), oR h0.size, oJ (((0 : Int64) + ((i0 >>> ((7 : Int32) &&& 31)).toInt64)) + ((i1 >>> ((7 : Int32) &&& 31)).toInt64)), .second, .unset, .unset]) rfl k_) ?_
    show own_Go p e below _ T5 (mkF m 122 #[oI i0, oI i1, oI i2, oI i3, oI i4, oI i5, oI (4 : Int32), oI (i4 &&& (15 : Int32)), oF sv, oI (i0 >>> ((7 : Int32) &&& 31)), oI (i1 >>> ((7 : Int32) &&& 31)), oI (i2 >>> ((7 : Int32) &&& 31)), oI (i3 >>> ((7 : Int32) &&& 31)), oR h0.size, oJ (((0 : Int64) + ((i0 >>> ((7 : Int32) &&& 31)).toInt64)) + ((i1 >>> ((7 : Int32) &&& 31)).toInt64)), .second, .unset, .unset] [])
    refine own_by (fun t_ k_ => XS.iload XT5.here hx rfl (hb hby at_122) rfl  k_) ?_
    show own_Go p e below _ T5 (mkF m 124 #[oI i0, oI i1, oI i2, oI i3, oI i4, oI i5, oI (4 : Int32), oI (i4 &&& (15 : Int32)), oF sv, oI (i0 >>> ((7 : Int32) &&& 31)), oI (i1 >>> ((7 : Int32) &&& 31)), oI (i2 >>> ((7 : Int32) &&& 31)), oI (i3 >>> ((7 : Int32) &&& 31)), oR h0.size, oJ (((0 : Int64) + ((i0 >>> ((7 : Int32) &&& 31)).toInt64)) + ((i1 >>> ((7 : Int32) &&& 31)).toInt64)), .second, .unset, .unset] [(.int (4 : Int32))])
    refine own_by (fun t_ k_ => XT.iconstV XT5.here hx rfl (2 : Int32) (hb hby at_124) (by decide) k_) ?_
    show own_Go p e below _ T5 (mkF m 125 #[oI i0, oI i1, oI i2, oI i3, oI i4, oI i5, oI (4 : Int32), oI (i4 &&& (15 : Int32)), oF sv, oI (i0 >>> ((7 : Int32) &&& 31)), oI (i1 >>> ((7 : Int32) &&& 31)), oI (i2 >>> ((7 : Int32) &&& 31)), oI (i3 >>> ((7 : Int32) &&& 31)), oR h0.size, oJ (((0 : Int64) + ((i0 >>> ((7 : Int32) &&& 31)).toInt64)) + ((i1 >>> ((7 : Int32) &&& 31)).toInt64)), .second, .unset, .unset] [(.int (2 : Int32)), (.int (4 : Int32))])
    refine own_by (fun t_ k_ => XS.icmpNo XT5.here hx rfl (hb hby at_125) rfl (XT.ii_le_f (by decide)) k_) ?_
    show own_Go p e below _ T5 (mkF m 128 #[oI i0, oI i1, oI i2, oI i3, oI i4, oI i5, oI (4 : Int32), oI (i4 &&& (15 : Int32)), oF sv, oI (i0 >>> ((7 : Int32) &&& 31)), oI (i1 >>> ((7 : Int32) &&& 31)), oI (i2 >>> ((7 : Int32) &&& 31)), oI (i3 >>> ((7 : Int32) &&& 31)), oR h0.size, oJ (((0 : Int64) + ((i0 >>> ((7 : Int32) &&& 31)).toInt64)) + ((i1 >>> ((7 : Int32) &&& 31)).toInt64)), .second, .unset, .unset] [])
    refine own_by (fun t_ k_ => XT.lload XT5.here hx rfl (hb hby at_128) rfl  k_) ?_
    show own_Go p e below _ T5 (mkF m 130 #[oI i0, oI i1, oI i2, oI i3, oI i4, oI i5, oI (4 : Int32), oI (i4 &&& (15 : Int32)), oF sv, oI (i0 >>> ((7 : Int32) &&& 31)), oI (i1 >>> ((7 : Int32) &&& 31)), oI (i2 >>> ((7 : Int32) &&& 31)), oI (i3 >>> ((7 : Int32) &&& 31)), oR h0.size, oJ (((0 : Int64) + ((i0 >>> ((7 : Int32) &&& 31)).toInt64)) + ((i1 >>> ((7 : Int32) &&& 31)).toInt64)), .second, .unset, .unset] [(.long (((0 : Int64) + ((i0 >>> ((7 : Int32) &&& 31)).toInt64)) + ((i1 >>> ((7 : Int32) &&& 31)).toInt64)))])
    refine own_by (fun t_ k_ => XS.iload XT5.here hx rfl (hb hby at_130) rfl  k_) ?_
    show own_Go p e below _ T5 (mkF m 132 #[oI i0, oI i1, oI i2, oI i3, oI i4, oI i5, oI (4 : Int32), oI (i4 &&& (15 : Int32)), oF sv, oI (i0 >>> ((7 : Int32) &&& 31)), oI (i1 >>> ((7 : Int32) &&& 31)), oI (i2 >>> ((7 : Int32) &&& 31)), oI (i3 >>> ((7 : Int32) &&& 31)), oR h0.size, oJ (((0 : Int64) + ((i0 >>> ((7 : Int32) &&& 31)).toInt64)) + ((i1 >>> ((7 : Int32) &&& 31)).toInt64)), .second, .unset, .unset] [(.int (i2 >>> ((7 : Int32) &&& 31))), (.long (((0 : Int64) + ((i0 >>> ((7 : Int32) &&& 31)).toInt64)) + ((i1 >>> ((7 : Int32) &&& 31)).toInt64)))])
    refine own_by (fun t_ k_ => XT.i2l XT5.here hx rfl (hb hby at_132) rfl k_) ?_
    show own_Go p e below _ T5 (mkF m 133 #[oI i0, oI i1, oI i2, oI i3, oI i4, oI i5, oI (4 : Int32), oI (i4 &&& (15 : Int32)), oF sv, oI (i0 >>> ((7 : Int32) &&& 31)), oI (i1 >>> ((7 : Int32) &&& 31)), oI (i2 >>> ((7 : Int32) &&& 31)), oI (i3 >>> ((7 : Int32) &&& 31)), oR h0.size, oJ (((0 : Int64) + ((i0 >>> ((7 : Int32) &&& 31)).toInt64)) + ((i1 >>> ((7 : Int32) &&& 31)).toInt64)), .second, .unset, .unset] [(.long ((i2 >>> ((7 : Int32) &&& 31)).toInt64)), (.long (((0 : Int64) + ((i0 >>> ((7 : Int32) &&& 31)).toInt64)) + ((i1 >>> ((7 : Int32) &&& 31)).toInt64)))])
    refine own_by (fun t_ k_ => XT.ladd XT5.here hx rfl (hb hby at_133) rfl k_) ?_
    show own_Go p e below _ T5 (mkF m 134 #[oI i0, oI i1, oI i2, oI i3, oI i4, oI i5, oI (4 : Int32), oI (i4 &&& (15 : Int32)), oF sv, oI (i0 >>> ((7 : Int32) &&& 31)), oI (i1 >>> ((7 : Int32) &&& 31)), oI (i2 >>> ((7 : Int32) &&& 31)), oI (i3 >>> ((7 : Int32) &&& 31)), oR h0.size, oJ (((0 : Int64) + ((i0 >>> ((7 : Int32) &&& 31)).toInt64)) + ((i1 >>> ((7 : Int32) &&& 31)).toInt64)), .second, .unset, .unset] [(.long ((((0 : Int64) + ((i0 >>> ((7 : Int32) &&& 31)).toInt64)) + ((i1 >>> ((7 : Int32) &&& 31)).toInt64)) + ((i2 >>> ((7 : Int32) &&& 31)).toInt64)))])
    refine own_by (fun t_ k_ => XT.lstore XT5.here hx rfl (hb hby at_134) rfl (l' := #[oI i0, oI i1, oI i2, oI i3, oI i4, oI i5, oI (4 : Int32), oI (i4 &&& (15 : Int32)), oF sv, oI (i0 >>> ((7 : Int32) &&& 31)), oI (i1 >>> ((7 : Int32) &&& 31)), oI (i2 >>> ((7 : Int32) &&& 31)), oI (i3 >>> ((7 : Int32) &&& 31)), oR h0.size, oJ ((((0 : Int64) + ((i0 >>> ((7 : Int32) &&& 31)).toInt64)) + ((i1 >>> ((7 : Int32) &&& 31)).toInt64)) + ((i2 >>> ((7 : Int32) &&& 31)).toInt64)), .second, .unset, .unset]) rfl k_) ?_
    show own_Go p e below _ T5 (mkF m 136 #[oI i0, oI i1, oI i2, oI i3, oI i4, oI i5, oI (4 : Int32), oI (i4 &&& (15 : Int32)), oF sv, oI (i0 >>> ((7 : Int32) &&& 31)), oI (i1 >>> ((7 : Int32) &&& 31)), oI (i2 >>> ((7 : Int32) &&& 31)), oI (i3 >>> ((7 : Int32) &&& 31)), oR h0.size, oJ ((((0 : Int64) + ((i0 >>> ((7 : Int32) &&& 31)).toInt64)) + ((i1 >>> ((7 : Int32) &&& 31)).toInt64)) + ((i2 >>> ((7 : Int32) &&& 31)).toInt64)), .second, .unset, .unset] [])
    refine own_by (fun t_ k_ => XS.iload XT5.here hx rfl (hb hby at_136) rfl  k_) ?_
    show own_Go p e below _ T5 (mkF m 138 #[oI i0, oI i1, oI i2, oI i3, oI i4, oI i5, oI (4 : Int32), oI (i4 &&& (15 : Int32)), oF sv, oI (i0 >>> ((7 : Int32) &&& 31)), oI (i1 >>> ((7 : Int32) &&& 31)), oI (i2 >>> ((7 : Int32) &&& 31)), oI (i3 >>> ((7 : Int32) &&& 31)), oR h0.size, oJ ((((0 : Int64) + ((i0 >>> ((7 : Int32) &&& 31)).toInt64)) + ((i1 >>> ((7 : Int32) &&& 31)).toInt64)) + ((i2 >>> ((7 : Int32) &&& 31)).toInt64)), .second, .unset, .unset] [(.int (4 : Int32))])
    refine own_by (fun t_ k_ => XT.iconstV XT5.here hx rfl (3 : Int32) (hb hby at_138) (by decide) k_) ?_
    show own_Go p e below _ T5 (mkF m 139 #[oI i0, oI i1, oI i2, oI i3, oI i4, oI i5, oI (4 : Int32), oI (i4 &&& (15 : Int32)), oF sv, oI (i0 >>> ((7 : Int32) &&& 31)), oI (i1 >>> ((7 : Int32) &&& 31)), oI (i2 >>> ((7 : Int32) &&& 31)), oI (i3 >>> ((7 : Int32) &&& 31)), oR h0.size, oJ ((((0 : Int64) + ((i0 >>> ((7 : Int32) &&& 31)).toInt64)) + ((i1 >>> ((7 : Int32) &&& 31)).toInt64)) + ((i2 >>> ((7 : Int32) &&& 31)).toInt64)), .second, .unset, .unset] [(.int (3 : Int32)), (.int (4 : Int32))])
    refine own_by (fun t_ k_ => XS.icmpNo XT5.here hx rfl (hb hby at_139) rfl (XT.ii_le_f (by decide)) k_) ?_
    show own_Go p e below _ T5 (mkF m 142 #[oI i0, oI i1, oI i2, oI i3, oI i4, oI i5, oI (4 : Int32), oI (i4 &&& (15 : Int32)), oF sv, oI (i0 >>> ((7 : Int32) &&& 31)), oI (i1 >>> ((7 : Int32) &&& 31)), oI (i2 >>> ((7 : Int32) &&& 31)), oI (i3 >>> ((7 : Int32) &&& 31)), oR h0.size, oJ ((((0 : Int64) + ((i0 >>> ((7 : Int32) &&& 31)).toInt64)) + ((i1 >>> ((7 : Int32) &&& 31)).toInt64)) + ((i2 >>> ((7 : Int32) &&& 31)).toInt64)), .second, .unset, .unset] [])
    refine own_by (fun t_ k_ => XT.lload XT5.here hx rfl (hb hby at_142) rfl  k_) ?_
    show own_Go p e below _ T5 (mkF m 144 #[oI i0, oI i1, oI i2, oI i3, oI i4, oI i5, oI (4 : Int32), oI (i4 &&& (15 : Int32)), oF sv, oI (i0 >>> ((7 : Int32) &&& 31)), oI (i1 >>> ((7 : Int32) &&& 31)), oI (i2 >>> ((7 : Int32) &&& 31)), oI (i3 >>> ((7 : Int32) &&& 31)), oR h0.size, oJ ((((0 : Int64) + ((i0 >>> ((7 : Int32) &&& 31)).toInt64)) + ((i1 >>> ((7 : Int32) &&& 31)).toInt64)) + ((i2 >>> ((7 : Int32) &&& 31)).toInt64)), .second, .unset, .unset] [(.long ((((0 : Int64) + ((i0 >>> ((7 : Int32) &&& 31)).toInt64)) + ((i1 >>> ((7 : Int32) &&& 31)).toInt64)) + ((i2 >>> ((7 : Int32) &&& 31)).toInt64)))])
    refine own_by (fun t_ k_ => XS.iload XT5.here hx rfl (hb hby at_144) rfl  k_) ?_
    show own_Go p e below _ T5 (mkF m 146 #[oI i0, oI i1, oI i2, oI i3, oI i4, oI i5, oI (4 : Int32), oI (i4 &&& (15 : Int32)), oF sv, oI (i0 >>> ((7 : Int32) &&& 31)), oI (i1 >>> ((7 : Int32) &&& 31)), oI (i2 >>> ((7 : Int32) &&& 31)), oI (i3 >>> ((7 : Int32) &&& 31)), oR h0.size, oJ ((((0 : Int64) + ((i0 >>> ((7 : Int32) &&& 31)).toInt64)) + ((i1 >>> ((7 : Int32) &&& 31)).toInt64)) + ((i2 >>> ((7 : Int32) &&& 31)).toInt64)), .second, .unset, .unset] [(.int (i3 >>> ((7 : Int32) &&& 31))), (.long ((((0 : Int64) + ((i0 >>> ((7 : Int32) &&& 31)).toInt64)) + ((i1 >>> ((7 : Int32) &&& 31)).toInt64)) + ((i2 >>> ((7 : Int32) &&& 31)).toInt64)))])
    refine own_by (fun t_ k_ => XT.i2l XT5.here hx rfl (hb hby at_146) rfl k_) ?_
    show own_Go p e below _ T5 (mkF m 147 #[oI i0, oI i1, oI i2, oI i3, oI i4, oI i5, oI (4 : Int32), oI (i4 &&& (15 : Int32)), oF sv, oI (i0 >>> ((7 : Int32) &&& 31)), oI (i1 >>> ((7 : Int32) &&& 31)), oI (i2 >>> ((7 : Int32) &&& 31)), oI (i3 >>> ((7 : Int32) &&& 31)), oR h0.size, oJ ((((0 : Int64) + ((i0 >>> ((7 : Int32) &&& 31)).toInt64)) + ((i1 >>> ((7 : Int32) &&& 31)).toInt64)) + ((i2 >>> ((7 : Int32) &&& 31)).toInt64)), .second, .unset, .unset] [(.long ((i3 >>> ((7 : Int32) &&& 31)).toInt64)), (.long ((((0 : Int64) + ((i0 >>> ((7 : Int32) &&& 31)).toInt64)) + ((i1 >>> ((7 : Int32) &&& 31)).toInt64)) + ((i2 >>> ((7 : Int32) &&& 31)).toInt64)))])
    refine own_by (fun t_ k_ => XT.ladd XT5.here hx rfl (hb hby at_147) rfl k_) ?_
    show own_Go p e below _ T5 (mkF m 148 #[oI i0, oI i1, oI i2, oI i3, oI i4, oI i5, oI (4 : Int32), oI (i4 &&& (15 : Int32)), oF sv, oI (i0 >>> ((7 : Int32) &&& 31)), oI (i1 >>> ((7 : Int32) &&& 31)), oI (i2 >>> ((7 : Int32) &&& 31)), oI (i3 >>> ((7 : Int32) &&& 31)), oR h0.size, oJ ((((0 : Int64) + ((i0 >>> ((7 : Int32) &&& 31)).toInt64)) + ((i1 >>> ((7 : Int32) &&& 31)).toInt64)) + ((i2 >>> ((7 : Int32) &&& 31)).toInt64)), .second, .unset, .unset] [(.long (((((0 : Int64) + ((i0 >>> ((7 : Int32) &&& 31)).toInt64)) + ((i1 >>> ((7 : Int32) &&& 31)).toInt64)) + ((i2 >>> ((7 : Int32) &&& 31)).toInt64)) + ((i3 >>> ((7 : Int32) &&& 31)).toInt64)))])
    refine own_by (fun t_ k_ => XT.lstore XT5.here hx rfl (hb hby at_148) rfl (l' := #[oI i0, oI i1, oI i2, oI i3, oI i4, oI i5, oI (4 : Int32), oI (i4 &&& (15 : Int32)), oF sv, oI (i0 >>> ((7 : Int32) &&& 31)), oI (i1 >>> ((7 : Int32) &&& 31)), oI (i2 >>> ((7 : Int32) &&& 31)), oI (i3 >>> ((7 : Int32) &&& 31)), oR h0.size, oJ (((((0 : Int64) + ((i0 >>> ((7 : Int32) &&& 31)).toInt64)) + ((i1 >>> ((7 : Int32) &&& 31)).toInt64)) + ((i2 >>> ((7 : Int32) &&& 31)).toInt64)) + ((i3 >>> ((7 : Int32) &&& 31)).toInt64)), .second, .unset, .unset]) rfl k_) ?_
    show own_Go p e below _ T5 (mkF m 150 #[oI i0, oI i1, oI i2, oI i3, oI i4, oI i5, oI (4 : Int32), oI (i4 &&& (15 : Int32)), oF sv, oI (i0 >>> ((7 : Int32) &&& 31)), oI (i1 >>> ((7 : Int32) &&& 31)), oI (i2 >>> ((7 : Int32) &&& 31)), oI (i3 >>> ((7 : Int32) &&& 31)), oR h0.size, oJ (((((0 : Int64) + ((i0 >>> ((7 : Int32) &&& 31)).toInt64)) + ((i1 >>> ((7 : Int32) &&& 31)).toInt64)) + ((i2 >>> ((7 : Int32) &&& 31)).toInt64)) + ((i3 >>> ((7 : Int32) &&& 31)).toInt64)), .second, .unset, .unset] [])
    refine own_by (fun t_ k_ => XT.lload XT5.here hx rfl (hb hby at_150) rfl  k_) ?_
    show own_Go p e below _ T5 (mkF m 152 #[oI i0, oI i1, oI i2, oI i3, oI i4, oI i5, oI (4 : Int32), oI (i4 &&& (15 : Int32)), oF sv, oI (i0 >>> ((7 : Int32) &&& 31)), oI (i1 >>> ((7 : Int32) &&& 31)), oI (i2 >>> ((7 : Int32) &&& 31)), oI (i3 >>> ((7 : Int32) &&& 31)), oR h0.size, oJ (((((0 : Int64) + ((i0 >>> ((7 : Int32) &&& 31)).toInt64)) + ((i1 >>> ((7 : Int32) &&& 31)).toInt64)) + ((i2 >>> ((7 : Int32) &&& 31)).toInt64)) + ((i3 >>> ((7 : Int32) &&& 31)).toInt64)), .second, .unset, .unset] [(.long (((((0 : Int64) + ((i0 >>> ((7 : Int32) &&& 31)).toInt64)) + ((i1 >>> ((7 : Int32) &&& 31)).toInt64)) + ((i2 >>> ((7 : Int32) &&& 31)).toInt64)) + ((i3 >>> ((7 : Int32) &&& 31)).toInt64)))])
    refine own_by (fun t_ k_ => XS.l2fS XT5.here hx rfl (hb hby at_152) rfl rfl k_) ?_
    show own_Go p e below _ T5 (mkF m 153 #[oI i0, oI i1, oI i2, oI i3, oI i4, oI i5, oI (4 : Int32), oI (i4 &&& (15 : Int32)), oF sv, oI (i0 >>> ((7 : Int32) &&& 31)), oI (i1 >>> ((7 : Int32) &&& 31)), oI (i2 >>> ((7 : Int32) &&& 31)), oI (i3 >>> ((7 : Int32) &&& 31)), oR h0.size, oJ (((((0 : Int64) + ((i0 >>> ((7 : Int32) &&& 31)).toInt64)) + ((i1 >>> ((7 : Int32) &&& 31)).toInt64)) + ((i2 >>> ((7 : Int32) &&& 31)).toInt64)) + ((i3 >>> ((7 : Int32) &&& 31)).toInt64)), .second, .unset, .unset] [(.float (FP.l2f (((((0 : Int64) + ((i0 >>> ((7 : Int32) &&& 31)).toInt64)) + ((i1 >>> ((7 : Int32) &&& 31)).toInt64)) + ((i2 >>> ((7 : Int32) &&& 31)).toInt64)) + ((i3 >>> ((7 : Int32) &&& 31)).toInt64))))])
    refine own_by (fun t_ k_ => XS.fload XT5.here hx rfl (hb hby at_153) rfl  k_) ?_
    show own_Go p e below _ T5 (mkF m 155 #[oI i0, oI i1, oI i2, oI i3, oI i4, oI i5, oI (4 : Int32), oI (i4 &&& (15 : Int32)), oF sv, oI (i0 >>> ((7 : Int32) &&& 31)), oI (i1 >>> ((7 : Int32) &&& 31)), oI (i2 >>> ((7 : Int32) &&& 31)), oI (i3 >>> ((7 : Int32) &&& 31)), oR h0.size, oJ (((((0 : Int64) + ((i0 >>> ((7 : Int32) &&& 31)).toInt64)) + ((i1 >>> ((7 : Int32) &&& 31)).toInt64)) + ((i2 >>> ((7 : Int32) &&& 31)).toInt64)) + ((i3 >>> ((7 : Int32) &&& 31)).toInt64)), .second, .unset, .unset] [(.float sv), (.float (FP.l2f (((((0 : Int64) + ((i0 >>> ((7 : Int32) &&& 31)).toInt64)) + ((i1 >>> ((7 : Int32) &&& 31)).toInt64)) + ((i2 >>> ((7 : Int32) &&& 31)).toInt64)) + ((i3 >>> ((7 : Int32) &&& 31)).toInt64))))])
    have B0 := own_sh7 i0
    have B1 := own_sh7 i1
    have B2 := own_sh7 i2
    have B3 := own_sh7 i3
    have htot : ((((((0 : Int64) + ((i0 >>> ((7 : Int32) &&& 31)).toInt64)) + ((i1 >>> ((7 : Int32) &&& 31)).toInt64)) + ((i2 >>> ((7 : Int32) &&& 31)).toInt64)) + ((i3 >>> ((7 : Int32) &&& 31)).toInt64))).toInt = 0 + (i0 >>> ((7 : Int32) &&& 31)).toInt + (i1 >>> ((7 : Int32) &&& 31)).toInt + (i2 >>> ((7 : Int32) &&& 31)).toInt + (i3 >>> ((7 : Int32) &&& 31)).toInt := by
      have g0 : ((0 : Int64)).toInt = 0 := by decide
      have a0 := c_ladd (0 : Int64) ((i0 >>> ((7 : Int32) &&& 31)).toInt64)
      have b0 := c_i2l (i0 >>> ((7 : Int32) &&& 31))
      have r0 := rng64 ((0 : Int64) + ((i0 >>> ((7 : Int32) &&& 31)).toInt64))
      have a1 := c_ladd ((0 : Int64) + ((i0 >>> ((7 : Int32) &&& 31)).toInt64)) ((i1 >>> ((7 : Int32) &&& 31)).toInt64)
      have b1 := c_i2l (i1 >>> ((7 : Int32) &&& 31))
      have r1 := rng64 (((0 : Int64) + ((i0 >>> ((7 : Int32) &&& 31)).toInt64)) + ((i1 >>> ((7 : Int32) &&& 31)).toInt64))
      have a2 := c_ladd (((0 : Int64) + ((i0 >>> ((7 : Int32) &&& 31)).toInt64)) + ((i1 >>> ((7 : Int32) &&& 31)).toInt64)) ((i2 >>> ((7 : Int32) &&& 31)).toInt64)
      have b2 := c_i2l (i2 >>> ((7 : Int32) &&& 31))
      have r2 := rng64 ((((0 : Int64) + ((i0 >>> ((7 : Int32) &&& 31)).toInt64)) + ((i1 >>> ((7 : Int32) &&& 31)).toInt64)) + ((i2 >>> ((7 : Int32) &&& 31)).toInt64))
      have a3 := c_ladd ((((0 : Int64) + ((i0 >>> ((7 : Int32) &&& 31)).toInt64)) + ((i1 >>> ((7 : Int32) &&& 31)).toInt64)) + ((i2 >>> ((7 : Int32) &&& 31)).toInt64)) ((i3 >>> ((7 : Int32) &&& 31)).toInt64)
      have b3 := c_i2l (i3 >>> ((7 : Int32) &&& 31))
      have r3 := rng64 (((((0 : Int64) + ((i0 >>> ((7 : Int32) &&& 31)).toInt64)) + ((i1 >>> ((7 : Int32) &&& 31)).toInt64)) + ((i2 >>> ((7 : Int32) &&& 31)).toInt64)) + ((i3 >>> ((7 : Int32) &&& 31)).toInt64))
      omega
    have nn := own_exp_no (t := (((((0 : Int64) + ((i0 >>> ((7 : Int32) &&& 31)).toInt64)) + ((i1 >>> ((7 : Int32) &&& 31)).toInt64)) + ((i2 >>> ((7 : Int32) &&& 31)).toInt64)) + ((i3 >>> ((7 : Int32) &&& 31)).toInt64))) (by omega) hk15 Fs
    refine own_by (fun t_ k_ => XS.fdivS XT5.here hx rfl (hb hby at_155) rfl nn rfl k_) ?_
    show own_Go p e below _ T5 (mkF m 156 #[oI i0, oI i1, oI i2, oI i3, oI i4, oI i5, oI (4 : Int32), oI (i4 &&& (15 : Int32)), oF sv, oI (i0 >>> ((7 : Int32) &&& 31)), oI (i1 >>> ((7 : Int32) &&& 31)), oI (i2 >>> ((7 : Int32) &&& 31)), oI (i3 >>> ((7 : Int32) &&& 31)), oR h0.size, oJ (((((0 : Int64) + ((i0 >>> ((7 : Int32) &&& 31)).toInt64)) + ((i1 >>> ((7 : Int32) &&& 31)).toInt64)) + ((i2 >>> ((7 : Int32) &&& 31)).toInt64)) + ((i3 >>> ((7 : Int32) &&& 31)).toInt64)), .second, .unset, .unset] [(.float (FP.fdiv (FP.l2f (((((0 : Int64) + ((i0 >>> ((7 : Int32) &&& 31)).toInt64)) + ((i1 >>> ((7 : Int32) &&& 31)).toInt64)) + ((i2 >>> ((7 : Int32) &&& 31)).toInt64)) + ((i3 >>> ((7 : Int32) &&& 31)).toInt64))) sv))])
    refine own_by (fun t_ k_ => XS.fstore XT5.here hx rfl (hb hby at_156) rfl (l' := #[oI i0, oI i1, oI i2, oI i3, oI i4, oI i5, oI (4 : Int32), oI (i4 &&& (15 : Int32)), oF sv, oI (i0 >>> ((7 : Int32) &&& 31)), oI (i1 >>> ((7 : Int32) &&& 31)), oI (i2 >>> ((7 : Int32) &&& 31)), oI (i3 >>> ((7 : Int32) &&& 31)), oR h0.size, oJ (((((0 : Int64) + ((i0 >>> ((7 : Int32) &&& 31)).toInt64)) + ((i1 >>> ((7 : Int32) &&& 31)).toInt64)) + ((i2 >>> ((7 : Int32) &&& 31)).toInt64)) + ((i3 >>> ((7 : Int32) &&& 31)).toInt64)), .second, oF (FP.fdiv (FP.l2f (((((0 : Int64) + ((i0 >>> ((7 : Int32) &&& 31)).toInt64)) + ((i1 >>> ((7 : Int32) &&& 31)).toInt64)) + ((i2 >>> ((7 : Int32) &&& 31)).toInt64)) + ((i3 >>> ((7 : Int32) &&& 31)).toInt64))) sv), .unset]) rfl k_) ?_
    show own_Go p e below _ T5 (mkF m 158 #[oI i0, oI i1, oI i2, oI i3, oI i4, oI i5, oI (4 : Int32), oI (i4 &&& (15 : Int32)), oF sv, oI (i0 >>> ((7 : Int32) &&& 31)), oI (i1 >>> ((7 : Int32) &&& 31)), oI (i2 >>> ((7 : Int32) &&& 31)), oI (i3 >>> ((7 : Int32) &&& 31)), oR h0.size, oJ (((((0 : Int64) + ((i0 >>> ((7 : Int32) &&& 31)).toInt64)) + ((i1 >>> ((7 : Int32) &&& 31)).toInt64)) + ((i2 >>> ((7 : Int32) &&& 31)).toInt64)) + ((i3 >>> ((7 : Int32) &&& 31)).toInt64)), .second, oF (FP.fdiv (FP.l2f (((((0 : Int64) + ((i0 >>> ((7 : Int32) &&& 31)).toInt64)) + ((i1 >>> ((7 : Int32) &&& 31)).toInt64)) + ((i2 >>> ((7 : Int32) &&& 31)).toInt64)) + ((i3 >>> ((7 : Int32) &&& 31)).toInt64))) sv), .unset] [])
    refine own_by (fun t_ k_ => XS.aload XT5.here hx rfl (hb hby at_158) rfl rfl  k_) ?_
    show own_Go p e below _ T5 (mkF m 160 #[oI i0, oI i1, oI i2, oI i3, oI i4, oI i5, oI (4 : Int32), oI (i4 &&& (15 : Int32)), oF sv, oI (i0 >>> ((7 : Int32) &&& 31)), oI (i1 >>> ((7 : Int32) &&& 31)), oI (i2 >>> ((7 : Int32) &&& 31)), oI (i3 >>> ((7 : Int32) &&& 31)), oR h0.size, oJ (((((0 : Int64) + ((i0 >>> ((7 : Int32) &&& 31)).toInt64)) + ((i1 >>> ((7 : Int32) &&& 31)).toInt64)) + ((i2 >>> ((7 : Int32) &&& 31)).toInt64)) + ((i3 >>> ((7 : Int32) &&& 31)).toInt64)), .second, oF (FP.fdiv (FP.l2f (((((0 : Int64) + ((i0 >>> ((7 : Int32) &&& 31)).toInt64)) + ((i1 >>> ((7 : Int32) &&& 31)).toInt64)) + ((i2 >>> ((7 : Int32) &&& 31)).toInt64)) + ((i3 >>> ((7 : Int32) &&& 31)).toInt64))) sv), .unset] [(.ref h0.size)])
    refine own_by (fun t_ k_ => XS.iload XT5.here hx rfl (hb hby at_160) rfl  k_) ?_
    show own_Go p e below _ T5 (mkF m 162 #[oI i0, oI i1, oI i2, oI i3, oI i4, oI i5, oI (4 : Int32), oI (i4 &&& (15 : Int32)), oF sv, oI (i0 >>> ((7 : Int32) &&& 31)), oI (i1 >>> ((7 : Int32) &&& 31)), oI (i2 >>> ((7 : Int32) &&& 31)), oI (i3 >>> ((7 : Int32) &&& 31)), oR h0.size, oJ (((((0 : Int64) + ((i0 >>> ((7 : Int32) &&& 31)).toInt64)) + ((i1 >>> ((7 : Int32) &&& 31)).toInt64)) + ((i2 >>> ((7 : Int32) &&& 31)).toInt64)) + ((i3 >>> ((7 : Int32) &&& 31)).toInt64)), .second, oF (FP.fdiv (FP.l2f (((((0 : Int64) + ((i0 >>> ((7 : Int32) &&& 31)).toInt64)) + ((i1 >>> ((7 : Int32) &&& 31)).toInt64)) + ((i2 >>> ((7 : Int32) &&& 31)).toInt64)) + ((i3 >>> ((7 : Int32) &&& 31)).toInt64))) sv), .unset] [(.int (4 : Int32)), (.ref h0.size)])
    refine own_callS XT5 hx hZ hown (hw _ (List.mem_of_getElem? (i := 1) rfl)) (hw _ (List.mem_of_getElem? (i := 2) rfl)) (hw _ (List.mem_of_getElem? (i := 3) rfl)) (hw _ (List.mem_of_getElem? (i := 4) rfl)) (by decide) eT5 (argsL := [(.ref h0.size), (.int (4 : Int32))]) (rest := []) (own_sum4 l Z a0 hw h0.size kA k f0 f1 f2 f3 (i0 >>> ((7 : Int32) &&& 31)).toInt (i1 >>> ((7 : Int32) &&& 31)).toInt (i2 >>> ((7 : Int32) &&& 31)).toInt (i3 >>> ((7 : Int32) &&& 31)).toInt hT5 VT5 hk15 F0 F1 F2 F3 B0 B1 B2 B3) 0 (by decide) (by decide) (by rw [hml]; rfl) (lenOf pd_0 rfl) (Nat.le_of_eq rfl) (hb hby at_162) (by decide) (by decide) (st := [(.int (4 : Int32)), (.ref h0.size)]) rfl ?_
    intro T10 LT10 vT10 XT10 hQT10
    obtain ⟨⟨acc, rfl, hacc⟩, eT10, rfl⟩ := hQT10
    show own_Go p e below _ T10 (mkF m 165 #[oI i0, oI i1, oI i2, oI i3, oI i4, oI i5, oI (4 : Int32), oI (i4 &&& (15 : Int32)), oF sv, oI (i0 >>> ((7 : Int32) &&& 31)), oI (i1 >>> ((7 : Int32) &&& 31)), oI (i2 >>> ((7 : Int32) &&& 31)), oI (i3 >>> ((7 : Int32) &&& 31)), oR h0.size, oJ (((((0 : Int64) + ((i0 >>> ((7 : Int32) &&& 31)).toInt64)) + ((i1 >>> ((7 : Int32) &&& 31)).toInt64)) + ((i2 >>> ((7 : Int32) &&& 31)).toInt64)) + ((i3 >>> ((7 : Int32) &&& 31)).toInt64)), .second, oF (FP.fdiv (FP.l2f (((((0 : Int64) + ((i0 >>> ((7 : Int32) &&& 31)).toInt64)) + ((i1 >>> ((7 : Int32) &&& 31)).toInt64)) + ((i2 >>> ((7 : Int32) &&& 31)).toInt64)) + ((i3 >>> ((7 : Int32) &&& 31)).toInt64))) sv), .unset] [(.float (FP.d2f acc))])
    have hcmp := (own_m3_no1 (t := (((((0 : Int64) + ((i0 >>> ((7 : Int32) &&& 31)).toInt64)) + ((i1 >>> ((7 : Int32) &&& 31)).toInt64)) + ((i2 >>> ((7 : Int32) &&& 31)).toInt64)) + ((i3 >>> ((7 : Int32) &&& 31)).toInt64))) (by omega) hk15 Fs (by rw [htot]; exact hacc)).2.2
    show own_Go p e below _ T10 (mkF m 165 #[oI i0, oI i1, oI i2, oI i3, oI i4, oI i5, oI (4 : Int32), oI (i4 &&& (15 : Int32)), oF sv, oI (i0 >>> ((7 : Int32) &&& 31)), oI (i1 >>> ((7 : Int32) &&& 31)), oI (i2 >>> ((7 : Int32) &&& 31)), oI (i3 >>> ((7 : Int32) &&& 31)), oR h0.size, oJ (((((0 : Int64) + ((i0 >>> ((7 : Int32) &&& 31)).toInt64)) + ((i1 >>> ((7 : Int32) &&& 31)).toInt64)) + ((i2 >>> ((7 : Int32) &&& 31)).toInt64)) + ((i3 >>> ((7 : Int32) &&& 31)).toInt64)), .second, oF (FP.fdiv (FP.l2f (((((0 : Int64) + ((i0 >>> ((7 : Int32) &&& 31)).toInt64)) + ((i1 >>> ((7 : Int32) &&& 31)).toInt64)) + ((i2 >>> ((7 : Int32) &&& 31)).toInt64)) + ((i3 >>> ((7 : Int32) &&& 31)).toInt64))) sv), .unset] [(.float (FP.d2f acc))])
    refine own_by (fun t_ k_ => XS.fstore XT10.here hx rfl (hb hby at_165) rfl (l' := #[oI i0, oI i1, oI i2, oI i3, oI i4, oI i5, oI (4 : Int32), oI (i4 &&& (15 : Int32)), oF sv, oI (i0 >>> ((7 : Int32) &&& 31)), oI (i1 >>> ((7 : Int32) &&& 31)), oI (i2 >>> ((7 : Int32) &&& 31)), oI (i3 >>> ((7 : Int32) &&& 31)), oR h0.size, oJ (((((0 : Int64) + ((i0 >>> ((7 : Int32) &&& 31)).toInt64)) + ((i1 >>> ((7 : Int32) &&& 31)).toInt64)) + ((i2 >>> ((7 : Int32) &&& 31)).toInt64)) + ((i3 >>> ((7 : Int32) &&& 31)).toInt64)), .second, oF (FP.fdiv (FP.l2f (((((0 : Int64) + ((i0 >>> ((7 : Int32) &&& 31)).toInt64)) + ((i1 >>> ((7 : Int32) &&& 31)).toInt64)) + ((i2 >>> ((7 : Int32) &&& 31)).toInt64)) + ((i3 >>> ((7 : Int32) &&& 31)).toInt64))) sv), oF (FP.d2f acc)]) rfl k_) ?_
    show own_Go p e below _ T10 (mkF m 167 #[oI i0, oI i1, oI i2, oI i3, oI i4, oI i5, oI (4 : Int32), oI (i4 &&& (15 : Int32)), oF sv, oI (i0 >>> ((7 : Int32) &&& 31)), oI (i1 >>> ((7 : Int32) &&& 31)), oI (i2 >>> ((7 : Int32) &&& 31)), oI (i3 >>> ((7 : Int32) &&& 31)), oR h0.size, oJ (((((0 : Int64) + ((i0 >>> ((7 : Int32) &&& 31)).toInt64)) + ((i1 >>> ((7 : Int32) &&& 31)).toInt64)) + ((i2 >>> ((7 : Int32) &&& 31)).toInt64)) + ((i3 >>> ((7 : Int32) &&& 31)).toInt64)), .second, oF (FP.fdiv (FP.l2f (((((0 : Int64) + ((i0 >>> ((7 : Int32) &&& 31)).toInt64)) + ((i1 >>> ((7 : Int32) &&& 31)).toInt64)) + ((i2 >>> ((7 : Int32) &&& 31)).toInt64)) + ((i3 >>> ((7 : Int32) &&& 31)).toInt64))) sv), oF (FP.d2f acc)] [])
    refine own_by (fun t_ k_ => XS.fload XT10.here hx rfl (hb hby at_167) rfl  k_) ?_
    show own_Go p e below _ T10 (mkF m 169 #[oI i0, oI i1, oI i2, oI i3, oI i4, oI i5, oI (4 : Int32), oI (i4 &&& (15 : Int32)), oF sv, oI (i0 >>> ((7 : Int32) &&& 31)), oI (i1 >>> ((7 : Int32) &&& 31)), oI (i2 >>> ((7 : Int32) &&& 31)), oI (i3 >>> ((7 : Int32) &&& 31)), oR h0.size, oJ (((((0 : Int64) + ((i0 >>> ((7 : Int32) &&& 31)).toInt64)) + ((i1 >>> ((7 : Int32) &&& 31)).toInt64)) + ((i2 >>> ((7 : Int32) &&& 31)).toInt64)) + ((i3 >>> ((7 : Int32) &&& 31)).toInt64)), .second, oF (FP.fdiv (FP.l2f (((((0 : Int64) + ((i0 >>> ((7 : Int32) &&& 31)).toInt64)) + ((i1 >>> ((7 : Int32) &&& 31)).toInt64)) + ((i2 >>> ((7 : Int32) &&& 31)).toInt64)) + ((i3 >>> ((7 : Int32) &&& 31)).toInt64))) sv), oF (FP.d2f acc)] [(.float (FP.d2f acc))])
    refine own_by (fun t_ k_ => XS.fload XT10.here hx rfl (hb hby at_169) rfl  k_) ?_
    show own_Go p e below _ T10 (mkF m 171 #[oI i0, oI i1, oI i2, oI i3, oI i4, oI i5, oI (4 : Int32), oI (i4 &&& (15 : Int32)), oF sv, oI (i0 >>> ((7 : Int32) &&& 31)), oI (i1 >>> ((7 : Int32) &&& 31)), oI (i2 >>> ((7 : Int32) &&& 31)), oI (i3 >>> ((7 : Int32) &&& 31)), oR h0.size, oJ (((((0 : Int64) + ((i0 >>> ((7 : Int32) &&& 31)).toInt64)) + ((i1 >>> ((7 : Int32) &&& 31)).toInt64)) + ((i2 >>> ((7 : Int32) &&& 31)).toInt64)) + ((i3 >>> ((7 : Int32) &&& 31)).toInt64)), .second, oF (FP.fdiv (FP.l2f (((((0 : Int64) + ((i0 >>> ((7 : Int32) &&& 31)).toInt64)) + ((i1 >>> ((7 : Int32) &&& 31)).toInt64)) + ((i2 >>> ((7 : Int32) &&& 31)).toInt64)) + ((i3 >>> ((7 : Int32) &&& 31)).toInt64))) sv), oF (FP.d2f acc)] [(.float (FP.fdiv (FP.l2f (((((0 : Int64) + ((i0 >>> ((7 : Int32) &&& 31)).toInt64)) + ((i1 >>> ((7 : Int32) &&& 31)).toInt64)) + ((i2 >>> ((7 : Int32) &&& 31)).toInt64)) + ((i3 >>> ((7 : Int32) &&& 31)).toInt64))) sv)), (.float (FP.d2f acc))])
    refine own_by (fun t_ k_ => XS.fcmpS XT10.here hx rfl (hb hby at_171) rfl hcmp k_) ?_
    show own_Go p e below _ T10 (mkF m 172 #[oI i0, oI i1, oI i2, oI i3, oI i4, oI i5, oI (4 : Int32), oI (i4 &&& (15 : Int32)), oF sv, oI (i0 >>> ((7 : Int32) &&& 31)), oI (i1 >>> ((7 : Int32) &&& 31)), oI (i2 >>> ((7 : Int32) &&& 31)), oI (i3 >>> ((7 : Int32) &&& 31)), oR h0.size, oJ (((((0 : Int64) + ((i0 >>> ((7 : Int32) &&& 31)).toInt64)) + ((i1 >>> ((7 : Int32) &&& 31)).toInt64)) + ((i2 >>> ((7 : Int32) &&& 31)).toInt64)) + ((i3 >>> ((7 : Int32) &&& 31)).toInt64)), .second, oF (FP.fdiv (FP.l2f (((((0 : Int64) + ((i0 >>> ((7 : Int32) &&& 31)).toInt64)) + ((i1 >>> ((7 : Int32) &&& 31)).toInt64)) + ((i2 >>> ((7 : Int32) &&& 31)).toInt64)) + ((i3 >>> ((7 : Int32) &&& 31)).toInt64))) sv), oF (FP.d2f acc)] [(.int (0 : Int32))])
    refine own_by (fun t_ k_ => XS.ifNo XT10.here hx rfl (hb hby at_172) rfl (XT.i0_ne_f (by decide)) k_) ?_
    show own_Go p e below _ T10 (mkF m 175 #[oI i0, oI i1, oI i2, oI i3, oI i4, oI i5, oI (4 : Int32), oI (i4 &&& (15 : Int32)), oF sv, oI (i0 >>> ((7 : Int32) &&& 31)), oI (i1 >>> ((7 : Int32) &&& 31)), oI (i2 >>> ((7 : Int32) &&& 31)), oI (i3 >>> ((7 : Int32) &&& 31)), oR h0.size, oJ (((((0 : Int64) + ((i0 >>> ((7 : Int32) &&& 31)).toInt64)) + ((i1 >>> ((7 : Int32) &&& 31)).toInt64)) + ((i2 >>> ((7 : Int32) &&& 31)).toInt64)) + ((i3 >>> ((7 : Int32) &&& 31)).toInt64)), .second, oF (FP.fdiv (FP.l2f (((((0 : Int64) + ((i0 >>> ((7 : Int32) &&& 31)).toInt64)) + ((i1 >>> ((7 : Int32) &&& 31)).toInt64)) + ((i2 >>> ((7 : Int32) &&& 31)).toInt64)) + ((i3 >>> ((7 : Int32) &&& 31)).toInt64))) sv), oF (FP.d2f acc)] [])
    refine own_by (fun t_ k_ => XT.iconstV XT10.here hx rfl (1 : Int32) (hb hby at_175) (by decide) k_) ?_
    show own_Go p e below _ T10 (mkF m 176 #[oI i0, oI i1, oI i2, oI i3, oI i4, oI i5, oI (4 : Int32), oI (i4 &&& (15 : Int32)), oF sv, oI (i0 >>> ((7 : Int32) &&& 31)), oI (i1 >>> ((7 : Int32) &&& 31)), oI (i2 >>> ((7 : Int32) &&& 31)), oI (i3 >>> ((7 : Int32) &&& 31)), oR h0.size, oJ (((((0 : Int64) + ((i0 >>> ((7 : Int32) &&& 31)).toInt64)) + ((i1 >>> ((7 : Int32) &&& 31)).toInt64)) + ((i2 >>> ((7 : Int32) &&& 31)).toInt64)) + ((i3 >>> ((7 : Int32) &&& 31)).toInt64)), .second, oF (FP.fdiv (FP.l2f (((((0 : Int64) + ((i0 >>> ((7 : Int32) &&& 31)).toInt64)) + ((i1 >>> ((7 : Int32) &&& 31)).toInt64)) + ((i2 >>> ((7 : Int32) &&& 31)).toInt64)) + ((i3 >>> ((7 : Int32) &&& 31)).toInt64))) sv), oF (FP.d2f acc)] [(.int (1 : Int32))])
    refine own_by (fun t_ k_ => XS.goto XT10.here hx rfl (pc0 := 176) (pc' := 180) rfl (hb hby at_176) (by decide) (by decide) k_) ?_
    show own_Go p e below _ T10 (mkF m 180 #[oI i0, oI i1, oI i2, oI i3, oI i4, oI i5, oI (4 : Int32), oI (i4 &&& (15 : Int32)), oF sv, oI (i0 >>> ((7 : Int32) &&& 31)), oI (i1 >>> ((7 : Int32) &&& 31)), oI (i2 >>> ((7 : Int32) &&& 31)), oI (i3 >>> ((7 : Int32) &&& 31)), oR h0.size, oJ (((((0 : Int64) + ((i0 >>> ((7 : Int32) &&& 31)).toInt64)) + ((i1 >>> ((7 : Int32) &&& 31)).toInt64)) + ((i2 >>> ((7 : Int32) &&& 31)).toInt64)) + ((i3 >>> ((7 : Int32) &&& 31)).toInt64)), .second, oF (FP.fdiv (FP.l2f (((((0 : Int64) + ((i0 >>> ((7 : Int32) &&& 31)).toInt64)) + ((i1 >>> ((7 : Int32) &&& 31)).toInt64)) + ((i2 >>> ((7 : Int32) &&& 31)).toInt64)) + ((i3 >>> ((7 : Int32) &&& 31)).toInt64))) sv), oF (FP.d2f acc)] [(.int (1 : Int32))])
    exact own_retN XT10 hx hlk hret (by simp) (w := (1 : Int32)) (hb hby at_180) (by decide) (by decide) (by decide) (⟨rfl, own_app0 NT5⟩)
set_option maxRecDepth 65536 in
set_option maxHeartbeats 40000000 in
theorem comes_1 {Post : Tables → Env → Array Value → State → Outcome → State → Prop} (hpost : ∀ tb e args s v u, (limb_1_1.after args s (.returned v) u = true ∧ limb_1_2.after args s (.returned v) u = true ∧ True) → FrameEnd s (.returned v) u (Jvm.fieldLocs frame_1_writes args s ++ Jvm.arrayLocs frame_1_arrays args s ++ Jvm.staticLocs frame_1_statics s) 16 128 → Post tb e args s (.returned v) u) :
    ArmFor flags0 classFile x code maxLocals ret World_1 tables_1 room_1 Calls_1 rest_1 Pre_1 Post := by
  intro l hfl _ _ p e ha hc hk s m args below hf hA hF happ hP
  obtain ⟨hcalls, hrest, hpre⟩ := hP
  obtain ⟨-, -, -, hnamed, -, -, -, hat⟩ := (Spec.applies_iff hf).mp happ
  obtain ⟨hg, hn⟩ := and_e (Cond.before_iff.mp (show (Jvm.Cond.and given_1 narrow_1).before args s = true from hpre))
  obtain ⟨g0, rg0⟩ := and_e hg
  obtain ⟨g1, rg1⟩ := and_e rg0
  obtain ⟨g2, rg2⟩ := and_e rg1
  obtain ⟨g3, rg3⟩ := and_e rg2
  obtain ⟨g4, rg4⟩ := and_e rg3
  obtain ⟨g5, rg5⟩ := and_e rg4
  have g6 := rg5
  obtain ⟨w0, w1, w2, w3, w4, w5, rfl⟩ : ∃ w0 w1 w2 w3 w4 w5 : Value, args = #[w0, w1, w2, w3, w4, w5] := by
    have hs : args.size = 6 := by simpa [Cond.value] using g0
    obtain ⟨L⟩ := args
    match L, hs with
    | [w0, w1, w2, w3, w4, w5], _ => exact ⟨w0, w1, w2, w3, w4, w5, rfl⟩
  have hw := fun d (hd : d ∈ tables_1) => atoms_spec (ws := Jvm.Cond.code x code maxLocals ret :: tables_1) hat d (List.mem_cons_of_mem _ hd)
  obtain ⟨i0, ei0⟩ := is_v g1
  obtain rfl : w0 = (.int i0) := Option.some.inj ei0
  obtain ⟨i1, ei1⟩ := is_v g2
  obtain rfl : w1 = (.int i1) := Option.some.inj ei1
  obtain ⟨i2, ei2⟩ := is_v g3
  obtain rfl : w2 = (.int i2) := Option.some.inj ei2
  obtain ⟨i3, ei3⟩ := is_v g4
  obtain rfl : w3 = (.int i3) := Option.some.inj ei3
  obtain ⟨i4, ei4⟩ := is_v g5
  obtain rfl : w4 = (.int i4) := Option.some.inj ei4
  obtain ⟨i5, ei5⟩ := is_v g6
  obtain rfl : w5 = (.int i5) := Option.some.inj ei5
  obtain ⟨n, o, h1, h2, h3, _, L, rfl, ⟨rfl, N⟩, hq⟩ := own_law l s _ hw i0 i1 i2 i3 i4 i5 s.heap p e ha hc hk s m _ below hf ((Spec.applies_iff_loose hf).mp happ).1 ⟨rfl, State.Warmed39.refl s, rfl⟩ trivial
  refine ⟨n, _, h1, h2, h3, hpost _ _ _ _ _ _ ⟨Cond.after_iff.mpr rfl, Cond.after_iff.mpr (eq_i res_at (Term.int_eval (1)) rfl), trivial⟩ ⟨hq.1, hq.2.1, (hq.2.2.sift fun y hy => Or.inr (N y hy)).mono (by decide) (by decide)⟩⟩
theorem main_1_1 : Claimed_1_1 := comes_1 fun _ _ _ _ _ _ h hF => ⟨h.1, hF⟩
theorem main_1_2 : Claimed_1_2 := comes_1 fun _ _ _ _ _ _ h hF => ⟨h.2.1, hF⟩
end Jvm.Pilot.@@N@@
namespace Jvm.Pilot.@@N@@
open Jvm Jvm.ClassFile Sem Op Lib Jvm.Free Jvm.Stand Jvm.Pilot.@@N@@.Jvm.D
/-! MADE BY PROGRAM (witnessworld.py) out of the Statement's table words and the real class files: 11 classes; the members and pool entries that the words name. The judged class is class 1, her method 1. -/
namespace start1
open Jvm.ClassFile
def u (s : String) : CpInfo := .utf8 (stringToUtf16 s)
/-- a pool by its gaps: so many unusable entries, then the entry; so many at the end -/
def gap : Nat → List CpInfo → List CpInfo
  | 0, r => r
  | n + 1, r => .unusable :: gap n r
def poolList (es : List (Nat × CpInfo)) (last : Nat) : List CpInfo := es.foldr (fun e r => gap e.1 (e.2 :: r)) (gap last [])
def pool (es : List (Nat × CpInfo)) (last : Nat) : Array CpInfo := ⟨poolList es last⟩
def fileOf (pool : Array CpInfo) (this : Nat) (attrs : Array Attribute := #[]) (ms : Array MethodInfo := #[]) (fl : Nat := 33) (sup : Nat := 0) (ifs : Array Nat := #[]) (fds : Array FieldInfo := #[]) : ClassFile where
  minorVersion := 0
  majorVersion := 65
  constantPool := pool
  accessFlags := fl
  thisClass := this
  superClass := sup
  interfaces := ifs
  fields := fds
  methods := ms
  attributes := attrs
def plain (name : String) (sup : Option ClassId) : Class where
  name := name
  kind := .ordinary
  loader := none
  accessFlags := 33
  super := sup
  interfaces := #[]
  cf := none
  fields := #[]
  methods := #[]
  instanceTypes := #[]
  staticTypes := #[]
  resolved := #[]
  callSites := []
  init := .initialized
  statics := none
  mirror := none

def pool0 : Array CpInfo := pool [(5, u "<init>"), (0, u "()V"), (1, .class_ 10), (1, u "java/lang/Object")] 113

def k0m0 : Method := { name := "<init>", desc := "()V", sig := { parameters := [], returnType := none }, accessFlags := 1, code := none }
/-- java/lang/Object -/
def k0 : Class := { plain "java/lang/Object" none with
  accessFlags := 33
  interfaces := #[]
  cf := some (fileOf pool0 8 #[] #[{ accessFlags := 1, nameIndex := 5, descriptorIndex := 6, attributes := #[] }] 33 0 #[] #[])
  fields := #[]
  methods := #[k0m0]
  instanceTypes := #[]
  staticTypes := #[]
  resolved := Array.replicate 124 none
  statics := none }

def pool1 : Array CpInfo := pool [(2, .class_ 4), (1, u "java/lang/Object"), (0, u "<init>"), (0, u "()V"), (0, .methodref 8 9), (0, .class_ 10), (0, .nameAndType 11 12), (0, u "com/example/weighted_terms/weightedterms/search/Scores"), (0, u "sum"), (0, u "([FI)F"), (0, .class_ 14), (0, u "com/example/weighted_terms/weightedterms/search/ScoresSumPinLaw"), (2, u "law"), (0, u "(IIIIII)Z")] 5

def k1m0 : Method := { name := "<init>", desc := "()V", sig := { parameters := [], returnType := none }, accessFlags := 2, code := none }
def k1c1 : Code := { maxStack := 4, maxLocals := 18, code := code, exceptionTable := #[], attributes := #[] }
def k1m1 : Method := { name := "law", desc := "(IIIIII)Z", sig := { parameters := [.int, .int, .int, .int, .int, .int], returnType := some .boolean }, accessFlags := 9, code := some k1c1 }
/-- com/example/weighted_terms/weightedterms/search/ScoresSumPinLaw -/
def k1 : Class := { plain "com/example/weighted_terms/weightedterms/search/ScoresSumPinLaw" (some 0) with
  accessFlags := 49
  interfaces := #[]
  cf := some (fileOf pool1 13 #[] #[{ accessFlags := 2, nameIndex := 5, descriptorIndex := 6, attributes := #[] }, { accessFlags := 9, nameIndex := 17, descriptorIndex := 18, attributes := #[] }] 49 2 #[] #[])
  fields := #[]
  methods := #[k1m0, k1m1]
  instanceTypes := #[]
  staticTypes := #[]
  resolved := Array.replicate 24 none
  statics := none }

def pool2 : Array CpInfo := pool [(2, .class_ 4), (1, u "java/lang/Object"), (0, u "<init>"), (0, u "()V"), (1, .class_ 10), (1, u "com/example/weighted_terms/weightedterms/search/Scores"), (4, u "sum"), (0, u "([FI)F")] 39

def k2m0 : Method := { name := "<init>", desc := "()V", sig := { parameters := [], returnType := none }, accessFlags := 2, code := none }
def k2c1 : Code := { maxStack := 4, maxLocals := 5, code := prog_41_method_2_code, exceptionTable := #[], attributes := #[] }
def k2m1 : Method := { name := "sum", desc := "([FI)F", sig := { parameters := [(.array .float), .int], returnType := some .float }, accessFlags := 8, code := some k2c1 }
/-- com/example/weighted_terms/weightedterms/search/Scores -/
def k2 : Class := { plain "com/example/weighted_terms/weightedterms/search/Scores" (some 0) with
  accessFlags := 48
  interfaces := #[]
  cf := some (fileOf pool2 8 #[] #[{ accessFlags := 2, nameIndex := 5, descriptorIndex := 6, attributes := #[] }, { accessFlags := 8, nameIndex := 15, descriptorIndex := 16, attributes := #[] }] 48 2 #[] #[])
  fields := #[]
  methods := #[k2m0, k2m1]
  instanceTypes := #[]
  staticTypes := #[]
  resolved := Array.replicate 56 none
  statics := none }

def pool3 : Array CpInfo := pool [(1, u "java/lang/Cloneable"), (0, .class_ 1), (0, u "java/lang/Object"), (0, .class_ 3)] 3

/-- java/lang/Cloneable -/
def k3 : Class := { plain "java/lang/Cloneable" (some 0) with
  accessFlags := 1537
  interfaces := #[]
  cf := some (fileOf pool3 2 #[] #[] 1537 4 #[] #[])
  fields := #[]
  methods := #[]
  instanceTypes := #[]
  staticTypes := #[]
  resolved := Array.replicate 8 none
  statics := none }

def pool4 : Array CpInfo := pool [(1, u "java/io/Serializable"), (0, .class_ 1), (0, u "java/lang/Object"), (0, .class_ 3)] 3

/-- java/io/Serializable -/
def k4 : Class := { plain "java/io/Serializable" (some 0) with
  accessFlags := 1537
  interfaces := #[]
  cf := some (fileOf pool4 2 #[] #[] 1537 4 #[] #[])
  fields := #[]
  methods := #[]
  instanceTypes := #[]
  staticTypes := #[]
  resolved := Array.replicate 8 none
  statics := none }

/-- the primitive byte -/
def k5 : Class := { plain "byte" none with kind := .primitive 'B', accessFlags := 0x411 }
/-- [B -/
def k6 : Class := { plain "[B" (some 0) with kind := .array 5 .byte, interfaces := #[3, 4], accessFlags := 1041 }

/-- the primitive float -/
def k7 : Class := { plain "float" none with kind := .primitive 'F', accessFlags := 0x411 }
/-- [F -/
def k8 : Class := { plain "[F" (some 0) with kind := .array 7 .float, interfaces := #[3, 4], accessFlags := 1041 }

/-- the primitive int -/
def k9 : Class := { plain "int" none with kind := .primitive 'I', accessFlags := 0x411 }
/-- [I -/
def k10 : Class := { plain "[I" (some 0) with kind := .array 9 .int, interfaces := #[3, 4], accessFlags := 1041 }

def heap : Heap := #[]
def classes : Array Class := #[k0, k1, k2, k3, k4, k5, k6, k7, k8, k9, k10]
def interned : List (Array UInt16 × Addr) := []
def slotsUsed : Nat := 0
def theMethod : MethodId := ⟨1, 1⟩
def args0 : Array Value := #[.int 500, .int 300, .int 400, .int 700, .int 2, .int 3]
def aboutOver (below : List Frame) : State where
  vm := { classes := classes, interned := interned.toArray }
  heap := heap
  slotsUsed := slotsUsed
  threads := #[{ frames := .invoking theMethod args0 :: below }]
def below0 : List Frame := [.native { method := ⟨0, 0⟩, args := #[] }]
def about1 : State := aboutOver below0
def p0 : Program := .bare "" "" ""
def e0 : Env := launch0.env 0 0 0
theorem w_frames : about1.frames = Frame.invoking theMethod args0 :: below0 := rfl
set_option maxRecDepth 65536 in
theorem w_args : argsFit about1.vm theMethod args0 = true := by decide +kernel
set_option maxRecDepth 65536 in
theorem w_heap : heapFits about1 = true := by decide +kernel
set_option maxRecDepth 65536 in
theorem w_runnable : about1.curStatus? = some .runnable := by decide +kernel
set_option maxRecDepth 65536 in
theorem w_alone : about1.alone = true := by decide +kernel
set_option maxRecDepth 65536 in
theorem w_named : about1.methodNamed? x = some theMethod := by decide +kernel
set_option maxRecDepth 65536 in
theorem w_hears : about1.hears theMethod below0 = true := by decide +kernel
set_option maxRecDepth 65536 in
theorem w_ripe : about1.ripe theMethod args0 below0 = true := by decide +kernel
theorem w_running : about1.status = .running := rfl
set_option maxRecDepth 65536 in
theorem w_room : about1.hasRoom e0.platform room_1 = true :=
  launch0.hasRoom_least _ room_1 (by decide +kernel) (by decide +kernel) (by decide +kernel) (by decide +kernel) (by decide +kernel) (by decide +kernel)
theorem allAtoms_all (ts : List Jvm.Cond) (a : Array Jvm.Value) (st : Jvm.State) : (allAtoms ts).before a st = ts.all (fun c => c.before a st) := by
  induction ts with
  | nil => rfl
  | cons c t ih =>
    show (Jvm.Cond.and c (allAtoms t)).before a st = _
    rw [Jvm.Cond.before_and, ih, List.all_cons]
def words1 : List Jvm.Cond := Jvm.Cond.code x code maxLocals ret :: tables_1
/-- a 'code' word, met by the world's own term for the bytes: nothing is compared byte by byte -/
theorem code_word {y : MethodName} {bytes : ByteArray} {mx : Nat} {rt : Option FieldType} {a : Array Value} {s : State} {m : MethodId} {meth : Method} {c : Code} (h1 : s.methodNamed? y = some m) (h2 : s.vm.method? m = some meth) (h3 : meth.code = some c) (h4 : c.code = bytes)
    (h5 : (c.maxLocals == mx && c.exceptionTable.isEmpty && decide (c.maxStack ≤ mostOperands) && decide (meth.sig.returnType = rt) && !meth.locks && decide (parseMethodDescriptor y.desc = some meth.sig)) = true) : (Jvm.Cond.code y bytes mx rt).before a s = true := by
  simp only [Bool.and_eq_true, beq_iff_eq, Bool.not_eq_true', decide_eq_true_eq] at h5
  obtain ⟨⟨⟨⟨⟨g1, g2⟩, g3⟩, g4⟩, g5⟩, g6⟩ := h5
  simp [Cond.before, Cond.holds, Cond.value, h1, h2, h3, h4, g1, g2, g3, g4, g5, g6]
def isCode : Jvm.Cond → Bool
  | .code _ _ _ _ => true
  | _ => false
theorem all_split {L : List Jvm.Cond} {P : Jvm.Cond → Bool} (h1 : L.all (fun c => isCode c || P c) = true) (h2 : ∀ c ∈ L.filter isCode, P c = true) : L.all P = true := by
  refine List.all_eq_true.mpr fun c hc => ?_
  have h := List.all_eq_true.mp h1 c hc
  rcases Bool.eq_false_or_eq_true (isCode c) with hi | hi
  · exact h2 c (List.mem_filter.mpr ⟨hc, hi⟩)
  · simpa [hi] using h
set_option maxRecDepth 65536 in
theorem w_c0 : (Jvm.Cond.code x code maxLocals ret).before args0 about1 = true := code_word (m := ⟨1, 1⟩) (meth := k1m1) (c := k1c1) (by decide +kernel) rfl rfl rfl (by decide +kernel)
set_option maxRecDepth 65536 in
theorem w_c1 : (Jvm.Cond.code ({ cls := "com/example/weighted_terms/weightedterms/search/Scores", name := "sum", desc := "([FI)F" } : Jvm.MethodName) prog_41_method_2_code (5 : Nat) (Option.some Jvm.ClassFile.FieldType.float)).before args0 about1 = true := code_word (m := ⟨2, 1⟩) (meth := k2m1) (c := k2c1) (by decide +kernel) rfl rfl rfl (by decide +kernel)
def codes1 : List Jvm.Cond := [Jvm.Cond.code x code maxLocals ret, Jvm.Cond.code ({ cls := "com/example/weighted_terms/weightedterms/search/Scores", name := "sum", desc := "([FI)F" } : Jvm.MethodName) prog_41_method_2_code (5 : Nat) (Option.some Jvm.ClassFile.FieldType.float)]
set_option maxRecDepth 65536 in
theorem codes_eq : words1.filter isCode = codes1 := rfl
theorem w_codes : ∀ c ∈ words1.filter isCode, c.before args0 about1 = true := by
  rw [codes_eq]
  intro c hc
  simp only [codes1, List.mem_cons, List.not_mem_nil, or_false] at hc
  rcases hc with rfl | rfl
  · exact w_c0
  · exact w_c1
set_option maxRecDepth 65536 in
theorem w_t1 : words1.all (fun c => isCode c || c.before args0 about1) = true := by decide +kernel
theorem w_tables : (allAtoms (Jvm.Cond.code x code maxLocals ret :: tables_1)).before args0 about1 = true := by
  rw [allAtoms_all]
  show words1.all (fun c => c.before args0 about1) = true
  refine all_split ?_ w_codes
  rw [w_t1]
set_option maxRecDepth 65536 in
theorem w_case : (Jvm.Cond.and given_1 narrow_1).before args0 about1 = true := by decide +kernel
theorem w_applies : (headSpec (Jvm.Cond.code x code maxLocals ret :: tables_1) room_1).applies x e0.platform about1 = true :=
  (Spec.applies_iff w_frames).mpr ⟨w_running, w_runnable, w_alone, w_named, w_hears, w_ripe, w_room, w_tables⟩
theorem atStart : AtStart classFile x code maxLocals ret World_1 tables_1 room_1 Calls_1 rest_1 Pre_1 launch0 p0 e0 about1 theMethod args0 below0 :=
  ⟨lists_1, trivial, launch0.admits_env _ _ _, launch0.least_env, fairChoices_fair.cas, fairChoices_fair.clock, w_frames, w_args, w_heap, w_applies, trivial, trivial, w_case⟩
end start1
theorem witness_1 : WitnessClaimed_1 := ⟨start1.p0, start1.e0, start1.about1, start1.theMethod, start1.args0, start1.below0, start1.atStart⟩
end Jvm.Pilot.@@N@@
