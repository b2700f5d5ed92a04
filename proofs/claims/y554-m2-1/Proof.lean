import JvmDerived
import JvmDerived.Pilot.@@N@@Statement
import JvmDerived.Pilot.@@N@@Code
set_option linter.unusedVariables false
set_option linter.unusedSimpArgs false
namespace Jvm.Pilot.@@N@@
open Jvm Jvm.ClassFile Sem Op Lib Jvm.Free Jvm.Stand Jvm.LawKit Jvm.RoadKit Bundle Jvm.Pilot.@@N@@.Jvm.D
abbrev oI (x : Int32) : Slot := .val (.int x)
abbrev oR (x : Addr) : Slot := .val (.ref x)
abbrev oD (x : UInt64) : Slot := .val (.double x)
abbrev oF (x : UInt32) : Slot := .val (.float x)
abbrev oJ (x : Int64) : Slot := .val (.long x)
section Own
variable {p : Program} {l : Launch} {e : Env} {R : Room} {s : State} {m : MethodId} {args : Array Value} {below : List Frame} {meth : Method} {c : Code} {T T' : State} {locs : List Loc} {cells slots : Nat} {Z : State} {a0 : Array Value} {h h0 : Heap} {K : State → Outcome → Prop} {Q : Option Value → Heap → List Loc → Prop}
/-- from the frame g over the state T the run comes to an end that K takes -/
def own_Go (p : Program) (e : Env) (below : List Frame) (K : State → Outcome → Prop) (T : State) (g : JFrame) : Prop :=
  ∃ s₂ o, Steps p.tables e below (T.setTop g) s₂ ∧ s₂.status = .running ∧ Ended s₂ below o ∧ K s₂ o
theorem own_by {g g' : JFrame} (h : ∀ t, Steps p.tables e below (T'.setTop g') t → Steps p.tables e below (T.setTop g) t) (k : own_Go p e below K T' g') : own_Go p e below K T g := by
  obtain ⟨s2, o, h1, h2⟩ := k
  exact ⟨s2, o, h _ h1, h2⟩
def own_K (s : State) (k n : Nat) (Q : Option Value → Heap → List Loc → Prop) (t : State) (o : Outcome) : Prop := ∃ v L, o = .returned v ∧ Q v t.heap L ∧ FrameEnd s o t L k n
def own_Met (l : Launch) (y : MethodName) (bytes : ByteArray) (mx : Nat) (ret : Option FieldType) (ws : List Jvm.Cond) (rm : Room) (Z : State) (as' : Array Value) (h0 : Heap) (Q : Option Value → Heap → List Loc → Prop) : Prop :=
  MetFree l y (head1 (Jvm.Cond.code y bytes mx ret :: ws) rm) (fun a U => a = as' ∧ Z.Warmed39 U.vm ∧ U.heap = h0) (fun _ _ _ _ _ => True) (fun _ U o U' => ∃ v L, o = .returned v ∧ Q v U'.heap L ∧ FrameEnd U o U' L rm.cells rm.slots)
theorem own_enter {y : MethodName} {bytes : ByteArray} {mx : Nat} {ret : Option FieldType} {ws : List Jvm.Cond} {rm : Room} {as' : Array Value} (hn : plainFor y = true)
    (body : ∀ (p : Program) (e : Env) (s : State) (m : MethodId) (below : List Frame) (meth : Method) (c : Code) (T0 : State), p.tables.exec = Jvm.exec → c.code = bytes → c.maxLocals = mx → meth.sig.returnType = ret → meth.locks = false → s.vm.findClass y.cls = some m.cls → meth.name = y.name → Z.Warmed39 s.vm →
      Stand p l e rm s m as' below meth c T0 [] 0 0 → T0.heap = h0 → own_Go p e below (own_K s rm.cells rm.slots Q) T0 (entryFrame m as' mx)) : own_Met l y bytes mx ret ws rm Z as' h0 Q := by
  refine MetFree.of_bodySF hn hisR ?_
  intro p e s m args below meth c s₁ Bd hml hP hK
  obtain ⟨rfl, hZ, hh⟩ := hP
  obtain ⟨s2, o, h1, h2, h3, h4⟩ := body p e s m below meth c s₁ Bd.exec Bd.bytes hml Bd.returns Bd.notSynchronized (findClass_of_methodNamed Bd.named) (name_of_methodNamed Bd.named Bd.method).1 hZ (Stand.of_body Bd) (by rw [← hh, Bd.state]; rfl)
  exact ⟨s2, o, h1, h2, h3, h4⟩
theorem own_at {g g' : JFrame} (q : g = g') (k : own_Go p e below K T g') : own_Go p e below K T g := q ▸ k
theorem own_leave (X : Stand p l e R s m args below meth c T locs cells slots) (hlk : meth.locks = false) {v : Option Value} {k n : Nat} (hv : meth.sig.returnType = none → v = none) {g : JFrame}
    (step : ∀ fs, (∀ (f : JFrame) (acts : List Action), f.method = m → f.locked = none → f.entered = [] → (doReturn e (T.setTop f) acts v).1 = T.setFrames fs) → Steps p.tables e below (T.setTop g) (T.setFrames fs)) (hk : cells ≤ k) (hn : slots ≤ n) (hQ : Q v T.heap locs) : own_Go p e below (own_K s k n Q) T g := by
  obtain ⟨fs, hr, hrun, hended, hW, hsame⟩ := X.leave (v := v) hv hlk
  exact ⟨_, _, step fs hr, hrun, hended, v, locs, rfl, hQ, ⟨_, rfl⟩, hW, hsame.mono hk hn⟩
theorem own_retI (X : Stand p l e R s m args below meth c T locs cells slots) (hx : p.tables.exec = Jvm.exec) (hlk : meth.locks = false) (hret : meth.sig.returnType = some .int) {pc : Nat} {Ls : Array Slot} {z : Int32} {rest : List Value} {k n : Nat} (hd : decode c.code pc = .ok (.ireturn, 1)) (hk : cells ≤ k) (hn : slots ≤ n) (hQ : Q (some (.int z)) T.heap locs) :
    own_Go p e below (own_K s k n Q) T (mkF m pc Ls (.int z :: rest)) := by
  refine own_leave X hlk (v := some (.int z)) (fun h => by rw [hret] at h; cases h) (fun fs hl => ?_) hk hn hQ
  have hm' : T.vm.method? m = some meth := X.method'
  have hn : narrow .int (.int z) = .int z := rfl
  show Steps p.tables e below (T.setTop { method := m, pc := pc, locals := Ls, stack := _ :: rest, locked := none }) _
  jvm_step X.here [X.here.top, hx, hd, hm', hret, hn]
  first | (intro acts; rw [hl _ acts rfl rfl rfl]) | rw [hl _ _ rfl rfl rfl]
  exact Steps.refl _
theorem own_retN (X : Stand p l e R s m args below meth c T locs cells slots) (hx : p.tables.exec = Jvm.exec) (hlk : meth.locks = false) {t : FieldType} (hret : meth.sig.returnType = some t) (ht : t = .boolean ∨ t = .byte ∨ t = .char ∨ t = .short) {pc : Nat} {Ls : Array Slot} {z w : Int32} {rest : List Value} {k n : Nat} (hd : decode c.code pc = .ok (.ireturn, 1)) (hw : nar t z = w) (hk : cells ≤ k) (hn : slots ≤ n) (hQ : Q (some (.int w)) T.heap locs) :
    own_Go p e below (own_K s k n Q) T (mkF m pc Ls (.int z :: rest)) := by
  subst hw
  exact own_leave X hlk (v := some (.int (nar t z))) (fun h => by rw [hret] at h; cases h) (fun fs hl => retN X hx hret ht hd hl) hk hn hQ
theorem own_retA (X : Stand p l e R s m args below meth c T locs cells slots) (hx : p.tables.exec = Jvm.exec) (hlk : meth.locks = false) {t : FieldType} (hret : meth.sig.returnType = some t) (ht : t.isReference = true) {pc : Nat} {Ls : Array Slot} {v : Value} (hv : v.isRef = true) {rest : List Value} {k n : Nat} (hd : decode c.code pc = .ok (.areturn, 1)) (hk : cells ≤ k) (hn : slots ≤ n) (hQ : Q (some v) T.heap locs) :
    own_Go p e below (own_K s k n Q) T (mkF m pc Ls (v :: rest)) :=
  own_leave X hlk (v := some v) (fun h => by rw [hret] at h; cases h) (fun fs hl => retOut X hx hret (by cases t <;> first | (cases ht; done) | (rcases ref_cases hv with rfl | ⟨a, rfl⟩ <;> rfl)) (Or.inr (Or.inr (Or.inr (Or.inr ⟨rfl, ht, hv⟩)))) hd hl) hk hn hQ
theorem own_retV (X : Stand p l e R s m args below meth c T locs cells slots) (hx : p.tables.exec = Jvm.exec) (hlk : meth.locks = false) (hret : meth.sig.returnType = none) {pc : Nat} {Ls : Array Slot} {k n : Nat} (hd : decode c.code pc = .ok (.return_, 1)) (hk : cells ≤ k) (hn : slots ≤ n) (hQ : Q none T.heap locs) :
    own_Go p e below (own_K s k n Q) T (mkF m pc Ls []) :=
  own_leave X hlk (v := none) (fun _ => rfl) (fun fs hl => X.returnOut hx hret hd hl) hk hn hQ
theorem own_callS (X : Stand p l e R s m args below meth c T locs cells slots) (hx : p.tables.exec = Jvm.exec) (hZ : Z.Warmed39 s.vm) {own : String} {index : Nat} {y : MethodName} {bytes : ByteArray} {mx : Nat} {ret : Option FieldType} {rm : Room} (hown : s.vm.findClass own = some m.cls) (w1 : (Jvm.Cond.methodLink own index y).before a0 Z = true) (w2 : (Jvm.Cond.static y).before a0 Z = true) (w3 : (Jvm.Cond.initialized y.cls).before a0 Z = true) (w4 : (Jvm.Cond.code y bytes mx ret).before a0 Z = true)
    (hy : y.cls ≠ "java/lang/invoke/MethodHandle" ∧ y.cls ≠ "java/lang/invoke/VarHandle") (eT : T.heap = h) {argsL rest : List Value} (M : own_Met l y bytes mx ret [] rm Z argsL.toArray h Q) (W : Nat) (hf : rm.frames + 1 ≤ R.frames) (hl : W + (mx + 11) + rm.locals ≤ R.locals) {pc : Nat} {Ls : Array Slot} (hsize : Ls.size = c.maxLocals)
    (hlen : ∀ sig, parseMethodDescriptor y.desc = some sig → argsL.length = sig.parameters.length) (hW : (rest.map fun v => v.category).sum ≤ W) (hd : decode c.code pc = .ok (.invokestatic index, 3)) (hc : cells + rm.cells ≤ R.cells) (hs : slots + rm.slots ≤ R.slots) {st : List Value} (hst : st = argsL.reverse ++ rest)
    (k : ∀ (T' : State) (L : List Loc) (v : Option Value), Stand p l e R s m args below meth c T' (locs ++ L) (cells + rm.cells) (slots + rm.slots) → Q v T'.heap L → own_Go p e below K T' (mkF m (pc + 3) Ls (v.toList ++ rest))) : own_Go p e below K T (mkF m pc Ls st) := by
  obtain ⟨v, _, ⟨T1, L1, k1, n1⟩, -, X1, ⟨Lc, hQ, l1, y1, z1⟩, stp⟩ := Jvm.LawKit.callS X hx hown (mvT hZ w1) (mvT hZ w2) (mvT hZ w3) (mvT hZ w4) hy (backOf (W := W) M hZ w4 w3 hf hl) (g := mkF m pc Ls st) rfl hsize (argsL := argsL) (rest := rest) hlen hst (by show 2 * 0 + _ ≤ _; omega) hd (fun _ _ => ⟨rfl, eT, hc, hs⟩)
  dsimp only [Pt.U, Pt.locs, Pt.cells, Pt.slots] at X1 l1 y1 z1 stp hQ
  subst l1 y1 z1
  exact own_by stp (k T1 Lc v X1 hQ)
theorem own_callV (X : Stand p l e R s m args below meth c T locs cells slots) (hx : p.tables.exec = Jvm.exec) (hZ : Z.Warmed39 s.vm) {own C : String} {index : Nat} {y : MethodName} {bytes : ByteArray} {mx : Nat} {ret : Option FieldType} {rm : Room} (hown : s.vm.findClass own = some m.cls) (w1 : (Jvm.Cond.methodLink own index y).before a0 Z = true) (w2 : (Jvm.Cond.declares y).before a0 Z = true) (w3 : (Jvm.Cond.selects C y y).before a0 Z = true) (w4 : (Jvm.Cond.instanceMethod y).before a0 Z = true) (w5 : (Jvm.Cond.code y bytes mx ret).before a0 Z = true) (w6 : (Jvm.Cond.initialized y.cls).before a0 Z = true)
    (hy : y.cls ≠ "java/lang/invoke/MethodHandle" ∧ y.cls ≠ "java/lang/invoke/VarHandle") (eT : T.heap = h) {b : Addr} (E : Exa Z h b C) {argsL rest : List Value} (M : own_Met l y bytes mx ret [] rm Z (.ref b :: argsL).toArray h Q) (W : Nat) (hf : rm.frames + 1 ≤ R.frames) (hl : W + (mx + 11) + rm.locals ≤ R.locals) {pc : Nat} {Ls : Array Slot} (hsize : Ls.size = c.maxLocals)
    (hlen : ∀ sig, parseMethodDescriptor y.desc = some sig → argsL.length = sig.parameters.length) (hW : (rest.map fun v => v.category).sum ≤ W) (hd : decode c.code pc = .ok (.invokevirtual index, 3)) (hc : cells + rm.cells ≤ R.cells) (hs : slots + rm.slots ≤ R.slots) {st : List Value} (hst : st = argsL.reverse ++ .ref b :: rest)
    (k : ∀ (T' : State) (L : List Loc) (v : Option Value), Stand p l e R s m args below meth c T' (locs ++ L) (cells + rm.cells) (slots + rm.slots) → Q v T'.heap L → own_Go p e below K T' (mkF m (pc + 3) Ls (v.toList ++ rest))) : own_Go p e below K T (mkF m pc Ls st) := by
  obtain ⟨cq, kq, qa, qb, qc⟩ := isOf (T := T) hZ eT E
  obtain ⟨v, _, ⟨T1, L1, k1, n1⟩, -, X1, ⟨Lc, hQ, l1, y1, z1⟩, stp⟩ := X.virtualBack hx hown (mvT hZ w1) (mvT hZ w2) (notFace_of_selects (args := #[]) (mvT hZ w3)) (mvT hZ w3) (mvT hZ w4) hy (backOf (W := W) M hZ w5 w6 hf hl) qa qc (g := mkF m pc Ls st) rfl hsize (Steps.refl _) (argsL := argsL) (rest := rest) hlen hst (by show 2 * 0 + _ ≤ _; omega) hd (fun _ _ => ⟨rfl, eT, hc, hs⟩)
  dsimp only [Pt.U, Pt.locs, Pt.cells, Pt.slots] at X1 l1 y1 z1 stp hQ
  subst l1 y1 z1
  exact own_by (fun t q => stp.trans q) (k T1 Lc v X1 hQ)
theorem own_callN (X : Stand p l e R s m args below meth c T locs cells slots) (hx : p.tables.exec = Jvm.exec) (hZ : Z.Warmed39 s.vm) {own : String} {index : Nat} {y : MethodName} {bytes : ByteArray} {mx : Nat} {rm : Room} (hy1 : y.name = "<init>") (hown : s.vm.findClass own = some m.cls) (w1 : (Jvm.Cond.methodLink own index y).before a0 Z = true) (w2 : (Jvm.Cond.instanceMethod y).before a0 Z = true) (w3 : (Jvm.Cond.code y bytes mx none).before a0 Z = true) (w4 : (Jvm.Cond.initialized y.cls).before a0 Z = true)
    (hy : y.cls ≠ "java/lang/invoke/MethodHandle" ∧ y.cls ≠ "java/lang/invoke/VarHandle") (eT : T.heap = h) {b : Addr} {argsL rest : List Value} (M : own_Met l y bytes mx none [] rm Z (.ref b :: argsL).toArray h Q) (W : Nat) (hf : rm.frames + 1 ≤ R.frames) (hl : W + (mx + 11) + rm.locals ≤ R.locals) {pc : Nat} {Ls : Array Slot} (hsize : Ls.size = c.maxLocals)
    (hlen : ∀ sig, parseMethodDescriptor y.desc = some sig → argsL.length = sig.parameters.length) (hW : (rest.map fun v => v.category).sum ≤ W) (hd : decode c.code pc = .ok (.invokespecial index, 3)) (hc : cells + rm.cells ≤ R.cells) (hs : slots + rm.slots ≤ R.slots) {st : List Value} (hst : st = argsL.reverse ++ .ref b :: rest)
    (k : ∀ (T' : State) (L : List Loc) (v : Option Value), Stand p l e R s m args below meth c T' (locs ++ L) (cells + rm.cells) (slots + rm.slots) → Q v T'.heap L → own_Go p e below K T' (mkF m (pc + 3) Ls (v.toList ++ rest))) : own_Go p e below K T (mkF m pc Ls st) := by
  obtain ⟨v, _, ⟨T1, L1, k1, n1⟩, -, X1, ⟨Lc, hQ, l1, y1, z1⟩, stp⟩ := X.specialBack hx hy1 hown (mvT hZ w1) (mvT hZ w2) (mvT hZ w3) hy (backOf (W := W) M hZ w3 w4 hf hl) (g := mkF m pc Ls st) rfl hsize (Steps.refl _) (a := b) (argsL := argsL) (rest := rest) hlen hst (by show 2 * 0 + _ ≤ _; omega) hd (fun _ _ => ⟨rfl, eT, hc, hs⟩)
  dsimp only [Pt.U, Pt.locs, Pt.cells, Pt.slots] at X1 l1 y1 z1 stp hQ
  subst l1 y1 z1
  exact own_by (fun t q => stp.trans q) (k T1 Lc v X1 hQ)
end Own
section OwnHeap
variable {p : Program} {l : Launch} {e : Env} {R : Room} {s : State} {m : MethodId} {args : Array Value} {below : List Frame} {meth : Method} {c : Code} {T T' : State} {locs : List Loc} {cells slots : Nat} {Z : State} {a0 : Array Value} {h h' h0 : Heap} {K : State → Outcome → Prop} {Q : Option Value → Heap → List Loc → Prop} {a b : Addr} {ty : FieldType} {k : ClassId} {vs : List Value} {ws : List Addr} {sl : Nat} {v w : Value} {C n d : String}
/-- the array at a, of the class k, holds just vs -/
def own_A (Z : State) (h : Heap) (a : Addr) (ty : FieldType) (k : ClassId) (vs : List Value) : Prop := ∃ c : Cell, Arr Z h a c ty ∧ c.cls = k ∧ c.slots.toList = vs
theorem own_A.ext (V : own_A Z h a ty k vs) (E : Ext h h') : own_A Z h' a ty k vs := by obtain ⟨c, A, r⟩ := V; exact ⟨c, A.ext E, r⟩
theorem own_A.keep (V : own_A Z h a ty k vs) (K : Keep h h' ws) (q : a ∉ ws) : own_A Z h' a ty k vs := by obtain ⟨c, A, r⟩ := V; exact ⟨c, ⟨K.2.1 a c A.1 q, A.2⟩, r⟩
theorem own_A.other (V : own_A Z h b ty k vs) (W : Wr h h' a sl v) (q : b ≠ a) : own_A Z h' b ty k vs := by obtain ⟨c, A, r⟩ := V; exact ⟨c, A.other W q, r⟩
theorem own_A.set (V : own_A Z h a ty k vs) (W : Wr h h' a sl v) : own_A Z h' a ty k (vs.set sl v) := by
  obtain ⟨c, A, r1, r2⟩ := V
  exact ⟨_, A.same W, r1, by rw [← r2]; simp [Cell.setSlot]⟩
theorem own_A.lt (V : own_A Z h a ty k vs) : a < h.size := by obtain ⟨c, A, -⟩ := V; exact A.lt
theorem own_ek (E : Ext h h') : Keep h h' [] := (Keep.refl h []).ext E
theorem own_stak (F : Sta Z h C n d v) (K : Keep h h' []) : Sta Z h' C n d v := by
  obtain ⟨cf, i, k, f, st, cell, h1, h2, h3, h4, h5, r⟩ := F
  exact ⟨cf, i, k, f, st, cell, h1, h2, h3, h4, K.2.1 _ _ h5 nin0, r⟩
theorem own_in {c : Cell} (q : c.slots.toList = vs) {j : Int32} (hj : ¬ j < 0) (hi : j.toNatClampNeg < vs.length) : ¬ (j < 0 ∨ c.slots.size ≤ j.toNatClampNeg) := by
  rintro (h | h)
  · exact hj h
  · rw [← q, Array.length_toList] at hi; omega
theorem own_get {c : Cell} (q : c.slots.toList = vs) (i : Nat) : c.slots[i]? = vs[i]? := by rw [← q, Array.getElem?_toList]
theorem own_newP (X : Stand p l e R s m args below meth c T locs cells slots) (hx : p.tables.exec = Jvm.exec) (hZ : Z.Warmed39 s.vm) {aty : ArrayType} (w : (Jvm.Cond.arrayClass (newarray.typeOf aty)).before a0 Z = true) (eT : T.heap = h) {pc : Nat} {Ls : Array Slot} {n : Int32} {rest : List Value} (hd : decode c.code pc = .ok (.newarray aty, 2)) (N cap : Nat) (hN : n.toNatClampNeg = N) (hn : ¬ n < 0) (hcap : N ≤ cap) (hb : cap * 8 ≤ 536870912) (hc : cells + 1 ≤ R.cells) (hl : slots + cap ≤ R.slots)
    (kk : ∀ (T' : State) (h' : Heap) (cA : ClassId), Stand p l e R s m args below meth c T' locs (cells + 1) (slots + cap) → T'.heap = h' → Ext h h' → own_A Z h' h.size (newarray.typeOf aty) cA (List.replicate N (defaultValue (newarray.typeOf aty))) → own_Go p e below K T' (mkF m (pc + 2) Ls (.ref h.size :: rest))) :
    own_Go p e below K T (mkF m pc Ls (.int n :: rest)) := by
  obtain ⟨T', h', cA, X', e', E, A, st⟩ := newP X hx hZ w eT (g := mkF m pc Ls (.int n :: rest)) rfl hd (n := n) (rest := rest) rfl hn (cap := cap) (by rw [hN]; exact hcap) hb hc hl
  exact own_by st (kk T' h' cA X' e' E ⟨_, A, rfl, by simp [newA, hN]⟩)
theorem own_newR (X : Stand p l e R s m args below meth c T locs cells slots) (hx : p.tables.exec = Jvm.exec) (hZ : Z.Warmed39 s.vm) {own C : String} {index : Nat} (hown : s.vm.findClass own = some m.cls) (w1 : (Jvm.Cond.classLink own index C).before a0 Z = true) (w2 : (Jvm.Cond.arrayOver (.object C)).before a0 Z = true) (eT : T.heap = h) {pc : Nat} {Ls : Array Slot} {n : Int32} {rest : List Value} (hd : decode c.code pc = .ok (.anewarray index, 3)) (N cap : Nat) (hN : n.toNatClampNeg = N) (hn : ¬ n < 0) (hcap : N ≤ cap) (hb : cap * 8 ≤ 536870912) (hc : cells + 1 ≤ R.cells) (hl : slots + cap ≤ R.slots)
    (kk : ∀ (T' : State) (h' : Heap) (cA : ClassId), Stand p l e R s m args below meth c T' locs (cells + 1) (slots + cap) → T'.heap = h' → Ext h h' → own_A Z h' h.size (.object C) cA (List.replicate N .null) → Ovr Z cA C → own_Go p e below K T' (mkF m (pc + 3) Ls (.ref h.size :: rest))) :
    own_Go p e below K T (mkF m pc Ls (.int n :: rest)) := by
  obtain ⟨T', h', cA, X', e', E, A, O, st⟩ := newR X hx hZ hown w1 w2 eT (g := mkF m pc Ls (.int n :: rest)) rfl hd (n := n) (rest := rest) rfl hn (cap := cap) (by rw [hN]; exact hcap) hb hc hl
  exact own_by st (kk T' h' cA X' e' E ⟨_, A, rfl, by simp [newA, hN, defaultValue]⟩ O)
theorem own_stI (X : Stand p l e R s m args below meth c T locs cells slots) (hx : p.tables.exec = Jvm.exec) (hZ : Z.Warmed39 s.vm) (eT : T.heap = h) (V : own_A Z h a .int k vs) {j x : Int32} (i : Nat) (hi : j.toNatClampNeg = i) (hj : ¬ j < 0) (hl : i < vs.length) {pc : Nat} {Ls : Array Slot} {rest : List Value} (hd : decode c.code pc = .ok (.iastore, 1))
    (kk : ∀ (T' : State) (h' : Heap), Stand p l e R s m args below meth c T' (locs ++ [⟨a, i⟩]) cells slots → T'.heap = h' → Wr h h' a i (.int x) → own_A Z h' a .int k (vs.set i (.int x)) → own_Go p e below K T' (mkF m (pc + 1) Ls rest)) :
    own_Go p e below K T (mkF m pc Ls (.int x :: .int j :: .ref a :: rest)) := by
  subst hi
  obtain ⟨cl, A, q1, q2⟩ := V
  obtain ⟨T', h', X', e', W, st⟩ := stI X hx hZ eT A (j := j) (x := x) (own_in q2 hj hl) (g := mkF m pc Ls (.int x :: .int j :: .ref a :: rest)) rfl rfl hd
  exact own_by st (kk T' h' X' e' W (own_A.set ⟨cl, A, q1, q2⟩ W))
theorem own_stC (X : Stand p l e R s m args below meth c T locs cells slots) (hx : p.tables.exec = Jvm.exec) (hZ : Z.Warmed39 s.vm) (eT : T.heap = h) (V : own_A Z h a .char k vs) {j x y : Int32} (i : Nat) (hi : j.toNatClampNeg = i) (hj : ¬ j < 0) (hl : i < vs.length) (hy : nar .char x = y) {pc : Nat} {Ls : Array Slot} {rest : List Value} (hd : decode c.code pc = .ok (.castore, 1))
    (kk : ∀ (T' : State) (h' : Heap), Stand p l e R s m args below meth c T' (locs ++ [⟨a, i⟩]) cells slots → T'.heap = h' → Wr h h' a i (.int y) → own_A Z h' a .char k (vs.set i (.int y)) → own_Go p e below K T' (mkF m (pc + 1) Ls rest)) :
    own_Go p e below K T (mkF m pc Ls (.int x :: .int j :: .ref a :: rest)) := by
  subst hi; subst hy
  obtain ⟨cl, A, q1, q2⟩ := V
  obtain ⟨T', h', X', e', W, st⟩ := stC X hx hZ eT A (j := j) (x := x) (own_in q2 hj hl) (g := mkF m pc Ls (.int x :: .int j :: .ref a :: rest)) rfl rfl hd
  exact own_by st (kk T' h' X' e' W (own_A.set ⟨cl, A, q1, q2⟩ W))
theorem own_stZ (X : Stand p l e R s m args below meth c T locs cells slots) (hx : p.tables.exec = Jvm.exec) (hZ : Z.Warmed39 s.vm) (eT : T.heap = h) (V : own_A Z h a .boolean k vs) {j x y : Int32} (i : Nat) (hi : j.toNatClampNeg = i) (hj : ¬ j < 0) (hl : i < vs.length) (hy : nar .boolean x = y) {pc : Nat} {Ls : Array Slot} {rest : List Value} (hd : decode c.code pc = .ok (.bastore, 1))
    (kk : ∀ (T' : State) (h' : Heap), Stand p l e R s m args below meth c T' (locs ++ [⟨a, i⟩]) cells slots → T'.heap = h' → Wr h h' a i (.int y) → own_A Z h' a .boolean k (vs.set i (.int y)) → own_Go p e below K T' (mkF m (pc + 1) Ls rest)) :
    own_Go p e below K T (mkF m pc Ls (.int x :: .int j :: .ref a :: rest)) := by
  subst hi; subst hy
  obtain ⟨cl, A, q1, q2⟩ := V
  obtain ⟨T', h', X', e', W, st⟩ := stZ X hx hZ eT A (j := j) (x := x) (own_in q2 hj hl) (g := mkF m pc Ls (.int x :: .int j :: .ref a :: rest)) rfl rfl hd
  exact own_by st (kk T' h' X' e' W (own_A.set ⟨cl, A, q1, q2⟩ W))
theorem own_stR (X : Stand p l e R s m args below meth c T locs cells slots) (hx : p.tables.exec = Jvm.exec) (hZ : Z.Warmed39 s.vm) (eT : T.heap = h) (V : own_A Z h a ty k vs) (hty : ty.isReference = true) {j : Int32} {v : Value} (i : Nat) (hi : j.toNatClampNeg = i) (hj : ¬ j < 0) (hl : i < vs.length) (F : Sto Z h a v) {pc : Nat} {Ls : Array Slot} {rest : List Value} (hd : decode c.code pc = .ok (.aastore, 1))
    (kk : ∀ (T' : State) (h' : Heap), Stand p l e R s m args below meth c T' (locs ++ [⟨a, i⟩]) cells slots → T'.heap = h' → Wr h h' a i v → own_A Z h' a ty k (vs.set i v) → own_Go p e below K T' (mkF m (pc + 1) Ls rest)) :
    own_Go p e below K T (mkF m pc Ls (v :: .int j :: .ref a :: rest)) := by
  subst hi
  obtain ⟨cl, A, q1, q2⟩ := V
  obtain ⟨T', h', X', e', W, st⟩ := stR X hx hZ eT A (j := j) (v := v) (own_in q2 hj hl) hty F (g := mkF m pc Ls (v :: .int j :: .ref a :: rest)) rfl rfl hd
  exact own_by st (kk T' h' X' e' W (own_A.set ⟨cl, A, q1, q2⟩ W))
theorem own_sto {y : Addr} {C : String} (V : own_A Z h a ty k vs) (O : Ovr Z k C) (E : Exa Z h y C) : Sto Z h a (.ref y) := by
  obtain ⟨cl, A, q1, -⟩ := V
  exact Sto.ofV A q1 O (Ins.self E)
theorem own_ldI (X : Stand p l e R s m args below meth c T locs cells slots) (hx : p.tables.exec = Jvm.exec) (hZ : Z.Warmed39 s.vm) (eT : T.heap = h) (V : own_A Z h a .int k vs) {j : Int32} {v : Value} (i : Nat) (hi : j.toNatClampNeg = i) (hj : ¬ j < 0) (hv : vs[i]? = some v) {pc : Nat} {Ls : Array Slot} {rest : List Value} (hd : decode c.code pc = .ok (.iaload, 1))
    (kk : own_Go p e below K T (mkF m (pc + 1) Ls (v :: rest))) : own_Go p e below K T (mkF m pc Ls (.int j :: .ref a :: rest)) := by
  subst hi
  obtain ⟨cl, A, q1, q2⟩ := V
  exact own_by (fun t q => X.iaload hx (j := j) (v := v) (by rw [eT]; exact A.1) (State.isArrayOf_alike hZ.alike A.2.1) A.2.2 (own_in q2 hj (List.getElem?_eq_some_iff.mp hv).1) (by rw [own_get q2]; exact hv) (g := mkF m pc Ls (.int j :: .ref a :: rest)) rfl rfl hd t q) kk
theorem own_ldC (X : Stand p l e R s m args below meth c T locs cells slots) (hx : p.tables.exec = Jvm.exec) (hZ : Z.Warmed39 s.vm) (eT : T.heap = h) (V : own_A Z h a .char k vs) {j : Int32} {v : Value} (i : Nat) (hi : j.toNatClampNeg = i) (hj : ¬ j < 0) (hv : vs[i]? = some v) {pc : Nat} {Ls : Array Slot} {rest : List Value} (hd : decode c.code pc = .ok (.caload, 1))
    (kk : own_Go p e below K T (mkF m (pc + 1) Ls (v :: rest))) : own_Go p e below K T (mkF m pc Ls (.int j :: .ref a :: rest)) := by
  subst hi
  obtain ⟨cl, A, q1, q2⟩ := V
  exact own_by (fun t q => X.caload hx (j := j) (v := v) (by rw [eT]; exact A.1) (State.isArrayOf_alike hZ.alike A.2.1) A.2.2 (own_in q2 hj (List.getElem?_eq_some_iff.mp hv).1) (by rw [own_get q2]; exact hv) (g := mkF m pc Ls (.int j :: .ref a :: rest)) rfl rfl hd t q) kk
theorem own_ldR (X : Stand p l e R s m args below meth c T locs cells slots) (hx : p.tables.exec = Jvm.exec) (hZ : Z.Warmed39 s.vm) (eT : T.heap = h) (V : own_A Z h a ty k vs) (hty : ty.isReference = true) {j : Int32} {v : Value} (i : Nat) (hi : j.toNatClampNeg = i) (hj : ¬ j < 0) (hv : vs[i]? = some v) {pc : Nat} {Ls : Array Slot} {rest : List Value} (hd : decode c.code pc = .ok (.aaload, 1))
    (kk : own_Go p e below K T (mkF m (pc + 1) Ls (v :: rest))) : own_Go p e below K T (mkF m pc Ls (.int j :: .ref a :: rest)) := by
  subst hi
  obtain ⟨cl, A, q1, q2⟩ := V
  exact own_by (fun t q => X.aaload hx (j := j) (v := v) (by rw [eT]; exact A.1) (State.isArrayOf_alike hZ.alike A.2.1) hty A.2.2 (own_in q2 hj (List.getElem?_eq_some_iff.mp hv).1) (by rw [own_get q2]; exact hv) (g := mkF m pc Ls (.int j :: .ref a :: rest)) rfl rfl hd t q) kk
theorem own_len (X : Stand p l e R s m args below meth c T locs cells slots) (hx : p.tables.exec = Jvm.exec) (hZ : Z.Warmed39 s.vm) (eT : T.heap = h) (V : own_A Z h a ty k vs) (n : Int32) (hn : vs.length.toInt32 = n) {pc : Nat} {Ls : Array Slot} {rest : List Value} (hd : decode c.code pc = .ok (.arraylength, 1))
    (kk : own_Go p e below K T (mkF m (pc + 1) Ls (.int n :: rest))) : own_Go p e below K T (mkF m pc Ls (.ref a :: rest)) := by
  subst hn
  obtain ⟨cl, A, q1, rfl⟩ := V
  refine own_by (fun t q => X.arraylength hx (cell := cl) (by rw [eT]; exact A.1) (State.isArrayOf_alike hZ.alike A.2.1) (g := mkF m pc Ls (.ref a :: rest)) rfl (rest := rest) rfl hd t q) ?_
  rw [Array.length_toList] at kk
  exact kk
theorem own_new (X : Stand p l e R s m args below meth c T locs cells slots) (hx : p.tables.exec = Jvm.exec) (hZ : Z.Warmed39 s.vm) {own C : String} {index n : Nat} (hown : s.vm.findClass own = some m.cls) (w1 : (Jvm.Cond.classLink own index C).before a0 Z = true) (w2 : (Jvm.Cond.instantiable C n).before a0 Z = true) (w3 : (Jvm.Cond.initialized C).before a0 Z = true) (eT : T.heap = h) {pc : Nat} {Ls : Array Slot} {st : List Value} (hd : decode c.code pc = .ok (.new index, 3)) (hc : cells + 1 ≤ R.cells) (hl : slots + n ≤ R.slots)
    (kk : ∀ (T' : State) (h' : Heap), Stand p l e R s m args below meth c T' locs (cells + 1) (slots + n) → T'.heap = h' → Ext h h' → Exa Z h' h.size C → (∀ {O nm d : String} {ty : FieldType}, Laid Z a0 C O nm d → parseFieldDescriptor d = some ty → Fld Z h' h.size O nm d (defaultValue ty)) → own_Go p e below K T' (mkF m (pc + 3) Ls (.ref h.size :: st))) :
    own_Go p e below K T (mkF m pc Ls st) := by
  obtain ⟨T', h', X', e', E, A, D, -, stp⟩ := newO X hx hZ hown w1 w2 w3 eT (g := mkF m pc Ls st) rfl hd hc hl
  exact own_by stp (kk T' h' X' e' E A D)
theorem own_getF (X : Stand p l e R s m args below meth c T locs cells slots) (hx : p.tables.exec = Jvm.exec) (hZ : Z.Warmed39 s.vm) {own O n d : String} {index : Nat} (hown : s.vm.findClass own = some m.cls) (w : (Jvm.Cond.fieldLink own index O n d).before a0 Z = true) (eT : T.heap = h) (F : Fld Z h a O n d v) {pc : Nat} {Ls : Array Slot} {rest : List Value} (hd : decode c.code pc = .ok (.getfield index, 3))
    (kk : ∀ T' : State, Stand p l e R s m args below meth c T' locs cells slots → T'.heap = h → own_Go p e below K T' (mkF m (pc + 3) Ls (v :: rest))) : own_Go p e below K T (mkF m pc Ls (.ref a :: rest)) := by
  obtain ⟨T', X', e', st⟩ := getF X hx hZ hown (host := "") (Or.inl w) Via.refl eT F (g := mkF m pc Ls (.ref a :: rest)) rfl rfl hd
  exact own_by st (kk T' X' e')
theorem own_putF (X : Stand p l e R s m args below meth c T locs cells slots) (hx : p.tables.exec = Jvm.exec) (hZ : Z.Warmed39 s.vm) {own O n d C : String} {index kn : Nat} {ty : FieldType} (hown : s.vm.findClass own = some m.cls) (w : (Jvm.Cond.fieldLink own index O n d).before a0 Z = true) (eT : T.heap = h) {old : Value} (F : Fld Z h a O n d old) (E : Exa Z h a C) (L : (Jvm.Cond.lays C O n d).before a0 Z = true ∨ ((Jvm.Cond.laysFinal C O n d).before a0 Z = true ∧ own = O ∧ meth.name = "<init>")) (wi : (Jvm.Cond.instantiable C kn).before a0 Z = true) (hty : parseFieldDescriptor d = some ty) (hn : narrow ty v = v) (hf : fits ty v = true) {pc : Nat} {Ls : Array Slot} {rest : List Value} (hd : decode c.code pc = .ok (.putfield index, 3))
    (kk : ∀ (T' : State) (h' : Heap), Stand p l e R s m args below meth c T' (locs ++ [⟨a, Jvm.RoadKit.slotOf Z O n d⟩]) cells slots → T'.heap = h' → Wr h h' a (Jvm.RoadKit.slotOf Z O n d) v → own_Go p e below K T' (mkF m (pc + 3) Ls rest)) : own_Go p e below K T (mkF m pc Ls (v :: .ref a :: rest)) := by
  obtain ⟨T', h', X', e', W, st⟩ := putF X hx hZ hown (host := "") (Or.inl w) Via.refl eT F E L wi hty hn hf (g := mkF m pc Ls (v :: .ref a :: rest)) rfl rfl hd
  exact own_by st (kk T' h' X' e' W)
end OwnHeap
section OwnW
variable {p : Program} {l : Launch} {e : Env} {R : Room} {s : State} {m : MethodId} {args : Array Value} {below : List Frame} {meth : Method} {c : Code} {T T' : State} {locs : List Loc} {cells slots : Nat} {Z : State} {a0 : Array Value} {h h' h0 : Heap} {K : State → Outcome → Prop} {Q : Option Value → Heap → List Loc → Prop} {EL : List (String × Nat)} {vm0 : Vm} {k0 : Nat} {a b : Addr} {k : ClassId} {ty : FieldType} {vs : List Value}
def own_KW (Z : State) (EL : List (String × Nat)) (s : State) (k n : Nat) (Q : Option Value → Heap → List Loc → Prop) (t : State) (o : Outcome) : Prop := ∃ v L, o = .returned v ∧ Q v t.heap L ∧ CHr Z EL s.vm s.heap t.vm t.heap ∧ ReturnedEndW s o t L k n
def own_MetW (l : Launch) (y : MethodName) (bytes : ByteArray) (mx : Nat) (ret : Option FieldType) (ws : List Jvm.Cond) (rm : Room) (Z : State) (EL : List (String × Nat)) (as' : Array Value) (h0 : Heap) (Q : Option Value → Heap → List Loc → Prop) : Prop :=
  MetFree l y (head1 (Jvm.Cond.code y bytes mx ret :: ws) rm) (fun a U => a = as' ∧ Z.Warmed39 U.vm ∧ U.heap = h0 ∧ CHv Z EL U.vm h0) (fun _ _ _ _ _ => True) (fun _ U o U' => ∃ v L, o = .returned v ∧ Q v U'.heap L ∧ CHr Z EL U.vm U.heap U'.vm U'.heap ∧ ReturnedEndW U o U' L rm.cells rm.slots)
theorem own_enterW {y : MethodName} {bytes : ByteArray} {mx : Nat} {ret : Option FieldType} {ws : List Jvm.Cond} {rm : Room} {as' : Array Value} (hn : plainFor y = true)
    (body : ∀ (p : Program) (e : Env) (s : State) (m : MethodId) (below : List Frame) (meth : Method) (c : Code) (T0 : State), p.tables.exec = Jvm.exec → c.code = bytes → c.maxLocals = mx → meth.sig.returnType = ret → meth.locks = false → s.vm.findClass y.cls = some m.cls → meth.name = y.name → Z.Warmed39 s.vm →
      Stand p l e rm (s.setVm s.vm) m as' below meth c T0 [] 0 0 → T0.heap = h0 → s.Since s.vm 0 → CHr Z EL s.vm s.heap s.vm h0 → own_Go p e below (own_KW Z EL s rm.cells rm.slots Q) T0 (entryFrame m as' mx)) : own_MetW l y bytes mx ret ws rm Z EL as' h0 Q := by
  refine MetFree.of_bodySF hn hisR ?_
  intro p e s m args below meth c s₁ Bd hml hP hK
  obtain ⟨rfl, hZ, hh, hH⟩ := hP
  have hX : Stand p l e rm s m args below meth c s₁ [] 0 0 := Stand.of_body Bd
  obtain ⟨s2, o, h1, h2, h3, h4⟩ := body p e s m below meth c s₁ Bd.exec Bd.bytes hml Bd.returns Bd.notSynchronized (findClass_of_methodNamed Bd.named) (name_of_methodNamed Bd.named Bd.method).1 hZ hX (by rw [← hh, Bd.state]; rfl) ((State.WarmedH.refl s).since 0) (by rw [← hh] at hH ⊢; exact CHr.refl hH)
  exact ⟨s2, o, h1, h2, h3, h4⟩
theorem own_leaveW (X : Stand p l e R (s.setVm vm0) m args below meth c T locs cells slots) (hlk : meth.locks = false) (hZ : Z.Warmed39 vm0) (hEL : EW Z a0 EL) (hS : s.Since vm0 k0) (eT : T.heap = h) (hk0 : k0 ≤ h.size) (hC : CHr Z EL s.vm s.heap vm0 h) {v : Option Value} {k n : Nat} (hv : meth.sig.returnType = none → v = none) {g : JFrame}
    (step : ∀ fs, (∀ (f : JFrame) (acts : List Action), f.method = m → f.locked = none → f.entered = [] → (doReturn e (T.setTop f) acts v).1 = T.setFrames fs) → Steps p.tables e below (T.setTop g) (T.setFrames fs)) (hk : cells ≤ k) (hn : slots ≤ n) (hQ : Q v T.heap locs) : own_Go p e below (own_KW Z EL s k n Q) T g := by
  subst eT
  obtain ⟨fs, hr, hrun, hended, q1, q2, q3, q4⟩ := X.leaveW hS hk0 (v := v) hv hlk
  exact ⟨_, _, step fs hr, hrun, hended, v, locs, rfl, hQ, hC.trans (show CHr Z EL vm0 T.heap T.vm T.heap from CHv.at X hZ hEL hC.1), q1, q2, q3, q4.mono hk hn⟩
theorem own_retNW (X : Stand p l e R (s.setVm vm0) m args below meth c T locs cells slots) (hx : p.tables.exec = Jvm.exec) (hlk : meth.locks = false) (hZ : Z.Warmed39 vm0) (hEL : EW Z a0 EL) (hS : s.Since vm0 k0) (eT : T.heap = h) (hk0 : k0 ≤ h.size) (hC : CHr Z EL s.vm s.heap vm0 h) {t : FieldType} (hret : meth.sig.returnType = some t) (ht : t = .boolean ∨ t = .byte ∨ t = .char ∨ t = .short) {pc : Nat} {Ls : Array Slot} {z w : Int32} {rest : List Value} {k n : Nat} (hd : decode c.code pc = .ok (.ireturn, 1)) (hw : nar t z = w) (hk : cells ≤ k) (hn : slots ≤ n) (hQ : Q (some (.int w)) T.heap locs) :
    own_Go p e below (own_KW Z EL s k n Q) T (mkF m pc Ls (.int z :: rest)) := by
  subst hw
  exact own_leaveW X hlk hZ hEL hS eT hk0 hC (v := some (.int (nar t z))) (fun h => by rw [hret] at h; cases h) (fun fs hl => retN X hx hret ht hd hl) hk hn hQ
theorem own_retAW (X : Stand p l e R (s.setVm vm0) m args below meth c T locs cells slots) (hx : p.tables.exec = Jvm.exec) (hlk : meth.locks = false) (hZ : Z.Warmed39 vm0) (hEL : EW Z a0 EL) (hS : s.Since vm0 k0) (eT : T.heap = h) (hk0 : k0 ≤ h.size) (hC : CHr Z EL s.vm s.heap vm0 h) {t : FieldType} (hret : meth.sig.returnType = some t) (ht : t.isReference = true) {pc : Nat} {Ls : Array Slot} {v : Value} (hv : v.isRef = true) {rest : List Value} {k n : Nat} (hd : decode c.code pc = .ok (.areturn, 1)) (hk : cells ≤ k) (hn : slots ≤ n) (hQ : Q (some v) T.heap locs) :
    own_Go p e below (own_KW Z EL s k n Q) T (mkF m pc Ls (v :: rest)) :=
  own_leaveW X hlk hZ hEL hS eT hk0 hC (v := some v) (fun h => by rw [hret] at h; cases h) (fun fs hl => retOut X hx hret (by cases t <;> first | (cases ht; done) | (rcases ref_cases hv with rfl | ⟨a, rfl⟩ <;> rfl)) (Or.inr (Or.inr (Or.inr (Or.inr ⟨rfl, ht, hv⟩)))) hd hl) hk hn hQ
theorem own_retVW (X : Stand p l e R (s.setVm vm0) m args below meth c T locs cells slots) (hx : p.tables.exec = Jvm.exec) (hlk : meth.locks = false) (hZ : Z.Warmed39 vm0) (hEL : EW Z a0 EL) (hS : s.Since vm0 k0) (eT : T.heap = h) (hk0 : k0 ≤ h.size) (hC : CHr Z EL s.vm s.heap vm0 h) (hret : meth.sig.returnType = none) {pc : Nat} {Ls : Array Slot} {k n : Nat} (hd : decode c.code pc = .ok (.return_, 1)) (hk : cells ≤ k) (hn : slots ≤ n) (hQ : Q none T.heap locs) :
    own_Go p e below (own_KW Z EL s k n Q) T (mkF m pc Ls []) :=
  own_leaveW X hlk hZ hEL hS eT hk0 hC (v := none) (fun _ => rfl) (fun fs hl => X.returnOut hx hret hd hl) hk hn hQ
/-- what a wide call hands on -/
def own_After (p : Program) (l : Launch) (e : Env) (R : Room) (s : State) (m : MethodId) (args : Array Value) (below : List Frame) (meth : Method) (c : Code) (Z : State) (EL : List (String × Nat)) (Q : Option Value → Heap → List Loc → Prop) (h : Heap) (own : String) (locs : List Loc) (cells slots : Nat) (T' : State) (L : List Loc) (v : Option Value) : Prop :=
  Stand p l e R (s.setVm T'.vm) m args below meth c T' (locs ++ L) cells slots ∧ Q v T'.heap L ∧ s.Since T'.vm T'.heap.size ∧ h.size ≤ T'.heap.size ∧ Z.Warmed39 T'.vm ∧ T'.vm.findClass own = some m.cls ∧ CHr Z EL s.vm s.heap T'.vm T'.heap
theorem own_callSW (X : Stand p l e R (s.setVm vm0) m args below meth c T locs cells slots) (hx : p.tables.exec = Jvm.exec) (hZ : Z.Warmed39 vm0) (hEL : EW Z a0 EL) (hS : s.Since vm0 k0) (eT : T.heap = h) (hk0 : k0 ≤ h.size) (hC : CHr Z EL s.vm s.heap vm0 h) {own : String} {index : Nat} {y : MethodName} {bytes : ByteArray} {mx : Nat} {ret : Option FieldType} {rm : Room} (hown : vm0.findClass own = some m.cls) (w1 : (Jvm.Cond.methodLink own index y).before a0 Z = true) (w2 : (Jvm.Cond.static y).before a0 Z = true) (w3 : (Jvm.Cond.initialized y.cls).before a0 Z = true) (w4 : (Jvm.Cond.code y bytes mx ret).before a0 Z = true)
    (hy : y.cls ≠ "java/lang/invoke/MethodHandle" ∧ y.cls ≠ "java/lang/invoke/VarHandle") {argsL rest : List Value} (M : own_MetW l y bytes mx ret [] rm Z EL argsL.toArray h Q) (W : Nat) (hf : rm.frames + 1 ≤ R.frames) (hl : W + (mx + 11) + rm.locals ≤ R.locals) {pc : Nat} {Ls : Array Slot} (hsize : Ls.size = c.maxLocals)
    (hlen : ∀ sig, parseMethodDescriptor y.desc = some sig → argsL.length = sig.parameters.length) (hW : (rest.map fun v => v.category).sum ≤ W) (hd : decode c.code pc = .ok (.invokestatic index, 3)) (hc : cells + rm.cells ≤ R.cells) (hs : slots + rm.slots ≤ R.slots) {st : List Value} (hst : st = argsL.reverse ++ rest)
    (kk : ∀ (T' : State) (L : List Loc) (v : Option Value), own_After p l e R s m args below meth c Z EL Q h own locs (cells + rm.cells) (slots + rm.slots) T' L v → own_Go p e below K T' (mkF m (pc + 3) Ls (v.toList ++ rest))) : own_Go p e below K T (mkF m pc Ls st) := by
  have hZ' : Z.Warmed39 (s.setVm vm0).vm := hZ
  obtain ⟨v, _, ⟨T1, L1, k1, n1⟩, hW1, X1, hS1, hg1, ⟨Lc, hQ, l1, y1, z1, hC1⟩, stp⟩ := callSS X hx hown (mvT hZ' w1) (mvT hZ' w2) (mvT hZ' w3) (mvT hZ' w4) hy (backOfSH (W := W) M hZ w4 w3 hf hl hEL hC.1) (g := mkF m pc Ls st) rfl hsize (argsL := argsL) (rest := rest) hlen hst (by show 2 * 0 + _ ≤ _; omega) hd (fun _ _ => ⟨rfl, eT, hc, hs⟩)
  dsimp only [Pt.U, Pt.locs, Pt.cells, Pt.slots] at X1 l1 y1 z1 stp hQ hS1 hg1 hC1
  subst l1 y1 z1
  subst eT
  refine own_by (fun t q => stp.trans q) (kk T1 Lc v ⟨X1, hQ, hS.trans hS1 (Nat.le_trans hk0 hg1), hg1, State.Warmed39.trans (t := s.setVm vm0) hZ hS1.1, ?_, hC.trans hC1⟩)
  rw [hS1.1.alike.findClass]; exact hown
theorem own_callNW (X : Stand p l e R (s.setVm vm0) m args below meth c T locs cells slots) (hx : p.tables.exec = Jvm.exec) (hZ : Z.Warmed39 vm0) (hEL : EW Z a0 EL) (hS : s.Since vm0 k0) (eT : T.heap = h) (hk0 : k0 ≤ h.size) (hC : CHr Z EL s.vm s.heap vm0 h) {own : String} {index : Nat} {y : MethodName} {bytes : ByteArray} {mx : Nat} {rm : Room} (hy1 : y.name = "<init>") (hown : vm0.findClass own = some m.cls) (w1 : (Jvm.Cond.methodLink own index y).before a0 Z = true) (w2 : (Jvm.Cond.instanceMethod y).before a0 Z = true) (w3 : (Jvm.Cond.code y bytes mx none).before a0 Z = true) (w4 : (Jvm.Cond.initialized y.cls).before a0 Z = true)
    (hy : y.cls ≠ "java/lang/invoke/MethodHandle" ∧ y.cls ≠ "java/lang/invoke/VarHandle") {b : Addr} {argsL rest : List Value} (M : own_MetW l y bytes mx none [] rm Z EL (.ref b :: argsL).toArray h Q) (W : Nat) (hf : rm.frames + 1 ≤ R.frames) (hl : W + (mx + 11) + rm.locals ≤ R.locals) {pc : Nat} {Ls : Array Slot} (hsize : Ls.size = c.maxLocals)
    (hlen : ∀ sig, parseMethodDescriptor y.desc = some sig → argsL.length = sig.parameters.length) (hW : (rest.map fun v => v.category).sum ≤ W) (hd : decode c.code pc = .ok (.invokespecial index, 3)) (hc : cells + rm.cells ≤ R.cells) (hs : slots + rm.slots ≤ R.slots) {st : List Value} (hst : st = argsL.reverse ++ .ref b :: rest)
    (kk : ∀ (T' : State) (L : List Loc) (v : Option Value), own_After p l e R s m args below meth c Z EL Q h own locs (cells + rm.cells) (slots + rm.slots) T' L v → own_Go p e below K T' (mkF m (pc + 3) Ls (v.toList ++ rest))) : own_Go p e below K T (mkF m pc Ls st) := by
  have hZ' : Z.Warmed39 (s.setVm vm0).vm := hZ
  obtain ⟨v, _, ⟨T1, L1, k1, n1⟩, hW1, X1, hS1, hg1, ⟨Lc, hQ, l1, y1, z1, hC1⟩, stp⟩ := X.specialBackS hx hy1 hown (mvT hZ' w1) (mvT hZ' w2) (mvT hZ' w3) hy (backOfSH (W := W) M hZ w3 w4 hf hl hEL hC.1) (g := mkF m pc Ls st) rfl hsize (Steps.refl _) (a := b) (argsL := argsL) (rest := rest) hlen hst (by show 2 * 0 + _ ≤ _; omega) hd (fun _ _ => ⟨rfl, eT, hc, hs⟩)
  dsimp only [Pt.U, Pt.locs, Pt.cells, Pt.slots] at X1 l1 y1 z1 stp hQ hS1 hg1 hC1
  subst l1 y1 z1
  subst eT
  refine own_by (fun t q => stp.trans q) (kk T1 Lc v ⟨X1, hQ, hS.trans hS1 (Nat.le_trans hk0 hg1), hg1, State.Warmed39.trans (t := s.setVm vm0) hZ hS1.1, ?_, hC.trans hC1⟩)
  rw [hS1.1.alike.findClass]; exact hown
theorem own_A_of_arv {z : Int32} {d : Value} (V : Arv Z h b k ty z vs d) (hl : z.toNatClampNeg = vs.length) : own_A Z h b ty k vs := by
  obtain ⟨cl, A, q1, q2, -, H, -⟩ := V
  refine ⟨cl, A, q1, List.ext_getElem? fun i => ?_⟩
  rw [Array.getElem?_toList]
  by_cases hi : i < cl.slots.size
  · rw [H i hi, List.getD_eq_getElem?_getD, List.getElem?_eq_getElem (by omega)]; rfl
  · rw [Array.getElem?_eq_none (by omega), List.getElem?_eq_none (by omega)]
theorem own_ldcW (X : Stand p l e R (s.setVm vm0) m args below meth c T locs cells slots) (hx : p.tables.exec = Jvm.exec) (hZ : Z.Warmed39 vm0) (hEL : EW Z a0 EL) (hS : s.Since vm0 k0) (eT : T.heap = h) (hk0 : k0 ≤ h.size) (hC : CHr Z EL s.vm s.heap vm0 h) {own text : String} {index : Nat} (hown : vm0.findClass own = some m.cls) (w : (Jvm.Cond.stringLink own index text).before a0 Z = true) (wS : ∀ a ∈ Bundle.stringAtoms, a.before a0 Z = true) (hmem : (own, index) ∈ EL)
    {z : Int32} (ht : (∀ c ∈ text.toList, c.toNat < 256) ∧ text.toList.map (fun c => Value.int (Jvm.Lit.byteI c.toNat.toUInt16)) = vs) (hz : ¬ z < 0) (hl : z.toNatClampNeg = vs.length) {pc : Nat} {Ls : Array Slot} {st : List Value} (hd : decode c.code pc = .ok (.ldc index, 2)) (n : Nat) (hn : 4 * text.toList.length ≤ n) (hbig : n ≤ 536870912) (hc : cells + 2 ≤ R.cells) (hl' : slots + (n + 4) ≤ R.slots)
    (kk : ∀ (T' : State) (a : Addr) (h' : Heap) (k1 : Nat) (b : Addr) (k : ClassId), Stand p l e R (s.setVm T'.vm) m args below meth c T' locs (cells + 2) (slots + (n + 4)) → T'.heap = h' → Ext h h' → s.Since T'.vm k1 → k1 ≤ h'.size → Z.Warmed39 T'.vm → T'.vm.findClass own = some m.cls → Exa Z h' a "java/lang/String" → Fld Z h' a "java/lang/String" "coder" "B" (.int 0) → Fld Z h' a "java/lang/String" "value" "[B" (.ref b) → own_A Z h' b .byte k vs → CHr Z EL vm0 h T'.vm h' → CHr Z EL s.vm s.heap T'.vm h' → (∀ x, Safe Z EL T'.vm h' x → x ≠ a ∧ x ≠ b) → own_Go p e below K T' (mkF m (pc + 2) Ls (.ref a :: st))) :
    own_Go p e below K T (mkF m pc Ls st) := by
  obtain ⟨a, T', h', k1, b, kb, X', e', E, hS', hk1, hW, hf, E1, F1, F2, V, -, -, hC', -, hne, stp⟩ := ldcCH X hx hZ hown w wS eT hS hk0 hEL hmem hC.1 ht hz hl (g := mkF m pc Ls st) rfl hd hn hbig hc hl'
  exact own_by stp (kk T' a h' k1 b kb X' e' E hS' hk1 hW hf E1 F1 F2 (own_A_of_arv V hl) hC' (hC.trans hC') hne)
/-- a String whose value is not laid yet is none that the tables book -/
theorem own_safe_null (hal : Z.vm.Alike vm0) {x : Addr} (E : Exa Z h x "java/lang/String") (F : Fld Z h x "java/lang/String" "value" "[B" .null) : Safe Z EL vm0 h x := by
  rintro ⟨pr, hp, u, aa, hB, q, hqa, F2, hy⟩
  have hsa := F2.ha
  have hsd := F2.hd
  obtain ⟨cS, ⟨⟨s1, s2, s3, ⟨cv, kv, iv, s4, s4'⟩, ⟨cc, kc, ic, s5, s5'⟩, s6, s7, s8, s9, s10, s11, s12, s13, s14, s15, s16⟩, hfS, hcS⟩, ⟨kS, k1, k2, k3⟩, hB2, hbyt⟩ := F2
  rcases hy with rfl | rfl
  · obtain ⟨cell, cf, kk, i, f, g1, g2, g3, g4, g5, g6, g7⟩ := F
    obtain ⟨kv', z4⟩ := ff_back (U := Wst Z vm0 h) hal s4
    have e1 : cell = q.sC := Option.some.inj (g1.symm.trans s1)
    cases g2.symm.trans z4
    subst e1
    rw [s8] at g7
    cases g7
  · obtain ⟨cell, kk, g1, g2, g3, g4, g5⟩ := E
    have e1 : cell = q.SA := Option.some.inj (g1.symm.trans s10)
    subst e1
    have hB3 : vm0.findClass "[B" = some q.SA.cls := hB2
    rw [hal.findClass] at hB3
    obtain ⟨k1', a1, a2⟩ := Vm.findClass_spec g2
    obtain ⟨k2', b1, b2⟩ := Vm.findClass_spec hB3
    cases a1.symm.trans b1
    exact absurd (a2.symm.trans b2) (by decide)
end OwnW
section OwnStr
variable {p : Program} {l : Launch} {e : Env} {R : Room} {s : State} {m : MethodId} {args : Array Value} {below : List Frame} {meth : Method} {c : Code} {T T' : State} {locs : List Loc} {cells slots : Nat} {Z : State} {a0 : Array Value} {h h' h0 : Heap} {K : State → Outcome → Prop} {Q : Option Value → Heap → List Loc → Prop} {EL : List (String × Nat)} {vm0 : Vm} {k0 : Nat} {a b : Addr} {k : ClassId} {ty : FieldType} {vs : List Value} {ws : List Addr} {C n d : String} {v : Value}
theorem own_wide {y : MethodName} {bytes : ByteArray} {mx : Nat} {ret : Option FieldType} {wds : List Jvm.Cond} {rm : Room} {as' : Array Value} (hEL : EW Z a0 EL) (M : own_Met l y bytes mx ret wds rm Z as' h0 Q) (hQ : ∀ v h L, Q v h L → Keep h0 h []) : own_MetW l y bytes mx ret wds rm Z EL as' h0 Q := by
  refine MetFree.mono M (fun a U q => ⟨q.1, q.2.1, q.2.2.1⟩) (fun _ _ _ _ _ q => q) ?_
  rintro a U o U' ⟨-, hZ, hh, hH⟩ ⟨v, L, h1, h2, h3⟩
  refine ⟨v, L, h1, h2, ?_, ReturnedEndW.of_narrow h3.1 h3.2.1 h3.2.2⟩
  subst hh
  have A : CHr Z EL U.vm U.heap U.vm U'.heap := CHr.keep (hQ _ _ _ h2) (fun _ q => by cases q) hH
  have B := CHv.later (h' := U'.heap) hZ (show (Wst Z U.vm U'.heap).Warmed39 U'.vm from h3.2.1.wide) hEL ⟨Nat.le_refl _, fun _ _ q => q⟩ (Or.inl h3.2.1.interned_eq) A.1
  exact A.trans ⟨B.1, Nat.le_refl _, B.2⟩
theorem own_stB (X : Stand p l e R s m args below meth c T locs cells slots) (hx : p.tables.exec = Jvm.exec) (hZ : Z.Warmed39 s.vm) (eT : T.heap = h) (V : own_A Z h a .byte k vs) {j x y : Int32} (i : Nat) (hi : j.toNatClampNeg = i) (hj : ¬ j < 0) (hl : i < vs.length) (hy : nar .byte x = y) {pc : Nat} {Ls : Array Slot} {rest : List Value} (hd : decode c.code pc = .ok (.bastore, 1))
    (kk : ∀ (T' : State) (h' : Heap), Stand p l e R s m args below meth c T' (locs ++ [⟨a, i⟩]) cells slots → T'.heap = h' → Wr h h' a i (.int y) → own_A Z h' a .byte k (vs.set i (.int y)) → own_Go p e below K T' (mkF m (pc + 1) Ls rest)) :
    own_Go p e below K T (mkF m pc Ls (.int x :: .int j :: .ref a :: rest)) := by
  subst hi; subst hy
  obtain ⟨cl, A, q1, q2⟩ := V
  obtain ⟨T', h', X', e', W, st⟩ := stB X hx hZ eT A (j := j) (x := x) (own_in q2 hj hl) (g := mkF m pc Ls (.int x :: .int j :: .ref a :: rest)) rfl rfl hd
  exact own_by st (kk T' h' X' e' W (own_A.set ⟨cl, A, q1, q2⟩ W))
theorem own_ldB (X : Stand p l e R s m args below meth c T locs cells slots) (hx : p.tables.exec = Jvm.exec) (hZ : Z.Warmed39 s.vm) (eT : T.heap = h) (V : own_A Z h a .byte k vs) {j : Int32} {v : Value} (i : Nat) (hi : j.toNatClampNeg = i) (hj : ¬ j < 0) (hv : vs[i]? = some v) {pc : Nat} {Ls : Array Slot} {rest : List Value} (hd : decode c.code pc = .ok (.baload, 1))
    (kk : own_Go p e below K T (mkF m (pc + 1) Ls (v :: rest))) : own_Go p e below K T (mkF m pc Ls (.int j :: .ref a :: rest)) := by
  subst hi
  obtain ⟨cl, A, q1, q2⟩ := V
  exact own_by (fun t q => X.baloadBytes hx (j := j) (v := v) (by rw [eT]; exact A.1) (State.isArrayOf_alike hZ.alike A.2.1) A.2.2 (own_in q2 hj (List.getElem?_eq_some_iff.mp hv).1) (by rw [own_get q2]; exact hv) (g := mkF m pc Ls (.int j :: .ref a :: rest)) rfl rfl hd t q) kk
theorem own_inst (X : Stand p l e R s m args below meth c T locs cells slots) (hx : p.tables.exec = Jvm.exec) (hZ : Z.Warmed39 s.vm) {own Kn : String} {index : Nat} (hown : s.vm.findClass own = some m.cls) (w : (Jvm.Cond.classLink own index Kn).before a0 Z = true) (eT : T.heap = h) (F : Exa Z h a Kn) {pc : Nat} {Ls : Array Slot} {rest : List Value} (hd : decode c.code pc = .ok (.instanceof index, 3))
    (kk : ∀ T' : State, Stand p l e R s m args below meth c T' locs cells slots → T'.heap = h → own_Go p e below K T' (mkF m (pc + 3) Ls (.int (1 : Int32) :: rest))) : own_Go p e below K T (mkF m pc Ls (.ref a :: rest)) := by
  obtain ⟨T', X', e', st⟩ := instY X hx hZ hown w eT (Ins.self F) (g := mkF m pc Ls (.ref a :: rest)) rfl rfl hd
  exact own_by st (kk T' X' e')
theorem own_cast (X : Stand p l e R s m args below meth c T locs cells slots) (hx : p.tables.exec = Jvm.exec) (hZ : Z.Warmed39 s.vm) {own Kn : String} {index : Nat} (hown : s.vm.findClass own = some m.cls) (w : (Jvm.Cond.classLink own index Kn).before a0 Z = true) (eT : T.heap = h) (F : Exa Z h a Kn) {pc : Nat} {Ls : Array Slot} {rest : List Value} (hd : decode c.code pc = .ok (.checkcast index, 3))
    (kk : ∀ T' : State, Stand p l e R s m args below meth c T' locs cells slots → T'.heap = h → own_Go p e below K T' (mkF m (pc + 3) Ls (.ref a :: rest))) : own_Go p e below K T (mkF m pc Ls (.ref a :: rest)) := by
  obtain ⟨T', X', e', st⟩ := castY X hx hZ hown w eT (Ins.self F) (g := mkF m pc Ls (.ref a :: rest)) rfl rfl hd
  exact own_by st (kk T' X' e')
/-- the String at a, of the coder cd, with the bytes vs -/
def own_Str (Z : State) (h : Heap) (a : Addr) (cd : Int32) (vs : List Value) : Prop := ∃ (b : Addr) (k : ClassId), Exa Z h a "java/lang/String" ∧ Fld Z h a "java/lang/String" "value" "[B" (.ref b) ∧ Fld Z h a "java/lang/String" "coder" "B" (.int cd) ∧ own_A Z h b .byte k vs
theorem own_Str.keep {cd : Int32} (F : own_Str Z h a cd vs) (Kp : Keep h h' []) : own_Str Z h' a cd vs := by
  obtain ⟨b, k, h1, h2, h3, h4⟩ := F
  exact ⟨b, k, h1.keep Kp, h2.keep Kp nin0, h3.keep Kp nin0, h4.keep Kp nin0⟩
theorem own_safeA (hal : Z.vm.Alike vm0) (V : own_A Z h a ty k vs) (ht : ty ≠ .byte) : Safe Z EL vm0 h a := by
  obtain ⟨cl, A, -⟩ := V
  exact Safe.arr hal A ht
/-- slots of the cell t, or of cells made since -/
def own_Fr (n : Nat) (t : Addr) (L : List Loc) : Prop := ∀ y ∈ L, y.base = t ∨ n ≤ y.base
theorem own_Fr.nil {n : Nat} {t : Addr} : own_Fr n t [] := fun _ q => by cases q
theorem own_Fr.app {n : Nat} {t : Addr} {L L' : List Loc} (A : own_Fr n t L) (B : own_Fr n t L') : own_Fr n t (L ++ L') := fun y q => (List.mem_append.mp q).elim (A y) (B y)
theorem own_Fr.one {n : Nat} {t : Addr} {i : Nat} : own_Fr n t [⟨t, i⟩] := fun y q => by cases List.mem_singleton.mp q; exact Or.inl rfl
theorem own_Fr.of {n n' : Nat} {t : Addr} {L : List Loc} (A : Fr n' L) (q : n ≤ n') : own_Fr n t L := fun y hy => Or.inr (Nat.le_trans q (A y hy))
theorem own_Fr.to {n : Nat} {t : Addr} {L : List Loc} (A : own_Fr n t L) (q : n ≤ t) : Fr n L := fun y hy => (A y hy).elim (fun z => z ▸ q) id
theorem own_Fr.le {n n' : Nat} {t : Addr} {L : List Loc} (A : own_Fr n' t L) (q : n ≤ n') : own_Fr n t L := fun y hy => (A y hy).imp id (Nat.le_trans q)
theorem own_fr0 {n : Nat} : Fr n [] := fun _ q => by cases q
theorem own_fr1 {n : Nat} {t : Addr} {i : Nat} (q : n ≤ t) : Fr n [⟨t, i⟩] := fun y hy => by cases List.mem_singleton.mp hy; exact q
theorem own_frA {n : Nat} {L L' : List Loc} (A : Fr n L) (B : Fr n L') : Fr n (L ++ L') := fun y q => (List.mem_append.mp q).elim (A y) (B y)
theorem own_frL {n n' : Nat} {L : List Loc} (A : Fr n' L) (q : n ≤ n') : Fr n L := fun y hy => Nat.le_trans q (A y hy)
theorem own_keepNew {n : Nat} {ws : List Addr} (A : Keep h0 h []) (B : Keep h h' ws) (q : ∀ x ∈ ws, h0.size ≤ x) : Keep h0 h' [] := A.trans B fun x hx => Or.inr (q x hx)
theorem own_wrSize {sl : Nat} (W : Wr h h' a sl v) : h'.size = h.size := by obtain ⟨c0, -, -, -, rfl⟩ := W; simp
theorem own_extlt (E : Ext h h') (q : a < h.size) : a < h'.size := Nat.lt_of_lt_of_le q E.1
end OwnStr
section OwnStr2
variable {Z : State} {h h' h0 : Heap} {a b t : Addr} {C n d C' : String} {v : Value}
theorem own_nin (q : a ≠ b) : a ∉ ([b] : List Addr) := fun z => q (List.mem_singleton.mp z)
theorem own_Fr.new {n n' : Nat} {t' : Addr} {L : List Loc} (A : own_Fr n' t' L) (q : n ≤ t') (r : n ≤ n') : Fr n L := fun y hy => (A y hy).elim (fun z => z ▸ q) (Nat.le_trans r)
theorem own_stak1 (F : Sta Z h C n d v) (K : Keep h h' [t]) (E : Exa Z h t C') : Sta Z h' C n d v := by
  obtain ⟨cf, i, k, f, st, cell, h1, h2, h3, h4, h5, h6, r⟩ := F
  obtain ⟨cell', k', e1, -, -, e4, -⟩ := E
  refine ⟨cf, i, k, f, st, cell, h1, h2, h3, h4, K.2.1 _ _ h5 (own_nin fun z => ?_), h6, r⟩
  subst z
  cases h5.symm.trans e1
  rw [h6] at e4; cases e4
theorem own_narB (x : Int32) : nar .byte x.toInt8.toInt32 = x.toInt8.toInt32 := by simp [nar]
theorem own_fr_in1 {x : Addr} {P : Addr → Prop} (q : P b) : x ∈ ([b] : List Addr) → P x := fun z => by cases List.mem_singleton.mp z; exact q
theorem own_trans1 {ws : List Addr} (A : Keep h0 h ws) (B : Keep h h' [b]) (q : b ∈ ws ∨ h0.size ≤ b) : Keep h0 h' ws := A.trans B fun x hx => by cases List.mem_singleton.mp hx; exact q
theorem own_trans0 {ws : List Addr} (A : Keep h0 h ws) (B : Keep h h' []) : Keep h0 h' ws := A.trans B fun x hx => by cases hx
end OwnStr2
def own_S (Z : State) (h : Heap) (w0 w1 w2 w3 w4 : Addr) : Prop := Sta Z h "com/example/nimble_gate/nimblegate/policy/Token$Kind" "WORD" "Lcom/example/nimble_gate/nimblegate/policy/Token$Kind;" (.ref w0) ∧ Sta Z h "com/example/nimble_gate/nimblegate/policy/Token$Kind" "STRING" "Lcom/example/nimble_gate/nimblegate/policy/Token$Kind;" (.ref w1) ∧ Sta Z h "com/example/nimble_gate/nimblegate/policy/Token$Kind" "NUMBER" "Lcom/example/nimble_gate/nimblegate/policy/Token$Kind;" (.ref w2) ∧ Sta Z h "com/example/nimble_gate/nimblegate/policy/Token$Kind" "SYMBOL" "Lcom/example/nimble_gate/nimblegate/policy/Token$Kind;" (.ref w3) ∧ Sta Z h "com/example/nimble_gate/nimblegate/policy/Token$Kind" "END" "Lcom/example/nimble_gate/nimblegate/policy/Token$Kind;" (.ref w4)
theorem own_eqi {args : Array Value} {s : State} {t : Term} {k : Int32} (h : (Jvm.Cond.eq t (.int k)).value args s none s [] = some true) : t.eval args s none [] s = some (.int k) := by
  have hk : (Term.int k).eval args s none [] s = some (.int k) := Term.int_eval k
  cases ht : t.eval args s none [] s with
  | none => simp [Cond.value, ht] at h
  | some y => cases y <;> simp [Cond.value, ht, hk] at h ⊢; exact h
def own_ch (c : Int32) : Prop := 0 ≤ c.toInt ∧ c.toInt ≤ 255
theorem own_ch_mask (x : Int32) : own_ch (x &&& (255 : Int32)) := c_and x (255 : Int32) (by decide)
theorem own_ch_le {c : Int32} (B : own_ch c) : ¬ (255 : Int32) < c := by
  rw [Int32.lt_iff_toInt_lt]
  have h : (255 : Int32).toInt = 255 := by decide
  have := B.2
  omega
theorem own_ch_nar {c : Int32} (B : own_ch c) : nar .char c = c := by
  apply Int32.toInt_inj.mp
  have h := c_i2c c
  have e : (nar .char c).toInt = c.toUInt32.toUInt16.toUInt32.toInt32.toInt := rfl
  obtain ⟨b1, b2⟩ := B
  omega
theorem own_ch_i2b {c d : Int32} (B : own_ch c) (D : own_ch d) (h : c.toInt8.toInt32 = d.toInt8.toInt32) : c = d := by
  apply Int32.toInt_inj.mp
  have h1 := c_i2b c
  have h2 := c_i2b d
  have h3 := congrArg Int32.toInt h
  obtain ⟨b1, b2⟩ := B
  obtain ⟨d1, d2⟩ := D
  omega
theorem pn_0 : plainName "java/lang/StringUTF16" = true := by first | (simp [plainName, overriddenIn]; done) | decide +kernel
theorem d10_0 : decode jdk_52_method_21_code 0 = .ok (.iconst 0, 1) := by decide +kernel
theorem d10_1 : decode jdk_52_method_21_code 1 = .ok (.istore 5, 2) := by decide +kernel
theorem d10_3 : decode jdk_52_method_21_code 3 = .ok (.iload 5, 2) := by decide +kernel
theorem d10_5 : decode jdk_52_method_21_code 5 = .ok (.iload 4, 2) := by decide +kernel
theorem d10_7 : decode jdk_52_method_21_code 7 = .ok (.if_icmp .ge 37, 3) := by decide +kernel
theorem d10_10 : decode jdk_52_method_21_code 10 = .ok (.aload_n 0, 1) := by decide +kernel
theorem d10_11 : decode jdk_52_method_21_code 11 = .ok (.iload_n 1, 1) := by decide +kernel
theorem d10_12 : decode jdk_52_method_21_code 12 = .ok (.caload, 1) := by decide +kernel
theorem d10_13 : decode jdk_52_method_21_code 13 = .ok (.istore 6, 2) := by decide +kernel
theorem d10_15 : decode jdk_52_method_21_code 15 = .ok (.iload 6, 2) := by decide +kernel
theorem d10_17 : decode jdk_52_method_21_code 17 = .ok (.sipush 255, 3) := by decide +kernel
theorem d10_20 : decode jdk_52_method_21_code 20 = .ok (.if_icmp .le 6, 3) := by decide +kernel
theorem d10_26 : decode jdk_52_method_21_code 26 = .ok (.aload_n 2, 1) := by decide +kernel
theorem d10_27 : decode jdk_52_method_21_code 27 = .ok (.iload_n 3, 1) := by decide +kernel
theorem d10_28 : decode jdk_52_method_21_code 28 = .ok (.iload 6, 2) := by decide +kernel
theorem d10_30 : decode jdk_52_method_21_code 30 = .ok (.i2b, 1) := by decide +kernel
theorem d10_31 : decode jdk_52_method_21_code 31 = .ok (.bastore, 1) := by decide +kernel
theorem d10_32 : decode jdk_52_method_21_code 32 = .ok (.iinc 1 1, 3) := by decide +kernel
theorem d10_35 : decode jdk_52_method_21_code 35 = .ok (.iinc 3 1, 3) := by decide +kernel
theorem d10_38 : decode jdk_52_method_21_code 38 = .ok (.iinc 5 1, 3) := by decide +kernel
theorem d10_41 : decode jdk_52_method_21_code 41 = .ok (.goto (-38), 3) := by decide +kernel
theorem d10_44 : decode jdk_52_method_21_code 44 = .ok (.iload 4, 2) := by decide +kernel
theorem d10_46 : decode jdk_52_method_21_code 46 = .ok (.ireturn, 1) := by decide +kernel
set_option maxRecDepth 65536 in
set_option maxHeartbeats 40000000 in
theorem own_cp5_1 (l : Launch) (Z : State) (a0 : Array Value) (hw : ∀ d ∈ tables_1, d.before a0 Z = true) (a b : Addr) (ka kb : ClassId) (c0 : Int32) (h0 : Heap) (hab : a ≠ b) (A : own_A Z h0 a .char ka [(.int c0)]) (B : own_A Z h0 b .byte kb [(.int 0)]) (hc0 : ¬ (255 : Int32) < c0) :
    own_Met l (⟨"java/lang/StringUTF16", "compress", "([CI[BII)I"⟩ : MethodName) jdk_52_method_21_code 7 (some .int) [] ({ frames := 0, cells := 0, slots := 0, locals := 0 } : Room) Z #[(.ref a), (.int (0 : Int32)), (.ref b), (.int (0 : Int32)), (.int (1 : Int32))] h0 (fun rv rh rL => rv = some (.int (1 : Int32)) ∧ Keep h0 rh [b] ∧ own_Fr h0.size b rL ∧ own_A Z rh b .byte kb [(.int (c0.toInt8.toInt32))]) := by
  refine own_enter (plainFor_of_name pn_0) ?_
  intro p e s m below meth c T0 hx hby hml hret hlk hown hnm hZ X0 e0
  refine own_at (g' := (mkF m 0 #[oR a, oI (0 : Int32), oR b, oI (0 : Int32), oI (1 : Int32), .unset, .unset] [])) (by first | (simp [entryFrame, mkF, argsToLocals, Value.category]; done) | rfl) ?_
  show own_Go p e below _ T0 (mkF m 0 #[oR a, oI (0 : Int32), oR b, oI (0 : Int32), oI (1 : Int32), .unset, .unset] [])
  have K0 : Keep h0 h0 [b] := Keep.refl h0 _
  have N0 : own_Fr h0.size b [] := own_Fr.nil
  refine own_by (fun t_ k_ => XT.iconstV X0.here hx rfl (0 : Int32) (hb hby d10_0) (by decide) k_) ?_
  show own_Go p e below _ T0 (mkF m 1 #[oR a, oI (0 : Int32), oR b, oI (0 : Int32), oI (1 : Int32), .unset, .unset] [(.int (0 : Int32))])
  refine own_by (fun t_ k_ => XS.istore X0.here hx rfl (hb hby d10_1) rfl (l' := #[oR a, oI (0 : Int32), oR b, oI (0 : Int32), oI (1 : Int32), oI (0 : Int32), .unset]) rfl k_) ?_
  show own_Go p e below _ T0 (mkF m 3 #[oR a, oI (0 : Int32), oR b, oI (0 : Int32), oI (1 : Int32), oI (0 : Int32), .unset] [])
  refine own_by (fun t_ k_ => XS.iload X0.here hx rfl (hb hby d10_3) rfl  k_) ?_
  show own_Go p e below _ T0 (mkF m 5 #[oR a, oI (0 : Int32), oR b, oI (0 : Int32), oI (1 : Int32), oI (0 : Int32), .unset] [(.int (0 : Int32))])
  refine own_by (fun t_ k_ => XS.iload X0.here hx rfl (hb hby d10_5) rfl  k_) ?_
  show own_Go p e below _ T0 (mkF m 7 #[oR a, oI (0 : Int32), oR b, oI (0 : Int32), oI (1 : Int32), oI (0 : Int32), .unset] [(.int (1 : Int32)), (.int (0 : Int32))])
  refine own_by (fun t_ k_ => XS.icmpNo X0.here hx rfl (hb hby d10_7) rfl (XT.ii_ge_f (by decide)) k_) ?_
  show own_Go p e below _ T0 (mkF m 10 #[oR a, oI (0 : Int32), oR b, oI (0 : Int32), oI (1 : Int32), oI (0 : Int32), .unset] [])
  refine own_by (fun t_ k_ => XS.aloadN X0.here hx rfl (hb hby d10_10) rfl rfl  k_) ?_
  show own_Go p e below _ T0 (mkF m 11 #[oR a, oI (0 : Int32), oR b, oI (0 : Int32), oI (1 : Int32), oI (0 : Int32), .unset] [(.ref a)])
  refine own_by (fun t_ k_ => XS.iloadN X0.here hx rfl (hb hby d10_11) rfl  k_) ?_
  show own_Go p e below _ T0 (mkF m 12 #[oR a, oI (0 : Int32), oR b, oI (0 : Int32), oI (1 : Int32), oI (0 : Int32), .unset] [(.int (0 : Int32)), (.ref a)])
  refine own_ldC X0 hx hZ e0 A 0 (by decide) (by decide) (v := (.int c0)) rfl (hb hby d10_12) ?_
  show own_Go p e below _ T0 (mkF m 13 #[oR a, oI (0 : Int32), oR b, oI (0 : Int32), oI (1 : Int32), oI (0 : Int32), .unset] [(.int c0)])
  refine own_by (fun t_ k_ => XS.istore X0.here hx rfl (hb hby d10_13) rfl (l' := #[oR a, oI (0 : Int32), oR b, oI (0 : Int32), oI (1 : Int32), oI (0 : Int32), oI c0]) rfl k_) ?_
  show own_Go p e below _ T0 (mkF m 15 #[oR a, oI (0 : Int32), oR b, oI (0 : Int32), oI (1 : Int32), oI (0 : Int32), oI c0] [])
  refine own_by (fun t_ k_ => XS.iload X0.here hx rfl (hb hby d10_15) rfl  k_) ?_
  show own_Go p e below _ T0 (mkF m 17 #[oR a, oI (0 : Int32), oR b, oI (0 : Int32), oI (1 : Int32), oI (0 : Int32), oI c0] [(.int c0)])
  refine own_by (fun t_ k_ => XT.sipushV X0.here hx rfl (255 : Int32) (hb hby d10_17) (by decide) k_) ?_
  show own_Go p e below _ T0 (mkF m 20 #[oR a, oI (0 : Int32), oR b, oI (0 : Int32), oI (1 : Int32), oI (0 : Int32), oI c0] [(.int (255 : Int32)), (.int c0)])
  refine own_by (fun t_ k_ => XS.icmpYes X0.here hx rfl (pc0 := 20) (pc' := 26) rfl (hb hby d10_20) rfl (XT.ii_le_t hc0) (by decide) (by decide) k_) ?_
  show own_Go p e below _ T0 (mkF m 26 #[oR a, oI (0 : Int32), oR b, oI (0 : Int32), oI (1 : Int32), oI (0 : Int32), oI c0] [])
  refine own_by (fun t_ k_ => XS.aloadN X0.here hx rfl (hb hby d10_26) rfl rfl  k_) ?_
  show own_Go p e below _ T0 (mkF m 27 #[oR a, oI (0 : Int32), oR b, oI (0 : Int32), oI (1 : Int32), oI (0 : Int32), oI c0] [(.ref b)])
  refine own_by (fun t_ k_ => XS.iloadN X0.here hx rfl (hb hby d10_27) rfl  k_) ?_
  show own_Go p e below _ T0 (mkF m 28 #[oR a, oI (0 : Int32), oR b, oI (0 : Int32), oI (1 : Int32), oI (0 : Int32), oI c0] [(.int (0 : Int32)), (.ref b)])
  refine own_by (fun t_ k_ => XS.iload X0.here hx rfl (hb hby d10_28) rfl  k_) ?_
  show own_Go p e below _ T0 (mkF m 30 #[oR a, oI (0 : Int32), oR b, oI (0 : Int32), oI (1 : Int32), oI (0 : Int32), oI c0] [(.int c0), (.int (0 : Int32)), (.ref b)])
  refine own_by (fun t_ k_ => XT.i2b X0.here hx rfl (hb hby d10_30) rfl k_) ?_
  show own_Go p e below _ T0 (mkF m 31 #[oR a, oI (0 : Int32), oR b, oI (0 : Int32), oI (1 : Int32), oI (0 : Int32), oI c0] [(.int (c0.toInt8.toInt32)), (.int (0 : Int32)), (.ref b)])
  refine own_stB X0 hx hZ e0 B (y := (c0.toInt8.toInt32)) 0 (by decide) (by decide) (by simp) (own_narB c0) (hb hby d10_31) ?_
  intro T1 hT1 XT1 eT1 WT1 YT1
  have VT1 : own_A Z hT1 b .byte kb [(.int (c0.toInt8.toInt32))] := YT1
  clear YT1
  have fq2_1 := A.keep (Keep.of_wr WT1) (own_nin hab)
  have Kq2 := own_trans1 K0 (Keep.of_wr WT1) (Or.inl (List.mem_singleton.mpr rfl))
  have N3 := own_Fr.app N0 (own_Fr.one (i := 0))
  show own_Go p e below _ T1 (mkF m 32 #[oR a, oI (0 : Int32), oR b, oI (0 : Int32), oI (1 : Int32), oI (0 : Int32), oI c0] [])
  refine own_by (fun t_ k_ => XT.iincV XT1.here hx rfl (1 : Int32) (hb hby d10_32) (by decide) rfl (l' := #[oR a, oI ((0 : Int32) + (1 : Int32)), oR b, oI (0 : Int32), oI (1 : Int32), oI (0 : Int32), oI c0]) rfl k_) ?_
  show own_Go p e below _ T1 (mkF m 35 #[oR a, oI ((0 : Int32) + (1 : Int32)), oR b, oI (0 : Int32), oI (1 : Int32), oI (0 : Int32), oI c0] [])
  rw [show ((0 : Int32) + (1 : Int32)) = (1 : Int32) by decide]
  show own_Go p e below _ T1 (mkF m 35 #[oR a, oI (1 : Int32), oR b, oI (0 : Int32), oI (1 : Int32), oI (0 : Int32), oI c0] [])
  refine own_by (fun t_ k_ => XT.iincV XT1.here hx rfl (1 : Int32) (hb hby d10_35) (by decide) rfl (l' := #[oR a, oI (1 : Int32), oR b, oI ((0 : Int32) + (1 : Int32)), oI (1 : Int32), oI (0 : Int32), oI c0]) rfl k_) ?_
  show own_Go p e below _ T1 (mkF m 38 #[oR a, oI (1 : Int32), oR b, oI ((0 : Int32) + (1 : Int32)), oI (1 : Int32), oI (0 : Int32), oI c0] [])
  rw [show ((0 : Int32) + (1 : Int32)) = (1 : Int32) by decide]
  show own_Go p e below _ T1 (mkF m 38 #[oR a, oI (1 : Int32), oR b, oI (1 : Int32), oI (1 : Int32), oI (0 : Int32), oI c0] [])
  refine own_by (fun t_ k_ => XT.iincV XT1.here hx rfl (1 : Int32) (hb hby d10_38) (by decide) rfl (l' := #[oR a, oI (1 : Int32), oR b, oI (1 : Int32), oI (1 : Int32), oI ((0 : Int32) + (1 : Int32)), oI c0]) rfl k_) ?_
  show own_Go p e below _ T1 (mkF m 41 #[oR a, oI (1 : Int32), oR b, oI (1 : Int32), oI (1 : Int32), oI ((0 : Int32) + (1 : Int32)), oI c0] [])
  rw [show ((0 : Int32) + (1 : Int32)) = (1 : Int32) by decide]
  show own_Go p e below _ T1 (mkF m 41 #[oR a, oI (1 : Int32), oR b, oI (1 : Int32), oI (1 : Int32), oI (1 : Int32), oI c0] [])
  refine own_by (fun t_ k_ => XS.goto XT1.here hx rfl (pc0 := 41) (pc' := 3) rfl (hb hby d10_41) (by decide) (by decide) k_) ?_
  show own_Go p e below _ T1 (mkF m 3 #[oR a, oI (1 : Int32), oR b, oI (1 : Int32), oI (1 : Int32), oI (1 : Int32), oI c0] [])
  refine own_by (fun t_ k_ => XS.iload XT1.here hx rfl (hb hby d10_3) rfl  k_) ?_
  show own_Go p e below _ T1 (mkF m 5 #[oR a, oI (1 : Int32), oR b, oI (1 : Int32), oI (1 : Int32), oI (1 : Int32), oI c0] [(.int (1 : Int32))])
  refine own_by (fun t_ k_ => XS.iload XT1.here hx rfl (hb hby d10_5) rfl  k_) ?_
  show own_Go p e below _ T1 (mkF m 7 #[oR a, oI (1 : Int32), oR b, oI (1 : Int32), oI (1 : Int32), oI (1 : Int32), oI c0] [(.int (1 : Int32)), (.int (1 : Int32))])
  refine own_by (fun t_ k_ => XS.icmpYes XT1.here hx rfl (pc0 := 7) (pc' := 44) rfl (hb hby d10_7) rfl (XT.ii_ge_t (by decide)) (by decide) (by decide) k_) ?_
  show own_Go p e below _ T1 (mkF m 44 #[oR a, oI (1 : Int32), oR b, oI (1 : Int32), oI (1 : Int32), oI (1 : Int32), oI c0] [])
  refine own_by (fun t_ k_ => XS.iload XT1.here hx rfl (hb hby d10_44) rfl  k_) ?_
  show own_Go p e below _ T1 (mkF m 46 #[oR a, oI (1 : Int32), oR b, oI (1 : Int32), oI (1 : Int32), oI (1 : Int32), oI c0] [(.int (1 : Int32))])
  subst eT1
  exact own_retI XT1 hx hlk hret (hb hby d10_46) (by decide) (by decide) (⟨rfl, Kq2, N3, VT1⟩)
theorem d9_0 : decode jdk_52_method_16_code 0 = .ok (.iload_n 2, 1) := by decide +kernel
theorem d9_1 : decode jdk_52_method_16_code 1 = .ok (.newarray .byte, 2) := by decide +kernel
theorem d9_3 : decode jdk_52_method_16_code 3 = .ok (.astore_n 3, 1) := by decide +kernel
theorem d9_4 : decode jdk_52_method_16_code 4 = .ok (.aload_n 0, 1) := by decide +kernel
theorem d9_5 : decode jdk_52_method_16_code 5 = .ok (.iload_n 1, 1) := by decide +kernel
theorem d9_6 : decode jdk_52_method_16_code 6 = .ok (.aload_n 3, 1) := by decide +kernel
theorem d9_7 : decode jdk_52_method_16_code 7 = .ok (.iconst 0, 1) := by decide +kernel
theorem d9_8 : decode jdk_52_method_16_code 8 = .ok (.iload_n 2, 1) := by decide +kernel
theorem d9_9 : decode jdk_52_method_16_code 9 = .ok (.invokestatic 115, 3) := by decide +kernel
theorem pd_0 : parseMethodDescriptor "([CI[BII)I" = some ⟨[(.array .char), .int, (.array .byte), .int, .int], some .int⟩ := by decide +kernel
theorem d9_12 : decode jdk_52_method_16_code 12 = .ok (.istore 4, 2) := by decide +kernel
theorem d9_14 : decode jdk_52_method_16_code 14 = .ok (.iload 4, 2) := by decide +kernel
theorem d9_16 : decode jdk_52_method_16_code 16 = .ok (.iload_n 2, 1) := by decide +kernel
theorem d9_17 : decode jdk_52_method_16_code 17 = .ok (.if_icmp .eq 40, 3) := by decide +kernel
theorem d9_57 : decode jdk_52_method_16_code 57 = .ok (.aload_n 3, 1) := by decide +kernel
theorem d9_58 : decode jdk_52_method_16_code 58 = .ok (.areturn, 1) := by decide +kernel
set_option maxRecDepth 65536 in
set_option maxHeartbeats 40000000 in
theorem own_cp3_1 (l : Launch) (Z : State) (a0 : Array Value) (hw : ∀ d ∈ tables_1, d.before a0 Z = true) (a : Addr) (ka : ClassId) (c0 : Int32) (h0 : Heap) (A : own_A Z h0 a .char ka [(.int c0)]) (hc0 : ¬ (255 : Int32) < c0) :
    own_Met l (⟨"java/lang/StringUTF16", "compress", "([CII)[B"⟩ : MethodName) jdk_52_method_16_code 6 (some (.array .byte)) [] ({ frames := 1, cells := 1, slots := 1, locals := 18 } : Room) Z #[(.ref a), (.int (0 : Int32)), (.int (1 : Int32))] h0 (fun rv rh rL => rv = some (.ref h0.size) ∧ Keep h0 rh [] ∧ Fr h0.size rL ∧ ∃ kb, own_A Z rh h0.size .byte kb [(.int (c0.toInt8.toInt32))]) := by
  refine own_enter (plainFor_of_name pn_0) ?_
  intro p e s m below meth c T0 hx hby hml hret hlk hown hnm hZ X0 e0
  refine own_at (g' := (mkF m 0 #[oR a, oI (0 : Int32), oI (1 : Int32), .unset, .unset, .unset] [])) (by first | (simp [entryFrame, mkF, argsToLocals, Value.category]; done) | rfl) ?_
  show own_Go p e below _ T0 (mkF m 0 #[oR a, oI (0 : Int32), oI (1 : Int32), .unset, .unset, .unset] [])
  have lt1 : a < h0.size := A.lt
  have K0 : Keep h0 h0 [] := Keep.refl h0 _
  have N0 : own_Fr h0.size h0.size [] := own_Fr.nil
  refine own_by (fun t_ k_ => XS.iloadN X0.here hx rfl (hb hby d9_0) rfl  k_) ?_
  show own_Go p e below _ T0 (mkF m 1 #[oR a, oI (0 : Int32), oI (1 : Int32), .unset, .unset, .unset] [(.int (1 : Int32))])
  have g3 : h0.size ≤ h0.size := K0.1
  refine own_newP X0 hx hZ (aty := .byte) (hw _ (List.mem_of_getElem? (i := 19) rfl)) e0 (hb hby d9_1) 1 1 (by decide) (by decide) (by decide) (by decide) (by decide) (by decide) ?_
  intro T2 hT2 kT2 XT2 eT2 ET2 YT2
  have VT2 : own_A Z hT2 h0.size .byte kT2 [(.int 0)] := YT2
  clear YT2
  have fq4_1 := A.keep (own_ek ET2) nin0
  have lq4_0 := Nat.lt_of_lt_of_le lt1 (own_ek ET2).1
  have Kq4 := own_trans0 K0 (own_ek ET2)
  have z5 : a ≠ h0.size := Nat.ne_of_lt lt1
  have lt6 := VT2.lt
  show own_Go p e below _ T2 (mkF m 3 #[oR a, oI (0 : Int32), oI (1 : Int32), .unset, .unset, .unset] [(.ref h0.size)])
  refine own_by (fun t_ k_ => XS.astoreN XT2.here hx rfl (hb hby d9_3) rfl rfl (l' := #[oR a, oI (0 : Int32), oI (1 : Int32), oR h0.size, .unset, .unset]) rfl k_) ?_
  show own_Go p e below _ T2 (mkF m 4 #[oR a, oI (0 : Int32), oI (1 : Int32), oR h0.size, .unset, .unset] [])
  refine own_by (fun t_ k_ => XS.aloadN XT2.here hx rfl (hb hby d9_4) rfl rfl  k_) ?_
  show own_Go p e below _ T2 (mkF m 5 #[oR a, oI (0 : Int32), oI (1 : Int32), oR h0.size, .unset, .unset] [(.ref a)])
  refine own_by (fun t_ k_ => XS.iloadN XT2.here hx rfl (hb hby d9_5) rfl  k_) ?_
  show own_Go p e below _ T2 (mkF m 6 #[oR a, oI (0 : Int32), oI (1 : Int32), oR h0.size, .unset, .unset] [(.int (0 : Int32)), (.ref a)])
  refine own_by (fun t_ k_ => XS.aloadN XT2.here hx rfl (hb hby d9_6) rfl rfl  k_) ?_
  show own_Go p e below _ T2 (mkF m 7 #[oR a, oI (0 : Int32), oI (1 : Int32), oR h0.size, .unset, .unset] [(.ref h0.size), (.int (0 : Int32)), (.ref a)])
  refine own_by (fun t_ k_ => XT.iconstV XT2.here hx rfl (0 : Int32) (hb hby d9_7) (by decide) k_) ?_
  show own_Go p e below _ T2 (mkF m 8 #[oR a, oI (0 : Int32), oI (1 : Int32), oR h0.size, .unset, .unset] [(.int (0 : Int32)), (.ref h0.size), (.int (0 : Int32)), (.ref a)])
  refine own_by (fun t_ k_ => XS.iloadN XT2.here hx rfl (hb hby d9_8) rfl  k_) ?_
  show own_Go p e below _ T2 (mkF m 9 #[oR a, oI (0 : Int32), oI (1 : Int32), oR h0.size, .unset, .unset] [(.int (1 : Int32)), (.int (0 : Int32)), (.ref h0.size), (.int (0 : Int32)), (.ref a)])
  refine own_callS XT2 hx hZ hown (hw _ (List.mem_of_getElem? (i := 64) rfl)) (hw _ (List.mem_of_getElem? (i := 65) rfl)) (hw _ (List.mem_of_getElem? (i := 62) rfl)) (hw _ (List.mem_of_getElem? (i := 66) rfl)) (by decide) eT2 (argsL := [(.ref a), (.int (0 : Int32)), (.ref h0.size), (.int (0 : Int32)), (.int (1 : Int32))]) (rest := []) (own_cp5_1 l Z a0 hw a h0.size ka kT2 c0 hT2 z5 fq4_1 VT2 hc0) 0 (by decide) (by decide) (by rw [hml]; rfl) (lenOf pd_0 rfl) (Nat.le_of_eq rfl) (hb hby d9_9) (by decide) (by decide) (st := [(.int (1 : Int32)), (.int (0 : Int32)), (.ref h0.size), (.int (0 : Int32)), (.ref a)]) rfl ?_
  intro T7 LT7 vT7 XT7 hQT7
  obtain ⟨rfl, KT7, NT7, VT7⟩ := hQT7
  show own_Go p e below _ T7 (mkF m 12 #[oR a, oI (0 : Int32), oI (1 : Int32), oR h0.size, .unset, .unset] [(.int (1 : Int32))])
  have fq8_1 := fq4_1.keep KT7 (own_nin z5)
  have lq8_0 := Nat.lt_of_lt_of_le lq4_0 KT7.1
  have lq8_1 := Nat.lt_of_lt_of_le lt6 KT7.1
  have Kq8 := own_trans1 Kq4 KT7 (Or.inr g3)
  have N9 := own_Fr.app N0 (own_Fr.of (own_Fr.new NT7 g3 (Kq4).1) (Nat.le_refl _))
  refine own_by (fun t_ k_ => XS.istore XT7.here hx rfl (hb hby d9_12) rfl (l' := #[oR a, oI (0 : Int32), oI (1 : Int32), oR h0.size, oI (1 : Int32), .unset]) rfl k_) ?_
  show own_Go p e below _ T7 (mkF m 14 #[oR a, oI (0 : Int32), oI (1 : Int32), oR h0.size, oI (1 : Int32), .unset] [])
  refine own_by (fun t_ k_ => XS.iload XT7.here hx rfl (hb hby d9_14) rfl  k_) ?_
  show own_Go p e below _ T7 (mkF m 16 #[oR a, oI (0 : Int32), oI (1 : Int32), oR h0.size, oI (1 : Int32), .unset] [(.int (1 : Int32))])
  refine own_by (fun t_ k_ => XS.iloadN XT7.here hx rfl (hb hby d9_16) rfl  k_) ?_
  show own_Go p e below _ T7 (mkF m 17 #[oR a, oI (0 : Int32), oI (1 : Int32), oR h0.size, oI (1 : Int32), .unset] [(.int (1 : Int32)), (.int (1 : Int32))])
  refine own_by (fun t_ k_ => XS.icmpYes XT7.here hx rfl (pc0 := 17) (pc' := 57) rfl (hb hby d9_17) rfl (XT.ii_eq_t (by decide)) (by decide) (by decide) k_) ?_
  show own_Go p e below _ T7 (mkF m 57 #[oR a, oI (0 : Int32), oI (1 : Int32), oR h0.size, oI (1 : Int32), .unset] [])
  refine own_by (fun t_ k_ => XS.aloadN XT7.here hx rfl (hb hby d9_57) rfl rfl  k_) ?_
  show own_Go p e below _ T7 (mkF m 58 #[oR a, oI (0 : Int32), oI (1 : Int32), oR h0.size, oI (1 : Int32), .unset] [(.ref h0.size)])
  exact own_retA XT7 hx hlk hret rfl rfl (hb hby d9_58) (by decide) (by decide) (⟨rfl, Kq8, (N9).to (Nat.le_refl _), ⟨_, VT7⟩⟩)
theorem d11_0 : decode jdk_52_method_15_code 0 = .ok (.iload_n 1, 1) := by decide +kernel
theorem d11_1 : decode jdk_52_method_15_code 1 = .ok (.aload_n 0, 1) := by decide +kernel
theorem d11_2 : decode jdk_52_method_15_code 2 = .ok (.arraylength, 1) := by decide +kernel
theorem d11_3 : decode jdk_52_method_15_code 3 = .ok (.isub, 1) := by decide +kernel
theorem d11_4 : decode jdk_52_method_15_code 4 = .ok (.bipush 31, 2) := by decide +kernel
theorem d11_6 : decode jdk_52_method_15_code 6 = .ok (.iushr, 1) := by decide +kernel
theorem d11_7 : decode jdk_52_method_15_code 7 = .ok (.i2b, 1) := by decide +kernel
theorem d11_8 : decode jdk_52_method_15_code 8 = .ok (.ireturn, 1) := by decide +kernel
set_option maxRecDepth 65536 in
set_option maxHeartbeats 40000000 in
theorem own_cd_1 (l : Launch) (Z : State) (a0 : Array Value) (hw : ∀ d ∈ tables_1, d.before a0 Z = true) (a : Addr) (ka : ClassId) (x0 : Value) (h0 : Heap) (A : own_A Z h0 a .byte ka [x0]) :
    own_Met l (⟨"java/lang/StringUTF16", "coderFromArrayLen", "([BI)B"⟩ : MethodName) jdk_52_method_15_code 2 (some .byte) [] ({ frames := 0, cells := 0, slots := 0, locals := 0 } : Room) Z #[(.ref a), (.int (1 : Int32))] h0 (fun rv rh rL => rv = some (.int (0 : Int32)) ∧ rh = h0 ∧ rL = []) := by
  refine own_enter (plainFor_of_name pn_0) ?_
  intro p e s m below meth c T0 hx hby hml hret hlk hown hnm hZ X0 e0
  refine own_at (g' := (mkF m 0 #[oR a, oI (1 : Int32)] [])) (by first | (simp [entryFrame, mkF, argsToLocals, Value.category]; done) | rfl) ?_
  show own_Go p e below _ T0 (mkF m 0 #[oR a, oI (1 : Int32)] [])
  have K0 : Keep h0 h0 [] := Keep.refl h0 _
  have N0 : own_Fr h0.size h0.size [] := own_Fr.nil
  refine own_by (fun t_ k_ => XS.iloadN X0.here hx rfl (hb hby d11_0) rfl  k_) ?_
  show own_Go p e below _ T0 (mkF m 1 #[oR a, oI (1 : Int32)] [(.int (1 : Int32))])
  refine own_by (fun t_ k_ => XS.aloadN X0.here hx rfl (hb hby d11_1) rfl rfl  k_) ?_
  show own_Go p e below _ T0 (mkF m 2 #[oR a, oI (1 : Int32)] [(.ref a), (.int (1 : Int32))])
  refine own_len X0 hx hZ e0 A (1 : Int32) rfl (hb hby d11_2) ?_
  show own_Go p e below _ T0 (mkF m 3 #[oR a, oI (1 : Int32)] [(.int (1 : Int32)), (.int (1 : Int32))])
  refine own_by (fun t_ k_ => XS.isub X0.here hx rfl (hb hby d11_3) rfl k_) ?_
  show own_Go p e below _ T0 (mkF m 4 #[oR a, oI (1 : Int32)] [(.int ((1 : Int32) - (1 : Int32)))])
  rw [show ((1 : Int32) - (1 : Int32)) = (0 : Int32) by decide]
  show own_Go p e below _ T0 (mkF m 4 #[oR a, oI (1 : Int32)] [(.int (0 : Int32))])
  refine own_by (fun t_ k_ => XT.bipushV X0.here hx rfl (31 : Int32) (hb hby d11_4) (by decide) k_) ?_
  show own_Go p e below _ T0 (mkF m 6 #[oR a, oI (1 : Int32)] [(.int (31 : Int32)), (.int (0 : Int32))])
  refine own_by (fun t_ k_ => XT.iushr X0.here hx rfl (hb hby d11_6) rfl k_) ?_
  show own_Go p e below _ T0 (mkF m 7 #[oR a, oI (1 : Int32)] [(.int (((0 : Int32).toUInt32 >>> ((31 : Int32) &&& 31).toUInt32).toInt32))])
  rw [show (((0 : Int32).toUInt32 >>> ((31 : Int32) &&& 31).toUInt32).toInt32) = (0 : Int32) by decide]
  show own_Go p e below _ T0 (mkF m 7 #[oR a, oI (1 : Int32)] [(.int (0 : Int32))])
  refine own_by (fun t_ k_ => XT.i2b X0.here hx rfl (hb hby d11_7) rfl k_) ?_
  show own_Go p e below _ T0 (mkF m 8 #[oR a, oI (1 : Int32)] [(.int ((0 : Int32).toInt8.toInt32))])
  rw [show ((0 : Int32).toInt8.toInt32) = (0 : Int32) by decide]
  show own_Go p e below _ T0 (mkF m 8 #[oR a, oI (1 : Int32)] [(.int (0 : Int32))])
  subst e0
  exact own_retN X0 hx hlk hret (by simp) (w := (0 : Int32)) (hb hby d11_8) (by decide) (by decide) (by decide) (⟨rfl, rfl, rfl⟩)
theorem pn_1 : plainName "java/lang/String" = true := by first | (simp [plainName, overriddenIn]; done) | decide +kernel
theorem d3_0 : decode jdk_42_method_149_code 0 = .ok (.aload_n 0, 1) := by decide +kernel
theorem d3_1 : decode jdk_42_method_149_code 1 = .ok (.invokespecial 1, 3) := by decide +kernel
theorem d3_4 : decode jdk_42_method_149_code 4 = .ok (.iload_n 3, 1) := by decide +kernel
theorem d3_5 : decode jdk_42_method_149_code 5 = .ok (.ifCond .ne 22, 3) := by decide +kernel
theorem d3_27 : decode jdk_42_method_149_code 27 = .ok (.getstatic 38, 3) := by decide +kernel
theorem d3_30 : decode jdk_42_method_149_code 30 = .ok (.ifCond .eq 28, 3) := by decide +kernel
theorem d3_33 : decode jdk_42_method_149_code 33 = .ok (.aload_n 1, 1) := by decide +kernel
theorem d3_34 : decode jdk_42_method_149_code 34 = .ok (.iload_n 2, 1) := by decide +kernel
theorem d3_35 : decode jdk_42_method_149_code 35 = .ok (.iload_n 3, 1) := by decide +kernel
theorem d3_36 : decode jdk_42_method_149_code 36 = .ok (.invokestatic 177, 3) := by decide +kernel
theorem pd_1 : parseMethodDescriptor "([CII)[B" = some ⟨[(.array .char), .int, .int], some (.array .byte)⟩ := by decide +kernel
theorem d3_39 : decode jdk_42_method_149_code 39 = .ok (.astore 5, 2) := by decide +kernel
theorem d3_41 : decode jdk_42_method_149_code 41 = .ok (.aload_n 0, 1) := by decide +kernel
theorem d3_42 : decode jdk_42_method_149_code 42 = .ok (.aload 5, 2) := by decide +kernel
theorem d3_44 : decode jdk_42_method_149_code 44 = .ok (.iload_n 3, 1) := by decide +kernel
theorem d3_45 : decode jdk_42_method_149_code 45 = .ok (.invokestatic 47, 3) := by decide +kernel
theorem pd_2 : parseMethodDescriptor "([BI)B" = some ⟨[(.array .byte), .int], some .byte⟩ := by decide +kernel
theorem d3_48 : decode jdk_42_method_149_code 48 = .ok (.putfield 15, 3) := by decide +kernel
theorem d3_51 : decode jdk_42_method_149_code 51 = .ok (.aload_n 0, 1) := by decide +kernel
theorem d3_52 : decode jdk_42_method_149_code 52 = .ok (.aload 5, 2) := by decide +kernel
theorem d3_54 : decode jdk_42_method_149_code 54 = .ok (.putfield 9, 3) := by decide +kernel
theorem d3_57 : decode jdk_42_method_149_code 57 = .ok (.return_, 1) := by decide +kernel
set_option maxRecDepth 65536 in
set_option maxHeartbeats 40000000 in
theorem own_i4_1 (l : Launch) (Z : State) (a0 : Array Value) (hw : ∀ d ∈ tables_1, d.before a0 Z = true) (t a : Addr) (ka : ClassId) (c0 : Int32) (h0 : Heap) (cs : Int32) (Cs : Sta Z h0 "java/lang/String" "COMPACT_STRINGS" "Z" (.int cs)) (hcs : ¬ cs = (0 : Int32))(Et : Exa Z h0 t "java/lang/String") (Fv : Fld Z h0 t "java/lang/String" "value" "[B" .null) (Fc : Fld Z h0 t "java/lang/String" "coder" "B" (.int 0)) (A : own_A Z h0 a .char ka [(.int c0)]) (hc0 : ¬ (255 : Int32) < c0) :
    own_Met l (⟨"java/lang/String", "<init>", "([CIILjava/lang/Void;)V"⟩ : MethodName) jdk_42_method_149_code 6 (none) [] ({ frames := 2, cells := 1, slots := 1, locals := 38 } : Room) Z #[(.ref t), (.ref a), (.int (0 : Int32)), (.int (1 : Int32)), .null] h0 (fun rv rh rL => rv = none ∧ Keep h0 rh [t] ∧ own_Fr h0.size t rL ∧ own_Str Z rh t 0 [(.int (c0.toInt8.toInt32))]) := by
  refine own_enter (plainFor_of_name pn_1) ?_
  intro p e s m below meth c T0 hx hby hml hret hlk hown hnm hZ X0 e0
  refine own_at (g' := (mkF m 0 #[oR t, oR a, oI (0 : Int32), oI (1 : Int32), .val .null, .unset] [])) (by first | (simp [entryFrame, mkF, argsToLocals, Value.category]; done) | rfl) ?_
  show own_Go p e below _ T0 (mkF m 0 #[oR t, oR a, oI (0 : Int32), oI (1 : Int32), .val .null, .unset] [])
  have lt1 : t < h0.size := Et.lt
  have lt2 : a < h0.size := A.lt
  have K0 : Keep h0 h0 [t] := Keep.refl h0 _
  have N0 : own_Fr h0.size t [] := own_Fr.nil
  refine own_by (fun t_ k_ => XS.aloadN X0.here hx rfl (hb hby d3_0) rfl rfl  k_) ?_
  show own_Go p e below _ T0 (mkF m 1 #[oR t, oR a, oI (0 : Int32), oI (1 : Int32), .val .null, .unset] [(.ref t)])
  obtain ⟨T3, XT3, eT3, stT3⟩ := initO X0 hx hZ hown (hw _ (List.mem_of_getElem? (i := 15) rfl)) (hw _ (List.mem_of_getElem? (i := 16) rfl)) (hw _ (List.mem_of_getElem? (i := 17) rfl)) e0 (g := (mkF m 1 #[oR t, oR a, oI (0 : Int32), oI (1 : Int32), .val .null, .unset] [(.ref t)])) rfl (by rw [hml]; rfl) rfl (hb hby d3_1) (by decide) (W := 0) (by show 2 * 0 + _ ≤ _; exact Nat.le_of_eq rfl) (by decide)
  refine own_by stT3 ?_
  show own_Go p e below _ T3 (mkF m 4 #[oR t, oR a, oI (0 : Int32), oI (1 : Int32), .val .null, .unset] [])
  refine own_by (fun t_ k_ => XS.iloadN XT3.here hx rfl (hb hby d3_4) rfl  k_) ?_
  show own_Go p e below _ T3 (mkF m 5 #[oR t, oR a, oI (0 : Int32), oI (1 : Int32), .val .null, .unset] [(.int (1 : Int32))])
  refine own_by (fun t_ k_ => XS.ifYes XT3.here hx rfl (pc0 := 5) (pc' := 27) rfl (hb hby d3_5) rfl (XT.i0_ne_t (by decide)) (by decide) (by decide) k_) ?_
  show own_Go p e below _ T3 (mkF m 27 #[oR t, oR a, oI (0 : Int32), oI (1 : Int32), .val .null, .unset] [])
  obtain ⟨T4, XT4, eT4, stT4⟩ := getS2 XT3 hx hZ hown (host := "") (Or.inl (hw _ (List.mem_of_getElem? (i := 59) rfl))) Via.refl eT3 Cs (g := (mkF m 27 #[oR t, oR a, oI (0 : Int32), oI (1 : Int32), .val .null, .unset] [])) rfl (hb hby d3_27)
  refine own_by stT4 ?_
  show own_Go p e below _ T4 (mkF m 30 #[oR t, oR a, oI (0 : Int32), oI (1 : Int32), .val .null, .unset] [(.int cs)])
  refine own_by (fun t_ k_ => XS.ifNo XT4.here hx rfl (hb hby d3_30) rfl (XT.i0_eq_f hcs) k_) ?_
  show own_Go p e below _ T4 (mkF m 33 #[oR t, oR a, oI (0 : Int32), oI (1 : Int32), .val .null, .unset] [])
  refine own_by (fun t_ k_ => XS.aloadN XT4.here hx rfl (hb hby d3_33) rfl rfl  k_) ?_
  show own_Go p e below _ T4 (mkF m 34 #[oR t, oR a, oI (0 : Int32), oI (1 : Int32), .val .null, .unset] [(.ref a)])
  refine own_by (fun t_ k_ => XS.iloadN XT4.here hx rfl (hb hby d3_34) rfl  k_) ?_
  show own_Go p e below _ T4 (mkF m 35 #[oR t, oR a, oI (0 : Int32), oI (1 : Int32), .val .null, .unset] [(.int (0 : Int32)), (.ref a)])
  refine own_by (fun t_ k_ => XS.iloadN XT4.here hx rfl (hb hby d3_35) rfl  k_) ?_
  show own_Go p e below _ T4 (mkF m 36 #[oR t, oR a, oI (0 : Int32), oI (1 : Int32), .val .null, .unset] [(.int (1 : Int32)), (.int (0 : Int32)), (.ref a)])
  have g5 : h0.size ≤ h0.size := K0.1
  refine own_callS XT4 hx hZ hown (hw _ (List.mem_of_getElem? (i := 60) rfl)) (hw _ (List.mem_of_getElem? (i := 61) rfl)) (hw _ (List.mem_of_getElem? (i := 62) rfl)) (hw _ (List.mem_of_getElem? (i := 63) rfl)) (by decide) eT4 (argsL := [(.ref a), (.int (0 : Int32)), (.int (1 : Int32))]) (rest := []) (own_cp3_1 l Z a0 hw a ka c0 h0 A hc0) 0 (by decide) (by decide) (by rw [hml]; rfl) (lenOf pd_1 rfl) (Nat.le_of_eq rfl) (hb hby d3_36) (by decide) (by decide) (st := [(.int (1 : Int32)), (.int (0 : Int32)), (.ref a)]) rfl ?_
  intro T6 LT6 vT6 XT6 hQT6
  obtain ⟨rfl, KT6, NT6, kb, VT6⟩ := hQT6
  show own_Go p e below _ T6 (mkF m 39 #[oR t, oR a, oI (0 : Int32), oI (1 : Int32), .val .null, .unset] [(.ref h0.size)])
  have fq7_1 := Et.keep KT6
  have fq7_2 := Fv.keep KT6 nin0
  have fq7_3 := Fc.keep KT6 nin0
  have fq7_4 := A.keep KT6 nin0
  have fq7_5 := own_stak Cs KT6
  have lq7_0 := Nat.lt_of_lt_of_le lt1 KT6.1
  have lq7_1 := Nat.lt_of_lt_of_le lt2 KT6.1
  have Kq7 := own_trans0 K0 KT6
  have z8 : t ≠ h0.size := Nat.ne_of_lt lt1
  have z9 : a ≠ h0.size := Nat.ne_of_lt lt2
  have N10 := own_Fr.app N0 (own_Fr.of NT6 (K0).1)
  refine own_by (fun t_ k_ => XS.astore XT6.here hx rfl (hb hby d3_39) rfl rfl (l' := #[oR t, oR a, oI (0 : Int32), oI (1 : Int32), .val .null, oR h0.size]) rfl k_) ?_
  show own_Go p e below _ T6 (mkF m 41 #[oR t, oR a, oI (0 : Int32), oI (1 : Int32), .val .null, oR h0.size] [])
  refine own_by (fun t_ k_ => XS.aloadN XT6.here hx rfl (hb hby d3_41) rfl rfl  k_) ?_
  show own_Go p e below _ T6 (mkF m 42 #[oR t, oR a, oI (0 : Int32), oI (1 : Int32), .val .null, oR h0.size] [(.ref t)])
  refine own_by (fun t_ k_ => XS.aload XT6.here hx rfl (hb hby d3_42) rfl rfl  k_) ?_
  show own_Go p e below _ T6 (mkF m 44 #[oR t, oR a, oI (0 : Int32), oI (1 : Int32), .val .null, oR h0.size] [(.ref h0.size), (.ref t)])
  refine own_by (fun t_ k_ => XS.iloadN XT6.here hx rfl (hb hby d3_44) rfl  k_) ?_
  show own_Go p e below _ T6 (mkF m 45 #[oR t, oR a, oI (0 : Int32), oI (1 : Int32), .val .null, oR h0.size] [(.int (1 : Int32)), (.ref h0.size), (.ref t)])
  refine own_callS XT6 hx hZ hown (hw _ (List.mem_of_getElem? (i := 67) rfl)) (hw _ (List.mem_of_getElem? (i := 68) rfl)) (hw _ (List.mem_of_getElem? (i := 62) rfl)) (hw _ (List.mem_of_getElem? (i := 69) rfl)) (by decide) (rfl : T6.heap = T6.heap) (argsL := [(.ref h0.size), (.int (1 : Int32))]) (rest := [(.ref t)]) (own_cd_1 l Z a0 hw h0.size kb (.int (c0.toInt8.toInt32)) T6.heap VT6) 1 (by decide) (by decide) (by rw [hml]; rfl) (lenOf pd_2 rfl) (Nat.le_of_eq rfl) (hb hby d3_45) (by decide) (by decide) (st := [(.int (1 : Int32)), (.ref h0.size), (.ref t)]) rfl ?_
  intro T11 LT11 vT11 XT11 hQT11
  obtain ⟨rfl, eT11, rfl⟩ := hQT11
  show own_Go p e below _ T11 (mkF m 48 #[oR t, oR a, oI (0 : Int32), oI (1 : Int32), .val .null, oR h0.size] [(.int (0 : Int32)), (.ref t)])
  have N12 := own_Fr.app N10 own_Fr.nil
  refine own_putF XT11 hx hZ hown (hw _ (List.mem_of_getElem? (i := 25) rfl)) eT11 fq7_3 fq7_1 (Or.inr ⟨(hw _ (List.mem_of_getElem? (i := 21) rfl)), rfl, hnm⟩) (hw _ (List.mem_of_getElem? (i := 5) rfl)) (ty := .byte) (by decide +kernel) (by decide) (by decide) (hb hby d3_48) ?_
  intro T13 hT13 XT13 eT13 WT13
  have FT13_coder := Fld.same WT13 fq7_3
  have FT13_value := Fld.other WT13 fq7_2 (Or.inr (slot_ne (t := (.array .byte)) (t' := .byte) (Or.inr (hw _ (List.mem_of_getElem? (i := 20) rfl))) (Or.inr (hw _ (List.mem_of_getElem? (i := 21) rfl))) (by decide) (by decide +kernel) (by decide +kernel)))
  have fq14_1 := fq7_1.keep (Keep.of_wr WT13)
  have fq14_3 := Sta.wr WT13 fq7_5
  have fq14_4 := VT6.keep (Keep.of_wr WT13) (own_nin (Ne.symm z8))
  have lq14_0 := Nat.lt_of_lt_of_le lq7_0 (Keep.of_wr WT13).1
  have lq14_1 := Nat.lt_of_lt_of_le lq7_1 (Keep.of_wr WT13).1
  have Kq14 := own_trans1 Kq7 (Keep.of_wr WT13) (Or.inl (List.mem_singleton.mpr rfl))
  have N15 := own_Fr.app N12 (own_Fr.one (i := (Jvm.RoadKit.slotOf Z "java/lang/String" "coder" "B")))
  show own_Go p e below _ T13 (mkF m 51 #[oR t, oR a, oI (0 : Int32), oI (1 : Int32), .val .null, oR h0.size] [])
  refine own_by (fun t_ k_ => XS.aloadN XT13.here hx rfl (hb hby d3_51) rfl rfl  k_) ?_
  show own_Go p e below _ T13 (mkF m 52 #[oR t, oR a, oI (0 : Int32), oI (1 : Int32), .val .null, oR h0.size] [(.ref t)])
  refine own_by (fun t_ k_ => XS.aload XT13.here hx rfl (hb hby d3_52) rfl rfl  k_) ?_
  show own_Go p e below _ T13 (mkF m 54 #[oR t, oR a, oI (0 : Int32), oI (1 : Int32), .val .null, oR h0.size] [(.ref h0.size), (.ref t)])
  refine own_putF XT13 hx hZ hown (hw _ (List.mem_of_getElem? (i := 24) rfl)) eT13 FT13_value fq14_1 (Or.inr ⟨(hw _ (List.mem_of_getElem? (i := 20) rfl)), rfl, hnm⟩) (hw _ (List.mem_of_getElem? (i := 5) rfl)) (ty := (.array .byte)) (by decide +kernel) rfl rfl (hb hby d3_54) ?_
  intro T16 hT16 XT16 eT16 WT16
  have FT16_value := Fld.same WT16 FT13_value
  have FT16_coder := Fld.other WT16 FT13_coder (Or.inr (slot_ne (t := .byte) (t' := (.array .byte)) (Or.inr (hw _ (List.mem_of_getElem? (i := 21) rfl))) (Or.inr (hw _ (List.mem_of_getElem? (i := 20) rfl))) (by decide) (by decide +kernel) (by decide +kernel)))
  have fq17_1 := fq14_1.keep (Keep.of_wr WT16)
  have fq17_2 := Sta.wr WT16 fq14_3
  have fq17_3 := fq14_4.keep (Keep.of_wr WT16) (own_nin (Ne.symm z8))
  have lq17_0 := Nat.lt_of_lt_of_le lq14_0 (Keep.of_wr WT16).1
  have lq17_1 := Nat.lt_of_lt_of_le lq14_1 (Keep.of_wr WT16).1
  have Kq17 := own_trans1 Kq14 (Keep.of_wr WT16) (Or.inl (List.mem_singleton.mpr rfl))
  have N18 := own_Fr.app N15 (own_Fr.one (i := (Jvm.RoadKit.slotOf Z "java/lang/String" "value" "[B")))
  show own_Go p e below _ T16 (mkF m 57 #[oR t, oR a, oI (0 : Int32), oI (1 : Int32), .val .null, oR h0.size] [])
  subst eT16
  exact own_retV XT16 hx hlk hret (hb hby d3_57) (by decide) (by decide) (⟨rfl, Kq17, N18, ⟨h0.size, _, fq17_1, FT16_value, FT16_coder, fq17_3⟩⟩)
theorem d2_0 : decode jdk_42_method_3_code 0 = .ok (.aload_n 0, 1) := by decide +kernel
theorem d2_1 : decode jdk_42_method_3_code 1 = .ok (.aload_n 1, 1) := by decide +kernel
theorem d2_2 : decode jdk_42_method_3_code 2 = .ok (.iconst 0, 1) := by decide +kernel
theorem d2_3 : decode jdk_42_method_3_code 3 = .ok (.aload_n 1, 1) := by decide +kernel
theorem d2_4 : decode jdk_42_method_3_code 4 = .ok (.arraylength, 1) := by decide +kernel
theorem d2_5 : decode jdk_42_method_3_code 5 = .ok (.aconst_null, 1) := by decide +kernel
theorem d2_6 : decode jdk_42_method_3_code 6 = .ok (.invokespecial 27, 3) := by decide +kernel
theorem pd_3 : parseMethodDescriptor "([CIILjava/lang/Void;)V" = some ⟨[(.array .char), .int, .int, (.object "java/lang/Void")], none⟩ := by decide +kernel
theorem d2_9 : decode jdk_42_method_3_code 9 = .ok (.return_, 1) := by decide +kernel
set_option maxRecDepth 65536 in
set_option maxHeartbeats 40000000 in
theorem own_i1_1 (l : Launch) (Z : State) (a0 : Array Value) (hw : ∀ d ∈ tables_1, d.before a0 Z = true) (t a : Addr) (ka : ClassId) (c0 : Int32) (h0 : Heap) (cs : Int32) (Cs : Sta Z h0 "java/lang/String" "COMPACT_STRINGS" "Z" (.int cs)) (hcs : ¬ cs = (0 : Int32))(Et : Exa Z h0 t "java/lang/String") (Fv : Fld Z h0 t "java/lang/String" "value" "[B" .null) (Fc : Fld Z h0 t "java/lang/String" "coder" "B" (.int 0)) (A : own_A Z h0 a .char ka [(.int c0)]) (hc0 : ¬ (255 : Int32) < c0) :
    own_Met l (⟨"java/lang/String", "<init>", "([C)V"⟩ : MethodName) jdk_42_method_3_code 2 (none) [] ({ frames := 3, cells := 1, slots := 1, locals := 55 } : Room) Z #[(.ref t), (.ref a)] h0 (fun rv rh rL => rv = none ∧ Keep h0 rh [t] ∧ own_Fr h0.size t rL ∧ own_Str Z rh t 0 [(.int (c0.toInt8.toInt32))]) := by
  refine own_enter (plainFor_of_name pn_1) ?_
  intro p e s m below meth c T0 hx hby hml hret hlk hown hnm hZ X0 e0
  refine own_at (g' := (mkF m 0 #[oR t, oR a] [])) (by first | (simp [entryFrame, mkF, argsToLocals, Value.category]; done) | rfl) ?_
  show own_Go p e below _ T0 (mkF m 0 #[oR t, oR a] [])
  have lt1 : t < h0.size := Et.lt
  have lt2 : a < h0.size := A.lt
  have K0 : Keep h0 h0 [t] := Keep.refl h0 _
  have N0 : own_Fr h0.size t [] := own_Fr.nil
  refine own_by (fun t_ k_ => XS.aloadN X0.here hx rfl (hb hby d2_0) rfl rfl  k_) ?_
  show own_Go p e below _ T0 (mkF m 1 #[oR t, oR a] [(.ref t)])
  refine own_by (fun t_ k_ => XS.aloadN X0.here hx rfl (hb hby d2_1) rfl rfl  k_) ?_
  show own_Go p e below _ T0 (mkF m 2 #[oR t, oR a] [(.ref a), (.ref t)])
  refine own_by (fun t_ k_ => XT.iconstV X0.here hx rfl (0 : Int32) (hb hby d2_2) (by decide) k_) ?_
  show own_Go p e below _ T0 (mkF m 3 #[oR t, oR a] [(.int (0 : Int32)), (.ref a), (.ref t)])
  refine own_by (fun t_ k_ => XS.aloadN X0.here hx rfl (hb hby d2_3) rfl rfl  k_) ?_
  show own_Go p e below _ T0 (mkF m 4 #[oR t, oR a] [(.ref a), (.int (0 : Int32)), (.ref a), (.ref t)])
  refine own_len X0 hx hZ e0 A (1 : Int32) rfl (hb hby d2_4) ?_
  show own_Go p e below _ T0 (mkF m 5 #[oR t, oR a] [(.int (1 : Int32)), (.int (0 : Int32)), (.ref a), (.ref t)])
  refine own_by (fun t_ k_ => XS.aconstNull X0.here hx rfl (hb hby d2_5) k_) ?_
  show own_Go p e below _ T0 (mkF m 6 #[oR t, oR a] [.null, (.int (1 : Int32)), (.int (0 : Int32)), (.ref a), (.ref t)])
  refine own_callN X0 hx hZ rfl hown (hw _ (List.mem_of_getElem? (i := 11) rfl)) (hw _ (List.mem_of_getElem? (i := 12) rfl)) (hw _ (List.mem_of_getElem? (i := 14) rfl)) (hw _ (List.mem_of_getElem? (i := 6) rfl)) (by decide) e0 (b := t) (argsL := [(.ref a), (.int (0 : Int32)), (.int (1 : Int32)), .null]) (rest := []) (own_i4_1 l Z a0 hw t a ka c0 h0 cs Cs hcs Et Fv Fc A hc0) 0 (by decide) (by decide) (by rw [hml]; rfl) (lenOf pd_3 rfl) (Nat.le_of_eq rfl) (hb hby d2_6) (by decide) (by decide) (st := [.null, (.int (1 : Int32)), (.int (0 : Int32)), (.ref a), (.ref t)]) rfl ?_
  intro T3 LT3 vT3 XT3 hQT3
  obtain ⟨rfl, KT3, NT3, ST3⟩ := hQT3
  show own_Go p e below _ T3 (mkF m 9 #[oR t, oR a] [])
  exact own_retV XT3 hx hlk hret (hb hby d2_9) (by decide) (by decide) (⟨rfl, KT3, own_Fr.app own_Fr.nil NT3, ST3⟩)
set_option maxRecDepth 65536 in
set_option maxHeartbeats 40000000 in
theorem own_cp5_2 (l : Launch) (Z : State) (a0 : Array Value) (hw : ∀ d ∈ tables_1, d.before a0 Z = true) (a b : Addr) (ka kb : ClassId) (c0 c1 : Int32) (h0 : Heap) (hab : a ≠ b) (A : own_A Z h0 a .char ka [(.int c0), (.int c1)]) (B : own_A Z h0 b .byte kb [(.int 0), (.int 0)]) (hc0 : ¬ (255 : Int32) < c0) (hc1 : ¬ (255 : Int32) < c1) :
    own_Met l (⟨"java/lang/StringUTF16", "compress", "([CI[BII)I"⟩ : MethodName) jdk_52_method_21_code 7 (some .int) [] ({ frames := 0, cells := 0, slots := 0, locals := 0 } : Room) Z #[(.ref a), (.int (0 : Int32)), (.ref b), (.int (0 : Int32)), (.int (2 : Int32))] h0 (fun rv rh rL => rv = some (.int (2 : Int32)) ∧ Keep h0 rh [b] ∧ own_Fr h0.size b rL ∧ own_A Z rh b .byte kb [(.int (c0.toInt8.toInt32)), (.int (c1.toInt8.toInt32))]) := by
  refine own_enter (plainFor_of_name pn_0) ?_
  intro p e s m below meth c T0 hx hby hml hret hlk hown hnm hZ X0 e0
  refine own_at (g' := (mkF m 0 #[oR a, oI (0 : Int32), oR b, oI (0 : Int32), oI (2 : Int32), .unset, .unset] [])) (by first | (simp [entryFrame, mkF, argsToLocals, Value.category]; done) | rfl) ?_
  show own_Go p e below _ T0 (mkF m 0 #[oR a, oI (0 : Int32), oR b, oI (0 : Int32), oI (2 : Int32), .unset, .unset] [])
  have K0 : Keep h0 h0 [b] := Keep.refl h0 _
  have N0 : own_Fr h0.size b [] := own_Fr.nil
  refine own_by (fun t_ k_ => XT.iconstV X0.here hx rfl (0 : Int32) (hb hby d10_0) (by decide) k_) ?_
  show own_Go p e below _ T0 (mkF m 1 #[oR a, oI (0 : Int32), oR b, oI (0 : Int32), oI (2 : Int32), .unset, .unset] [(.int (0 : Int32))])
  refine own_by (fun t_ k_ => XS.istore X0.here hx rfl (hb hby d10_1) rfl (l' := #[oR a, oI (0 : Int32), oR b, oI (0 : Int32), oI (2 : Int32), oI (0 : Int32), .unset]) rfl k_) ?_
  show own_Go p e below _ T0 (mkF m 3 #[oR a, oI (0 : Int32), oR b, oI (0 : Int32), oI (2 : Int32), oI (0 : Int32), .unset] [])
  refine own_by (fun t_ k_ => XS.iload X0.here hx rfl (hb hby d10_3) rfl  k_) ?_
  show own_Go p e below _ T0 (mkF m 5 #[oR a, oI (0 : Int32), oR b, oI (0 : Int32), oI (2 : Int32), oI (0 : Int32), .unset] [(.int (0 : Int32))])
  refine own_by (fun t_ k_ => XS.iload X0.here hx rfl (hb hby d10_5) rfl  k_) ?_
  show own_Go p e below _ T0 (mkF m 7 #[oR a, oI (0 : Int32), oR b, oI (0 : Int32), oI (2 : Int32), oI (0 : Int32), .unset] [(.int (2 : Int32)), (.int (0 : Int32))])
  refine own_by (fun t_ k_ => XS.icmpNo X0.here hx rfl (hb hby d10_7) rfl (XT.ii_ge_f (by decide)) k_) ?_
  show own_Go p e below _ T0 (mkF m 10 #[oR a, oI (0 : Int32), oR b, oI (0 : Int32), oI (2 : Int32), oI (0 : Int32), .unset] [])
  refine own_by (fun t_ k_ => XS.aloadN X0.here hx rfl (hb hby d10_10) rfl rfl  k_) ?_
  show own_Go p e below _ T0 (mkF m 11 #[oR a, oI (0 : Int32), oR b, oI (0 : Int32), oI (2 : Int32), oI (0 : Int32), .unset] [(.ref a)])
  refine own_by (fun t_ k_ => XS.iloadN X0.here hx rfl (hb hby d10_11) rfl  k_) ?_
  show own_Go p e below _ T0 (mkF m 12 #[oR a, oI (0 : Int32), oR b, oI (0 : Int32), oI (2 : Int32), oI (0 : Int32), .unset] [(.int (0 : Int32)), (.ref a)])
  refine own_ldC X0 hx hZ e0 A 0 (by decide) (by decide) (v := (.int c0)) rfl (hb hby d10_12) ?_
  show own_Go p e below _ T0 (mkF m 13 #[oR a, oI (0 : Int32), oR b, oI (0 : Int32), oI (2 : Int32), oI (0 : Int32), .unset] [(.int c0)])
  refine own_by (fun t_ k_ => XS.istore X0.here hx rfl (hb hby d10_13) rfl (l' := #[oR a, oI (0 : Int32), oR b, oI (0 : Int32), oI (2 : Int32), oI (0 : Int32), oI c0]) rfl k_) ?_
  show own_Go p e below _ T0 (mkF m 15 #[oR a, oI (0 : Int32), oR b, oI (0 : Int32), oI (2 : Int32), oI (0 : Int32), oI c0] [])
  refine own_by (fun t_ k_ => XS.iload X0.here hx rfl (hb hby d10_15) rfl  k_) ?_
  show own_Go p e below _ T0 (mkF m 17 #[oR a, oI (0 : Int32), oR b, oI (0 : Int32), oI (2 : Int32), oI (0 : Int32), oI c0] [(.int c0)])
  refine own_by (fun t_ k_ => XT.sipushV X0.here hx rfl (255 : Int32) (hb hby d10_17) (by decide) k_) ?_
  show own_Go p e below _ T0 (mkF m 20 #[oR a, oI (0 : Int32), oR b, oI (0 : Int32), oI (2 : Int32), oI (0 : Int32), oI c0] [(.int (255 : Int32)), (.int c0)])
  refine own_by (fun t_ k_ => XS.icmpYes X0.here hx rfl (pc0 := 20) (pc' := 26) rfl (hb hby d10_20) rfl (XT.ii_le_t hc0) (by decide) (by decide) k_) ?_
  show own_Go p e below _ T0 (mkF m 26 #[oR a, oI (0 : Int32), oR b, oI (0 : Int32), oI (2 : Int32), oI (0 : Int32), oI c0] [])
  refine own_by (fun t_ k_ => XS.aloadN X0.here hx rfl (hb hby d10_26) rfl rfl  k_) ?_
  show own_Go p e below _ T0 (mkF m 27 #[oR a, oI (0 : Int32), oR b, oI (0 : Int32), oI (2 : Int32), oI (0 : Int32), oI c0] [(.ref b)])
  refine own_by (fun t_ k_ => XS.iloadN X0.here hx rfl (hb hby d10_27) rfl  k_) ?_
  show own_Go p e below _ T0 (mkF m 28 #[oR a, oI (0 : Int32), oR b, oI (0 : Int32), oI (2 : Int32), oI (0 : Int32), oI c0] [(.int (0 : Int32)), (.ref b)])
  refine own_by (fun t_ k_ => XS.iload X0.here hx rfl (hb hby d10_28) rfl  k_) ?_
  show own_Go p e below _ T0 (mkF m 30 #[oR a, oI (0 : Int32), oR b, oI (0 : Int32), oI (2 : Int32), oI (0 : Int32), oI c0] [(.int c0), (.int (0 : Int32)), (.ref b)])
  refine own_by (fun t_ k_ => XT.i2b X0.here hx rfl (hb hby d10_30) rfl k_) ?_
  show own_Go p e below _ T0 (mkF m 31 #[oR a, oI (0 : Int32), oR b, oI (0 : Int32), oI (2 : Int32), oI (0 : Int32), oI c0] [(.int (c0.toInt8.toInt32)), (.int (0 : Int32)), (.ref b)])
  refine own_stB X0 hx hZ e0 B (y := (c0.toInt8.toInt32)) 0 (by decide) (by decide) (by simp) (own_narB c0) (hb hby d10_31) ?_
  intro T1 hT1 XT1 eT1 WT1 YT1
  have VT1 : own_A Z hT1 b .byte kb [(.int (c0.toInt8.toInt32)), (.int 0)] := YT1
  clear YT1
  have fq2_1 := A.keep (Keep.of_wr WT1) (own_nin hab)
  have Kq2 := own_trans1 K0 (Keep.of_wr WT1) (Or.inl (List.mem_singleton.mpr rfl))
  have N3 := own_Fr.app N0 (own_Fr.one (i := 0))
  show own_Go p e below _ T1 (mkF m 32 #[oR a, oI (0 : Int32), oR b, oI (0 : Int32), oI (2 : Int32), oI (0 : Int32), oI c0] [])
  refine own_by (fun t_ k_ => XT.iincV XT1.here hx rfl (1 : Int32) (hb hby d10_32) (by decide) rfl (l' := #[oR a, oI ((0 : Int32) + (1 : Int32)), oR b, oI (0 : Int32), oI (2 : Int32), oI (0 : Int32), oI c0]) rfl k_) ?_
  show own_Go p e below _ T1 (mkF m 35 #[oR a, oI ((0 : Int32) + (1 : Int32)), oR b, oI (0 : Int32), oI (2 : Int32), oI (0 : Int32), oI c0] [])
  rw [show ((0 : Int32) + (1 : Int32)) = (1 : Int32) by decide]
  show own_Go p e below _ T1 (mkF m 35 #[oR a, oI (1 : Int32), oR b, oI (0 : Int32), oI (2 : Int32), oI (0 : Int32), oI c0] [])
  refine own_by (fun t_ k_ => XT.iincV XT1.here hx rfl (1 : Int32) (hb hby d10_35) (by decide) rfl (l' := #[oR a, oI (1 : Int32), oR b, oI ((0 : Int32) + (1 : Int32)), oI (2 : Int32), oI (0 : Int32), oI c0]) rfl k_) ?_
  show own_Go p e below _ T1 (mkF m 38 #[oR a, oI (1 : Int32), oR b, oI ((0 : Int32) + (1 : Int32)), oI (2 : Int32), oI (0 : Int32), oI c0] [])
  rw [show ((0 : Int32) + (1 : Int32)) = (1 : Int32) by decide]
  show own_Go p e below _ T1 (mkF m 38 #[oR a, oI (1 : Int32), oR b, oI (1 : Int32), oI (2 : Int32), oI (0 : Int32), oI c0] [])
  refine own_by (fun t_ k_ => XT.iincV XT1.here hx rfl (1 : Int32) (hb hby d10_38) (by decide) rfl (l' := #[oR a, oI (1 : Int32), oR b, oI (1 : Int32), oI (2 : Int32), oI ((0 : Int32) + (1 : Int32)), oI c0]) rfl k_) ?_
  show own_Go p e below _ T1 (mkF m 41 #[oR a, oI (1 : Int32), oR b, oI (1 : Int32), oI (2 : Int32), oI ((0 : Int32) + (1 : Int32)), oI c0] [])
  rw [show ((0 : Int32) + (1 : Int32)) = (1 : Int32) by decide]
  show own_Go p e below _ T1 (mkF m 41 #[oR a, oI (1 : Int32), oR b, oI (1 : Int32), oI (2 : Int32), oI (1 : Int32), oI c0] [])
  refine own_by (fun t_ k_ => XS.goto XT1.here hx rfl (pc0 := 41) (pc' := 3) rfl (hb hby d10_41) (by decide) (by decide) k_) ?_
  show own_Go p e below _ T1 (mkF m 3 #[oR a, oI (1 : Int32), oR b, oI (1 : Int32), oI (2 : Int32), oI (1 : Int32), oI c0] [])
  refine own_by (fun t_ k_ => XS.iload XT1.here hx rfl (hb hby d10_3) rfl  k_) ?_
  show own_Go p e below _ T1 (mkF m 5 #[oR a, oI (1 : Int32), oR b, oI (1 : Int32), oI (2 : Int32), oI (1 : Int32), oI c0] [(.int (1 : Int32))])
  refine own_by (fun t_ k_ => XS.iload XT1.here hx rfl (hb hby d10_5) rfl  k_) ?_
  show own_Go p e below _ T1 (mkF m 7 #[oR a, oI (1 : Int32), oR b, oI (1 : Int32), oI (2 : Int32), oI (1 : Int32), oI c0] [(.int (2 : Int32)), (.int (1 : Int32))])
  refine own_by (fun t_ k_ => XS.icmpNo XT1.here hx rfl (hb hby d10_7) rfl (XT.ii_ge_f (by decide)) k_) ?_
  show own_Go p e below _ T1 (mkF m 10 #[oR a, oI (1 : Int32), oR b, oI (1 : Int32), oI (2 : Int32), oI (1 : Int32), oI c0] [])
  refine own_by (fun t_ k_ => XS.aloadN XT1.here hx rfl (hb hby d10_10) rfl rfl  k_) ?_
  show own_Go p e below _ T1 (mkF m 11 #[oR a, oI (1 : Int32), oR b, oI (1 : Int32), oI (2 : Int32), oI (1 : Int32), oI c0] [(.ref a)])
  refine own_by (fun t_ k_ => XS.iloadN XT1.here hx rfl (hb hby d10_11) rfl  k_) ?_
  show own_Go p e below _ T1 (mkF m 12 #[oR a, oI (1 : Int32), oR b, oI (1 : Int32), oI (2 : Int32), oI (1 : Int32), oI c0] [(.int (1 : Int32)), (.ref a)])
  refine own_ldC XT1 hx hZ eT1 fq2_1 1 (by decide) (by decide) (v := (.int c1)) rfl (hb hby d10_12) ?_
  show own_Go p e below _ T1 (mkF m 13 #[oR a, oI (1 : Int32), oR b, oI (1 : Int32), oI (2 : Int32), oI (1 : Int32), oI c0] [(.int c1)])
  refine own_by (fun t_ k_ => XS.istore XT1.here hx rfl (hb hby d10_13) rfl (l' := #[oR a, oI (1 : Int32), oR b, oI (1 : Int32), oI (2 : Int32), oI (1 : Int32), oI c1]) rfl k_) ?_
  show own_Go p e below _ T1 (mkF m 15 #[oR a, oI (1 : Int32), oR b, oI (1 : Int32), oI (2 : Int32), oI (1 : Int32), oI c1] [])
  refine own_by (fun t_ k_ => XS.iload XT1.here hx rfl (hb hby d10_15) rfl  k_) ?_
  show own_Go p e below _ T1 (mkF m 17 #[oR a, oI (1 : Int32), oR b, oI (1 : Int32), oI (2 : Int32), oI (1 : Int32), oI c1] [(.int c1)])
  refine own_by (fun t_ k_ => XT.sipushV XT1.here hx rfl (255 : Int32) (hb hby d10_17) (by decide) k_) ?_
  show own_Go p e below _ T1 (mkF m 20 #[oR a, oI (1 : Int32), oR b, oI (1 : Int32), oI (2 : Int32), oI (1 : Int32), oI c1] [(.int (255 : Int32)), (.int c1)])
  refine own_by (fun t_ k_ => XS.icmpYes XT1.here hx rfl (pc0 := 20) (pc' := 26) rfl (hb hby d10_20) rfl (XT.ii_le_t hc1) (by decide) (by decide) k_) ?_
  show own_Go p e below _ T1 (mkF m 26 #[oR a, oI (1 : Int32), oR b, oI (1 : Int32), oI (2 : Int32), oI (1 : Int32), oI c1] [])
  refine own_by (fun t_ k_ => XS.aloadN XT1.here hx rfl (hb hby d10_26) rfl rfl  k_) ?_
  show own_Go p e below _ T1 (mkF m 27 #[oR a, oI (1 : Int32), oR b, oI (1 : Int32), oI (2 : Int32), oI (1 : Int32), oI c1] [(.ref b)])
  refine own_by (fun t_ k_ => XS.iloadN XT1.here hx rfl (hb hby d10_27) rfl  k_) ?_
  show own_Go p e below _ T1 (mkF m 28 #[oR a, oI (1 : Int32), oR b, oI (1 : Int32), oI (2 : Int32), oI (1 : Int32), oI c1] [(.int (1 : Int32)), (.ref b)])
  refine own_by (fun t_ k_ => XS.iload XT1.here hx rfl (hb hby d10_28) rfl  k_) ?_
  show own_Go p e below _ T1 (mkF m 30 #[oR a, oI (1 : Int32), oR b, oI (1 : Int32), oI (2 : Int32), oI (1 : Int32), oI c1] [(.int c1), (.int (1 : Int32)), (.ref b)])
  refine own_by (fun t_ k_ => XT.i2b XT1.here hx rfl (hb hby d10_30) rfl k_) ?_
  show own_Go p e below _ T1 (mkF m 31 #[oR a, oI (1 : Int32), oR b, oI (1 : Int32), oI (2 : Int32), oI (1 : Int32), oI c1] [(.int (c1.toInt8.toInt32)), (.int (1 : Int32)), (.ref b)])
  refine own_stB XT1 hx hZ eT1 VT1 (y := (c1.toInt8.toInt32)) 1 (by decide) (by decide) (by simp) (own_narB c1) (hb hby d10_31) ?_
  intro T4 hT4 XT4 eT4 WT4 YT4
  have VT4 : own_A Z hT4 b .byte kb [(.int (c0.toInt8.toInt32)), (.int (c1.toInt8.toInt32))] := YT4
  clear YT4
  have fq5_1 := fq2_1.keep (Keep.of_wr WT4) (own_nin hab)
  have Kq5 := own_trans1 Kq2 (Keep.of_wr WT4) (Or.inl (List.mem_singleton.mpr rfl))
  have N6 := own_Fr.app N3 (own_Fr.one (i := 1))
  show own_Go p e below _ T4 (mkF m 32 #[oR a, oI (1 : Int32), oR b, oI (1 : Int32), oI (2 : Int32), oI (1 : Int32), oI c1] [])
  refine own_by (fun t_ k_ => XT.iincV XT4.here hx rfl (1 : Int32) (hb hby d10_32) (by decide) rfl (l' := #[oR a, oI ((1 : Int32) + (1 : Int32)), oR b, oI (1 : Int32), oI (2 : Int32), oI (1 : Int32), oI c1]) rfl k_) ?_
  show own_Go p e below _ T4 (mkF m 35 #[oR a, oI ((1 : Int32) + (1 : Int32)), oR b, oI (1 : Int32), oI (2 : Int32), oI (1 : Int32), oI c1] [])
  rw [show ((1 : Int32) + (1 : Int32)) = (2 : Int32) by decide]
  show own_Go p e below _ T4 (mkF m 35 #[oR a, oI (2 : Int32), oR b, oI (1 : Int32), oI (2 : Int32), oI (1 : Int32), oI c1] [])
  refine own_by (fun t_ k_ => XT.iincV XT4.here hx rfl (1 : Int32) (hb hby d10_35) (by decide) rfl (l' := #[oR a, oI (2 : Int32), oR b, oI ((1 : Int32) + (1 : Int32)), oI (2 : Int32), oI (1 : Int32), oI c1]) rfl k_) ?_
  show own_Go p e below _ T4 (mkF m 38 #[oR a, oI (2 : Int32), oR b, oI ((1 : Int32) + (1 : Int32)), oI (2 : Int32), oI (1 : Int32), oI c1] [])
  rw [show ((1 : Int32) + (1 : Int32)) = (2 : Int32) by decide]
  show own_Go p e below _ T4 (mkF m 38 #[oR a, oI (2 : Int32), oR b, oI (2 : Int32), oI (2 : Int32), oI (1 : Int32), oI c1] [])
  refine own_by (fun t_ k_ => XT.iincV XT4.here hx rfl (1 : Int32) (hb hby d10_38) (by decide) rfl (l' := #[oR a, oI (2 : Int32), oR b, oI (2 : Int32), oI (2 : Int32), oI ((1 : Int32) + (1 : Int32)), oI c1]) rfl k_) ?_
  show own_Go p e below _ T4 (mkF m 41 #[oR a, oI (2 : Int32), oR b, oI (2 : Int32), oI (2 : Int32), oI ((1 : Int32) + (1 : Int32)), oI c1] [])
  rw [show ((1 : Int32) + (1 : Int32)) = (2 : Int32) by decide]
  show own_Go p e below _ T4 (mkF m 41 #[oR a, oI (2 : Int32), oR b, oI (2 : Int32), oI (2 : Int32), oI (2 : Int32), oI c1] [])
  refine own_by (fun t_ k_ => XS.goto XT4.here hx rfl (pc0 := 41) (pc' := 3) rfl (hb hby d10_41) (by decide) (by decide) k_) ?_
  show own_Go p e below _ T4 (mkF m 3 #[oR a, oI (2 : Int32), oR b, oI (2 : Int32), oI (2 : Int32), oI (2 : Int32), oI c1] [])
  refine own_by (fun t_ k_ => XS.iload XT4.here hx rfl (hb hby d10_3) rfl  k_) ?_
  show own_Go p e below _ T4 (mkF m 5 #[oR a, oI (2 : Int32), oR b, oI (2 : Int32), oI (2 : Int32), oI (2 : Int32), oI c1] [(.int (2 : Int32))])
  refine own_by (fun t_ k_ => XS.iload XT4.here hx rfl (hb hby d10_5) rfl  k_) ?_
  show own_Go p e below _ T4 (mkF m 7 #[oR a, oI (2 : Int32), oR b, oI (2 : Int32), oI (2 : Int32), oI (2 : Int32), oI c1] [(.int (2 : Int32)), (.int (2 : Int32))])
  refine own_by (fun t_ k_ => XS.icmpYes XT4.here hx rfl (pc0 := 7) (pc' := 44) rfl (hb hby d10_7) rfl (XT.ii_ge_t (by decide)) (by decide) (by decide) k_) ?_
  show own_Go p e below _ T4 (mkF m 44 #[oR a, oI (2 : Int32), oR b, oI (2 : Int32), oI (2 : Int32), oI (2 : Int32), oI c1] [])
  refine own_by (fun t_ k_ => XS.iload XT4.here hx rfl (hb hby d10_44) rfl  k_) ?_
  show own_Go p e below _ T4 (mkF m 46 #[oR a, oI (2 : Int32), oR b, oI (2 : Int32), oI (2 : Int32), oI (2 : Int32), oI c1] [(.int (2 : Int32))])
  subst eT4
  exact own_retI XT4 hx hlk hret (hb hby d10_46) (by decide) (by decide) (⟨rfl, Kq5, N6, VT4⟩)
set_option maxRecDepth 65536 in
set_option maxHeartbeats 40000000 in
theorem own_cp3_2 (l : Launch) (Z : State) (a0 : Array Value) (hw : ∀ d ∈ tables_1, d.before a0 Z = true) (a : Addr) (ka : ClassId) (c0 c1 : Int32) (h0 : Heap) (A : own_A Z h0 a .char ka [(.int c0), (.int c1)]) (hc0 : ¬ (255 : Int32) < c0) (hc1 : ¬ (255 : Int32) < c1) :
    own_Met l (⟨"java/lang/StringUTF16", "compress", "([CII)[B"⟩ : MethodName) jdk_52_method_16_code 6 (some (.array .byte)) [] ({ frames := 1, cells := 1, slots := 2, locals := 18 } : Room) Z #[(.ref a), (.int (0 : Int32)), (.int (2 : Int32))] h0 (fun rv rh rL => rv = some (.ref h0.size) ∧ Keep h0 rh [] ∧ Fr h0.size rL ∧ ∃ kb, own_A Z rh h0.size .byte kb [(.int (c0.toInt8.toInt32)), (.int (c1.toInt8.toInt32))]) := by
  refine own_enter (plainFor_of_name pn_0) ?_
  intro p e s m below meth c T0 hx hby hml hret hlk hown hnm hZ X0 e0
  refine own_at (g' := (mkF m 0 #[oR a, oI (0 : Int32), oI (2 : Int32), .unset, .unset, .unset] [])) (by first | (simp [entryFrame, mkF, argsToLocals, Value.category]; done) | rfl) ?_
  show own_Go p e below _ T0 (mkF m 0 #[oR a, oI (0 : Int32), oI (2 : Int32), .unset, .unset, .unset] [])
  have lt1 : a < h0.size := A.lt
  have K0 : Keep h0 h0 [] := Keep.refl h0 _
  have N0 : own_Fr h0.size h0.size [] := own_Fr.nil
  refine own_by (fun t_ k_ => XS.iloadN X0.here hx rfl (hb hby d9_0) rfl  k_) ?_
  show own_Go p e below _ T0 (mkF m 1 #[oR a, oI (0 : Int32), oI (2 : Int32), .unset, .unset, .unset] [(.int (2 : Int32))])
  have g3 : h0.size ≤ h0.size := K0.1
  refine own_newP X0 hx hZ (aty := .byte) (hw _ (List.mem_of_getElem? (i := 19) rfl)) e0 (hb hby d9_1) 2 2 (by decide) (by decide) (by decide) (by decide) (by decide) (by decide) ?_
  intro T2 hT2 kT2 XT2 eT2 ET2 YT2
  have VT2 : own_A Z hT2 h0.size .byte kT2 [(.int 0), (.int 0)] := YT2
  clear YT2
  have fq4_1 := A.keep (own_ek ET2) nin0
  have lq4_0 := Nat.lt_of_lt_of_le lt1 (own_ek ET2).1
  have Kq4 := own_trans0 K0 (own_ek ET2)
  have z5 : a ≠ h0.size := Nat.ne_of_lt lt1
  have lt6 := VT2.lt
  show own_Go p e below _ T2 (mkF m 3 #[oR a, oI (0 : Int32), oI (2 : Int32), .unset, .unset, .unset] [(.ref h0.size)])
  refine own_by (fun t_ k_ => XS.astoreN XT2.here hx rfl (hb hby d9_3) rfl rfl (l' := #[oR a, oI (0 : Int32), oI (2 : Int32), oR h0.size, .unset, .unset]) rfl k_) ?_
  show own_Go p e below _ T2 (mkF m 4 #[oR a, oI (0 : Int32), oI (2 : Int32), oR h0.size, .unset, .unset] [])
  refine own_by (fun t_ k_ => XS.aloadN XT2.here hx rfl (hb hby d9_4) rfl rfl  k_) ?_
  show own_Go p e below _ T2 (mkF m 5 #[oR a, oI (0 : Int32), oI (2 : Int32), oR h0.size, .unset, .unset] [(.ref a)])
  refine own_by (fun t_ k_ => XS.iloadN XT2.here hx rfl (hb hby d9_5) rfl  k_) ?_
  show own_Go p e below _ T2 (mkF m 6 #[oR a, oI (0 : Int32), oI (2 : Int32), oR h0.size, .unset, .unset] [(.int (0 : Int32)), (.ref a)])
  refine own_by (fun t_ k_ => XS.aloadN XT2.here hx rfl (hb hby d9_6) rfl rfl  k_) ?_
  show own_Go p e below _ T2 (mkF m 7 #[oR a, oI (0 : Int32), oI (2 : Int32), oR h0.size, .unset, .unset] [(.ref h0.size), (.int (0 : Int32)), (.ref a)])
  refine own_by (fun t_ k_ => XT.iconstV XT2.here hx rfl (0 : Int32) (hb hby d9_7) (by decide) k_) ?_
  show own_Go p e below _ T2 (mkF m 8 #[oR a, oI (0 : Int32), oI (2 : Int32), oR h0.size, .unset, .unset] [(.int (0 : Int32)), (.ref h0.size), (.int (0 : Int32)), (.ref a)])
  refine own_by (fun t_ k_ => XS.iloadN XT2.here hx rfl (hb hby d9_8) rfl  k_) ?_
  show own_Go p e below _ T2 (mkF m 9 #[oR a, oI (0 : Int32), oI (2 : Int32), oR h0.size, .unset, .unset] [(.int (2 : Int32)), (.int (0 : Int32)), (.ref h0.size), (.int (0 : Int32)), (.ref a)])
  refine own_callS XT2 hx hZ hown (hw _ (List.mem_of_getElem? (i := 64) rfl)) (hw _ (List.mem_of_getElem? (i := 65) rfl)) (hw _ (List.mem_of_getElem? (i := 62) rfl)) (hw _ (List.mem_of_getElem? (i := 66) rfl)) (by decide) eT2 (argsL := [(.ref a), (.int (0 : Int32)), (.ref h0.size), (.int (0 : Int32)), (.int (2 : Int32))]) (rest := []) (own_cp5_2 l Z a0 hw a h0.size ka kT2 c0 c1 hT2 z5 fq4_1 VT2 hc0 hc1) 0 (by decide) (by decide) (by rw [hml]; rfl) (lenOf pd_0 rfl) (Nat.le_of_eq rfl) (hb hby d9_9) (by decide) (by decide) (st := [(.int (2 : Int32)), (.int (0 : Int32)), (.ref h0.size), (.int (0 : Int32)), (.ref a)]) rfl ?_
  intro T7 LT7 vT7 XT7 hQT7
  obtain ⟨rfl, KT7, NT7, VT7⟩ := hQT7
  show own_Go p e below _ T7 (mkF m 12 #[oR a, oI (0 : Int32), oI (2 : Int32), oR h0.size, .unset, .unset] [(.int (2 : Int32))])
  have fq8_1 := fq4_1.keep KT7 (own_nin z5)
  have lq8_0 := Nat.lt_of_lt_of_le lq4_0 KT7.1
  have lq8_1 := Nat.lt_of_lt_of_le lt6 KT7.1
  have Kq8 := own_trans1 Kq4 KT7 (Or.inr g3)
  have N9 := own_Fr.app N0 (own_Fr.of (own_Fr.new NT7 g3 (Kq4).1) (Nat.le_refl _))
  refine own_by (fun t_ k_ => XS.istore XT7.here hx rfl (hb hby d9_12) rfl (l' := #[oR a, oI (0 : Int32), oI (2 : Int32), oR h0.size, oI (2 : Int32), .unset]) rfl k_) ?_
  show own_Go p e below _ T7 (mkF m 14 #[oR a, oI (0 : Int32), oI (2 : Int32), oR h0.size, oI (2 : Int32), .unset] [])
  refine own_by (fun t_ k_ => XS.iload XT7.here hx rfl (hb hby d9_14) rfl  k_) ?_
  show own_Go p e below _ T7 (mkF m 16 #[oR a, oI (0 : Int32), oI (2 : Int32), oR h0.size, oI (2 : Int32), .unset] [(.int (2 : Int32))])
  refine own_by (fun t_ k_ => XS.iloadN XT7.here hx rfl (hb hby d9_16) rfl  k_) ?_
  show own_Go p e below _ T7 (mkF m 17 #[oR a, oI (0 : Int32), oI (2 : Int32), oR h0.size, oI (2 : Int32), .unset] [(.int (2 : Int32)), (.int (2 : Int32))])
  refine own_by (fun t_ k_ => XS.icmpYes XT7.here hx rfl (pc0 := 17) (pc' := 57) rfl (hb hby d9_17) rfl (XT.ii_eq_t (by decide)) (by decide) (by decide) k_) ?_
  show own_Go p e below _ T7 (mkF m 57 #[oR a, oI (0 : Int32), oI (2 : Int32), oR h0.size, oI (2 : Int32), .unset] [])
  refine own_by (fun t_ k_ => XS.aloadN XT7.here hx rfl (hb hby d9_57) rfl rfl  k_) ?_
  show own_Go p e below _ T7 (mkF m 58 #[oR a, oI (0 : Int32), oI (2 : Int32), oR h0.size, oI (2 : Int32), .unset] [(.ref h0.size)])
  exact own_retA XT7 hx hlk hret rfl rfl (hb hby d9_58) (by decide) (by decide) (⟨rfl, Kq8, (N9).to (Nat.le_refl _), ⟨_, VT7⟩⟩)
set_option maxRecDepth 65536 in
set_option maxHeartbeats 40000000 in
theorem own_cd_2 (l : Launch) (Z : State) (a0 : Array Value) (hw : ∀ d ∈ tables_1, d.before a0 Z = true) (a : Addr) (ka : ClassId) (x0 x1 : Value) (h0 : Heap) (A : own_A Z h0 a .byte ka [x0, x1]) :
    own_Met l (⟨"java/lang/StringUTF16", "coderFromArrayLen", "([BI)B"⟩ : MethodName) jdk_52_method_15_code 2 (some .byte) [] ({ frames := 0, cells := 0, slots := 0, locals := 0 } : Room) Z #[(.ref a), (.int (2 : Int32))] h0 (fun rv rh rL => rv = some (.int (0 : Int32)) ∧ rh = h0 ∧ rL = []) := by
  refine own_enter (plainFor_of_name pn_0) ?_
  intro p e s m below meth c T0 hx hby hml hret hlk hown hnm hZ X0 e0
  refine own_at (g' := (mkF m 0 #[oR a, oI (2 : Int32)] [])) (by first | (simp [entryFrame, mkF, argsToLocals, Value.category]; done) | rfl) ?_
  show own_Go p e below _ T0 (mkF m 0 #[oR a, oI (2 : Int32)] [])
  have K0 : Keep h0 h0 [] := Keep.refl h0 _
  have N0 : own_Fr h0.size h0.size [] := own_Fr.nil
  refine own_by (fun t_ k_ => XS.iloadN X0.here hx rfl (hb hby d11_0) rfl  k_) ?_
  show own_Go p e below _ T0 (mkF m 1 #[oR a, oI (2 : Int32)] [(.int (2 : Int32))])
  refine own_by (fun t_ k_ => XS.aloadN X0.here hx rfl (hb hby d11_1) rfl rfl  k_) ?_
  show own_Go p e below _ T0 (mkF m 2 #[oR a, oI (2 : Int32)] [(.ref a), (.int (2 : Int32))])
  refine own_len X0 hx hZ e0 A (2 : Int32) rfl (hb hby d11_2) ?_
  show own_Go p e below _ T0 (mkF m 3 #[oR a, oI (2 : Int32)] [(.int (2 : Int32)), (.int (2 : Int32))])
  refine own_by (fun t_ k_ => XS.isub X0.here hx rfl (hb hby d11_3) rfl k_) ?_
  show own_Go p e below _ T0 (mkF m 4 #[oR a, oI (2 : Int32)] [(.int ((2 : Int32) - (2 : Int32)))])
  rw [show ((2 : Int32) - (2 : Int32)) = (0 : Int32) by decide]
  show own_Go p e below _ T0 (mkF m 4 #[oR a, oI (2 : Int32)] [(.int (0 : Int32))])
  refine own_by (fun t_ k_ => XT.bipushV X0.here hx rfl (31 : Int32) (hb hby d11_4) (by decide) k_) ?_
  show own_Go p e below _ T0 (mkF m 6 #[oR a, oI (2 : Int32)] [(.int (31 : Int32)), (.int (0 : Int32))])
  refine own_by (fun t_ k_ => XT.iushr X0.here hx rfl (hb hby d11_6) rfl k_) ?_
  show own_Go p e below _ T0 (mkF m 7 #[oR a, oI (2 : Int32)] [(.int (((0 : Int32).toUInt32 >>> ((31 : Int32) &&& 31).toUInt32).toInt32))])
  rw [show (((0 : Int32).toUInt32 >>> ((31 : Int32) &&& 31).toUInt32).toInt32) = (0 : Int32) by decide]
  show own_Go p e below _ T0 (mkF m 7 #[oR a, oI (2 : Int32)] [(.int (0 : Int32))])
  refine own_by (fun t_ k_ => XT.i2b X0.here hx rfl (hb hby d11_7) rfl k_) ?_
  show own_Go p e below _ T0 (mkF m 8 #[oR a, oI (2 : Int32)] [(.int ((0 : Int32).toInt8.toInt32))])
  rw [show ((0 : Int32).toInt8.toInt32) = (0 : Int32) by decide]
  show own_Go p e below _ T0 (mkF m 8 #[oR a, oI (2 : Int32)] [(.int (0 : Int32))])
  subst e0
  exact own_retN X0 hx hlk hret (by simp) (w := (0 : Int32)) (hb hby d11_8) (by decide) (by decide) (by decide) (⟨rfl, rfl, rfl⟩)
set_option maxRecDepth 65536 in
set_option maxHeartbeats 40000000 in
theorem own_i4_2 (l : Launch) (Z : State) (a0 : Array Value) (hw : ∀ d ∈ tables_1, d.before a0 Z = true) (t a : Addr) (ka : ClassId) (c0 c1 : Int32) (h0 : Heap) (cs : Int32) (Cs : Sta Z h0 "java/lang/String" "COMPACT_STRINGS" "Z" (.int cs)) (hcs : ¬ cs = (0 : Int32))(Et : Exa Z h0 t "java/lang/String") (Fv : Fld Z h0 t "java/lang/String" "value" "[B" .null) (Fc : Fld Z h0 t "java/lang/String" "coder" "B" (.int 0)) (A : own_A Z h0 a .char ka [(.int c0), (.int c1)]) (hc0 : ¬ (255 : Int32) < c0) (hc1 : ¬ (255 : Int32) < c1) :
    own_Met l (⟨"java/lang/String", "<init>", "([CIILjava/lang/Void;)V"⟩ : MethodName) jdk_42_method_149_code 6 (none) [] ({ frames := 2, cells := 1, slots := 2, locals := 38 } : Room) Z #[(.ref t), (.ref a), (.int (0 : Int32)), (.int (2 : Int32)), .null] h0 (fun rv rh rL => rv = none ∧ Keep h0 rh [t] ∧ own_Fr h0.size t rL ∧ own_Str Z rh t 0 [(.int (c0.toInt8.toInt32)), (.int (c1.toInt8.toInt32))]) := by
  refine own_enter (plainFor_of_name pn_1) ?_
  intro p e s m below meth c T0 hx hby hml hret hlk hown hnm hZ X0 e0
  refine own_at (g' := (mkF m 0 #[oR t, oR a, oI (0 : Int32), oI (2 : Int32), .val .null, .unset] [])) (by first | (simp [entryFrame, mkF, argsToLocals, Value.category]; done) | rfl) ?_
  show own_Go p e below _ T0 (mkF m 0 #[oR t, oR a, oI (0 : Int32), oI (2 : Int32), .val .null, .unset] [])
  have lt1 : t < h0.size := Et.lt
  have lt2 : a < h0.size := A.lt
  have K0 : Keep h0 h0 [t] := Keep.refl h0 _
  have N0 : own_Fr h0.size t [] := own_Fr.nil
  refine own_by (fun t_ k_ => XS.aloadN X0.here hx rfl (hb hby d3_0) rfl rfl  k_) ?_
  show own_Go p e below _ T0 (mkF m 1 #[oR t, oR a, oI (0 : Int32), oI (2 : Int32), .val .null, .unset] [(.ref t)])
  obtain ⟨T3, XT3, eT3, stT3⟩ := initO X0 hx hZ hown (hw _ (List.mem_of_getElem? (i := 15) rfl)) (hw _ (List.mem_of_getElem? (i := 16) rfl)) (hw _ (List.mem_of_getElem? (i := 17) rfl)) e0 (g := (mkF m 1 #[oR t, oR a, oI (0 : Int32), oI (2 : Int32), .val .null, .unset] [(.ref t)])) rfl (by rw [hml]; rfl) rfl (hb hby d3_1) (by decide) (W := 0) (by show 2 * 0 + _ ≤ _; exact Nat.le_of_eq rfl) (by decide)
  refine own_by stT3 ?_
  show own_Go p e below _ T3 (mkF m 4 #[oR t, oR a, oI (0 : Int32), oI (2 : Int32), .val .null, .unset] [])
  refine own_by (fun t_ k_ => XS.iloadN XT3.here hx rfl (hb hby d3_4) rfl  k_) ?_
  show own_Go p e below _ T3 (mkF m 5 #[oR t, oR a, oI (0 : Int32), oI (2 : Int32), .val .null, .unset] [(.int (2 : Int32))])
  refine own_by (fun t_ k_ => XS.ifYes XT3.here hx rfl (pc0 := 5) (pc' := 27) rfl (hb hby d3_5) rfl (XT.i0_ne_t (by decide)) (by decide) (by decide) k_) ?_
  show own_Go p e below _ T3 (mkF m 27 #[oR t, oR a, oI (0 : Int32), oI (2 : Int32), .val .null, .unset] [])
  obtain ⟨T4, XT4, eT4, stT4⟩ := getS2 XT3 hx hZ hown (host := "") (Or.inl (hw _ (List.mem_of_getElem? (i := 59) rfl))) Via.refl eT3 Cs (g := (mkF m 27 #[oR t, oR a, oI (0 : Int32), oI (2 : Int32), .val .null, .unset] [])) rfl (hb hby d3_27)
  refine own_by stT4 ?_
  show own_Go p e below _ T4 (mkF m 30 #[oR t, oR a, oI (0 : Int32), oI (2 : Int32), .val .null, .unset] [(.int cs)])
  refine own_by (fun t_ k_ => XS.ifNo XT4.here hx rfl (hb hby d3_30) rfl (XT.i0_eq_f hcs) k_) ?_
  show own_Go p e below _ T4 (mkF m 33 #[oR t, oR a, oI (0 : Int32), oI (2 : Int32), .val .null, .unset] [])
  refine own_by (fun t_ k_ => XS.aloadN XT4.here hx rfl (hb hby d3_33) rfl rfl  k_) ?_
  show own_Go p e below _ T4 (mkF m 34 #[oR t, oR a, oI (0 : Int32), oI (2 : Int32), .val .null, .unset] [(.ref a)])
  refine own_by (fun t_ k_ => XS.iloadN XT4.here hx rfl (hb hby d3_34) rfl  k_) ?_
  show own_Go p e below _ T4 (mkF m 35 #[oR t, oR a, oI (0 : Int32), oI (2 : Int32), .val .null, .unset] [(.int (0 : Int32)), (.ref a)])
  refine own_by (fun t_ k_ => XS.iloadN XT4.here hx rfl (hb hby d3_35) rfl  k_) ?_
  show own_Go p e below _ T4 (mkF m 36 #[oR t, oR a, oI (0 : Int32), oI (2 : Int32), .val .null, .unset] [(.int (2 : Int32)), (.int (0 : Int32)), (.ref a)])
  have g5 : h0.size ≤ h0.size := K0.1
  refine own_callS XT4 hx hZ hown (hw _ (List.mem_of_getElem? (i := 60) rfl)) (hw _ (List.mem_of_getElem? (i := 61) rfl)) (hw _ (List.mem_of_getElem? (i := 62) rfl)) (hw _ (List.mem_of_getElem? (i := 63) rfl)) (by decide) eT4 (argsL := [(.ref a), (.int (0 : Int32)), (.int (2 : Int32))]) (rest := []) (own_cp3_2 l Z a0 hw a ka c0 c1 h0 A hc0 hc1) 0 (by decide) (by decide) (by rw [hml]; rfl) (lenOf pd_1 rfl) (Nat.le_of_eq rfl) (hb hby d3_36) (by decide) (by decide) (st := [(.int (2 : Int32)), (.int (0 : Int32)), (.ref a)]) rfl ?_
  intro T6 LT6 vT6 XT6 hQT6
  obtain ⟨rfl, KT6, NT6, kb, VT6⟩ := hQT6
  show own_Go p e below _ T6 (mkF m 39 #[oR t, oR a, oI (0 : Int32), oI (2 : Int32), .val .null, .unset] [(.ref h0.size)])
  have fq7_1 := Et.keep KT6
  have fq7_2 := Fv.keep KT6 nin0
  have fq7_3 := Fc.keep KT6 nin0
  have fq7_4 := A.keep KT6 nin0
  have fq7_5 := own_stak Cs KT6
  have lq7_0 := Nat.lt_of_lt_of_le lt1 KT6.1
  have lq7_1 := Nat.lt_of_lt_of_le lt2 KT6.1
  have Kq7 := own_trans0 K0 KT6
  have z8 : t ≠ h0.size := Nat.ne_of_lt lt1
  have z9 : a ≠ h0.size := Nat.ne_of_lt lt2
  have N10 := own_Fr.app N0 (own_Fr.of NT6 (K0).1)
  refine own_by (fun t_ k_ => XS.astore XT6.here hx rfl (hb hby d3_39) rfl rfl (l' := #[oR t, oR a, oI (0 : Int32), oI (2 : Int32), .val .null, oR h0.size]) rfl k_) ?_
  show own_Go p e below _ T6 (mkF m 41 #[oR t, oR a, oI (0 : Int32), oI (2 : Int32), .val .null, oR h0.size] [])
  refine own_by (fun t_ k_ => XS.aloadN XT6.here hx rfl (hb hby d3_41) rfl rfl  k_) ?_
  show own_Go p e below _ T6 (mkF m 42 #[oR t, oR a, oI (0 : Int32), oI (2 : Int32), .val .null, oR h0.size] [(.ref t)])
  refine own_by (fun t_ k_ => XS.aload XT6.here hx rfl (hb hby d3_42) rfl rfl  k_) ?_
  show own_Go p e below _ T6 (mkF m 44 #[oR t, oR a, oI (0 : Int32), oI (2 : Int32), .val .null, oR h0.size] [(.ref h0.size), (.ref t)])
  refine own_by (fun t_ k_ => XS.iloadN XT6.here hx rfl (hb hby d3_44) rfl  k_) ?_
  show own_Go p e below _ T6 (mkF m 45 #[oR t, oR a, oI (0 : Int32), oI (2 : Int32), .val .null, oR h0.size] [(.int (2 : Int32)), (.ref h0.size), (.ref t)])
  refine own_callS XT6 hx hZ hown (hw _ (List.mem_of_getElem? (i := 67) rfl)) (hw _ (List.mem_of_getElem? (i := 68) rfl)) (hw _ (List.mem_of_getElem? (i := 62) rfl)) (hw _ (List.mem_of_getElem? (i := 69) rfl)) (by decide) (rfl : T6.heap = T6.heap) (argsL := [(.ref h0.size), (.int (2 : Int32))]) (rest := [(.ref t)]) (own_cd_2 l Z a0 hw h0.size kb (.int (c0.toInt8.toInt32)) (.int (c1.toInt8.toInt32)) T6.heap VT6) 1 (by decide) (by decide) (by rw [hml]; rfl) (lenOf pd_2 rfl) (Nat.le_of_eq rfl) (hb hby d3_45) (by decide) (by decide) (st := [(.int (2 : Int32)), (.ref h0.size), (.ref t)]) rfl ?_
  intro T11 LT11 vT11 XT11 hQT11
  obtain ⟨rfl, eT11, rfl⟩ := hQT11
  show own_Go p e below _ T11 (mkF m 48 #[oR t, oR a, oI (0 : Int32), oI (2 : Int32), .val .null, oR h0.size] [(.int (0 : Int32)), (.ref t)])
  have N12 := own_Fr.app N10 own_Fr.nil
  refine own_putF XT11 hx hZ hown (hw _ (List.mem_of_getElem? (i := 25) rfl)) eT11 fq7_3 fq7_1 (Or.inr ⟨(hw _ (List.mem_of_getElem? (i := 21) rfl)), rfl, hnm⟩) (hw _ (List.mem_of_getElem? (i := 5) rfl)) (ty := .byte) (by decide +kernel) (by decide) (by decide) (hb hby d3_48) ?_
  intro T13 hT13 XT13 eT13 WT13
  have FT13_coder := Fld.same WT13 fq7_3
  have FT13_value := Fld.other WT13 fq7_2 (Or.inr (slot_ne (t := (.array .byte)) (t' := .byte) (Or.inr (hw _ (List.mem_of_getElem? (i := 20) rfl))) (Or.inr (hw _ (List.mem_of_getElem? (i := 21) rfl))) (by decide) (by decide +kernel) (by decide +kernel)))
  have fq14_1 := fq7_1.keep (Keep.of_wr WT13)
  have fq14_3 := Sta.wr WT13 fq7_5
  have fq14_4 := VT6.keep (Keep.of_wr WT13) (own_nin (Ne.symm z8))
  have lq14_0 := Nat.lt_of_lt_of_le lq7_0 (Keep.of_wr WT13).1
  have lq14_1 := Nat.lt_of_lt_of_le lq7_1 (Keep.of_wr WT13).1
  have Kq14 := own_trans1 Kq7 (Keep.of_wr WT13) (Or.inl (List.mem_singleton.mpr rfl))
  have N15 := own_Fr.app N12 (own_Fr.one (i := (Jvm.RoadKit.slotOf Z "java/lang/String" "coder" "B")))
  show own_Go p e below _ T13 (mkF m 51 #[oR t, oR a, oI (0 : Int32), oI (2 : Int32), .val .null, oR h0.size] [])
  refine own_by (fun t_ k_ => XS.aloadN XT13.here hx rfl (hb hby d3_51) rfl rfl  k_) ?_
  show own_Go p e below _ T13 (mkF m 52 #[oR t, oR a, oI (0 : Int32), oI (2 : Int32), .val .null, oR h0.size] [(.ref t)])
  refine own_by (fun t_ k_ => XS.aload XT13.here hx rfl (hb hby d3_52) rfl rfl  k_) ?_
  show own_Go p e below _ T13 (mkF m 54 #[oR t, oR a, oI (0 : Int32), oI (2 : Int32), .val .null, oR h0.size] [(.ref h0.size), (.ref t)])
  refine own_putF XT13 hx hZ hown (hw _ (List.mem_of_getElem? (i := 24) rfl)) eT13 FT13_value fq14_1 (Or.inr ⟨(hw _ (List.mem_of_getElem? (i := 20) rfl)), rfl, hnm⟩) (hw _ (List.mem_of_getElem? (i := 5) rfl)) (ty := (.array .byte)) (by decide +kernel) rfl rfl (hb hby d3_54) ?_
  intro T16 hT16 XT16 eT16 WT16
  have FT16_value := Fld.same WT16 FT13_value
  have FT16_coder := Fld.other WT16 FT13_coder (Or.inr (slot_ne (t := .byte) (t' := (.array .byte)) (Or.inr (hw _ (List.mem_of_getElem? (i := 21) rfl))) (Or.inr (hw _ (List.mem_of_getElem? (i := 20) rfl))) (by decide) (by decide +kernel) (by decide +kernel)))
  have fq17_1 := fq14_1.keep (Keep.of_wr WT16)
  have fq17_2 := Sta.wr WT16 fq14_3
  have fq17_3 := fq14_4.keep (Keep.of_wr WT16) (own_nin (Ne.symm z8))
  have lq17_0 := Nat.lt_of_lt_of_le lq14_0 (Keep.of_wr WT16).1
  have lq17_1 := Nat.lt_of_lt_of_le lq14_1 (Keep.of_wr WT16).1
  have Kq17 := own_trans1 Kq14 (Keep.of_wr WT16) (Or.inl (List.mem_singleton.mpr rfl))
  have N18 := own_Fr.app N15 (own_Fr.one (i := (Jvm.RoadKit.slotOf Z "java/lang/String" "value" "[B")))
  show own_Go p e below _ T16 (mkF m 57 #[oR t, oR a, oI (0 : Int32), oI (2 : Int32), .val .null, oR h0.size] [])
  subst eT16
  exact own_retV XT16 hx hlk hret (hb hby d3_57) (by decide) (by decide) (⟨rfl, Kq17, N18, ⟨h0.size, _, fq17_1, FT16_value, FT16_coder, fq17_3⟩⟩)
set_option maxRecDepth 65536 in
set_option maxHeartbeats 40000000 in
theorem own_i1_2 (l : Launch) (Z : State) (a0 : Array Value) (hw : ∀ d ∈ tables_1, d.before a0 Z = true) (t a : Addr) (ka : ClassId) (c0 c1 : Int32) (h0 : Heap) (cs : Int32) (Cs : Sta Z h0 "java/lang/String" "COMPACT_STRINGS" "Z" (.int cs)) (hcs : ¬ cs = (0 : Int32))(Et : Exa Z h0 t "java/lang/String") (Fv : Fld Z h0 t "java/lang/String" "value" "[B" .null) (Fc : Fld Z h0 t "java/lang/String" "coder" "B" (.int 0)) (A : own_A Z h0 a .char ka [(.int c0), (.int c1)]) (hc0 : ¬ (255 : Int32) < c0) (hc1 : ¬ (255 : Int32) < c1) :
    own_Met l (⟨"java/lang/String", "<init>", "([C)V"⟩ : MethodName) jdk_42_method_3_code 2 (none) [] ({ frames := 3, cells := 1, slots := 2, locals := 55 } : Room) Z #[(.ref t), (.ref a)] h0 (fun rv rh rL => rv = none ∧ Keep h0 rh [t] ∧ own_Fr h0.size t rL ∧ own_Str Z rh t 0 [(.int (c0.toInt8.toInt32)), (.int (c1.toInt8.toInt32))]) := by
  refine own_enter (plainFor_of_name pn_1) ?_
  intro p e s m below meth c T0 hx hby hml hret hlk hown hnm hZ X0 e0
  refine own_at (g' := (mkF m 0 #[oR t, oR a] [])) (by first | (simp [entryFrame, mkF, argsToLocals, Value.category]; done) | rfl) ?_
  show own_Go p e below _ T0 (mkF m 0 #[oR t, oR a] [])
  have lt1 : t < h0.size := Et.lt
  have lt2 : a < h0.size := A.lt
  have K0 : Keep h0 h0 [t] := Keep.refl h0 _
  have N0 : own_Fr h0.size t [] := own_Fr.nil
  refine own_by (fun t_ k_ => XS.aloadN X0.here hx rfl (hb hby d2_0) rfl rfl  k_) ?_
  show own_Go p e below _ T0 (mkF m 1 #[oR t, oR a] [(.ref t)])
  refine own_by (fun t_ k_ => XS.aloadN X0.here hx rfl (hb hby d2_1) rfl rfl  k_) ?_
  show own_Go p e below _ T0 (mkF m 2 #[oR t, oR a] [(.ref a), (.ref t)])
  refine own_by (fun t_ k_ => XT.iconstV X0.here hx rfl (0 : Int32) (hb hby d2_2) (by decide) k_) ?_
  show own_Go p e below _ T0 (mkF m 3 #[oR t, oR a] [(.int (0 : Int32)), (.ref a), (.ref t)])
  refine own_by (fun t_ k_ => XS.aloadN X0.here hx rfl (hb hby d2_3) rfl rfl  k_) ?_
  show own_Go p e below _ T0 (mkF m 4 #[oR t, oR a] [(.ref a), (.int (0 : Int32)), (.ref a), (.ref t)])
  refine own_len X0 hx hZ e0 A (2 : Int32) rfl (hb hby d2_4) ?_
  show own_Go p e below _ T0 (mkF m 5 #[oR t, oR a] [(.int (2 : Int32)), (.int (0 : Int32)), (.ref a), (.ref t)])
  refine own_by (fun t_ k_ => XS.aconstNull X0.here hx rfl (hb hby d2_5) k_) ?_
  show own_Go p e below _ T0 (mkF m 6 #[oR t, oR a] [.null, (.int (2 : Int32)), (.int (0 : Int32)), (.ref a), (.ref t)])
  refine own_callN X0 hx hZ rfl hown (hw _ (List.mem_of_getElem? (i := 11) rfl)) (hw _ (List.mem_of_getElem? (i := 12) rfl)) (hw _ (List.mem_of_getElem? (i := 14) rfl)) (hw _ (List.mem_of_getElem? (i := 6) rfl)) (by decide) e0 (b := t) (argsL := [(.ref a), (.int (0 : Int32)), (.int (2 : Int32)), .null]) (rest := []) (own_i4_2 l Z a0 hw t a ka c0 c1 h0 cs Cs hcs Et Fv Fc A hc0 hc1) 0 (by decide) (by decide) (by rw [hml]; rfl) (lenOf pd_3 rfl) (Nat.le_of_eq rfl) (hb hby d2_6) (by decide) (by decide) (st := [.null, (.int (2 : Int32)), (.int (0 : Int32)), (.ref a), (.ref t)]) rfl ?_
  intro T3 LT3 vT3 XT3 hQT3
  obtain ⟨rfl, KT3, NT3, ST3⟩ := hQT3
  show own_Go p e below _ T3 (mkF m 9 #[oR t, oR a] [])
  exact own_retV XT3 hx hlk hret (hb hby d2_9) (by decide) (by decide) (⟨rfl, KT3, own_Fr.app own_Fr.nil NT3, ST3⟩)
theorem own_atoms {Z : State} {a0 : Array Value} (hw : ∀ d ∈ tables_1, d.before a0 Z = true) : ∀ a ∈ Bundle.stringAtoms, a.before a0 Z = true := by
  intro a ha
  simp only [Bundle.stringAtoms, List.mem_cons, List.not_mem_nil, or_false] at ha
  rcases ha with rfl | rfl | rfl | rfl | rfl | rfl | rfl
  · exact (hw _ (List.mem_of_getElem? (i := 6) rfl))
  · exact (hw _ (List.mem_of_getElem? (i := 5) rfl))
  · exact (hw _ (List.mem_of_getElem? (i := 19) rfl))
  · exact (hw _ (List.mem_of_getElem? (i := 20) rfl))
  · exact (hw _ (List.mem_of_getElem? (i := 21) rfl))
  · exact (hw _ (List.mem_of_getElem? (i := 22) rfl))
  · exact (hw _ (List.mem_of_getElem? (i := 23) rfl))
theorem d3_8 : decode jdk_42_method_149_code 8 = .ok (.aload_n 0, 1) := by decide +kernel
theorem d3_9 : decode jdk_42_method_149_code 9 = .ok (.ldc 7, 2) := by decide +kernel
theorem d3_11 : decode jdk_42_method_149_code 11 = .ok (.getfield 9, 3) := by decide +kernel
theorem d3_14 : decode jdk_42_method_149_code 14 = .ok (.putfield 9, 3) := by decide +kernel
theorem d3_17 : decode jdk_42_method_149_code 17 = .ok (.aload_n 0, 1) := by decide +kernel
theorem d3_18 : decode jdk_42_method_149_code 18 = .ok (.ldc 7, 2) := by decide +kernel
theorem d3_20 : decode jdk_42_method_149_code 20 = .ok (.getfield 15, 3) := by decide +kernel
theorem d3_23 : decode jdk_42_method_149_code 23 = .ok (.putfield 15, 3) := by decide +kernel
theorem d3_26 : decode jdk_42_method_149_code 26 = .ok (.return_, 1) := by decide +kernel
set_option maxRecDepth 65536 in
set_option maxHeartbeats 40000000 in
theorem own_i4_0 (l : Launch) (Z : State) (a0 : Array Value) (hw : ∀ d ∈ tables_1, d.before a0 Z = true) (EL : List (String × Nat)) (hEL : EW Z a0 EL) (t a : Addr) (h0 : Heap) (Et : Exa Z h0 t "java/lang/String") (Fv : Fld Z h0 t "java/lang/String" "value" "[B" .null) (Fc : Fld Z h0 t "java/lang/String" "coder" "B" (.int 0)) (hmem : ("java/lang/String", 7) ∈ EL) :
    own_MetW l (⟨"java/lang/String", "<init>", "([CIILjava/lang/Void;)V"⟩ : MethodName) jdk_42_method_149_code 6 (none) [] ({ frames := 1, cells := 4, slots := 8, locals := 12 } : Room) Z EL #[(.ref t), (.ref a), (.int (0 : Int32)), (.int (0 : Int32)), .null] h0 (fun rv rh rL => rv = none ∧ Keep h0 rh [t] ∧ own_Fr h0.size t rL ∧ own_Str Z rh t 0 []) := by
  refine own_enterW (plainFor_of_name pn_1) ?_
  intro p e s m below meth c T0 hx hby hml hret hlk hown hnm hZ X0 e0 hS hC
  refine own_at (g' := (mkF m 0 #[oR t, oR a, oI (0 : Int32), oI (0 : Int32), .val .null, .unset] [])) (by first | (simp [entryFrame, mkF, argsToLocals, Value.category]; done) | rfl) ?_
  show own_Go p e below _ T0 (mkF m 0 #[oR t, oR a, oI (0 : Int32), oI (0 : Int32), .val .null, .unset] [])
  have lt1 : t < h0.size := Et.lt
  have K0 : Keep h0 h0 [t] := Keep.refl h0 _
  have N0 : own_Fr h0.size t [] := own_Fr.nil
  have hk0 : 0 ≤ h0.size := Nat.zero_le _
  refine own_by (fun t_ k_ => XS.aloadN X0.here hx rfl (hb hby d3_0) rfl rfl  k_) ?_
  show own_Go p e below _ T0 (mkF m 1 #[oR t, oR a, oI (0 : Int32), oI (0 : Int32), .val .null, .unset] [(.ref t)])
  obtain ⟨T2, XT2, eT2, stT2⟩ := initO X0 hx hZ hown (hw _ (List.mem_of_getElem? (i := 15) rfl)) (hw _ (List.mem_of_getElem? (i := 16) rfl)) (hw _ (List.mem_of_getElem? (i := 17) rfl)) e0 (g := (mkF m 1 #[oR t, oR a, oI (0 : Int32), oI (0 : Int32), .val .null, .unset] [(.ref t)])) rfl (by rw [hml]; rfl) rfl (hb hby d3_1) (by decide) (W := 0) (by show 2 * 0 + _ ≤ _; exact Nat.le_of_eq rfl) (by decide)
  refine own_by stT2 ?_
  show own_Go p e below _ T2 (mkF m 4 #[oR t, oR a, oI (0 : Int32), oI (0 : Int32), .val .null, .unset] [])
  refine own_by (fun t_ k_ => XS.iloadN XT2.here hx rfl (hb hby d3_4) rfl  k_) ?_
  show own_Go p e below _ T2 (mkF m 5 #[oR t, oR a, oI (0 : Int32), oI (0 : Int32), .val .null, .unset] [(.int (0 : Int32))])
  refine own_by (fun t_ k_ => XS.ifNo XT2.here hx rfl (hb hby d3_5) rfl (XT.i0_ne_f (by decide)) k_) ?_
  show own_Go p e below _ T2 (mkF m 8 #[oR t, oR a, oI (0 : Int32), oI (0 : Int32), .val .null, .unset] [])
  refine own_by (fun t_ k_ => XS.aloadN XT2.here hx rfl (hb hby d3_8) rfl rfl  k_) ?_
  show own_Go p e below _ T2 (mkF m 9 #[oR t, oR a, oI (0 : Int32), oI (0 : Int32), .val .null, .unset] [(.ref t)])
  refine own_ldcW XT2 hx hZ hEL hS eT2 hk0 hC hown (hw _ (List.mem_of_getElem? (i := 18) rfl)) (own_atoms hw) hmem (z := 0) (vs := []) ⟨by decide, rfl⟩ (by decide) rfl (hb hby d3_9) 0 (by decide) (by decide) (by decide) (by decide) ?_
  intro T3 aT3 hT3 kT3 bT3 kbT3 XT3 eT3 ET3 hS hkT3 hZ hown EsT3 FcT3 FvT3 VT3 hRT3 hCT3 neT3
  have fq4_1 := Et.keep (own_ek ET3)
  have fq4_2 := Fv.keep (own_ek ET3) nin0
  have fq4_3 := Fc.keep (own_ek ET3) nin0
  have lq4_0 := Nat.lt_of_lt_of_le lt1 (own_ek ET3).1
  have Kq4 := own_trans0 K0 (own_ek ET3)
  have hC := hCT3
  have hk0 := hkT3
  have St := own_safe_null (EL := EL) hZ.alike fq4_1 fq4_2
  have zT3 := neT3 t St
  show own_Go p e below _ T3 (mkF m 11 #[oR t, oR a, oI (0 : Int32), oI (0 : Int32), .val .null, .unset] [(.ref aT3), (.ref t)])
  refine own_getF XT3 hx hZ hown (hw _ (List.mem_of_getElem? (i := 24) rfl)) eT3 FvT3 (hb hby d3_11) ?_
  intro T5 XT5 eT5
  show own_Go p e below _ T5 (mkF m 14 #[oR t, oR a, oI (0 : Int32), oI (0 : Int32), .val .null, .unset] [(.ref bT3), (.ref t)])
  refine own_putF XT5 hx hZ hown (hw _ (List.mem_of_getElem? (i := 24) rfl)) eT5 fq4_2 fq4_1 (Or.inr ⟨(hw _ (List.mem_of_getElem? (i := 20) rfl)), rfl, hnm⟩) (hw _ (List.mem_of_getElem? (i := 5) rfl)) (ty := (.array .byte)) (by decide +kernel) rfl rfl (hb hby d3_14) ?_
  intro T6 hT6 XT6 eT6 WT6
  have FT6_value := Fld.same WT6 fq4_2
  have FT6_coder := Fld.other WT6 fq4_3 (Or.inr (slot_ne (t := .byte) (t' := (.array .byte)) (Or.inr (hw _ (List.mem_of_getElem? (i := 21) rfl))) (Or.inr (hw _ (List.mem_of_getElem? (i := 20) rfl))) (by decide) (by decide +kernel) (by decide +kernel)))
  have hCo := hC.1
  have fq7_1 := fq4_1.keep (Keep.of_wr WT6)
  have fq7_2 := EsT3.keep (Keep.of_wr WT6)
  have fq7_3 := FvT3.keep (Keep.of_wr WT6) (own_nin (Ne.symm zT3.1))
  have fq7_4 := FcT3.keep (Keep.of_wr WT6) (own_nin (Ne.symm zT3.1))
  have fq7_5 := VT3.keep (Keep.of_wr WT6) (own_nin (Ne.symm zT3.2))
  have lq7_0 := Nat.lt_of_lt_of_le lq4_0 (Keep.of_wr WT6).1
  have hC := hC.trans (CHr.keep (Keep.of_wr WT6) (fun _ q => by cases List.mem_singleton.mp q; exact St) hC.1)
  have hk0 := Nat.le_trans hk0 (Keep.of_wr WT6).1
  have Kq7 := own_trans1 Kq4 (Keep.of_wr WT6) (Or.inl (List.mem_singleton.mpr rfl))
  have N8 := own_Fr.app N0 (own_Fr.one (i := (Jvm.RoadKit.slotOf Z "java/lang/String" "value" "[B")))
  show own_Go p e below _ T6 (mkF m 17 #[oR t, oR a, oI (0 : Int32), oI (0 : Int32), .val .null, .unset] [])
  have St := Safe.keep (Keep.of_wr WT6) (fun _ q => by cases List.mem_singleton.mp q; exact St) hCo St
  refine own_by (fun t_ k_ => XS.aloadN XT6.here hx rfl (hb hby d3_17) rfl rfl  k_) ?_
  show own_Go p e below _ T6 (mkF m 18 #[oR t, oR a, oI (0 : Int32), oI (0 : Int32), .val .null, .unset] [(.ref t)])
  refine own_ldcW XT6 hx hZ hEL hS eT6 hk0 hC hown (hw _ (List.mem_of_getElem? (i := 18) rfl)) (own_atoms hw) hmem (z := 0) (vs := []) ⟨by decide, rfl⟩ (by decide) rfl (hb hby d3_18) 0 (by decide) (by decide) (by decide) (by decide) ?_
  intro T9 aT9 hT9 kT9 bT9 kbT9 XT9 eT9 ET9 hS hkT9 hZ hown EsT9 FcT9 FvT9 VT9 hRT9 hCT9 neT9
  have fq10_1 := fq7_1.keep (own_ek ET9)
  have fq10_2 := fq7_2.keep (own_ek ET9)
  have fq10_3 := fq7_3.keep (own_ek ET9) nin0
  have fq10_4 := fq7_4.keep (own_ek ET9) nin0
  have fq10_5 := fq7_5.keep (own_ek ET9) nin0
  have fq10_6 := FT6_value.keep (own_ek ET9) nin0
  have fq10_7 := FT6_coder.keep (own_ek ET9) nin0
  have lq10_0 := Nat.lt_of_lt_of_le lq7_0 (own_ek ET9).1
  have Kq10 := own_trans0 Kq7 (own_ek ET9)
  have hC := hCT9
  have hk0 := hkT9
  have St := hRT9.safe lq7_0 St
  have zT9 := neT9 t St
  show own_Go p e below _ T9 (mkF m 20 #[oR t, oR a, oI (0 : Int32), oI (0 : Int32), .val .null, .unset] [(.ref aT9), (.ref t)])
  refine own_getF XT9 hx hZ hown (hw _ (List.mem_of_getElem? (i := 25) rfl)) eT9 FcT9 (hb hby d3_20) ?_
  intro T11 XT11 eT11
  show own_Go p e below _ T11 (mkF m 23 #[oR t, oR a, oI (0 : Int32), oI (0 : Int32), .val .null, .unset] [(.int (0 : Int32)), (.ref t)])
  refine own_putF XT11 hx hZ hown (hw _ (List.mem_of_getElem? (i := 25) rfl)) eT11 fq10_7 fq10_1 (Or.inr ⟨(hw _ (List.mem_of_getElem? (i := 21) rfl)), rfl, hnm⟩) (hw _ (List.mem_of_getElem? (i := 5) rfl)) (ty := .byte) (by decide +kernel) (by decide) (by decide) (hb hby d3_23) ?_
  intro T12 hT12 XT12 eT12 WT12
  have FT12_coder := Fld.same WT12 fq10_7
  have FT12_value := Fld.other WT12 fq10_6 (Or.inr (slot_ne (t := (.array .byte)) (t' := .byte) (Or.inr (hw _ (List.mem_of_getElem? (i := 20) rfl))) (Or.inr (hw _ (List.mem_of_getElem? (i := 21) rfl))) (by decide) (by decide +kernel) (by decide +kernel)))
  have hCo := hC.1
  have fq13_1 := fq10_1.keep (Keep.of_wr WT12)
  have fq13_2 := fq10_2.keep (Keep.of_wr WT12)
  have fq13_3 := fq10_3.keep (Keep.of_wr WT12) (own_nin (Ne.symm zT3.1))
  have fq13_4 := fq10_4.keep (Keep.of_wr WT12) (own_nin (Ne.symm zT3.1))
  have fq13_5 := fq10_5.keep (Keep.of_wr WT12) (own_nin (Ne.symm zT3.2))
  have fq13_6 := EsT9.keep (Keep.of_wr WT12)
  have fq13_7 := FvT9.keep (Keep.of_wr WT12) (own_nin (Ne.symm zT9.1))
  have fq13_8 := FcT9.keep (Keep.of_wr WT12) (own_nin (Ne.symm zT9.1))
  have fq13_9 := VT9.keep (Keep.of_wr WT12) (own_nin (Ne.symm zT9.2))
  have lq13_0 := Nat.lt_of_lt_of_le lq10_0 (Keep.of_wr WT12).1
  have hC := hC.trans (CHr.keep (Keep.of_wr WT12) (fun _ q => by cases List.mem_singleton.mp q; exact St) hC.1)
  have hk0 := Nat.le_trans hk0 (Keep.of_wr WT12).1
  have Kq13 := own_trans1 Kq10 (Keep.of_wr WT12) (Or.inl (List.mem_singleton.mpr rfl))
  have N14 := own_Fr.app N8 (own_Fr.one (i := (Jvm.RoadKit.slotOf Z "java/lang/String" "coder" "B")))
  show own_Go p e below _ T12 (mkF m 26 #[oR t, oR a, oI (0 : Int32), oI (0 : Int32), .val .null, .unset] [])
  have St := Safe.keep (Keep.of_wr WT12) (fun _ q => by cases List.mem_singleton.mp q; exact St) hCo St
  subst eT12
  exact own_retVW XT12 hx hlk hZ hEL hS rfl hk0 hC hret (hb hby d3_26) (by decide) (by decide) (⟨rfl, Kq13, N14, ⟨bT3, _, fq13_1, FT12_value, FT12_coder, fq13_5⟩⟩)
set_option maxRecDepth 65536 in
set_option maxHeartbeats 40000000 in
theorem own_i1_0 (l : Launch) (Z : State) (a0 : Array Value) (hw : ∀ d ∈ tables_1, d.before a0 Z = true) (EL : List (String × Nat)) (hEL : EW Z a0 EL) (t a : Addr) (ka : ClassId) (h0 : Heap) (Et : Exa Z h0 t "java/lang/String") (Fv : Fld Z h0 t "java/lang/String" "value" "[B" .null) (Fc : Fld Z h0 t "java/lang/String" "coder" "B" (.int 0)) (hmem : ("java/lang/String", 7) ∈ EL) (A : own_A Z h0 a .char ka []) :
    own_MetW l (⟨"java/lang/String", "<init>", "([C)V"⟩ : MethodName) jdk_42_method_3_code 2 (none) [] ({ frames := 2, cells := 4, slots := 8, locals := 30 } : Room) Z EL #[(.ref t), (.ref a)] h0 (fun rv rh rL => rv = none ∧ Keep h0 rh [t] ∧ own_Fr h0.size t rL ∧ own_Str Z rh t 0 []) := by
  refine own_enterW (plainFor_of_name pn_1) ?_
  intro p e s m below meth c T0 hx hby hml hret hlk hown hnm hZ X0 e0 hS hC
  refine own_at (g' := (mkF m 0 #[oR t, oR a] [])) (by first | (simp [entryFrame, mkF, argsToLocals, Value.category]; done) | rfl) ?_
  show own_Go p e below _ T0 (mkF m 0 #[oR t, oR a] [])
  have K0 : Keep h0 h0 [t] := Keep.refl h0 _
  have N0 : own_Fr h0.size t [] := own_Fr.nil
  have hk0 : 0 ≤ h0.size := Nat.zero_le _
  refine own_by (fun t_ k_ => XS.aloadN X0.here hx rfl (hb hby d2_0) rfl rfl  k_) ?_
  show own_Go p e below _ T0 (mkF m 1 #[oR t, oR a] [(.ref t)])
  refine own_by (fun t_ k_ => XS.aloadN X0.here hx rfl (hb hby d2_1) rfl rfl  k_) ?_
  show own_Go p e below _ T0 (mkF m 2 #[oR t, oR a] [(.ref a), (.ref t)])
  refine own_by (fun t_ k_ => XT.iconstV X0.here hx rfl (0 : Int32) (hb hby d2_2) (by decide) k_) ?_
  show own_Go p e below _ T0 (mkF m 3 #[oR t, oR a] [(.int (0 : Int32)), (.ref a), (.ref t)])
  refine own_by (fun t_ k_ => XS.aloadN X0.here hx rfl (hb hby d2_3) rfl rfl  k_) ?_
  show own_Go p e below _ T0 (mkF m 4 #[oR t, oR a] [(.ref a), (.int (0 : Int32)), (.ref a), (.ref t)])
  refine own_len X0 hx hZ e0 A (0 : Int32) rfl (hb hby d2_4) ?_
  show own_Go p e below _ T0 (mkF m 5 #[oR t, oR a] [(.int (0 : Int32)), (.int (0 : Int32)), (.ref a), (.ref t)])
  refine own_by (fun t_ k_ => XS.aconstNull X0.here hx rfl (hb hby d2_5) k_) ?_
  show own_Go p e below _ T0 (mkF m 6 #[oR t, oR a] [.null, (.int (0 : Int32)), (.int (0 : Int32)), (.ref a), (.ref t)])
  refine own_callNW X0 hx hZ hEL hS e0 hk0 hC rfl hown (hw _ (List.mem_of_getElem? (i := 11) rfl)) (hw _ (List.mem_of_getElem? (i := 12) rfl)) (hw _ (List.mem_of_getElem? (i := 14) rfl)) (hw _ (List.mem_of_getElem? (i := 6) rfl)) (by decide) (b := t) (argsL := [(.ref a), (.int (0 : Int32)), (.int (0 : Int32)), .null]) (rest := []) (own_i4_0 l Z a0 hw EL hEL t a h0 Et Fv Fc hmem) 0 (by decide) (by decide) (by rw [hml]; rfl) (lenOf pd_3 rfl) (Nat.le_of_eq rfl) (hb hby d2_6) (by decide) (by decide) (st := [.null, (.int (0 : Int32)), (.int (0 : Int32)), (.ref a), (.ref t)]) rfl ?_
  rintro T1 LT1 vT1 ⟨XT1, hQT1, hS, hgT1, hZ, hown, hCT1⟩
  obtain ⟨rfl, KT1, NT1, ST1⟩ := hQT1
  have hC := hCT1
  have hk0 := Nat.le_refl T1.heap.size
  show own_Go p e below _ T1 (mkF m 9 #[oR t, oR a] [])
  exact own_retVW XT1 hx hlk hZ hEL hS (rfl : T1.heap = T1.heap) hk0 hC hret (hb hby d2_9) (by decide) (by decide) (⟨rfl, KT1, own_Fr.app own_Fr.nil NT1, ST1⟩)
def own_pick (k : Int32) (w0 w1 w2 w3 w4 : Addr) : Addr := (if k = (0 : Int32) then w0 else (if k = (1 : Int32) then w1 else (if k = (2 : Int32) then w2 else (if k = (3 : Int32) then w3 else w4))))
theorem pn_2 : plainName "com/example/nimble_gate/nimblegate/policy/TokenIsSymbolPinLaw" = true := by first | (simp [plainName, overriddenIn]; done) | decide +kernel
theorem d5_0 : decode method_2_code 0 = .ok (.iload_n 0, 1) := by decide +kernel
theorem d5_1 : decode method_2_code 1 = .ok (.ifCond .ne 7, 3) := by decide +kernel
theorem d5_4 : decode method_2_code 4 = .ok (.getstatic 7, 3) := by decide +kernel
theorem d5_7 : decode method_2_code 7 = .ok (.areturn, 1) := by decide +kernel
theorem d5_8 : decode method_2_code 8 = .ok (.iload_n 0, 1) := by decide +kernel
theorem d5_9 : decode method_2_code 9 = .ok (.iconst 1, 1) := by decide +kernel
theorem d5_10 : decode method_2_code 10 = .ok (.if_icmp .ne 7, 3) := by decide +kernel
theorem d5_13 : decode method_2_code 13 = .ok (.getstatic 13, 3) := by decide +kernel
theorem d5_16 : decode method_2_code 16 = .ok (.areturn, 1) := by decide +kernel
theorem d5_17 : decode method_2_code 17 = .ok (.iload_n 0, 1) := by decide +kernel
theorem d5_18 : decode method_2_code 18 = .ok (.iconst 2, 1) := by decide +kernel
theorem d5_19 : decode method_2_code 19 = .ok (.if_icmp .ne 7, 3) := by decide +kernel
theorem d5_22 : decode method_2_code 22 = .ok (.getstatic 16, 3) := by decide +kernel
theorem d5_25 : decode method_2_code 25 = .ok (.areturn, 1) := by decide +kernel
theorem d5_26 : decode method_2_code 26 = .ok (.iload_n 0, 1) := by decide +kernel
theorem d5_27 : decode method_2_code 27 = .ok (.iconst 3, 1) := by decide +kernel
theorem d5_28 : decode method_2_code 28 = .ok (.if_icmp .ne 7, 3) := by decide +kernel
theorem d5_31 : decode method_2_code 31 = .ok (.getstatic 19, 3) := by decide +kernel
theorem d5_34 : decode method_2_code 34 = .ok (.areturn, 1) := by decide +kernel
theorem d5_35 : decode method_2_code 35 = .ok (.getstatic 22, 3) := by decide +kernel
theorem d5_38 : decode method_2_code 38 = .ok (.areturn, 1) := by decide +kernel
set_option maxRecDepth 65536 in
set_option maxHeartbeats 40000000 in
theorem own_pick_met (l : Launch) (Z : State) (a0 : Array Value) (hw : ∀ d ∈ tables_1, d.before a0 Z = true) (k : Int32) (w0 w1 w2 w3 w4 : Addr) (h0 : Heap) (S : own_S Z h0 w0 w1 w2 w3 w4) :
    own_Met l (⟨"com/example/nimble_gate/nimblegate/policy/TokenIsSymbolPinLaw", "kindOf", "(I)Lcom/example/nimble_gate/nimblegate/policy/Token$Kind;"⟩ : MethodName) method_2_code 1 (some (.object "com/example/nimble_gate/nimblegate/policy/Token$Kind")) [] ({ frames := 0, cells := 0, slots := 0, locals := 0 } : Room) Z #[(.int k)] h0 (fun rv rh rL => rv = some (.ref (own_pick k w0 w1 w2 w3 w4)) ∧ rh = h0 ∧ rL = []) := by
  obtain ⟨S0, S1, S2, S3, S4⟩ := S
  refine own_enter (plainFor_of_name pn_2) ?_
  intro p e s m below meth c T0 hx hby hml hret hlk hown hnm hZ X0 e0
  refine own_at (g' := (mkF m 0 #[oI k] [])) (by first | (simp [entryFrame, mkF, argsToLocals, Value.category]; done) | rfl) ?_
  show own_Go p e below _ T0 (mkF m 0 #[oI k] [])
  refine own_by (fun t_ k_ => XS.iloadN X0.here hx rfl (hb hby d5_0) rfl  k_) ?_
  show own_Go p e below _ T0 (mkF m 1 #[oI k] [(.int k)])
  by_cases c1_0 : k = (0 : Int32)
  · refine own_by (fun t_ k_ => XS.ifNo X0.here hx rfl (hb hby d5_1) rfl (XT.i0_ne_f c1_0) k_) ?_
    show own_Go p e below _ T0 (mkF m 4 #[oI k] [])
    obtain ⟨T2, XT2, eT2, stT2⟩ := getS2 X0 hx hZ hown (host := "") (Or.inl (hw _ (List.mem_of_getElem? (i := 32) rfl))) Via.refl e0 S0 (g := (mkF m 4 #[oI k] [])) rfl (hb hby d5_4)
    refine own_by stT2 ?_
    show own_Go p e below _ T2 (mkF m 7 #[oI k] [(.ref w0)])
    exact own_retA XT2 hx hlk hret rfl rfl (hb hby d5_7) (by decide) (by decide) (⟨by rw [own_pick, if_pos c1_0], eT2, rfl⟩)
  · refine own_by (fun t_ k_ => XS.ifYes X0.here hx rfl (pc0 := 1) (pc' := 8) rfl (hb hby d5_1) rfl (XT.i0_ne_t c1_0) (by decide) (by decide) k_) ?_
    show own_Go p e below _ T0 (mkF m 8 #[oI k] [])
    refine own_by (fun t_ k_ => XS.iloadN X0.here hx rfl (hb hby d5_8) rfl  k_) ?_
    show own_Go p e below _ T0 (mkF m 9 #[oI k] [(.int k)])
    refine own_by (fun t_ k_ => XT.iconstV X0.here hx rfl (1 : Int32) (hb hby d5_9) (by decide) k_) ?_
    show own_Go p e below _ T0 (mkF m 10 #[oI k] [(.int (1 : Int32)), (.int k)])
    by_cases c10_2 : k = (1 : Int32)
    · refine own_by (fun t_ k_ => XS.icmpNo X0.here hx rfl (hb hby d5_10) rfl (XT.ii_ne_f c10_2) k_) ?_
      show own_Go p e below _ T0 (mkF m 13 #[oI k] [])
      obtain ⟨T4, XT4, eT4, stT4⟩ := getS2 X0 hx hZ hown (host := "") (Or.inl (hw _ (List.mem_of_getElem? (i := 74) rfl))) Via.refl e0 S1 (g := (mkF m 13 #[oI k] [])) rfl (hb hby d5_13)
      refine own_by stT4 ?_
      show own_Go p e below _ T4 (mkF m 16 #[oI k] [(.ref w1)])
      exact own_retA XT4 hx hlk hret rfl rfl (hb hby d5_16) (by decide) (by decide) (⟨by rw [own_pick, if_neg c1_0, if_pos c10_2], eT4, rfl⟩)
    · refine own_by (fun t_ k_ => XS.icmpYes X0.here hx rfl (pc0 := 10) (pc' := 17) rfl (hb hby d5_10) rfl (XT.ii_ne_t c10_2) (by decide) (by decide) k_) ?_
      show own_Go p e below _ T0 (mkF m 17 #[oI k] [])
      refine own_by (fun t_ k_ => XS.iloadN X0.here hx rfl (hb hby d5_17) rfl  k_) ?_
      show own_Go p e below _ T0 (mkF m 18 #[oI k] [(.int k)])
      refine own_by (fun t_ k_ => XT.iconstV X0.here hx rfl (2 : Int32) (hb hby d5_18) (by decide) k_) ?_
      show own_Go p e below _ T0 (mkF m 19 #[oI k] [(.int (2 : Int32)), (.int k)])
      by_cases c19_4 : k = (2 : Int32)
      · refine own_by (fun t_ k_ => XS.icmpNo X0.here hx rfl (hb hby d5_19) rfl (XT.ii_ne_f c19_4) k_) ?_
        show own_Go p e below _ T0 (mkF m 22 #[oI k] [])
        obtain ⟨T6, XT6, eT6, stT6⟩ := getS2 X0 hx hZ hown (host := "") (Or.inl (hw _ (List.mem_of_getElem? (i := 72) rfl))) Via.refl e0 S2 (g := (mkF m 22 #[oI k] [])) rfl (hb hby d5_22)
        refine own_by stT6 ?_
        show own_Go p e below _ T6 (mkF m 25 #[oI k] [(.ref w2)])
        exact own_retA XT6 hx hlk hret rfl rfl (hb hby d5_25) (by decide) (by decide) (⟨by rw [own_pick, if_neg c1_0, if_neg c10_2, if_pos c19_4], eT6, rfl⟩)
      · refine own_by (fun t_ k_ => XS.icmpYes X0.here hx rfl (pc0 := 19) (pc' := 26) rfl (hb hby d5_19) rfl (XT.ii_ne_t c19_4) (by decide) (by decide) k_) ?_
        show own_Go p e below _ T0 (mkF m 26 #[oI k] [])
        refine own_by (fun t_ k_ => XS.iloadN X0.here hx rfl (hb hby d5_26) rfl  k_) ?_
        show own_Go p e below _ T0 (mkF m 27 #[oI k] [(.int k)])
        refine own_by (fun t_ k_ => XT.iconstV X0.here hx rfl (3 : Int32) (hb hby d5_27) (by decide) k_) ?_
        show own_Go p e below _ T0 (mkF m 28 #[oI k] [(.int (3 : Int32)), (.int k)])
        by_cases c28_6 : k = (3 : Int32)
        · refine own_by (fun t_ k_ => XS.icmpNo X0.here hx rfl (hb hby d5_28) rfl (XT.ii_ne_f c28_6) k_) ?_
          show own_Go p e below _ T0 (mkF m 31 #[oI k] [])
          obtain ⟨T8, XT8, eT8, stT8⟩ := getS2 X0 hx hZ hown (host := "") (Or.inl (hw _ (List.mem_of_getElem? (i := 76) rfl))) Via.refl e0 S3 (g := (mkF m 31 #[oI k] [])) rfl (hb hby d5_31)
          refine own_by stT8 ?_
          show own_Go p e below _ T8 (mkF m 34 #[oI k] [(.ref w3)])
          exact own_retA XT8 hx hlk hret rfl rfl (hb hby d5_34) (by decide) (by decide) (⟨by rw [own_pick, if_neg c1_0, if_neg c10_2, if_neg c19_4, if_pos c28_6], eT8, rfl⟩)
        · refine own_by (fun t_ k_ => XS.icmpYes X0.here hx rfl (pc0 := 28) (pc' := 35) rfl (hb hby d5_28) rfl (XT.ii_ne_t c28_6) (by decide) (by decide) k_) ?_
          show own_Go p e below _ T0 (mkF m 35 #[oI k] [])
          obtain ⟨T9, XT9, eT9, stT9⟩ := getS2 X0 hx hZ hown (host := "") (Or.inl (hw _ (List.mem_of_getElem? (i := 70) rfl))) Via.refl e0 S4 (g := (mkF m 35 #[oI k] [])) rfl (hb hby d5_35)
          refine own_by stT9 ?_
          show own_Go p e below _ T9 (mkF m 38 #[oI k] [(.ref w4)])
          exact own_retA XT9 hx hlk hret rfl rfl (hb hby d5_38) (by decide) (by decide) (⟨by rw [own_pick, if_neg c1_0, if_neg c10_2, if_neg c19_4, if_neg c28_6], eT9, rfl⟩)
theorem d1_0 : decode method_3_code 0 = .ok (.iload_n 0, 1) := by decide +kernel
theorem d1_1 : decode method_3_code 1 = .ok (.ifCond .ne 14, 3) := by decide +kernel
theorem d1_15 : decode method_3_code 15 = .ok (.iload_n 0, 1) := by decide +kernel
theorem d1_16 : decode method_3_code 16 = .ok (.iconst 1, 1) := by decide +kernel
theorem d1_17 : decode method_3_code 17 = .ok (.if_icmp .ne 18, 3) := by decide +kernel
theorem d1_20 : decode method_3_code 20 = .ok (.new 25, 3) := by decide +kernel
theorem d1_23 : decode method_3_code 23 = .ok (.dup, 1) := by decide +kernel
theorem d1_24 : decode method_3_code 24 = .ok (.iconst 1, 1) := by decide +kernel
theorem d1_25 : decode method_3_code 25 = .ok (.newarray .char, 2) := by decide +kernel
theorem d1_27 : decode method_3_code 27 = .ok (.dup, 1) := by decide +kernel
theorem d1_28 : decode method_3_code 28 = .ok (.iconst 0, 1) := by decide +kernel
theorem d1_29 : decode method_3_code 29 = .ok (.iload_n 1, 1) := by decide +kernel
theorem d1_30 : decode method_3_code 30 = .ok (.castore, 1) := by decide +kernel
theorem d1_31 : decode method_3_code 31 = .ok (.invokespecial 27, 3) := by decide +kernel
theorem pd_4 : parseMethodDescriptor "([C)V" = some ⟨[(.array .char)], none⟩ := by decide +kernel
theorem d1_34 : decode method_3_code 34 = .ok (.areturn, 1) := by decide +kernel
set_option maxRecDepth 65536 in
set_option maxHeartbeats 40000000 in
theorem own_strN_1 (l : Launch) (Z : State) (a0 : Array Value) (hw : ∀ d ∈ tables_1, d.before a0 Z = true) (x y : Int32) (h0 : Heap) (cs : Int32) (Cs : Sta Z h0 "java/lang/String" "COMPACT_STRINGS" "Z" (.int cs)) (hcs : ¬ cs = (0 : Int32))(Bx : own_ch x) (By : own_ch y) :
    own_Met l (⟨"com/example/nimble_gate/nimblegate/policy/TokenIsSymbolPinLaw", "mk", "(ICC)Ljava/lang/String;"⟩ : MethodName) method_3_code 3 (some (.object "java/lang/String")) [] ({ frames := 4, cells := 3, slots := 10, locals := 70 } : Room) Z #[(.int (1 : Int32)), (.int x), (.int y)] h0 (fun rv rh rL => rv = some (.ref h0.size) ∧ Keep h0 rh [] ∧ Fr h0.size rL ∧ own_Str Z rh h0.size 0 [(.int (x.toInt8.toInt32))]) := by
  refine own_enter (plainFor_of_name pn_2) ?_
  intro p e s m below meth c T0 hx hby hml hret hlk hown hnm hZ X0 e0
  refine own_at (g' := (mkF m 0 #[oI (1 : Int32), oI x, oI y] [])) (by first | (simp [entryFrame, mkF, argsToLocals, Value.category]; done) | rfl) ?_
  show own_Go p e below _ T0 (mkF m 0 #[oI (1 : Int32), oI x, oI y] [])
  have K0 : Keep h0 h0 [] := Keep.refl h0 _
  have N0 : own_Fr h0.size h0.size [] := own_Fr.nil
  refine own_by (fun t_ k_ => XS.iloadN X0.here hx rfl (hb hby d1_0) rfl  k_) ?_
  show own_Go p e below _ T0 (mkF m 1 #[oI (1 : Int32), oI x, oI y] [(.int (1 : Int32))])
  refine own_by (fun t_ k_ => XS.ifYes X0.here hx rfl (pc0 := 1) (pc' := 15) rfl (hb hby d1_1) rfl (XT.i0_ne_t (by decide)) (by decide) (by decide) k_) ?_
  show own_Go p e below _ T0 (mkF m 15 #[oI (1 : Int32), oI x, oI y] [])
  refine own_by (fun t_ k_ => XS.iloadN X0.here hx rfl (hb hby d1_15) rfl  k_) ?_
  show own_Go p e below _ T0 (mkF m 16 #[oI (1 : Int32), oI x, oI y] [(.int (1 : Int32))])
  refine own_by (fun t_ k_ => XT.iconstV X0.here hx rfl (1 : Int32) (hb hby d1_16) (by decide) k_) ?_
  show own_Go p e below _ T0 (mkF m 17 #[oI (1 : Int32), oI x, oI y] [(.int (1 : Int32)), (.int (1 : Int32))])
  refine own_by (fun t_ k_ => XS.icmpNo X0.here hx rfl (hb hby d1_17) rfl (XT.ii_ne_f (by decide)) k_) ?_
  show own_Go p e below _ T0 (mkF m 20 #[oI (1 : Int32), oI x, oI y] [])
  have g2 : h0.size ≤ h0.size := K0.1
  refine own_new X0 hx hZ hown (hw _ (List.mem_of_getElem? (i := 4) rfl)) (hw _ (List.mem_of_getElem? (i := 5) rfl)) (hw _ (List.mem_of_getElem? (i := 6) rfl)) e0 (hb hby d1_20) (by decide) (by decide) ?_
  intro T1 hT1 XT1 eT1 ET1 AT1 DT1
  have fq3_1 := own_stak Cs (own_ek ET1)
  have Kq3 := own_trans0 K0 (own_ek ET1)
  have FT1_value : Fld Z hT1 h0.size "java/lang/String" "value" "[B" .null := DT1 (ty := (.array .byte)) (Or.inr (hw _ (List.mem_of_getElem? (i := 20) rfl))) (by decide +kernel)
  have FT1_coder : Fld Z hT1 h0.size "java/lang/String" "coder" "B" (.int 0) := DT1 (ty := .byte) (Or.inr (hw _ (List.mem_of_getElem? (i := 21) rfl))) (by decide +kernel)
  clear DT1
  have lt4 := AT1.lt
  show own_Go p e below _ T1 (mkF m 23 #[oI (1 : Int32), oI x, oI y] [(.ref h0.size)])
  refine own_by (fun t_ k_ => XS.dup XT1.here hx rfl (hb hby d1_23) rfl rfl k_) ?_
  show own_Go p e below _ T1 (mkF m 24 #[oI (1 : Int32), oI x, oI y] [(.ref h0.size), (.ref h0.size)])
  refine own_by (fun t_ k_ => XT.iconstV XT1.here hx rfl (1 : Int32) (hb hby d1_24) (by decide) k_) ?_
  show own_Go p e below _ T1 (mkF m 25 #[oI (1 : Int32), oI x, oI y] [(.int (1 : Int32)), (.ref h0.size), (.ref h0.size)])
  have g6 : h0.size ≤ hT1.size := Kq3.1
  refine own_newP XT1 hx hZ (aty := .char) (hw _ (List.mem_of_getElem? (i := 7) rfl)) eT1 (hb hby d1_25) 1 1 (by decide) (by decide) (by decide) (by decide) (by decide) (by decide) ?_
  intro T5 hT5 kT5 XT5 eT5 ET5 YT5
  have VT5 : own_A Z hT5 hT1.size .char kT5 [(.int 0)] := YT5
  clear YT5
  have fq7_1 := own_stak fq3_1 (own_ek ET5)
  have fq7_2 := AT1.keep (own_ek ET5)
  have fq7_3 := FT1_value.keep (own_ek ET5) nin0
  have fq7_4 := FT1_coder.keep (own_ek ET5) nin0
  have lq7_0 := Nat.lt_of_lt_of_le lt4 (own_ek ET5).1
  have Kq7 := own_trans0 Kq3 (own_ek ET5)
  have z8 : h0.size ≠ hT1.size := Nat.ne_of_lt lt4
  have lt9 := VT5.lt
  show own_Go p e below _ T5 (mkF m 27 #[oI (1 : Int32), oI x, oI y] [(.ref hT1.size), (.ref h0.size), (.ref h0.size)])
  refine own_by (fun t_ k_ => XS.dup XT5.here hx rfl (hb hby d1_27) rfl rfl k_) ?_
  show own_Go p e below _ T5 (mkF m 28 #[oI (1 : Int32), oI x, oI y] [(.ref hT1.size), (.ref hT1.size), (.ref h0.size), (.ref h0.size)])
  refine own_by (fun t_ k_ => XT.iconstV XT5.here hx rfl (0 : Int32) (hb hby d1_28) (by decide) k_) ?_
  show own_Go p e below _ T5 (mkF m 29 #[oI (1 : Int32), oI x, oI y] [(.int (0 : Int32)), (.ref hT1.size), (.ref hT1.size), (.ref h0.size), (.ref h0.size)])
  refine own_by (fun t_ k_ => XS.iloadN XT5.here hx rfl (hb hby d1_29) rfl  k_) ?_
  show own_Go p e below _ T5 (mkF m 30 #[oI (1 : Int32), oI x, oI y] [(.int x), (.int (0 : Int32)), (.ref hT1.size), (.ref hT1.size), (.ref h0.size), (.ref h0.size)])
  refine own_stC XT5 hx hZ eT5 VT5 (y := x) 0 (by decide) (by decide) (by simp) (own_ch_nar Bx) (hb hby d1_30) ?_
  intro T10 hT10 XT10 eT10 WT10 YT10
  have VT10 : own_A Z hT10 hT1.size .char kT5 [(.int x)] := YT10
  clear YT10
  have fq11_1 := Sta.wr WT10 fq7_1
  have fq11_2 := fq7_2.keep (Keep.of_wr WT10)
  have fq11_3 := fq7_3.keep (Keep.of_wr WT10) (own_nin z8)
  have fq11_4 := fq7_4.keep (Keep.of_wr WT10) (own_nin z8)
  have lq11_0 := Nat.lt_of_lt_of_le lq7_0 (Keep.of_wr WT10).1
  have lq11_1 := Nat.lt_of_lt_of_le lt9 (Keep.of_wr WT10).1
  have Kq11 := own_trans1 Kq7 (Keep.of_wr WT10) (Or.inr g6)
  have N12 := own_Fr.app N0 (own_Fr.of (own_fr1 (i := 0) g6) (Nat.le_refl _))
  show own_Go p e below _ T10 (mkF m 31 #[oI (1 : Int32), oI x, oI y] [(.ref hT1.size), (.ref h0.size), (.ref h0.size)])
  refine own_callN XT10 hx hZ rfl hown (hw _ (List.mem_of_getElem? (i := 8) rfl)) (hw _ (List.mem_of_getElem? (i := 9) rfl)) (hw _ (List.mem_of_getElem? (i := 10) rfl)) (hw _ (List.mem_of_getElem? (i := 6) rfl)) (by decide) eT10 (b := h0.size) (argsL := [(.ref hT1.size)]) (rest := [(.ref h0.size)]) (own_i1_1 l Z a0 hw h0.size hT1.size kT5 x hT10 cs fq11_1 hcs fq11_2 fq11_3 fq11_4 VT10 (own_ch_le Bx)) 1 (by decide) (by decide) (by rw [hml]; rfl) (lenOf pd_4 rfl) (Nat.le_of_eq rfl) (hb hby d1_31) (by decide) (by decide) (st := [(.ref hT1.size), (.ref h0.size), (.ref h0.size)]) rfl ?_
  intro T13 LT13 vT13 XT13 hQT13
  obtain ⟨rfl, KT13, NT13, ST13⟩ := hQT13
  show own_Go p e below _ T13 (mkF m 34 #[oI (1 : Int32), oI x, oI y] [(.ref h0.size)])
  have fq14_1 := own_stak1 fq11_1 KT13 fq11_2
  have fq14_2 := fq11_2.keep KT13
  have fq14_3 := VT10.keep KT13 (own_nin (Ne.symm z8))
  have lq14_0 := Nat.lt_of_lt_of_le lq11_0 KT13.1
  have lq14_1 := Nat.lt_of_lt_of_le lq11_1 KT13.1
  have Kq14 := own_trans1 Kq11 KT13 (Or.inr g2)
  have N15 := own_Fr.app N12 (own_Fr.of (own_Fr.new NT13 g2 (Kq11).1) (Nat.le_refl _))
  exact own_retA XT13 hx hlk hret rfl rfl (hb hby d1_34) (by decide) (by decide) (⟨rfl, Kq14, (N15).to (Nat.le_refl _), ST13⟩)
theorem own_str_1 (l : Launch) (Z : State) (a0 : Array Value) (hw : ∀ d ∈ tables_1, d.before a0 Z = true) (EL : List (String × Nat)) (hEL : EW Z a0 EL) (x y : Int32) (h0 : Heap) (cs : Int32) (Cs : Sta Z h0 "java/lang/String" "COMPACT_STRINGS" "Z" (.int cs)) (hcs : ¬ cs = (0 : Int32))(Bx : own_ch x) (By : own_ch y) (hmem : ("java/lang/String", 7) ∈ EL) :
    own_MetW l (⟨"com/example/nimble_gate/nimblegate/policy/TokenIsSymbolPinLaw", "mk", "(ICC)Ljava/lang/String;"⟩ : MethodName) method_3_code 3 (some (.object "java/lang/String")) [] ({ frames := 4, cells := 3, slots := 10, locals := 70 } : Room) Z EL #[(.int (1 : Int32)), (.int x), (.int y)] h0 (fun rv rh rL => rv = some (.ref h0.size) ∧ Keep h0 rh [] ∧ Fr h0.size rL ∧ own_Str Z rh h0.size 0 [(.int (x.toInt8.toInt32))]) := own_wide hEL (own_strN_1 l Z a0 hw x y h0 cs Cs hcs Bx By) (fun _ _ _ q => q.2.1)
theorem d1_35 : decode method_3_code 35 = .ok (.new 25, 3) := by decide +kernel
theorem d1_38 : decode method_3_code 38 = .ok (.dup, 1) := by decide +kernel
theorem d1_39 : decode method_3_code 39 = .ok (.iconst 2, 1) := by decide +kernel
theorem d1_40 : decode method_3_code 40 = .ok (.newarray .char, 2) := by decide +kernel
theorem d1_42 : decode method_3_code 42 = .ok (.dup, 1) := by decide +kernel
theorem d1_43 : decode method_3_code 43 = .ok (.iconst 0, 1) := by decide +kernel
theorem d1_44 : decode method_3_code 44 = .ok (.iload_n 1, 1) := by decide +kernel
theorem d1_45 : decode method_3_code 45 = .ok (.castore, 1) := by decide +kernel
theorem d1_46 : decode method_3_code 46 = .ok (.dup, 1) := by decide +kernel
theorem d1_47 : decode method_3_code 47 = .ok (.iconst 1, 1) := by decide +kernel
theorem d1_48 : decode method_3_code 48 = .ok (.iload_n 2, 1) := by decide +kernel
theorem d1_49 : decode method_3_code 49 = .ok (.castore, 1) := by decide +kernel
theorem d1_50 : decode method_3_code 50 = .ok (.invokespecial 27, 3) := by decide +kernel
theorem d1_53 : decode method_3_code 53 = .ok (.areturn, 1) := by decide +kernel
set_option maxRecDepth 65536 in
set_option maxHeartbeats 40000000 in
theorem own_strN_2 (l : Launch) (Z : State) (a0 : Array Value) (hw : ∀ d ∈ tables_1, d.before a0 Z = true) (x y : Int32) (h0 : Heap) (cs : Int32) (Cs : Sta Z h0 "java/lang/String" "COMPACT_STRINGS" "Z" (.int cs)) (hcs : ¬ cs = (0 : Int32))(Bx : own_ch x) (By : own_ch y) :
    own_Met l (⟨"com/example/nimble_gate/nimblegate/policy/TokenIsSymbolPinLaw", "mk", "(ICC)Ljava/lang/String;"⟩ : MethodName) method_3_code 3 (some (.object "java/lang/String")) [] ({ frames := 4, cells := 3, slots := 10, locals := 70 } : Room) Z #[(.int (2 : Int32)), (.int x), (.int y)] h0 (fun rv rh rL => rv = some (.ref h0.size) ∧ Keep h0 rh [] ∧ Fr h0.size rL ∧ own_Str Z rh h0.size 0 [(.int (x.toInt8.toInt32)), (.int (y.toInt8.toInt32))]) := by
  refine own_enter (plainFor_of_name pn_2) ?_
  intro p e s m below meth c T0 hx hby hml hret hlk hown hnm hZ X0 e0
  refine own_at (g' := (mkF m 0 #[oI (2 : Int32), oI x, oI y] [])) (by first | (simp [entryFrame, mkF, argsToLocals, Value.category]; done) | rfl) ?_
  show own_Go p e below _ T0 (mkF m 0 #[oI (2 : Int32), oI x, oI y] [])
  have K0 : Keep h0 h0 [] := Keep.refl h0 _
  have N0 : own_Fr h0.size h0.size [] := own_Fr.nil
  refine own_by (fun t_ k_ => XS.iloadN X0.here hx rfl (hb hby d1_0) rfl  k_) ?_
  show own_Go p e below _ T0 (mkF m 1 #[oI (2 : Int32), oI x, oI y] [(.int (2 : Int32))])
  refine own_by (fun t_ k_ => XS.ifYes X0.here hx rfl (pc0 := 1) (pc' := 15) rfl (hb hby d1_1) rfl (XT.i0_ne_t (by decide)) (by decide) (by decide) k_) ?_
  show own_Go p e below _ T0 (mkF m 15 #[oI (2 : Int32), oI x, oI y] [])
  refine own_by (fun t_ k_ => XS.iloadN X0.here hx rfl (hb hby d1_15) rfl  k_) ?_
  show own_Go p e below _ T0 (mkF m 16 #[oI (2 : Int32), oI x, oI y] [(.int (2 : Int32))])
  refine own_by (fun t_ k_ => XT.iconstV X0.here hx rfl (1 : Int32) (hb hby d1_16) (by decide) k_) ?_
  show own_Go p e below _ T0 (mkF m 17 #[oI (2 : Int32), oI x, oI y] [(.int (1 : Int32)), (.int (2 : Int32))])
  refine own_by (fun t_ k_ => XS.icmpYes X0.here hx rfl (pc0 := 17) (pc' := 35) rfl (hb hby d1_17) rfl (XT.ii_ne_t (by decide)) (by decide) (by decide) k_) ?_
  show own_Go p e below _ T0 (mkF m 35 #[oI (2 : Int32), oI x, oI y] [])
  have g2 : h0.size ≤ h0.size := K0.1
  refine own_new X0 hx hZ hown (hw _ (List.mem_of_getElem? (i := 4) rfl)) (hw _ (List.mem_of_getElem? (i := 5) rfl)) (hw _ (List.mem_of_getElem? (i := 6) rfl)) e0 (hb hby d1_35) (by decide) (by decide) ?_
  intro T1 hT1 XT1 eT1 ET1 AT1 DT1
  have fq3_1 := own_stak Cs (own_ek ET1)
  have Kq3 := own_trans0 K0 (own_ek ET1)
  have FT1_value : Fld Z hT1 h0.size "java/lang/String" "value" "[B" .null := DT1 (ty := (.array .byte)) (Or.inr (hw _ (List.mem_of_getElem? (i := 20) rfl))) (by decide +kernel)
  have FT1_coder : Fld Z hT1 h0.size "java/lang/String" "coder" "B" (.int 0) := DT1 (ty := .byte) (Or.inr (hw _ (List.mem_of_getElem? (i := 21) rfl))) (by decide +kernel)
  clear DT1
  have lt4 := AT1.lt
  show own_Go p e below _ T1 (mkF m 38 #[oI (2 : Int32), oI x, oI y] [(.ref h0.size)])
  refine own_by (fun t_ k_ => XS.dup XT1.here hx rfl (hb hby d1_38) rfl rfl k_) ?_
  show own_Go p e below _ T1 (mkF m 39 #[oI (2 : Int32), oI x, oI y] [(.ref h0.size), (.ref h0.size)])
  refine own_by (fun t_ k_ => XT.iconstV XT1.here hx rfl (2 : Int32) (hb hby d1_39) (by decide) k_) ?_
  show own_Go p e below _ T1 (mkF m 40 #[oI (2 : Int32), oI x, oI y] [(.int (2 : Int32)), (.ref h0.size), (.ref h0.size)])
  have g6 : h0.size ≤ hT1.size := Kq3.1
  refine own_newP XT1 hx hZ (aty := .char) (hw _ (List.mem_of_getElem? (i := 7) rfl)) eT1 (hb hby d1_40) 2 2 (by decide) (by decide) (by decide) (by decide) (by decide) (by decide) ?_
  intro T5 hT5 kT5 XT5 eT5 ET5 YT5
  have VT5 : own_A Z hT5 hT1.size .char kT5 [(.int 0), (.int 0)] := YT5
  clear YT5
  have fq7_1 := own_stak fq3_1 (own_ek ET5)
  have fq7_2 := AT1.keep (own_ek ET5)
  have fq7_3 := FT1_value.keep (own_ek ET5) nin0
  have fq7_4 := FT1_coder.keep (own_ek ET5) nin0
  have lq7_0 := Nat.lt_of_lt_of_le lt4 (own_ek ET5).1
  have Kq7 := own_trans0 Kq3 (own_ek ET5)
  have z8 : h0.size ≠ hT1.size := Nat.ne_of_lt lt4
  have lt9 := VT5.lt
  show own_Go p e below _ T5 (mkF m 42 #[oI (2 : Int32), oI x, oI y] [(.ref hT1.size), (.ref h0.size), (.ref h0.size)])
  refine own_by (fun t_ k_ => XS.dup XT5.here hx rfl (hb hby d1_42) rfl rfl k_) ?_
  show own_Go p e below _ T5 (mkF m 43 #[oI (2 : Int32), oI x, oI y] [(.ref hT1.size), (.ref hT1.size), (.ref h0.size), (.ref h0.size)])
  refine own_by (fun t_ k_ => XT.iconstV XT5.here hx rfl (0 : Int32) (hb hby d1_43) (by decide) k_) ?_
  show own_Go p e below _ T5 (mkF m 44 #[oI (2 : Int32), oI x, oI y] [(.int (0 : Int32)), (.ref hT1.size), (.ref hT1.size), (.ref h0.size), (.ref h0.size)])
  refine own_by (fun t_ k_ => XS.iloadN XT5.here hx rfl (hb hby d1_44) rfl  k_) ?_
  show own_Go p e below _ T5 (mkF m 45 #[oI (2 : Int32), oI x, oI y] [(.int x), (.int (0 : Int32)), (.ref hT1.size), (.ref hT1.size), (.ref h0.size), (.ref h0.size)])
  refine own_stC XT5 hx hZ eT5 VT5 (y := x) 0 (by decide) (by decide) (by simp) (own_ch_nar Bx) (hb hby d1_45) ?_
  intro T10 hT10 XT10 eT10 WT10 YT10
  have VT10 : own_A Z hT10 hT1.size .char kT5 [(.int x), (.int 0)] := YT10
  clear YT10
  have fq11_1 := Sta.wr WT10 fq7_1
  have fq11_2 := fq7_2.keep (Keep.of_wr WT10)
  have fq11_3 := fq7_3.keep (Keep.of_wr WT10) (own_nin z8)
  have fq11_4 := fq7_4.keep (Keep.of_wr WT10) (own_nin z8)
  have lq11_0 := Nat.lt_of_lt_of_le lq7_0 (Keep.of_wr WT10).1
  have lq11_1 := Nat.lt_of_lt_of_le lt9 (Keep.of_wr WT10).1
  have Kq11 := own_trans1 Kq7 (Keep.of_wr WT10) (Or.inr g6)
  have N12 := own_Fr.app N0 (own_Fr.of (own_fr1 (i := 0) g6) (Nat.le_refl _))
  show own_Go p e below _ T10 (mkF m 46 #[oI (2 : Int32), oI x, oI y] [(.ref hT1.size), (.ref h0.size), (.ref h0.size)])
  refine own_by (fun t_ k_ => XS.dup XT10.here hx rfl (hb hby d1_46) rfl rfl k_) ?_
  show own_Go p e below _ T10 (mkF m 47 #[oI (2 : Int32), oI x, oI y] [(.ref hT1.size), (.ref hT1.size), (.ref h0.size), (.ref h0.size)])
  refine own_by (fun t_ k_ => XT.iconstV XT10.here hx rfl (1 : Int32) (hb hby d1_47) (by decide) k_) ?_
  show own_Go p e below _ T10 (mkF m 48 #[oI (2 : Int32), oI x, oI y] [(.int (1 : Int32)), (.ref hT1.size), (.ref hT1.size), (.ref h0.size), (.ref h0.size)])
  refine own_by (fun t_ k_ => XS.iloadN XT10.here hx rfl (hb hby d1_48) rfl  k_) ?_
  show own_Go p e below _ T10 (mkF m 49 #[oI (2 : Int32), oI x, oI y] [(.int y), (.int (1 : Int32)), (.ref hT1.size), (.ref hT1.size), (.ref h0.size), (.ref h0.size)])
  refine own_stC XT10 hx hZ eT10 VT10 (y := y) 1 (by decide) (by decide) (by simp) (own_ch_nar By) (hb hby d1_49) ?_
  intro T13 hT13 XT13 eT13 WT13 YT13
  have VT13 : own_A Z hT13 hT1.size .char kT5 [(.int x), (.int y)] := YT13
  clear YT13
  have fq14_1 := Sta.wr WT13 fq11_1
  have fq14_2 := fq11_2.keep (Keep.of_wr WT13)
  have fq14_3 := fq11_3.keep (Keep.of_wr WT13) (own_nin z8)
  have fq14_4 := fq11_4.keep (Keep.of_wr WT13) (own_nin z8)
  have lq14_0 := Nat.lt_of_lt_of_le lq11_0 (Keep.of_wr WT13).1
  have lq14_1 := Nat.lt_of_lt_of_le lq11_1 (Keep.of_wr WT13).1
  have Kq14 := own_trans1 Kq11 (Keep.of_wr WT13) (Or.inr g6)
  have N15 := own_Fr.app N12 (own_Fr.of (own_fr1 (i := 1) g6) (Nat.le_refl _))
  show own_Go p e below _ T13 (mkF m 50 #[oI (2 : Int32), oI x, oI y] [(.ref hT1.size), (.ref h0.size), (.ref h0.size)])
  refine own_callN XT13 hx hZ rfl hown (hw _ (List.mem_of_getElem? (i := 8) rfl)) (hw _ (List.mem_of_getElem? (i := 9) rfl)) (hw _ (List.mem_of_getElem? (i := 10) rfl)) (hw _ (List.mem_of_getElem? (i := 6) rfl)) (by decide) eT13 (b := h0.size) (argsL := [(.ref hT1.size)]) (rest := [(.ref h0.size)]) (own_i1_2 l Z a0 hw h0.size hT1.size kT5 x y hT13 cs fq14_1 hcs fq14_2 fq14_3 fq14_4 VT13 (own_ch_le Bx) (own_ch_le By)) 1 (by decide) (by decide) (by rw [hml]; rfl) (lenOf pd_4 rfl) (Nat.le_of_eq rfl) (hb hby d1_50) (by decide) (by decide) (st := [(.ref hT1.size), (.ref h0.size), (.ref h0.size)]) rfl ?_
  intro T16 LT16 vT16 XT16 hQT16
  obtain ⟨rfl, KT16, NT16, ST16⟩ := hQT16
  show own_Go p e below _ T16 (mkF m 53 #[oI (2 : Int32), oI x, oI y] [(.ref h0.size)])
  have fq17_1 := own_stak1 fq14_1 KT16 fq14_2
  have fq17_2 := fq14_2.keep KT16
  have fq17_3 := VT13.keep KT16 (own_nin (Ne.symm z8))
  have lq17_0 := Nat.lt_of_lt_of_le lq14_0 KT16.1
  have lq17_1 := Nat.lt_of_lt_of_le lq14_1 KT16.1
  have Kq17 := own_trans1 Kq14 KT16 (Or.inr g2)
  have N18 := own_Fr.app N15 (own_Fr.of (own_Fr.new NT16 g2 (Kq14).1) (Nat.le_refl _))
  exact own_retA XT16 hx hlk hret rfl rfl (hb hby d1_53) (by decide) (by decide) (⟨rfl, Kq17, (N18).to (Nat.le_refl _), ST16⟩)
theorem own_str_2 (l : Launch) (Z : State) (a0 : Array Value) (hw : ∀ d ∈ tables_1, d.before a0 Z = true) (EL : List (String × Nat)) (hEL : EW Z a0 EL) (x y : Int32) (h0 : Heap) (cs : Int32) (Cs : Sta Z h0 "java/lang/String" "COMPACT_STRINGS" "Z" (.int cs)) (hcs : ¬ cs = (0 : Int32))(Bx : own_ch x) (By : own_ch y) (hmem : ("java/lang/String", 7) ∈ EL) :
    own_MetW l (⟨"com/example/nimble_gate/nimblegate/policy/TokenIsSymbolPinLaw", "mk", "(ICC)Ljava/lang/String;"⟩ : MethodName) method_3_code 3 (some (.object "java/lang/String")) [] ({ frames := 4, cells := 3, slots := 10, locals := 70 } : Room) Z EL #[(.int (2 : Int32)), (.int x), (.int y)] h0 (fun rv rh rL => rv = some (.ref h0.size) ∧ Keep h0 rh [] ∧ Fr h0.size rL ∧ own_Str Z rh h0.size 0 [(.int (x.toInt8.toInt32)), (.int (y.toInt8.toInt32))]) := own_wide hEL (own_strN_2 l Z a0 hw x y h0 cs Cs hcs Bx By) (fun _ _ _ q => q.2.1)
theorem d1_4 : decode method_3_code 4 = .ok (.new 25, 3) := by decide +kernel
theorem d1_7 : decode method_3_code 7 = .ok (.dup, 1) := by decide +kernel
theorem d1_8 : decode method_3_code 8 = .ok (.iconst 0, 1) := by decide +kernel
theorem d1_9 : decode method_3_code 9 = .ok (.newarray .char, 2) := by decide +kernel
theorem d1_11 : decode method_3_code 11 = .ok (.invokespecial 27, 3) := by decide +kernel
theorem d1_14 : decode method_3_code 14 = .ok (.areturn, 1) := by decide +kernel
set_option maxRecDepth 65536 in
set_option maxHeartbeats 40000000 in
theorem own_str_0 (l : Launch) (Z : State) (a0 : Array Value) (hw : ∀ d ∈ tables_1, d.before a0 Z = true) (EL : List (String × Nat)) (hEL : EW Z a0 EL) (x y : Int32) (h0 : Heap) (cs : Int32) (Cs : Sta Z h0 "java/lang/String" "COMPACT_STRINGS" "Z" (.int cs)) (hcs : ¬ cs = (0 : Int32))(Bx : own_ch x) (By : own_ch y) (hmem : ("java/lang/String", 7) ∈ EL) :
    own_MetW l (⟨"com/example/nimble_gate/nimblegate/policy/TokenIsSymbolPinLaw", "mk", "(ICC)Ljava/lang/String;"⟩ : MethodName) method_3_code 3 (some (.object "java/lang/String")) [] ({ frames := 3, cells := 6, slots := 12, locals := 50 } : Room) Z EL #[(.int (0 : Int32)), (.int x), (.int y)] h0 (fun rv rh rL => rv = some (.ref h0.size) ∧ Keep h0 rh [] ∧ Fr h0.size rL ∧ own_Str Z rh h0.size 0 []) := by
  refine own_enterW (plainFor_of_name pn_2) ?_
  intro p e s m below meth c T0 hx hby hml hret hlk hown hnm hZ X0 e0 hS hC
  refine own_at (g' := (mkF m 0 #[oI (0 : Int32), oI x, oI y] [])) (by first | (simp [entryFrame, mkF, argsToLocals, Value.category]; done) | rfl) ?_
  show own_Go p e below _ T0 (mkF m 0 #[oI (0 : Int32), oI x, oI y] [])
  have K0 : Keep h0 h0 [] := Keep.refl h0 _
  have N0 : own_Fr h0.size h0.size [] := own_Fr.nil
  have hk0 : 0 ≤ h0.size := Nat.zero_le _
  refine own_by (fun t_ k_ => XS.iloadN X0.here hx rfl (hb hby d1_0) rfl  k_) ?_
  show own_Go p e below _ T0 (mkF m 1 #[oI (0 : Int32), oI x, oI y] [(.int (0 : Int32))])
  refine own_by (fun t_ k_ => XS.ifNo X0.here hx rfl (hb hby d1_1) rfl (XT.i0_ne_f (by decide)) k_) ?_
  show own_Go p e below _ T0 (mkF m 4 #[oI (0 : Int32), oI x, oI y] [])
  have g2 : h0.size ≤ h0.size := K0.1
  refine own_new X0 hx hZ hown (hw _ (List.mem_of_getElem? (i := 4) rfl)) (hw _ (List.mem_of_getElem? (i := 5) rfl)) (hw _ (List.mem_of_getElem? (i := 6) rfl)) e0 (hb hby d1_4) (by decide) (by decide) ?_
  intro T1 hT1 XT1 eT1 ET1 AT1 DT1
  have fq3_1 := own_stak Cs (own_ek ET1)
  have hC := hC.trans (CHr.keep (own_ek ET1) (fun _ q => by cases q) hC.1)
  have hk0 := Nat.le_trans hk0 (own_ek ET1).1
  have Kq3 := own_trans0 K0 (own_ek ET1)
  have FT1_value : Fld Z hT1 h0.size "java/lang/String" "value" "[B" .null := DT1 (ty := (.array .byte)) (Or.inr (hw _ (List.mem_of_getElem? (i := 20) rfl))) (by decide +kernel)
  have FT1_coder : Fld Z hT1 h0.size "java/lang/String" "coder" "B" (.int 0) := DT1 (ty := .byte) (Or.inr (hw _ (List.mem_of_getElem? (i := 21) rfl))) (by decide +kernel)
  clear DT1
  have lt4 := AT1.lt
  show own_Go p e below _ T1 (mkF m 7 #[oI (0 : Int32), oI x, oI y] [(.ref h0.size)])
  refine own_by (fun t_ k_ => XS.dup XT1.here hx rfl (hb hby d1_7) rfl rfl k_) ?_
  show own_Go p e below _ T1 (mkF m 8 #[oI (0 : Int32), oI x, oI y] [(.ref h0.size), (.ref h0.size)])
  refine own_by (fun t_ k_ => XT.iconstV XT1.here hx rfl (0 : Int32) (hb hby d1_8) (by decide) k_) ?_
  show own_Go p e below _ T1 (mkF m 9 #[oI (0 : Int32), oI x, oI y] [(.int (0 : Int32)), (.ref h0.size), (.ref h0.size)])
  have g6 : h0.size ≤ hT1.size := Kq3.1
  refine own_newP XT1 hx hZ (aty := .char) (hw _ (List.mem_of_getElem? (i := 7) rfl)) eT1 (hb hby d1_9) 0 0 (by decide) (by decide) (by decide) (by decide) (by decide) (by decide) ?_
  intro T5 hT5 kT5 XT5 eT5 ET5 YT5
  have VT5 : own_A Z hT5 hT1.size .char kT5 [] := YT5
  clear YT5
  have fq7_1 := own_stak fq3_1 (own_ek ET5)
  have fq7_2 := AT1.keep (own_ek ET5)
  have fq7_3 := FT1_value.keep (own_ek ET5) nin0
  have fq7_4 := FT1_coder.keep (own_ek ET5) nin0
  have lq7_0 := Nat.lt_of_lt_of_le lt4 (own_ek ET5).1
  have hC := hC.trans (CHr.keep (own_ek ET5) (fun _ q => by cases q) hC.1)
  have hk0 := Nat.le_trans hk0 (own_ek ET5).1
  have Kq7 := own_trans0 Kq3 (own_ek ET5)
  have z8 : h0.size ≠ hT1.size := Nat.ne_of_lt lt4
  have lt9 := VT5.lt
  show own_Go p e below _ T5 (mkF m 11 #[oI (0 : Int32), oI x, oI y] [(.ref hT1.size), (.ref h0.size), (.ref h0.size)])
  refine own_callNW XT5 hx hZ hEL hS eT5 hk0 hC rfl hown (hw _ (List.mem_of_getElem? (i := 8) rfl)) (hw _ (List.mem_of_getElem? (i := 9) rfl)) (hw _ (List.mem_of_getElem? (i := 10) rfl)) (hw _ (List.mem_of_getElem? (i := 6) rfl)) (by decide) (b := h0.size) (argsL := [(.ref hT1.size)]) (rest := [(.ref h0.size)]) (own_i1_0 l Z a0 hw EL hEL h0.size hT1.size kT5 hT5 fq7_2 fq7_3 fq7_4 hmem VT5) 1 (by decide) (by decide) (by rw [hml]; rfl) (lenOf pd_4 rfl) (Nat.le_of_eq rfl) (hb hby d1_11) (by decide) (by decide) (st := [(.ref hT1.size), (.ref h0.size), (.ref h0.size)]) rfl ?_
  rintro T10 LT10 vT10 ⟨XT10, hQT10, hS, hgT10, hZ, hown, hCT10⟩
  obtain ⟨rfl, KT10, NT10, ST10⟩ := hQT10
  show own_Go p e below _ T10 (mkF m 14 #[oI (0 : Int32), oI x, oI y] [(.ref h0.size)])
  have fq11_1 := own_stak1 fq7_1 KT10 fq7_2
  have fq11_2 := fq7_2.keep KT10
  have fq11_3 := VT5.keep KT10 (own_nin (Ne.symm z8))
  have lq11_0 := Nat.lt_of_lt_of_le lq7_0 KT10.1
  have lq11_1 := Nat.lt_of_lt_of_le lt9 KT10.1
  have Kq11 := own_trans1 Kq7 KT10 (Or.inr g2)
  have hC := hCT10
  have hk0 := Nat.le_refl T10.heap.size
  have N12 := own_Fr.app N0 (own_Fr.of (own_Fr.new NT10 g2 (Kq7).1) (Nat.le_refl _))
  exact own_retAW XT10 hx hlk hZ hEL hS (rfl : T10.heap = T10.heap) hk0 hC hret rfl rfl (hb hby d1_14) (by decide) (by decide) (⟨rfl, Kq11, (N12).to (Nat.le_refl _), ST10⟩)
theorem pn_3 : plainName "java/lang/Record" = true := by first | (simp [plainName, overriddenIn]; done) | decide +kernel
theorem d7_0 : decode jdk_30_method_1_code 0 = .ok (.aload_n 0, 1) := by decide +kernel
theorem d7_1 : decode jdk_30_method_1_code 1 = .ok (.invokespecial 1, 3) := by decide +kernel
theorem d7_4 : decode jdk_30_method_1_code 4 = .ok (.return_, 1) := by decide +kernel
set_option maxRecDepth 65536 in
set_option maxHeartbeats 40000000 in
theorem own_rec (l : Launch) (Z : State) (a0 : Array Value) (hw : ∀ d ∈ tables_1, d.before a0 Z = true) (a : Addr) (h0 : Heap)  :
    own_Met l (⟨"java/lang/Record", "<init>", "()V"⟩ : MethodName) jdk_30_method_1_code 1 (none) [] ({ frames := 1, cells := 0, slots := 0, locals := 12 } : Room) Z #[(.ref a)] h0 (fun rv rh rL => rv = none ∧ rh = h0 ∧ rL = []) := by
  refine own_enter (plainFor_of_name pn_3) ?_
  intro p e s m below meth c T0 hx hby hml hret hlk hown hnm hZ X0 e0
  refine own_at (g' := (mkF m 0 #[oR a] [])) (by first | (simp [entryFrame, mkF, argsToLocals, Value.category]; done) | rfl) ?_
  show own_Go p e below _ T0 (mkF m 0 #[oR a] [])
  have K0 : Keep h0 h0 [] := Keep.refl h0 _
  have N0 : own_Fr h0.size h0.size [] := own_Fr.nil
  refine own_by (fun t_ k_ => XS.aloadN X0.here hx rfl (hb hby d7_0) rfl rfl  k_) ?_
  show own_Go p e below _ T0 (mkF m 1 #[oR a] [(.ref a)])
  obtain ⟨T1, XT1, eT1, stT1⟩ := initO X0 hx hZ hown (hw _ (List.mem_of_getElem? (i := 43) rfl)) (hw _ (List.mem_of_getElem? (i := 16) rfl)) (hw _ (List.mem_of_getElem? (i := 17) rfl)) e0 (g := (mkF m 1 #[oR a] [(.ref a)])) rfl (by rw [hml]; rfl) rfl (hb hby d7_1) (by decide) (W := 0) (by show 2 * 0 + _ ≤ _; exact Nat.le_of_eq rfl) (by decide)
  refine own_by stT1 ?_
  show own_Go p e below _ T1 (mkF m 4 #[oR a] [])
  subst eT1
  exact own_retV XT1 hx hlk hret (hb hby d7_4) (by decide) (by decide) (⟨rfl, rfl, rfl⟩)
theorem pn_4 : plainName "com/example/nimble_gate/nimblegate/policy/Token" = true := by first | (simp [plainName, overriddenIn]; done) | decide +kernel
theorem d6_0 : decode prog_15_method_1_code 0 = .ok (.aload_n 0, 1) := by decide +kernel
theorem d6_1 : decode prog_15_method_1_code 1 = .ok (.invokespecial 1, 3) := by decide +kernel
theorem pd_5 : parseMethodDescriptor "()V" = some ⟨[], none⟩ := by decide +kernel
theorem d6_4 : decode prog_15_method_1_code 4 = .ok (.aload_n 0, 1) := by decide +kernel
theorem d6_5 : decode prog_15_method_1_code 5 = .ok (.aload_n 1, 1) := by decide +kernel
theorem d6_6 : decode prog_15_method_1_code 6 = .ok (.putfield 7, 3) := by decide +kernel
theorem d6_9 : decode prog_15_method_1_code 9 = .ok (.aload_n 0, 1) := by decide +kernel
theorem d6_10 : decode prog_15_method_1_code 10 = .ok (.aload_n 2, 1) := by decide +kernel
theorem d6_11 : decode prog_15_method_1_code 11 = .ok (.putfield 13, 3) := by decide +kernel
theorem d6_14 : decode prog_15_method_1_code 14 = .ok (.aload_n 0, 1) := by decide +kernel
theorem d6_15 : decode prog_15_method_1_code 15 = .ok (.iload_n 3, 1) := by decide +kernel
theorem d6_16 : decode prog_15_method_1_code 16 = .ok (.putfield 17, 3) := by decide +kernel
theorem d6_19 : decode prog_15_method_1_code 19 = .ok (.aload_n 0, 1) := by decide +kernel
theorem d6_20 : decode prog_15_method_1_code 20 = .ok (.iload 4, 2) := by decide +kernel
theorem d6_22 : decode prog_15_method_1_code 22 = .ok (.putfield 21, 3) := by decide +kernel
theorem d6_25 : decode prog_15_method_1_code 25 = .ok (.return_, 1) := by decide +kernel
set_option maxRecDepth 65536 in
set_option maxHeartbeats 40000000 in
theorem own_tok (l : Launch) (Z : State) (a0 : Array Value) (hw : ∀ d ∈ tables_1, d.before a0 Z = true) (t kd tx : Addr) (i j : Int32) (h0 : Heap) (Et : Exa Z h0 t "com/example/nimble_gate/nimblegate/policy/Token") (F_kind : Fld Z h0 t "com/example/nimble_gate/nimblegate/policy/Token" "kind" "Lcom/example/nimble_gate/nimblegate/policy/Token$Kind;" .null) (F_text : Fld Z h0 t "com/example/nimble_gate/nimblegate/policy/Token" "text" "Ljava/lang/String;" .null) (F_line : Fld Z h0 t "com/example/nimble_gate/nimblegate/policy/Token" "line" "I" (.int 0)) (F_column : Fld Z h0 t "com/example/nimble_gate/nimblegate/policy/Token" "column" "I" (.int 0)) :
    own_Met l (⟨"com/example/nimble_gate/nimblegate/policy/Token", "<init>", "(Lcom/example/nimble_gate/nimblegate/policy/Token$Kind;Ljava/lang/String;II)V"⟩ : MethodName) prog_15_method_1_code 5 (none) [] ({ frames := 2, cells := 0, slots := 0, locals := 24 } : Room) Z #[(.ref t), (.ref kd), (.ref tx), (.int i), (.int j)] h0 (fun rv rh rL => rv = none ∧ Keep h0 rh [t] ∧ own_Fr h0.size t rL ∧ Fld Z rh t "com/example/nimble_gate/nimblegate/policy/Token" "kind" "Lcom/example/nimble_gate/nimblegate/policy/Token$Kind;" (.ref kd) ∧ Fld Z rh t "com/example/nimble_gate/nimblegate/policy/Token" "text" "Ljava/lang/String;" (.ref tx)) := by
  refine own_enter (plainFor_of_name pn_4) ?_
  intro p e s m below meth c T0 hx hby hml hret hlk hown hnm hZ X0 e0
  refine own_at (g' := (mkF m 0 #[oR t, oR kd, oR tx, oI i, oI j] [])) (by first | (simp [entryFrame, mkF, argsToLocals, Value.category]; done) | rfl) ?_
  show own_Go p e below _ T0 (mkF m 0 #[oR t, oR kd, oR tx, oI i, oI j] [])
  have lt1 : t < h0.size := Et.lt
  have K0 : Keep h0 h0 [t] := Keep.refl h0 _
  have N0 : own_Fr h0.size t [] := own_Fr.nil
  refine own_by (fun t_ k_ => XS.aloadN X0.here hx rfl (hb hby d6_0) rfl rfl  k_) ?_
  show own_Go p e below _ T0 (mkF m 1 #[oR t, oR kd, oR tx, oI i, oI j] [(.ref t)])
  refine own_callN X0 hx hZ rfl hown (hw _ (List.mem_of_getElem? (i := 38) rfl)) (hw _ (List.mem_of_getElem? (i := 39) rfl)) (hw _ (List.mem_of_getElem? (i := 42) rfl)) (hw _ (List.mem_of_getElem? (i := 41) rfl)) (by decide) e0 (b := t) (argsL := []) (rest := []) (own_rec l Z a0 hw t h0) 0 (by decide) (by decide) (by rw [hml]; rfl) (lenOf pd_5 rfl) (Nat.le_of_eq rfl) (hb hby d6_1) (by decide) (by decide) (st := [(.ref t)]) rfl ?_
  intro T2 LT2 vT2 XT2 hQT2
  obtain ⟨rfl, eT2, rfl⟩ := hQT2
  show own_Go p e below _ T2 (mkF m 4 #[oR t, oR kd, oR tx, oI i, oI j] [])
  have N3 := own_Fr.app N0 own_Fr.nil
  refine own_by (fun t_ k_ => XS.aloadN XT2.here hx rfl (hb hby d6_4) rfl rfl  k_) ?_
  show own_Go p e below _ T2 (mkF m 5 #[oR t, oR kd, oR tx, oI i, oI j] [(.ref t)])
  refine own_by (fun t_ k_ => XS.aloadN XT2.here hx rfl (hb hby d6_5) rfl rfl  k_) ?_
  show own_Go p e below _ T2 (mkF m 6 #[oR t, oR kd, oR tx, oI i, oI j] [(.ref kd), (.ref t)])
  refine own_putF XT2 hx hZ hown (hw _ (List.mem_of_getElem? (i := 44) rfl)) eT2 F_kind Et (Or.inr ⟨(hw _ (List.mem_of_getElem? (i := 45) rfl)), rfl, hnm⟩) (hw _ (List.mem_of_getElem? (i := 27) rfl)) (ty := (.object "com/example/nimble_gate/nimblegate/policy/Token$Kind")) (by decide +kernel) rfl rfl (hb hby d6_6) ?_
  intro T4 hT4 XT4 eT4 WT4
  have FT4_kind := Fld.same WT4 F_kind
  have FT4_text := Fld.other WT4 F_text (Or.inr (slot_ne (t := (.object "java/lang/String")) (t' := (.object "com/example/nimble_gate/nimblegate/policy/Token$Kind")) (Or.inr (hw _ (List.mem_of_getElem? (i := 47) rfl))) (Or.inr (hw _ (List.mem_of_getElem? (i := 45) rfl))) (by decide) (by decide +kernel) (by decide +kernel)))
  have FT4_line := Fld.other WT4 F_line (Or.inr (slot_ne (t := .int) (t' := (.object "com/example/nimble_gate/nimblegate/policy/Token$Kind")) (Or.inr (hw _ (List.mem_of_getElem? (i := 49) rfl))) (Or.inr (hw _ (List.mem_of_getElem? (i := 45) rfl))) (by decide) (by decide +kernel) (by decide +kernel)))
  have FT4_column := Fld.other WT4 F_column (Or.inr (slot_ne (t := .int) (t' := (.object "com/example/nimble_gate/nimblegate/policy/Token$Kind")) (Or.inr (hw _ (List.mem_of_getElem? (i := 51) rfl))) (Or.inr (hw _ (List.mem_of_getElem? (i := 45) rfl))) (by decide) (by decide +kernel) (by decide +kernel)))
  have fq5_1 := Et.keep (Keep.of_wr WT4)
  have lq5_0 := Nat.lt_of_lt_of_le lt1 (Keep.of_wr WT4).1
  have Kq5 := own_trans1 K0 (Keep.of_wr WT4) (Or.inl (List.mem_singleton.mpr rfl))
  have N6 := own_Fr.app N3 (own_Fr.one (i := (Jvm.RoadKit.slotOf Z "com/example/nimble_gate/nimblegate/policy/Token" "kind" "Lcom/example/nimble_gate/nimblegate/policy/Token$Kind;")))
  show own_Go p e below _ T4 (mkF m 9 #[oR t, oR kd, oR tx, oI i, oI j] [])
  refine own_by (fun t_ k_ => XS.aloadN XT4.here hx rfl (hb hby d6_9) rfl rfl  k_) ?_
  show own_Go p e below _ T4 (mkF m 10 #[oR t, oR kd, oR tx, oI i, oI j] [(.ref t)])
  refine own_by (fun t_ k_ => XS.aloadN XT4.here hx rfl (hb hby d6_10) rfl rfl  k_) ?_
  show own_Go p e below _ T4 (mkF m 11 #[oR t, oR kd, oR tx, oI i, oI j] [(.ref tx), (.ref t)])
  refine own_putF XT4 hx hZ hown (hw _ (List.mem_of_getElem? (i := 46) rfl)) eT4 FT4_text fq5_1 (Or.inr ⟨(hw _ (List.mem_of_getElem? (i := 47) rfl)), rfl, hnm⟩) (hw _ (List.mem_of_getElem? (i := 27) rfl)) (ty := (.object "java/lang/String")) (by decide +kernel) rfl rfl (hb hby d6_11) ?_
  intro T7 hT7 XT7 eT7 WT7
  have FT7_text := Fld.same WT7 FT4_text
  have FT7_kind := Fld.other WT7 FT4_kind (Or.inr (slot_ne (t := (.object "com/example/nimble_gate/nimblegate/policy/Token$Kind")) (t' := (.object "java/lang/String")) (Or.inr (hw _ (List.mem_of_getElem? (i := 45) rfl))) (Or.inr (hw _ (List.mem_of_getElem? (i := 47) rfl))) (by decide) (by decide +kernel) (by decide +kernel)))
  have FT7_line := Fld.other WT7 FT4_line (Or.inr (slot_ne (t := .int) (t' := (.object "java/lang/String")) (Or.inr (hw _ (List.mem_of_getElem? (i := 49) rfl))) (Or.inr (hw _ (List.mem_of_getElem? (i := 47) rfl))) (by decide) (by decide +kernel) (by decide +kernel)))
  have FT7_column := Fld.other WT7 FT4_column (Or.inr (slot_ne (t := .int) (t' := (.object "java/lang/String")) (Or.inr (hw _ (List.mem_of_getElem? (i := 51) rfl))) (Or.inr (hw _ (List.mem_of_getElem? (i := 47) rfl))) (by decide) (by decide +kernel) (by decide +kernel)))
  have fq8_1 := fq5_1.keep (Keep.of_wr WT7)
  have lq8_0 := Nat.lt_of_lt_of_le lq5_0 (Keep.of_wr WT7).1
  have Kq8 := own_trans1 Kq5 (Keep.of_wr WT7) (Or.inl (List.mem_singleton.mpr rfl))
  have N9 := own_Fr.app N6 (own_Fr.one (i := (Jvm.RoadKit.slotOf Z "com/example/nimble_gate/nimblegate/policy/Token" "text" "Ljava/lang/String;")))
  show own_Go p e below _ T7 (mkF m 14 #[oR t, oR kd, oR tx, oI i, oI j] [])
  refine own_by (fun t_ k_ => XS.aloadN XT7.here hx rfl (hb hby d6_14) rfl rfl  k_) ?_
  show own_Go p e below _ T7 (mkF m 15 #[oR t, oR kd, oR tx, oI i, oI j] [(.ref t)])
  refine own_by (fun t_ k_ => XS.iloadN XT7.here hx rfl (hb hby d6_15) rfl  k_) ?_
  show own_Go p e below _ T7 (mkF m 16 #[oR t, oR kd, oR tx, oI i, oI j] [(.int i), (.ref t)])
  refine own_putF XT7 hx hZ hown (hw _ (List.mem_of_getElem? (i := 48) rfl)) eT7 FT7_line fq8_1 (Or.inr ⟨(hw _ (List.mem_of_getElem? (i := 49) rfl)), rfl, hnm⟩) (hw _ (List.mem_of_getElem? (i := 27) rfl)) (ty := .int) (by decide +kernel) rfl rfl (hb hby d6_16) ?_
  intro T10 hT10 XT10 eT10 WT10
  have FT10_line := Fld.same WT10 FT7_line
  have FT10_text := Fld.other WT10 FT7_text (Or.inr (slot_ne (t := (.object "java/lang/String")) (t' := .int) (Or.inr (hw _ (List.mem_of_getElem? (i := 47) rfl))) (Or.inr (hw _ (List.mem_of_getElem? (i := 49) rfl))) (by decide) (by decide +kernel) (by decide +kernel)))
  have FT10_kind := Fld.other WT10 FT7_kind (Or.inr (slot_ne (t := (.object "com/example/nimble_gate/nimblegate/policy/Token$Kind")) (t' := .int) (Or.inr (hw _ (List.mem_of_getElem? (i := 45) rfl))) (Or.inr (hw _ (List.mem_of_getElem? (i := 49) rfl))) (by decide) (by decide +kernel) (by decide +kernel)))
  have FT10_column := Fld.other WT10 FT7_column (Or.inr (slot_ne (t := .int) (t' := .int) (Or.inr (hw _ (List.mem_of_getElem? (i := 51) rfl))) (Or.inr (hw _ (List.mem_of_getElem? (i := 49) rfl))) (by decide) (by decide +kernel) (by decide +kernel)))
  have fq11_1 := fq8_1.keep (Keep.of_wr WT10)
  have lq11_0 := Nat.lt_of_lt_of_le lq8_0 (Keep.of_wr WT10).1
  have Kq11 := own_trans1 Kq8 (Keep.of_wr WT10) (Or.inl (List.mem_singleton.mpr rfl))
  have N12 := own_Fr.app N9 (own_Fr.one (i := (Jvm.RoadKit.slotOf Z "com/example/nimble_gate/nimblegate/policy/Token" "line" "I")))
  show own_Go p e below _ T10 (mkF m 19 #[oR t, oR kd, oR tx, oI i, oI j] [])
  refine own_by (fun t_ k_ => XS.aloadN XT10.here hx rfl (hb hby d6_19) rfl rfl  k_) ?_
  show own_Go p e below _ T10 (mkF m 20 #[oR t, oR kd, oR tx, oI i, oI j] [(.ref t)])
  refine own_by (fun t_ k_ => XS.iload XT10.here hx rfl (hb hby d6_20) rfl  k_) ?_
  show own_Go p e below _ T10 (mkF m 22 #[oR t, oR kd, oR tx, oI i, oI j] [(.int j), (.ref t)])
  refine own_putF XT10 hx hZ hown (hw _ (List.mem_of_getElem? (i := 50) rfl)) eT10 FT10_column fq11_1 (Or.inr ⟨(hw _ (List.mem_of_getElem? (i := 51) rfl)), rfl, hnm⟩) (hw _ (List.mem_of_getElem? (i := 27) rfl)) (ty := .int) (by decide +kernel) rfl rfl (hb hby d6_22) ?_
  intro T13 hT13 XT13 eT13 WT13
  have FT13_column := Fld.same WT13 FT10_column
  have FT13_line := Fld.other WT13 FT10_line (Or.inr (slot_ne (t := .int) (t' := .int) (Or.inr (hw _ (List.mem_of_getElem? (i := 49) rfl))) (Or.inr (hw _ (List.mem_of_getElem? (i := 51) rfl))) (by decide) (by decide +kernel) (by decide +kernel)))
  have FT13_text := Fld.other WT13 FT10_text (Or.inr (slot_ne (t := (.object "java/lang/String")) (t' := .int) (Or.inr (hw _ (List.mem_of_getElem? (i := 47) rfl))) (Or.inr (hw _ (List.mem_of_getElem? (i := 51) rfl))) (by decide) (by decide +kernel) (by decide +kernel)))
  have FT13_kind := Fld.other WT13 FT10_kind (Or.inr (slot_ne (t := (.object "com/example/nimble_gate/nimblegate/policy/Token$Kind")) (t' := .int) (Or.inr (hw _ (List.mem_of_getElem? (i := 45) rfl))) (Or.inr (hw _ (List.mem_of_getElem? (i := 51) rfl))) (by decide) (by decide +kernel) (by decide +kernel)))
  have fq14_1 := fq11_1.keep (Keep.of_wr WT13)
  have lq14_0 := Nat.lt_of_lt_of_le lq11_0 (Keep.of_wr WT13).1
  have Kq14 := own_trans1 Kq11 (Keep.of_wr WT13) (Or.inl (List.mem_singleton.mpr rfl))
  have N15 := own_Fr.app N12 (own_Fr.one (i := (Jvm.RoadKit.slotOf Z "com/example/nimble_gate/nimblegate/policy/Token" "column" "I")))
  show own_Go p e below _ T13 (mkF m 25 #[oR t, oR kd, oR tx, oI i, oI j] [])
  subst eT13
  exact own_retV XT13 hx hlk hret (hb hby d6_25) (by decide) (by decide) (⟨rfl, Kq14, N15, FT13_kind, FT13_text⟩)
def own_le_0_0 (v1 : Addr) (v2 : Addr) (k1 k2 : ClassId) : Int32 := (1 : Int32)
theorem pn_5 : plainName "java/lang/StringLatin1" = true := by first | (simp [plainName, overriddenIn]; done) | decide +kernel
theorem d13_0 : decode jdk_43_method_13_code 0 = .ok (.aload_n 0, 1) := by decide +kernel
theorem d13_1 : decode jdk_43_method_13_code 1 = .ok (.arraylength, 1) := by decide +kernel
theorem d13_2 : decode jdk_43_method_13_code 2 = .ok (.aload_n 1, 1) := by decide +kernel
theorem d13_3 : decode jdk_43_method_13_code 3 = .ok (.arraylength, 1) := by decide +kernel
theorem d13_4 : decode jdk_43_method_13_code 4 = .ok (.if_icmp .ne 30, 3) := by decide +kernel
theorem d13_7 : decode jdk_43_method_13_code 7 = .ok (.iconst 0, 1) := by decide +kernel
theorem d13_8 : decode jdk_43_method_13_code 8 = .ok (.istore_n 2, 1) := by decide +kernel
theorem d13_9 : decode jdk_43_method_13_code 9 = .ok (.iload_n 2, 1) := by decide +kernel
theorem d13_10 : decode jdk_43_method_13_code 10 = .ok (.aload_n 0, 1) := by decide +kernel
theorem d13_11 : decode jdk_43_method_13_code 11 = .ok (.arraylength, 1) := by decide +kernel
theorem d13_12 : decode jdk_43_method_13_code 12 = .ok (.if_icmp .ge 20, 3) := by decide +kernel
theorem d13_32 : decode jdk_43_method_13_code 32 = .ok (.iconst 1, 1) := by decide +kernel
theorem d13_33 : decode jdk_43_method_13_code 33 = .ok (.ireturn, 1) := by decide +kernel
set_option maxRecDepth 65536 in
set_option maxHeartbeats 40000000 in
theorem own_le_0_0_met (l : Launch) (Z : State) (a0 : Array Value) (hw : ∀ d ∈ tables_1, d.before a0 Z = true) (v1 : Addr) (v2 : Addr) (k1 k2 : ClassId) (h0 : Heap) (A1 : own_A Z h0 v1 .byte k1 []) (A2 : own_A Z h0 v2 .byte k2 []) :
    own_Met l (⟨"java/lang/StringLatin1", "equals", "([B[B)Z"⟩ : MethodName) jdk_43_method_13_code 3 (some .boolean) [] ({ frames := 0, cells := 0, slots := 0, locals := 0 } : Room) Z #[(.ref v1), (.ref v2)] h0 (fun rv rh rL => rv = some (.int (own_le_0_0 v1 v2 k1 k2 )) ∧ rh = h0 ∧ rL = []) := by
  refine own_enter (plainFor_of_name pn_5) ?_
  intro p e s m below meth c T0 hx hby hml hret hlk hown hnm hZ X0 e0
  refine own_at (g' := (mkF m 0 #[oR v1, oR v2, .unset] [])) (by first | (simp [entryFrame, mkF, argsToLocals, Value.category]; done) | rfl) ?_
  show own_Go p e below _ T0 (mkF m 0 #[oR v1, oR v2, .unset] [])
  have K0 : Keep h0 h0 [] := Keep.refl h0 _
  have N0 : own_Fr h0.size h0.size [] := own_Fr.nil
  refine own_by (fun t_ k_ => XS.aloadN X0.here hx rfl (hb hby d13_0) rfl rfl  k_) ?_
  show own_Go p e below _ T0 (mkF m 1 #[oR v1, oR v2, .unset] [(.ref v1)])
  refine own_len X0 hx hZ e0 A1 (0 : Int32) rfl (hb hby d13_1) ?_
  show own_Go p e below _ T0 (mkF m 2 #[oR v1, oR v2, .unset] [(.int (0 : Int32))])
  refine own_by (fun t_ k_ => XS.aloadN X0.here hx rfl (hb hby d13_2) rfl rfl  k_) ?_
  show own_Go p e below _ T0 (mkF m 3 #[oR v1, oR v2, .unset] [(.ref v2), (.int (0 : Int32))])
  refine own_len X0 hx hZ e0 A2 (0 : Int32) rfl (hb hby d13_3) ?_
  show own_Go p e below _ T0 (mkF m 4 #[oR v1, oR v2, .unset] [(.int (0 : Int32)), (.int (0 : Int32))])
  refine own_by (fun t_ k_ => XS.icmpNo X0.here hx rfl (hb hby d13_4) rfl (XT.ii_ne_f (by decide)) k_) ?_
  show own_Go p e below _ T0 (mkF m 7 #[oR v1, oR v2, .unset] [])
  refine own_by (fun t_ k_ => XT.iconstV X0.here hx rfl (0 : Int32) (hb hby d13_7) (by decide) k_) ?_
  show own_Go p e below _ T0 (mkF m 8 #[oR v1, oR v2, .unset] [(.int (0 : Int32))])
  refine own_by (fun t_ k_ => XS.istoreN X0.here hx rfl (hb hby d13_8) rfl (l' := #[oR v1, oR v2, oI (0 : Int32)]) rfl k_) ?_
  show own_Go p e below _ T0 (mkF m 9 #[oR v1, oR v2, oI (0 : Int32)] [])
  refine own_by (fun t_ k_ => XS.iloadN X0.here hx rfl (hb hby d13_9) rfl  k_) ?_
  show own_Go p e below _ T0 (mkF m 10 #[oR v1, oR v2, oI (0 : Int32)] [(.int (0 : Int32))])
  refine own_by (fun t_ k_ => XS.aloadN X0.here hx rfl (hb hby d13_10) rfl rfl  k_) ?_
  show own_Go p e below _ T0 (mkF m 11 #[oR v1, oR v2, oI (0 : Int32)] [(.ref v1), (.int (0 : Int32))])
  refine own_len X0 hx hZ e0 A1 (0 : Int32) rfl (hb hby d13_11) ?_
  show own_Go p e below _ T0 (mkF m 12 #[oR v1, oR v2, oI (0 : Int32)] [(.int (0 : Int32)), (.int (0 : Int32))])
  refine own_by (fun t_ k_ => XS.icmpYes X0.here hx rfl (pc0 := 12) (pc' := 32) rfl (hb hby d13_12) rfl (XT.ii_ge_t (by decide)) (by decide) (by decide) k_) ?_
  show own_Go p e below _ T0 (mkF m 32 #[oR v1, oR v2, oI (0 : Int32)] [])
  refine own_by (fun t_ k_ => XT.iconstV X0.here hx rfl (1 : Int32) (hb hby d13_32) (by decide) k_) ?_
  show own_Go p e below _ T0 (mkF m 33 #[oR v1, oR v2, oI (0 : Int32)] [(.int (1 : Int32))])
  exact own_retN X0 hx hlk hret (by simp) (w := (1 : Int32)) (hb hby d13_33) (by decide) (by decide) (by decide) (⟨by rw [own_le_0_0], e0, rfl⟩)
def own_eq_0_0 (a : Addr) (b : Addr) (v1 v2 : Addr) (k1 k2 : ClassId) : Int32 := (if (own_le_0_0 v1 v2 k1 k2 ) = (0 : Int32) then (0 : Int32) else (1 : Int32))
theorem d12_0 : decode jdk_42_method_66_code 0 = .ok (.aload_n 0, 1) := by decide +kernel
theorem d12_1 : decode jdk_42_method_66_code 1 = .ok (.aload_n 1, 1) := by decide +kernel
theorem d12_2 : decode jdk_42_method_66_code 2 = .ok (.if_acmp .ne 5, 3) := by decide +kernel
theorem d12_7 : decode jdk_42_method_66_code 7 = .ok (.aload_n 1, 1) := by decide +kernel
theorem d12_8 : decode jdk_42_method_66_code 8 = .ok (.instanceof 10, 3) := by decide +kernel
theorem d12_11 : decode jdk_42_method_66_code 11 = .ok (.ifCond .eq 43, 3) := by decide +kernel
theorem d12_14 : decode jdk_42_method_66_code 14 = .ok (.aload_n 1, 1) := by decide +kernel
theorem d12_15 : decode jdk_42_method_66_code 15 = .ok (.checkcast 10, 3) := by decide +kernel
theorem d12_18 : decode jdk_42_method_66_code 18 = .ok (.astore_n 2, 1) := by decide +kernel
theorem d12_19 : decode jdk_42_method_66_code 19 = .ok (.getstatic 38, 3) := by decide +kernel
theorem d12_22 : decode jdk_42_method_66_code 22 = .ok (.ifCond .eq 14, 3) := by decide +kernel
theorem d12_25 : decode jdk_42_method_66_code 25 = .ok (.aload_n 0, 1) := by decide +kernel
theorem d12_26 : decode jdk_42_method_66_code 26 = .ok (.getfield 15, 3) := by decide +kernel
theorem d12_29 : decode jdk_42_method_66_code 29 = .ok (.aload_n 2, 1) := by decide +kernel
theorem d12_30 : decode jdk_42_method_66_code 30 = .ok (.getfield 15, 3) := by decide +kernel
theorem d12_33 : decode jdk_42_method_66_code 33 = .ok (.if_icmp .ne 21, 3) := by decide +kernel
theorem d12_36 : decode jdk_42_method_66_code 36 = .ok (.aload_n 0, 1) := by decide +kernel
theorem d12_37 : decode jdk_42_method_66_code 37 = .ok (.getfield 9, 3) := by decide +kernel
theorem d12_40 : decode jdk_42_method_66_code 40 = .ok (.aload_n 2, 1) := by decide +kernel
theorem d12_41 : decode jdk_42_method_66_code 41 = .ok (.getfield 9, 3) := by decide +kernel
theorem d12_44 : decode jdk_42_method_66_code 44 = .ok (.invokestatic 541, 3) := by decide +kernel
theorem pd_6 : parseMethodDescriptor "([B[B)Z" = some ⟨[(.array .byte), (.array .byte)], some .boolean⟩ := by decide +kernel
theorem d12_47 : decode jdk_42_method_66_code 47 = .ok (.ifCond .eq 7, 3) := by decide +kernel
theorem d12_54 : decode jdk_42_method_66_code 54 = .ok (.iconst 0, 1) := by decide +kernel
theorem d12_55 : decode jdk_42_method_66_code 55 = .ok (.ireturn, 1) := by decide +kernel
theorem d12_50 : decode jdk_42_method_66_code 50 = .ok (.iconst 1, 1) := by decide +kernel
theorem d12_51 : decode jdk_42_method_66_code 51 = .ok (.goto 4, 3) := by decide +kernel
set_option maxRecDepth 65536 in
set_option maxHeartbeats 40000000 in
theorem own_eq_0_0_met (l : Launch) (Z : State) (a0 : Array Value) (hw : ∀ d ∈ tables_1, d.before a0 Z = true) (a : Addr) (b : Addr) (v1 v2 : Addr) (k1 k2 : ClassId) (h0 : Heap) (cs : Int32) (Cs : Sta Z h0 "java/lang/String" "COMPACT_STRINGS" "Z" (.int cs)) (hcs : ¬ cs = (0 : Int32)) (hne : a ≠ b) (E1 : Exa Z h0 a "java/lang/String") (V1 : Fld Z h0 a "java/lang/String" "value" "[B" (.ref v1)) (C1 : Fld Z h0 a "java/lang/String" "coder" "B" (.int 0)) (A1 : own_A Z h0 v1 .byte k1 [])(E2 : Exa Z h0 b "java/lang/String") (V2 : Fld Z h0 b "java/lang/String" "value" "[B" (.ref v2)) (C2 : Fld Z h0 b "java/lang/String" "coder" "B" (.int 0)) (A2 : own_A Z h0 v2 .byte k2 []) :
    own_Met l (⟨"java/lang/String", "equals", "(Ljava/lang/Object;)Z"⟩ : MethodName) jdk_42_method_66_code 3 (some .boolean) [] ({ frames := 1, cells := 0, slots := 0, locals := 14 } : Room) Z #[(.ref a), (.ref b)] h0 (fun rv rh rL => rv = some (.int (own_eq_0_0 a b v1 v2 k1 k2 )) ∧ rh = h0 ∧ rL = []) := by
  refine own_enter (plainFor_of_name pn_1) ?_
  intro p e s m below meth c T0 hx hby hml hret hlk hown hnm hZ X0 e0
  refine own_at (g' := (mkF m 0 #[oR a, oR b, .unset] [])) (by first | (simp [entryFrame, mkF, argsToLocals, Value.category]; done) | rfl) ?_
  show own_Go p e below _ T0 (mkF m 0 #[oR a, oR b, .unset] [])
  have K0 : Keep h0 h0 [] := Keep.refl h0 _
  have N0 : own_Fr h0.size h0.size [] := own_Fr.nil
  refine own_by (fun t_ k_ => XS.aloadN X0.here hx rfl (hb hby d12_0) rfl rfl  k_) ?_
  show own_Go p e below _ T0 (mkF m 1 #[oR a, oR b, .unset] [(.ref a)])
  refine own_by (fun t_ k_ => XS.aloadN X0.here hx rfl (hb hby d12_1) rfl rfl  k_) ?_
  show own_Go p e below _ T0 (mkF m 2 #[oR a, oR b, .unset] [(.ref b), (.ref a)])
  refine own_by (fun t_ k_ => Jvm.RoadKit.acmp (g := (mkF m 2 #[oR a, oR b, .unset] [(.ref b), (.ref a)])) X0 hx rfl rfl rfl (pc0 := 2) (pc' := 7) (same := false) rfl (hb hby d12_2) rfl (decide_eq_false fun q => (hne) (Value.ref.inj q)) (by decide) (by decide) k_) ?_
  show own_Go p e below _ T0 (mkF m 7 #[oR a, oR b, .unset] [])
  refine own_by (fun t_ k_ => XS.aloadN X0.here hx rfl (hb hby d12_7) rfl rfl  k_) ?_
  show own_Go p e below _ T0 (mkF m 8 #[oR a, oR b, .unset] [(.ref b)])
  refine own_inst X0 hx hZ hown (hw _ (List.mem_of_getElem? (i := 82) rfl)) e0 E2 (hb hby d12_8) ?_
  intro T1 XT1 eT1
  show own_Go p e below _ T1 (mkF m 11 #[oR a, oR b, .unset] [(.int (1 : Int32))])
  refine own_by (fun t_ k_ => XS.ifNo XT1.here hx rfl (hb hby d12_11) rfl (XT.i0_eq_f (by decide)) k_) ?_
  show own_Go p e below _ T1 (mkF m 14 #[oR a, oR b, .unset] [])
  refine own_by (fun t_ k_ => XS.aloadN XT1.here hx rfl (hb hby d12_14) rfl rfl  k_) ?_
  show own_Go p e below _ T1 (mkF m 15 #[oR a, oR b, .unset] [(.ref b)])
  refine own_cast XT1 hx hZ hown (hw _ (List.mem_of_getElem? (i := 82) rfl)) eT1 E2 (hb hby d12_15) ?_
  intro T2 XT2 eT2
  show own_Go p e below _ T2 (mkF m 18 #[oR a, oR b, .unset] [(.ref b)])
  refine own_by (fun t_ k_ => XS.astoreN XT2.here hx rfl (hb hby d12_18) rfl rfl (l' := #[oR a, oR b, oR b]) rfl k_) ?_
  show own_Go p e below _ T2 (mkF m 19 #[oR a, oR b, oR b] [])
  obtain ⟨T3, XT3, eT3, stT3⟩ := getS2 XT2 hx hZ hown (host := "") (Or.inl (hw _ (List.mem_of_getElem? (i := 59) rfl))) Via.refl eT2 Cs (g := (mkF m 19 #[oR a, oR b, oR b] [])) rfl (hb hby d12_19)
  refine own_by stT3 ?_
  show own_Go p e below _ T3 (mkF m 22 #[oR a, oR b, oR b] [(.int cs)])
  refine own_by (fun t_ k_ => XS.ifNo XT3.here hx rfl (hb hby d12_22) rfl (XT.i0_eq_f hcs) k_) ?_
  show own_Go p e below _ T3 (mkF m 25 #[oR a, oR b, oR b] [])
  refine own_by (fun t_ k_ => XS.aloadN XT3.here hx rfl (hb hby d12_25) rfl rfl  k_) ?_
  show own_Go p e below _ T3 (mkF m 26 #[oR a, oR b, oR b] [(.ref a)])
  refine own_getF XT3 hx hZ hown (hw _ (List.mem_of_getElem? (i := 25) rfl)) eT3 C1 (hb hby d12_26) ?_
  intro T4 XT4 eT4
  show own_Go p e below _ T4 (mkF m 29 #[oR a, oR b, oR b] [(.int (0 : Int32))])
  refine own_by (fun t_ k_ => XS.aloadN XT4.here hx rfl (hb hby d12_29) rfl rfl  k_) ?_
  show own_Go p e below _ T4 (mkF m 30 #[oR a, oR b, oR b] [(.ref b), (.int (0 : Int32))])
  refine own_getF XT4 hx hZ hown (hw _ (List.mem_of_getElem? (i := 25) rfl)) eT4 C2 (hb hby d12_30) ?_
  intro T5 XT5 eT5
  show own_Go p e below _ T5 (mkF m 33 #[oR a, oR b, oR b] [(.int (0 : Int32)), (.int (0 : Int32))])
  refine own_by (fun t_ k_ => XS.icmpNo XT5.here hx rfl (hb hby d12_33) rfl (XT.ii_ne_f (by decide)) k_) ?_
  show own_Go p e below _ T5 (mkF m 36 #[oR a, oR b, oR b] [])
  refine own_by (fun t_ k_ => XS.aloadN XT5.here hx rfl (hb hby d12_36) rfl rfl  k_) ?_
  show own_Go p e below _ T5 (mkF m 37 #[oR a, oR b, oR b] [(.ref a)])
  refine own_getF XT5 hx hZ hown (hw _ (List.mem_of_getElem? (i := 24) rfl)) eT5 V1 (hb hby d12_37) ?_
  intro T6 XT6 eT6
  show own_Go p e below _ T6 (mkF m 40 #[oR a, oR b, oR b] [(.ref v1)])
  refine own_by (fun t_ k_ => XS.aloadN XT6.here hx rfl (hb hby d12_40) rfl rfl  k_) ?_
  show own_Go p e below _ T6 (mkF m 41 #[oR a, oR b, oR b] [(.ref b), (.ref v1)])
  refine own_getF XT6 hx hZ hown (hw _ (List.mem_of_getElem? (i := 24) rfl)) eT6 V2 (hb hby d12_41) ?_
  intro T7 XT7 eT7
  show own_Go p e below _ T7 (mkF m 44 #[oR a, oR b, oR b] [(.ref v2), (.ref v1)])
  refine own_callS XT7 hx hZ hown (hw _ (List.mem_of_getElem? (i := 83) rfl)) (hw _ (List.mem_of_getElem? (i := 84) rfl)) (hw _ (List.mem_of_getElem? (i := 85) rfl)) (hw _ (List.mem_of_getElem? (i := 86) rfl)) (by decide) eT7 (argsL := [(.ref v1), (.ref v2)]) (rest := []) (own_le_0_0_met l Z a0 hw v1 v2 k1 k2  h0 A1 A2) 0 (by decide) (by decide) (by rw [hml]; rfl) (lenOf pd_6 rfl) (Nat.le_of_eq rfl) (hb hby d12_44) (by decide) (by decide) (st := [(.ref v2), (.ref v1)]) rfl ?_
  intro T8 LT8 vT8 XT8 hQT8
  obtain ⟨rfl, eT8, rfl⟩ := hQT8
  show own_Go p e below _ T8 (mkF m 47 #[oR a, oR b, oR b] [(.int (own_le_0_0 v1 v2 k1 k2 ))])
  have N9 := own_Fr.app N0 own_Fr.nil
  by_cases c47_9 : (own_le_0_0 v1 v2 k1 k2 ) = (0 : Int32)
  · refine own_by (fun t_ k_ => XS.ifYes XT8.here hx rfl (pc0 := 47) (pc' := 54) rfl (hb hby d12_47) rfl (XT.i0_eq_t c47_9) (by decide) (by decide) k_) ?_
    show own_Go p e below _ T8 (mkF m 54 #[oR a, oR b, oR b] [])
    refine own_by (fun t_ k_ => XT.iconstV XT8.here hx rfl (0 : Int32) (hb hby d12_54) (by decide) k_) ?_
    show own_Go p e below _ T8 (mkF m 55 #[oR a, oR b, oR b] [(.int (0 : Int32))])
    exact own_retN XT8 hx hlk hret (by simp) (w := (0 : Int32)) (hb hby d12_55) (by decide) (by decide) (by decide) (⟨by rw [own_eq_0_0, if_pos c47_9], eT8, rfl⟩)
  · refine own_by (fun t_ k_ => XS.ifNo XT8.here hx rfl (hb hby d12_47) rfl (XT.i0_eq_f c47_9) k_) ?_
    show own_Go p e below _ T8 (mkF m 50 #[oR a, oR b, oR b] [])
    refine own_by (fun t_ k_ => XT.iconstV XT8.here hx rfl (1 : Int32) (hb hby d12_50) (by decide) k_) ?_
    show own_Go p e below _ T8 (mkF m 51 #[oR a, oR b, oR b] [(.int (1 : Int32))])
    refine own_by (fun t_ k_ => XS.goto XT8.here hx rfl (pc0 := 51) (pc' := 55) rfl (hb hby d12_51) (by decide) (by decide) k_) ?_
    show own_Go p e below _ T8 (mkF m 55 #[oR a, oR b, oR b] [(.int (1 : Int32))])
    exact own_retN XT8 hx hlk hret (by simp) (w := (1 : Int32)) (hb hby d12_55) (by decide) (by decide) (by decide) (⟨by rw [own_eq_0_0, if_neg c47_9], eT8, rfl⟩)
def own_is_0_0 (a : Addr) (b : Addr) (kd wW tx : Addr) (v1 v2 : Addr) (k1 k2 : ClassId) : Int32 := (if kd = wW then (if (own_eq_0_0 tx b v1 v2 k1 k2 ) = (0 : Int32) then (0 : Int32) else (1 : Int32)) else (0 : Int32))
theorem d8_0 : decode prog_15_method_3_code 0 = .ok (.aload_n 0, 1) := by decide +kernel
theorem d8_1 : decode prog_15_method_3_code 1 = .ok (.getfield 7, 3) := by decide +kernel
theorem d8_4 : decode prog_15_method_3_code 4 = .ok (.getstatic 35, 3) := by decide +kernel
theorem d8_7 : decode prog_15_method_3_code 7 = .ok (.if_acmp .ne 18, 3) := by decide +kernel
theorem d8_10 : decode prog_15_method_3_code 10 = .ok (.aload_n 0, 1) := by decide +kernel
theorem d8_11 : decode prog_15_method_3_code 11 = .ok (.getfield 13, 3) := by decide +kernel
theorem d8_14 : decode prog_15_method_3_code 14 = .ok (.aload_n 1, 1) := by decide +kernel
theorem d8_15 : decode prog_15_method_3_code 15 = .ok (.invokevirtual 29, 3) := by decide +kernel
theorem pd_7 : parseMethodDescriptor "(Ljava/lang/Object;)Z" = some ⟨[(.object "java/lang/Object")], some .boolean⟩ := by decide +kernel
theorem d8_18 : decode prog_15_method_3_code 18 = .ok (.ifCond .eq 7, 3) := by decide +kernel
theorem d8_25 : decode prog_15_method_3_code 25 = .ok (.iconst 0, 1) := by decide +kernel
theorem d8_26 : decode prog_15_method_3_code 26 = .ok (.ireturn, 1) := by decide +kernel
theorem d8_21 : decode prog_15_method_3_code 21 = .ok (.iconst 1, 1) := by decide +kernel
theorem d8_22 : decode prog_15_method_3_code 22 = .ok (.goto 4, 3) := by decide +kernel
set_option maxRecDepth 65536 in
set_option maxHeartbeats 40000000 in
theorem own_is_0_0_met (l : Launch) (Z : State) (a0 : Array Value) (hw : ∀ d ∈ tables_1, d.before a0 Z = true) (a : Addr) (b : Addr) (kd wW tx : Addr) (v1 v2 : Addr) (k1 k2 : ClassId) (h0 : Heap) (cs : Int32) (Cs : Sta Z h0 "java/lang/String" "COMPACT_STRINGS" "Z" (.int cs)) (hcs : ¬ cs = (0 : Int32)) (hne : tx ≠ b) (SW : Sta Z h0 "com/example/nimble_gate/nimblegate/policy/Token$Kind" "SYMBOL" "Lcom/example/nimble_gate/nimblegate/policy/Token$Kind;" (.ref wW)) (Fk : Fld Z h0 a "com/example/nimble_gate/nimblegate/policy/Token" "kind" "Lcom/example/nimble_gate/nimblegate/policy/Token$Kind;" (.ref kd)) (Ft : Fld Z h0 a "com/example/nimble_gate/nimblegate/policy/Token" "text" "Ljava/lang/String;" (.ref tx))(E1 : Exa Z h0 tx "java/lang/String") (V1 : Fld Z h0 tx "java/lang/String" "value" "[B" (.ref v1)) (C1 : Fld Z h0 tx "java/lang/String" "coder" "B" (.int 0)) (A1 : own_A Z h0 v1 .byte k1 [])(E2 : Exa Z h0 b "java/lang/String") (V2 : Fld Z h0 b "java/lang/String" "value" "[B" (.ref v2)) (C2 : Fld Z h0 b "java/lang/String" "coder" "B" (.int 0)) (A2 : own_A Z h0 v2 .byte k2 []) :
    own_Met l (⟨"com/example/nimble_gate/nimblegate/policy/Token", "isSymbol", "(Ljava/lang/String;)Z"⟩ : MethodName) prog_15_method_3_code 2 (some .boolean) [] ({ frames := 2, cells := 0, slots := 0, locals := 28 } : Room) Z #[(.ref a), (.ref b)] h0 (fun rv rh rL => rv = some (.int (own_is_0_0 a b kd wW tx v1 v2 k1 k2 )) ∧ rh = h0 ∧ rL = []) := by
  refine own_enter (plainFor_of_name pn_4) ?_
  intro p e s m below meth c T0 hx hby hml hret hlk hown hnm hZ X0 e0
  refine own_at (g' := (mkF m 0 #[oR a, oR b] [])) (by first | (simp [entryFrame, mkF, argsToLocals, Value.category]; done) | rfl) ?_
  show own_Go p e below _ T0 (mkF m 0 #[oR a, oR b] [])
  have K0 : Keep h0 h0 [] := Keep.refl h0 _
  have N0 : own_Fr h0.size h0.size [] := own_Fr.nil
  refine own_by (fun t_ k_ => XS.aloadN X0.here hx rfl (hb hby d8_0) rfl rfl  k_) ?_
  show own_Go p e below _ T0 (mkF m 1 #[oR a, oR b] [(.ref a)])
  refine own_getF X0 hx hZ hown (hw _ (List.mem_of_getElem? (i := 44) rfl)) e0 Fk (hb hby d8_1) ?_
  intro T1 XT1 eT1
  show own_Go p e below _ T1 (mkF m 4 #[oR a, oR b] [(.ref kd)])
  obtain ⟨T2, XT2, eT2, stT2⟩ := getS2 XT1 hx hZ hown (host := "") (Or.inl (hw _ (List.mem_of_getElem? (i := 57) rfl))) Via.refl eT1 SW (g := (mkF m 4 #[oR a, oR b] [(.ref kd)])) rfl (hb hby d8_4)
  refine own_by stT2 ?_
  show own_Go p e below _ T2 (mkF m 7 #[oR a, oR b] [(.ref wW), (.ref kd)])
  by_cases c7_2 : kd = wW
  · refine own_by (fun t_ k_ => Jvm.RoadKit.acmp (g := (mkF m 7 #[oR a, oR b] [(.ref wW), (.ref kd)])) XT2 hx rfl rfl rfl (pc0 := 7) (pc' := 10) (same := true) rfl (hb hby d8_7) rfl (decide_eq_true (congrArg Value.ref (c7_2))) (by decide) (by decide) k_) ?_
    show own_Go p e below _ T2 (mkF m 10 #[oR a, oR b] [])
    refine own_by (fun t_ k_ => XS.aloadN XT2.here hx rfl (hb hby d8_10) rfl rfl  k_) ?_
    show own_Go p e below _ T2 (mkF m 11 #[oR a, oR b] [(.ref a)])
    refine own_getF XT2 hx hZ hown (hw _ (List.mem_of_getElem? (i := 46) rfl)) eT2 Ft (hb hby d8_11) ?_
    intro T4 XT4 eT4
    show own_Go p e below _ T4 (mkF m 14 #[oR a, oR b] [(.ref tx)])
    refine own_by (fun t_ k_ => XS.aloadN XT4.here hx rfl (hb hby d8_14) rfl rfl  k_) ?_
    show own_Go p e below _ T4 (mkF m 15 #[oR a, oR b] [(.ref b), (.ref tx)])
    refine own_callV XT4 hx hZ hown (hw _ (List.mem_of_getElem? (i := 77) rfl)) (hw _ (List.mem_of_getElem? (i := 78) rfl)) (hw _ (List.mem_of_getElem? (i := 80) rfl)) (hw _ (List.mem_of_getElem? (i := 79) rfl)) (hw _ (List.mem_of_getElem? (i := 81) rfl)) (hw _ (List.mem_of_getElem? (i := 6) rfl)) (by decide) eT4 (b := tx) E1 (argsL := [(.ref b)]) (rest := []) (own_eq_0_0_met l Z a0 hw tx b v1 v2 k1 k2  h0 cs Cs hcs hne E1 V1 C1 A1 E2 V2 C2 A2) 0 (by decide) (by decide) (by rw [hml]; rfl) (lenOf pd_7 rfl) (Nat.le_of_eq rfl) (hb hby d8_15) (by decide) (by decide) (st := [(.ref b), (.ref tx)]) rfl ?_
    intro T5 LT5 vT5 XT5 hQT5
    obtain ⟨rfl, eT5, rfl⟩ := hQT5
    show own_Go p e below _ T5 (mkF m 18 #[oR a, oR b] [(.int (own_eq_0_0 tx b v1 v2 k1 k2 ))])
    have N6 := own_Fr.app N0 own_Fr.nil
    by_cases c18_6 : (own_eq_0_0 tx b v1 v2 k1 k2 ) = (0 : Int32)
    · refine own_by (fun t_ k_ => XS.ifYes XT5.here hx rfl (pc0 := 18) (pc' := 25) rfl (hb hby d8_18) rfl (XT.i0_eq_t c18_6) (by decide) (by decide) k_) ?_
      show own_Go p e below _ T5 (mkF m 25 #[oR a, oR b] [])
      refine own_by (fun t_ k_ => XT.iconstV XT5.here hx rfl (0 : Int32) (hb hby d8_25) (by decide) k_) ?_
      show own_Go p e below _ T5 (mkF m 26 #[oR a, oR b] [(.int (0 : Int32))])
      exact own_retN XT5 hx hlk hret (by simp) (w := (0 : Int32)) (hb hby d8_26) (by decide) (by decide) (by decide) (⟨by rw [own_is_0_0, if_pos c7_2, if_pos c18_6], eT5, rfl⟩)
    · refine own_by (fun t_ k_ => XS.ifNo XT5.here hx rfl (hb hby d8_18) rfl (XT.i0_eq_f c18_6) k_) ?_
      show own_Go p e below _ T5 (mkF m 21 #[oR a, oR b] [])
      refine own_by (fun t_ k_ => XT.iconstV XT5.here hx rfl (1 : Int32) (hb hby d8_21) (by decide) k_) ?_
      show own_Go p e below _ T5 (mkF m 22 #[oR a, oR b] [(.int (1 : Int32))])
      refine own_by (fun t_ k_ => XS.goto XT5.here hx rfl (pc0 := 22) (pc' := 26) rfl (hb hby d8_22) (by decide) (by decide) k_) ?_
      show own_Go p e below _ T5 (mkF m 26 #[oR a, oR b] [(.int (1 : Int32))])
      exact own_retN XT5 hx hlk hret (by simp) (w := (1 : Int32)) (hb hby d8_26) (by decide) (by decide) (by decide) (⟨by rw [own_is_0_0, if_pos c7_2, if_neg c18_6], eT5, rfl⟩)
  · refine own_by (fun t_ k_ => Jvm.RoadKit.acmp (g := (mkF m 7 #[oR a, oR b] [(.ref wW), (.ref kd)])) XT2 hx rfl rfl rfl (pc0 := 7) (pc' := 25) (same := false) rfl (hb hby d8_7) rfl (decide_eq_false fun q => (c7_2) (Value.ref.inj q)) (by decide) (by decide) k_) ?_
    show own_Go p e below _ T2 (mkF m 25 #[oR a, oR b] [])
    refine own_by (fun t_ k_ => XT.iconstV XT2.here hx rfl (0 : Int32) (hb hby d8_25) (by decide) k_) ?_
    show own_Go p e below _ T2 (mkF m 26 #[oR a, oR b] [(.int (0 : Int32))])
    exact own_retN XT2 hx hlk hret (by simp) (w := (0 : Int32)) (hb hby d8_26) (by decide) (by decide) (by decide) (⟨by rw [own_is_0_0, if_neg c7_2], eT2, rfl⟩)
def own_le_0_1 (v1 : Addr) (v2 : Addr) (k1 k2 : ClassId) (y0 : Int32) : Int32 := (0 : Int32)
theorem d13_34 : decode jdk_43_method_13_code 34 = .ok (.iconst 0, 1) := by decide +kernel
theorem d13_35 : decode jdk_43_method_13_code 35 = .ok (.ireturn, 1) := by decide +kernel
set_option maxRecDepth 65536 in
set_option maxHeartbeats 40000000 in
theorem own_le_0_1_met (l : Launch) (Z : State) (a0 : Array Value) (hw : ∀ d ∈ tables_1, d.before a0 Z = true) (v1 : Addr) (v2 : Addr) (k1 k2 : ClassId) (y0 : Int32) (h0 : Heap) (A1 : own_A Z h0 v1 .byte k1 []) (A2 : own_A Z h0 v2 .byte k2 [(.int y0)]) :
    own_Met l (⟨"java/lang/StringLatin1", "equals", "([B[B)Z"⟩ : MethodName) jdk_43_method_13_code 3 (some .boolean) [] ({ frames := 0, cells := 0, slots := 0, locals := 0 } : Room) Z #[(.ref v1), (.ref v2)] h0 (fun rv rh rL => rv = some (.int (own_le_0_1 v1 v2 k1 k2 y0)) ∧ rh = h0 ∧ rL = []) := by
  refine own_enter (plainFor_of_name pn_5) ?_
  intro p e s m below meth c T0 hx hby hml hret hlk hown hnm hZ X0 e0
  refine own_at (g' := (mkF m 0 #[oR v1, oR v2, .unset] [])) (by first | (simp [entryFrame, mkF, argsToLocals, Value.category]; done) | rfl) ?_
  show own_Go p e below _ T0 (mkF m 0 #[oR v1, oR v2, .unset] [])
  have K0 : Keep h0 h0 [] := Keep.refl h0 _
  have N0 : own_Fr h0.size h0.size [] := own_Fr.nil
  refine own_by (fun t_ k_ => XS.aloadN X0.here hx rfl (hb hby d13_0) rfl rfl  k_) ?_
  show own_Go p e below _ T0 (mkF m 1 #[oR v1, oR v2, .unset] [(.ref v1)])
  refine own_len X0 hx hZ e0 A1 (0 : Int32) rfl (hb hby d13_1) ?_
  show own_Go p e below _ T0 (mkF m 2 #[oR v1, oR v2, .unset] [(.int (0 : Int32))])
  refine own_by (fun t_ k_ => XS.aloadN X0.here hx rfl (hb hby d13_2) rfl rfl  k_) ?_
  show own_Go p e below _ T0 (mkF m 3 #[oR v1, oR v2, .unset] [(.ref v2), (.int (0 : Int32))])
  refine own_len X0 hx hZ e0 A2 (1 : Int32) rfl (hb hby d13_3) ?_
  show own_Go p e below _ T0 (mkF m 4 #[oR v1, oR v2, .unset] [(.int (1 : Int32)), (.int (0 : Int32))])
  refine own_by (fun t_ k_ => XS.icmpYes X0.here hx rfl (pc0 := 4) (pc' := 34) rfl (hb hby d13_4) rfl (XT.ii_ne_t (by decide)) (by decide) (by decide) k_) ?_
  show own_Go p e below _ T0 (mkF m 34 #[oR v1, oR v2, .unset] [])
  refine own_by (fun t_ k_ => XT.iconstV X0.here hx rfl (0 : Int32) (hb hby d13_34) (by decide) k_) ?_
  show own_Go p e below _ T0 (mkF m 35 #[oR v1, oR v2, .unset] [(.int (0 : Int32))])
  exact own_retN X0 hx hlk hret (by simp) (w := (0 : Int32)) (hb hby d13_35) (by decide) (by decide) (by decide) (⟨by rw [own_le_0_1], e0, rfl⟩)
def own_eq_0_1 (a : Addr) (b : Addr) (v1 v2 : Addr) (k1 k2 : ClassId) (y0 : Int32) : Int32 := (if (own_le_0_1 v1 v2 k1 k2 y0) = (0 : Int32) then (0 : Int32) else (1 : Int32))
set_option maxRecDepth 65536 in
set_option maxHeartbeats 40000000 in
theorem own_eq_0_1_met (l : Launch) (Z : State) (a0 : Array Value) (hw : ∀ d ∈ tables_1, d.before a0 Z = true) (a : Addr) (b : Addr) (v1 v2 : Addr) (k1 k2 : ClassId) (y0 : Int32) (h0 : Heap) (cs : Int32) (Cs : Sta Z h0 "java/lang/String" "COMPACT_STRINGS" "Z" (.int cs)) (hcs : ¬ cs = (0 : Int32)) (hne : a ≠ b) (E1 : Exa Z h0 a "java/lang/String") (V1 : Fld Z h0 a "java/lang/String" "value" "[B" (.ref v1)) (C1 : Fld Z h0 a "java/lang/String" "coder" "B" (.int 0)) (A1 : own_A Z h0 v1 .byte k1 [])(E2 : Exa Z h0 b "java/lang/String") (V2 : Fld Z h0 b "java/lang/String" "value" "[B" (.ref v2)) (C2 : Fld Z h0 b "java/lang/String" "coder" "B" (.int 0)) (A2 : own_A Z h0 v2 .byte k2 [(.int y0)]) :
    own_Met l (⟨"java/lang/String", "equals", "(Ljava/lang/Object;)Z"⟩ : MethodName) jdk_42_method_66_code 3 (some .boolean) [] ({ frames := 1, cells := 0, slots := 0, locals := 14 } : Room) Z #[(.ref a), (.ref b)] h0 (fun rv rh rL => rv = some (.int (own_eq_0_1 a b v1 v2 k1 k2 y0)) ∧ rh = h0 ∧ rL = []) := by
  refine own_enter (plainFor_of_name pn_1) ?_
  intro p e s m below meth c T0 hx hby hml hret hlk hown hnm hZ X0 e0
  refine own_at (g' := (mkF m 0 #[oR a, oR b, .unset] [])) (by first | (simp [entryFrame, mkF, argsToLocals, Value.category]; done) | rfl) ?_
  show own_Go p e below _ T0 (mkF m 0 #[oR a, oR b, .unset] [])
  have K0 : Keep h0 h0 [] := Keep.refl h0 _
  have N0 : own_Fr h0.size h0.size [] := own_Fr.nil
  refine own_by (fun t_ k_ => XS.aloadN X0.here hx rfl (hb hby d12_0) rfl rfl  k_) ?_
  show own_Go p e below _ T0 (mkF m 1 #[oR a, oR b, .unset] [(.ref a)])
  refine own_by (fun t_ k_ => XS.aloadN X0.here hx rfl (hb hby d12_1) rfl rfl  k_) ?_
  show own_Go p e below _ T0 (mkF m 2 #[oR a, oR b, .unset] [(.ref b), (.ref a)])
  refine own_by (fun t_ k_ => Jvm.RoadKit.acmp (g := (mkF m 2 #[oR a, oR b, .unset] [(.ref b), (.ref a)])) X0 hx rfl rfl rfl (pc0 := 2) (pc' := 7) (same := false) rfl (hb hby d12_2) rfl (decide_eq_false fun q => (hne) (Value.ref.inj q)) (by decide) (by decide) k_) ?_
  show own_Go p e below _ T0 (mkF m 7 #[oR a, oR b, .unset] [])
  refine own_by (fun t_ k_ => XS.aloadN X0.here hx rfl (hb hby d12_7) rfl rfl  k_) ?_
  show own_Go p e below _ T0 (mkF m 8 #[oR a, oR b, .unset] [(.ref b)])
  refine own_inst X0 hx hZ hown (hw _ (List.mem_of_getElem? (i := 82) rfl)) e0 E2 (hb hby d12_8) ?_
  intro T1 XT1 eT1
  show own_Go p e below _ T1 (mkF m 11 #[oR a, oR b, .unset] [(.int (1 : Int32))])
  refine own_by (fun t_ k_ => XS.ifNo XT1.here hx rfl (hb hby d12_11) rfl (XT.i0_eq_f (by decide)) k_) ?_
  show own_Go p e below _ T1 (mkF m 14 #[oR a, oR b, .unset] [])
  refine own_by (fun t_ k_ => XS.aloadN XT1.here hx rfl (hb hby d12_14) rfl rfl  k_) ?_
  show own_Go p e below _ T1 (mkF m 15 #[oR a, oR b, .unset] [(.ref b)])
  refine own_cast XT1 hx hZ hown (hw _ (List.mem_of_getElem? (i := 82) rfl)) eT1 E2 (hb hby d12_15) ?_
  intro T2 XT2 eT2
  show own_Go p e below _ T2 (mkF m 18 #[oR a, oR b, .unset] [(.ref b)])
  refine own_by (fun t_ k_ => XS.astoreN XT2.here hx rfl (hb hby d12_18) rfl rfl (l' := #[oR a, oR b, oR b]) rfl k_) ?_
  show own_Go p e below _ T2 (mkF m 19 #[oR a, oR b, oR b] [])
  obtain ⟨T3, XT3, eT3, stT3⟩ := getS2 XT2 hx hZ hown (host := "") (Or.inl (hw _ (List.mem_of_getElem? (i := 59) rfl))) Via.refl eT2 Cs (g := (mkF m 19 #[oR a, oR b, oR b] [])) rfl (hb hby d12_19)
  refine own_by stT3 ?_
  show own_Go p e below _ T3 (mkF m 22 #[oR a, oR b, oR b] [(.int cs)])
  refine own_by (fun t_ k_ => XS.ifNo XT3.here hx rfl (hb hby d12_22) rfl (XT.i0_eq_f hcs) k_) ?_
  show own_Go p e below _ T3 (mkF m 25 #[oR a, oR b, oR b] [])
  refine own_by (fun t_ k_ => XS.aloadN XT3.here hx rfl (hb hby d12_25) rfl rfl  k_) ?_
  show own_Go p e below _ T3 (mkF m 26 #[oR a, oR b, oR b] [(.ref a)])
  refine own_getF XT3 hx hZ hown (hw _ (List.mem_of_getElem? (i := 25) rfl)) eT3 C1 (hb hby d12_26) ?_
  intro T4 XT4 eT4
  show own_Go p e below _ T4 (mkF m 29 #[oR a, oR b, oR b] [(.int (0 : Int32))])
  refine own_by (fun t_ k_ => XS.aloadN XT4.here hx rfl (hb hby d12_29) rfl rfl  k_) ?_
  show own_Go p e below _ T4 (mkF m 30 #[oR a, oR b, oR b] [(.ref b), (.int (0 : Int32))])
  refine own_getF XT4 hx hZ hown (hw _ (List.mem_of_getElem? (i := 25) rfl)) eT4 C2 (hb hby d12_30) ?_
  intro T5 XT5 eT5
  show own_Go p e below _ T5 (mkF m 33 #[oR a, oR b, oR b] [(.int (0 : Int32)), (.int (0 : Int32))])
  refine own_by (fun t_ k_ => XS.icmpNo XT5.here hx rfl (hb hby d12_33) rfl (XT.ii_ne_f (by decide)) k_) ?_
  show own_Go p e below _ T5 (mkF m 36 #[oR a, oR b, oR b] [])
  refine own_by (fun t_ k_ => XS.aloadN XT5.here hx rfl (hb hby d12_36) rfl rfl  k_) ?_
  show own_Go p e below _ T5 (mkF m 37 #[oR a, oR b, oR b] [(.ref a)])
  refine own_getF XT5 hx hZ hown (hw _ (List.mem_of_getElem? (i := 24) rfl)) eT5 V1 (hb hby d12_37) ?_
  intro T6 XT6 eT6
  show own_Go p e below _ T6 (mkF m 40 #[oR a, oR b, oR b] [(.ref v1)])
  refine own_by (fun t_ k_ => XS.aloadN XT6.here hx rfl (hb hby d12_40) rfl rfl  k_) ?_
  show own_Go p e below _ T6 (mkF m 41 #[oR a, oR b, oR b] [(.ref b), (.ref v1)])
  refine own_getF XT6 hx hZ hown (hw _ (List.mem_of_getElem? (i := 24) rfl)) eT6 V2 (hb hby d12_41) ?_
  intro T7 XT7 eT7
  show own_Go p e below _ T7 (mkF m 44 #[oR a, oR b, oR b] [(.ref v2), (.ref v1)])
  refine own_callS XT7 hx hZ hown (hw _ (List.mem_of_getElem? (i := 83) rfl)) (hw _ (List.mem_of_getElem? (i := 84) rfl)) (hw _ (List.mem_of_getElem? (i := 85) rfl)) (hw _ (List.mem_of_getElem? (i := 86) rfl)) (by decide) eT7 (argsL := [(.ref v1), (.ref v2)]) (rest := []) (own_le_0_1_met l Z a0 hw v1 v2 k1 k2 y0 h0 A1 A2) 0 (by decide) (by decide) (by rw [hml]; rfl) (lenOf pd_6 rfl) (Nat.le_of_eq rfl) (hb hby d12_44) (by decide) (by decide) (st := [(.ref v2), (.ref v1)]) rfl ?_
  intro T8 LT8 vT8 XT8 hQT8
  obtain ⟨rfl, eT8, rfl⟩ := hQT8
  show own_Go p e below _ T8 (mkF m 47 #[oR a, oR b, oR b] [(.int (own_le_0_1 v1 v2 k1 k2 y0))])
  have N9 := own_Fr.app N0 own_Fr.nil
  by_cases c47_9 : (own_le_0_1 v1 v2 k1 k2 y0) = (0 : Int32)
  · refine own_by (fun t_ k_ => XS.ifYes XT8.here hx rfl (pc0 := 47) (pc' := 54) rfl (hb hby d12_47) rfl (XT.i0_eq_t c47_9) (by decide) (by decide) k_) ?_
    show own_Go p e below _ T8 (mkF m 54 #[oR a, oR b, oR b] [])
    refine own_by (fun t_ k_ => XT.iconstV XT8.here hx rfl (0 : Int32) (hb hby d12_54) (by decide) k_) ?_
    show own_Go p e below _ T8 (mkF m 55 #[oR a, oR b, oR b] [(.int (0 : Int32))])
    exact own_retN XT8 hx hlk hret (by simp) (w := (0 : Int32)) (hb hby d12_55) (by decide) (by decide) (by decide) (⟨by rw [own_eq_0_1, if_pos c47_9], eT8, rfl⟩)
  · refine own_by (fun t_ k_ => XS.ifNo XT8.here hx rfl (hb hby d12_47) rfl (XT.i0_eq_f c47_9) k_) ?_
    show own_Go p e below _ T8 (mkF m 50 #[oR a, oR b, oR b] [])
    refine own_by (fun t_ k_ => XT.iconstV XT8.here hx rfl (1 : Int32) (hb hby d12_50) (by decide) k_) ?_
    show own_Go p e below _ T8 (mkF m 51 #[oR a, oR b, oR b] [(.int (1 : Int32))])
    refine own_by (fun t_ k_ => XS.goto XT8.here hx rfl (pc0 := 51) (pc' := 55) rfl (hb hby d12_51) (by decide) (by decide) k_) ?_
    show own_Go p e below _ T8 (mkF m 55 #[oR a, oR b, oR b] [(.int (1 : Int32))])
    exact own_retN XT8 hx hlk hret (by simp) (w := (1 : Int32)) (hb hby d12_55) (by decide) (by decide) (by decide) (⟨by rw [own_eq_0_1, if_neg c47_9], eT8, rfl⟩)
def own_is_0_1 (a : Addr) (b : Addr) (kd wW tx : Addr) (v1 v2 : Addr) (k1 k2 : ClassId) (y0 : Int32) : Int32 := (if kd = wW then (if (own_eq_0_1 tx b v1 v2 k1 k2 y0) = (0 : Int32) then (0 : Int32) else (1 : Int32)) else (0 : Int32))
set_option maxRecDepth 65536 in
set_option maxHeartbeats 40000000 in
theorem own_is_0_1_met (l : Launch) (Z : State) (a0 : Array Value) (hw : ∀ d ∈ tables_1, d.before a0 Z = true) (a : Addr) (b : Addr) (kd wW tx : Addr) (v1 v2 : Addr) (k1 k2 : ClassId) (y0 : Int32) (h0 : Heap) (cs : Int32) (Cs : Sta Z h0 "java/lang/String" "COMPACT_STRINGS" "Z" (.int cs)) (hcs : ¬ cs = (0 : Int32)) (hne : tx ≠ b) (SW : Sta Z h0 "com/example/nimble_gate/nimblegate/policy/Token$Kind" "SYMBOL" "Lcom/example/nimble_gate/nimblegate/policy/Token$Kind;" (.ref wW)) (Fk : Fld Z h0 a "com/example/nimble_gate/nimblegate/policy/Token" "kind" "Lcom/example/nimble_gate/nimblegate/policy/Token$Kind;" (.ref kd)) (Ft : Fld Z h0 a "com/example/nimble_gate/nimblegate/policy/Token" "text" "Ljava/lang/String;" (.ref tx))(E1 : Exa Z h0 tx "java/lang/String") (V1 : Fld Z h0 tx "java/lang/String" "value" "[B" (.ref v1)) (C1 : Fld Z h0 tx "java/lang/String" "coder" "B" (.int 0)) (A1 : own_A Z h0 v1 .byte k1 [])(E2 : Exa Z h0 b "java/lang/String") (V2 : Fld Z h0 b "java/lang/String" "value" "[B" (.ref v2)) (C2 : Fld Z h0 b "java/lang/String" "coder" "B" (.int 0)) (A2 : own_A Z h0 v2 .byte k2 [(.int y0)]) :
    own_Met l (⟨"com/example/nimble_gate/nimblegate/policy/Token", "isSymbol", "(Ljava/lang/String;)Z"⟩ : MethodName) prog_15_method_3_code 2 (some .boolean) [] ({ frames := 2, cells := 0, slots := 0, locals := 28 } : Room) Z #[(.ref a), (.ref b)] h0 (fun rv rh rL => rv = some (.int (own_is_0_1 a b kd wW tx v1 v2 k1 k2 y0)) ∧ rh = h0 ∧ rL = []) := by
  refine own_enter (plainFor_of_name pn_4) ?_
  intro p e s m below meth c T0 hx hby hml hret hlk hown hnm hZ X0 e0
  refine own_at (g' := (mkF m 0 #[oR a, oR b] [])) (by first | (simp [entryFrame, mkF, argsToLocals, Value.category]; done) | rfl) ?_
  show own_Go p e below _ T0 (mkF m 0 #[oR a, oR b] [])
  have K0 : Keep h0 h0 [] := Keep.refl h0 _
  have N0 : own_Fr h0.size h0.size [] := own_Fr.nil
  refine own_by (fun t_ k_ => XS.aloadN X0.here hx rfl (hb hby d8_0) rfl rfl  k_) ?_
  show own_Go p e below _ T0 (mkF m 1 #[oR a, oR b] [(.ref a)])
  refine own_getF X0 hx hZ hown (hw _ (List.mem_of_getElem? (i := 44) rfl)) e0 Fk (hb hby d8_1) ?_
  intro T1 XT1 eT1
  show own_Go p e below _ T1 (mkF m 4 #[oR a, oR b] [(.ref kd)])
  obtain ⟨T2, XT2, eT2, stT2⟩ := getS2 XT1 hx hZ hown (host := "") (Or.inl (hw _ (List.mem_of_getElem? (i := 57) rfl))) Via.refl eT1 SW (g := (mkF m 4 #[oR a, oR b] [(.ref kd)])) rfl (hb hby d8_4)
  refine own_by stT2 ?_
  show own_Go p e below _ T2 (mkF m 7 #[oR a, oR b] [(.ref wW), (.ref kd)])
  by_cases c7_2 : kd = wW
  · refine own_by (fun t_ k_ => Jvm.RoadKit.acmp (g := (mkF m 7 #[oR a, oR b] [(.ref wW), (.ref kd)])) XT2 hx rfl rfl rfl (pc0 := 7) (pc' := 10) (same := true) rfl (hb hby d8_7) rfl (decide_eq_true (congrArg Value.ref (c7_2))) (by decide) (by decide) k_) ?_
    show own_Go p e below _ T2 (mkF m 10 #[oR a, oR b] [])
    refine own_by (fun t_ k_ => XS.aloadN XT2.here hx rfl (hb hby d8_10) rfl rfl  k_) ?_
    show own_Go p e below _ T2 (mkF m 11 #[oR a, oR b] [(.ref a)])
    refine own_getF XT2 hx hZ hown (hw _ (List.mem_of_getElem? (i := 46) rfl)) eT2 Ft (hb hby d8_11) ?_
    intro T4 XT4 eT4
    show own_Go p e below _ T4 (mkF m 14 #[oR a, oR b] [(.ref tx)])
    refine own_by (fun t_ k_ => XS.aloadN XT4.here hx rfl (hb hby d8_14) rfl rfl  k_) ?_
    show own_Go p e below _ T4 (mkF m 15 #[oR a, oR b] [(.ref b), (.ref tx)])
    refine own_callV XT4 hx hZ hown (hw _ (List.mem_of_getElem? (i := 77) rfl)) (hw _ (List.mem_of_getElem? (i := 78) rfl)) (hw _ (List.mem_of_getElem? (i := 80) rfl)) (hw _ (List.mem_of_getElem? (i := 79) rfl)) (hw _ (List.mem_of_getElem? (i := 81) rfl)) (hw _ (List.mem_of_getElem? (i := 6) rfl)) (by decide) eT4 (b := tx) E1 (argsL := [(.ref b)]) (rest := []) (own_eq_0_1_met l Z a0 hw tx b v1 v2 k1 k2 y0 h0 cs Cs hcs hne E1 V1 C1 A1 E2 V2 C2 A2) 0 (by decide) (by decide) (by rw [hml]; rfl) (lenOf pd_7 rfl) (Nat.le_of_eq rfl) (hb hby d8_15) (by decide) (by decide) (st := [(.ref b), (.ref tx)]) rfl ?_
    intro T5 LT5 vT5 XT5 hQT5
    obtain ⟨rfl, eT5, rfl⟩ := hQT5
    show own_Go p e below _ T5 (mkF m 18 #[oR a, oR b] [(.int (own_eq_0_1 tx b v1 v2 k1 k2 y0))])
    have N6 := own_Fr.app N0 own_Fr.nil
    by_cases c18_6 : (own_eq_0_1 tx b v1 v2 k1 k2 y0) = (0 : Int32)
    · refine own_by (fun t_ k_ => XS.ifYes XT5.here hx rfl (pc0 := 18) (pc' := 25) rfl (hb hby d8_18) rfl (XT.i0_eq_t c18_6) (by decide) (by decide) k_) ?_
      show own_Go p e below _ T5 (mkF m 25 #[oR a, oR b] [])
      refine own_by (fun t_ k_ => XT.iconstV XT5.here hx rfl (0 : Int32) (hb hby d8_25) (by decide) k_) ?_
      show own_Go p e below _ T5 (mkF m 26 #[oR a, oR b] [(.int (0 : Int32))])
      exact own_retN XT5 hx hlk hret (by simp) (w := (0 : Int32)) (hb hby d8_26) (by decide) (by decide) (by decide) (⟨by rw [own_is_0_1, if_pos c7_2, if_pos c18_6], eT5, rfl⟩)
    · refine own_by (fun t_ k_ => XS.ifNo XT5.here hx rfl (hb hby d8_18) rfl (XT.i0_eq_f c18_6) k_) ?_
      show own_Go p e below _ T5 (mkF m 21 #[oR a, oR b] [])
      refine own_by (fun t_ k_ => XT.iconstV XT5.here hx rfl (1 : Int32) (hb hby d8_21) (by decide) k_) ?_
      show own_Go p e below _ T5 (mkF m 22 #[oR a, oR b] [(.int (1 : Int32))])
      refine own_by (fun t_ k_ => XS.goto XT5.here hx rfl (pc0 := 22) (pc' := 26) rfl (hb hby d8_22) (by decide) (by decide) k_) ?_
      show own_Go p e below _ T5 (mkF m 26 #[oR a, oR b] [(.int (1 : Int32))])
      exact own_retN XT5 hx hlk hret (by simp) (w := (1 : Int32)) (hb hby d8_26) (by decide) (by decide) (by decide) (⟨by rw [own_is_0_1, if_pos c7_2, if_neg c18_6], eT5, rfl⟩)
  · refine own_by (fun t_ k_ => Jvm.RoadKit.acmp (g := (mkF m 7 #[oR a, oR b] [(.ref wW), (.ref kd)])) XT2 hx rfl rfl rfl (pc0 := 7) (pc' := 25) (same := false) rfl (hb hby d8_7) rfl (decide_eq_false fun q => (c7_2) (Value.ref.inj q)) (by decide) (by decide) k_) ?_
    show own_Go p e below _ T2 (mkF m 25 #[oR a, oR b] [])
    refine own_by (fun t_ k_ => XT.iconstV XT2.here hx rfl (0 : Int32) (hb hby d8_25) (by decide) k_) ?_
    show own_Go p e below _ T2 (mkF m 26 #[oR a, oR b] [(.int (0 : Int32))])
    exact own_retN XT2 hx hlk hret (by simp) (w := (0 : Int32)) (hb hby d8_26) (by decide) (by decide) (by decide) (⟨by rw [own_is_0_1, if_neg c7_2], eT2, rfl⟩)
def own_le_0_2 (v1 : Addr) (v2 : Addr) (k1 k2 : ClassId) (y0 y1 : Int32) : Int32 := (0 : Int32)
set_option maxRecDepth 65536 in
set_option maxHeartbeats 40000000 in
theorem own_le_0_2_met (l : Launch) (Z : State) (a0 : Array Value) (hw : ∀ d ∈ tables_1, d.before a0 Z = true) (v1 : Addr) (v2 : Addr) (k1 k2 : ClassId) (y0 y1 : Int32) (h0 : Heap) (A1 : own_A Z h0 v1 .byte k1 []) (A2 : own_A Z h0 v2 .byte k2 [(.int y0), (.int y1)]) :
    own_Met l (⟨"java/lang/StringLatin1", "equals", "([B[B)Z"⟩ : MethodName) jdk_43_method_13_code 3 (some .boolean) [] ({ frames := 0, cells := 0, slots := 0, locals := 0 } : Room) Z #[(.ref v1), (.ref v2)] h0 (fun rv rh rL => rv = some (.int (own_le_0_2 v1 v2 k1 k2 y0 y1)) ∧ rh = h0 ∧ rL = []) := by
  refine own_enter (plainFor_of_name pn_5) ?_
  intro p e s m below meth c T0 hx hby hml hret hlk hown hnm hZ X0 e0
  refine own_at (g' := (mkF m 0 #[oR v1, oR v2, .unset] [])) (by first | (simp [entryFrame, mkF, argsToLocals, Value.category]; done) | rfl) ?_
  show own_Go p e below _ T0 (mkF m 0 #[oR v1, oR v2, .unset] [])
  have K0 : Keep h0 h0 [] := Keep.refl h0 _
  have N0 : own_Fr h0.size h0.size [] := own_Fr.nil
  refine own_by (fun t_ k_ => XS.aloadN X0.here hx rfl (hb hby d13_0) rfl rfl  k_) ?_
  show own_Go p e below _ T0 (mkF m 1 #[oR v1, oR v2, .unset] [(.ref v1)])
  refine own_len X0 hx hZ e0 A1 (0 : Int32) rfl (hb hby d13_1) ?_
  show own_Go p e below _ T0 (mkF m 2 #[oR v1, oR v2, .unset] [(.int (0 : Int32))])
  refine own_by (fun t_ k_ => XS.aloadN X0.here hx rfl (hb hby d13_2) rfl rfl  k_) ?_
  show own_Go p e below _ T0 (mkF m 3 #[oR v1, oR v2, .unset] [(.ref v2), (.int (0 : Int32))])
  refine own_len X0 hx hZ e0 A2 (2 : Int32) rfl (hb hby d13_3) ?_
  show own_Go p e below _ T0 (mkF m 4 #[oR v1, oR v2, .unset] [(.int (2 : Int32)), (.int (0 : Int32))])
  refine own_by (fun t_ k_ => XS.icmpYes X0.here hx rfl (pc0 := 4) (pc' := 34) rfl (hb hby d13_4) rfl (XT.ii_ne_t (by decide)) (by decide) (by decide) k_) ?_
  show own_Go p e below _ T0 (mkF m 34 #[oR v1, oR v2, .unset] [])
  refine own_by (fun t_ k_ => XT.iconstV X0.here hx rfl (0 : Int32) (hb hby d13_34) (by decide) k_) ?_
  show own_Go p e below _ T0 (mkF m 35 #[oR v1, oR v2, .unset] [(.int (0 : Int32))])
  exact own_retN X0 hx hlk hret (by simp) (w := (0 : Int32)) (hb hby d13_35) (by decide) (by decide) (by decide) (⟨by rw [own_le_0_2], e0, rfl⟩)
def own_eq_0_2 (a : Addr) (b : Addr) (v1 v2 : Addr) (k1 k2 : ClassId) (y0 y1 : Int32) : Int32 := (if (own_le_0_2 v1 v2 k1 k2 y0 y1) = (0 : Int32) then (0 : Int32) else (1 : Int32))
set_option maxRecDepth 65536 in
set_option maxHeartbeats 40000000 in
theorem own_eq_0_2_met (l : Launch) (Z : State) (a0 : Array Value) (hw : ∀ d ∈ tables_1, d.before a0 Z = true) (a : Addr) (b : Addr) (v1 v2 : Addr) (k1 k2 : ClassId) (y0 y1 : Int32) (h0 : Heap) (cs : Int32) (Cs : Sta Z h0 "java/lang/String" "COMPACT_STRINGS" "Z" (.int cs)) (hcs : ¬ cs = (0 : Int32)) (hne : a ≠ b) (E1 : Exa Z h0 a "java/lang/String") (V1 : Fld Z h0 a "java/lang/String" "value" "[B" (.ref v1)) (C1 : Fld Z h0 a "java/lang/String" "coder" "B" (.int 0)) (A1 : own_A Z h0 v1 .byte k1 [])(E2 : Exa Z h0 b "java/lang/String") (V2 : Fld Z h0 b "java/lang/String" "value" "[B" (.ref v2)) (C2 : Fld Z h0 b "java/lang/String" "coder" "B" (.int 0)) (A2 : own_A Z h0 v2 .byte k2 [(.int y0), (.int y1)]) :
    own_Met l (⟨"java/lang/String", "equals", "(Ljava/lang/Object;)Z"⟩ : MethodName) jdk_42_method_66_code 3 (some .boolean) [] ({ frames := 1, cells := 0, slots := 0, locals := 14 } : Room) Z #[(.ref a), (.ref b)] h0 (fun rv rh rL => rv = some (.int (own_eq_0_2 a b v1 v2 k1 k2 y0 y1)) ∧ rh = h0 ∧ rL = []) := by
  refine own_enter (plainFor_of_name pn_1) ?_
  intro p e s m below meth c T0 hx hby hml hret hlk hown hnm hZ X0 e0
  refine own_at (g' := (mkF m 0 #[oR a, oR b, .unset] [])) (by first | (simp [entryFrame, mkF, argsToLocals, Value.category]; done) | rfl) ?_
  show own_Go p e below _ T0 (mkF m 0 #[oR a, oR b, .unset] [])
  have K0 : Keep h0 h0 [] := Keep.refl h0 _
  have N0 : own_Fr h0.size h0.size [] := own_Fr.nil
  refine own_by (fun t_ k_ => XS.aloadN X0.here hx rfl (hb hby d12_0) rfl rfl  k_) ?_
  show own_Go p e below _ T0 (mkF m 1 #[oR a, oR b, .unset] [(.ref a)])
  refine own_by (fun t_ k_ => XS.aloadN X0.here hx rfl (hb hby d12_1) rfl rfl  k_) ?_
  show own_Go p e below _ T0 (mkF m 2 #[oR a, oR b, .unset] [(.ref b), (.ref a)])
  refine own_by (fun t_ k_ => Jvm.RoadKit.acmp (g := (mkF m 2 #[oR a, oR b, .unset] [(.ref b), (.ref a)])) X0 hx rfl rfl rfl (pc0 := 2) (pc' := 7) (same := false) rfl (hb hby d12_2) rfl (decide_eq_false fun q => (hne) (Value.ref.inj q)) (by decide) (by decide) k_) ?_
  show own_Go p e below _ T0 (mkF m 7 #[oR a, oR b, .unset] [])
  refine own_by (fun t_ k_ => XS.aloadN X0.here hx rfl (hb hby d12_7) rfl rfl  k_) ?_
  show own_Go p e below _ T0 (mkF m 8 #[oR a, oR b, .unset] [(.ref b)])
  refine own_inst X0 hx hZ hown (hw _ (List.mem_of_getElem? (i := 82) rfl)) e0 E2 (hb hby d12_8) ?_
  intro T1 XT1 eT1
  show own_Go p e below _ T1 (mkF m 11 #[oR a, oR b, .unset] [(.int (1 : Int32))])
  refine own_by (fun t_ k_ => XS.ifNo XT1.here hx rfl (hb hby d12_11) rfl (XT.i0_eq_f (by decide)) k_) ?_
  show own_Go p e below _ T1 (mkF m 14 #[oR a, oR b, .unset] [])
  refine own_by (fun t_ k_ => XS.aloadN XT1.here hx rfl (hb hby d12_14) rfl rfl  k_) ?_
  show own_Go p e below _ T1 (mkF m 15 #[oR a, oR b, .unset] [(.ref b)])
  refine own_cast XT1 hx hZ hown (hw _ (List.mem_of_getElem? (i := 82) rfl)) eT1 E2 (hb hby d12_15) ?_
  intro T2 XT2 eT2
  show own_Go p e below _ T2 (mkF m 18 #[oR a, oR b, .unset] [(.ref b)])
  refine own_by (fun t_ k_ => XS.astoreN XT2.here hx rfl (hb hby d12_18) rfl rfl (l' := #[oR a, oR b, oR b]) rfl k_) ?_
  show own_Go p e below _ T2 (mkF m 19 #[oR a, oR b, oR b] [])
  obtain ⟨T3, XT3, eT3, stT3⟩ := getS2 XT2 hx hZ hown (host := "") (Or.inl (hw _ (List.mem_of_getElem? (i := 59) rfl))) Via.refl eT2 Cs (g := (mkF m 19 #[oR a, oR b, oR b] [])) rfl (hb hby d12_19)
  refine own_by stT3 ?_
  show own_Go p e below _ T3 (mkF m 22 #[oR a, oR b, oR b] [(.int cs)])
  refine own_by (fun t_ k_ => XS.ifNo XT3.here hx rfl (hb hby d12_22) rfl (XT.i0_eq_f hcs) k_) ?_
  show own_Go p e below _ T3 (mkF m 25 #[oR a, oR b, oR b] [])
  refine own_by (fun t_ k_ => XS.aloadN XT3.here hx rfl (hb hby d12_25) rfl rfl  k_) ?_
  show own_Go p e below _ T3 (mkF m 26 #[oR a, oR b, oR b] [(.ref a)])
  refine own_getF XT3 hx hZ hown (hw _ (List.mem_of_getElem? (i := 25) rfl)) eT3 C1 (hb hby d12_26) ?_
  intro T4 XT4 eT4
  show own_Go p e below _ T4 (mkF m 29 #[oR a, oR b, oR b] [(.int (0 : Int32))])
  refine own_by (fun t_ k_ => XS.aloadN XT4.here hx rfl (hb hby d12_29) rfl rfl  k_) ?_
  show own_Go p e below _ T4 (mkF m 30 #[oR a, oR b, oR b] [(.ref b), (.int (0 : Int32))])
  refine own_getF XT4 hx hZ hown (hw _ (List.mem_of_getElem? (i := 25) rfl)) eT4 C2 (hb hby d12_30) ?_
  intro T5 XT5 eT5
  show own_Go p e below _ T5 (mkF m 33 #[oR a, oR b, oR b] [(.int (0 : Int32)), (.int (0 : Int32))])
  refine own_by (fun t_ k_ => XS.icmpNo XT5.here hx rfl (hb hby d12_33) rfl (XT.ii_ne_f (by decide)) k_) ?_
  show own_Go p e below _ T5 (mkF m 36 #[oR a, oR b, oR b] [])
  refine own_by (fun t_ k_ => XS.aloadN XT5.here hx rfl (hb hby d12_36) rfl rfl  k_) ?_
  show own_Go p e below _ T5 (mkF m 37 #[oR a, oR b, oR b] [(.ref a)])
  refine own_getF XT5 hx hZ hown (hw _ (List.mem_of_getElem? (i := 24) rfl)) eT5 V1 (hb hby d12_37) ?_
  intro T6 XT6 eT6
  show own_Go p e below _ T6 (mkF m 40 #[oR a, oR b, oR b] [(.ref v1)])
  refine own_by (fun t_ k_ => XS.aloadN XT6.here hx rfl (hb hby d12_40) rfl rfl  k_) ?_
  show own_Go p e below _ T6 (mkF m 41 #[oR a, oR b, oR b] [(.ref b), (.ref v1)])
  refine own_getF XT6 hx hZ hown (hw _ (List.mem_of_getElem? (i := 24) rfl)) eT6 V2 (hb hby d12_41) ?_
  intro T7 XT7 eT7
  show own_Go p e below _ T7 (mkF m 44 #[oR a, oR b, oR b] [(.ref v2), (.ref v1)])
  refine own_callS XT7 hx hZ hown (hw _ (List.mem_of_getElem? (i := 83) rfl)) (hw _ (List.mem_of_getElem? (i := 84) rfl)) (hw _ (List.mem_of_getElem? (i := 85) rfl)) (hw _ (List.mem_of_getElem? (i := 86) rfl)) (by decide) eT7 (argsL := [(.ref v1), (.ref v2)]) (rest := []) (own_le_0_2_met l Z a0 hw v1 v2 k1 k2 y0 y1 h0 A1 A2) 0 (by decide) (by decide) (by rw [hml]; rfl) (lenOf pd_6 rfl) (Nat.le_of_eq rfl) (hb hby d12_44) (by decide) (by decide) (st := [(.ref v2), (.ref v1)]) rfl ?_
  intro T8 LT8 vT8 XT8 hQT8
  obtain ⟨rfl, eT8, rfl⟩ := hQT8
  show own_Go p e below _ T8 (mkF m 47 #[oR a, oR b, oR b] [(.int (own_le_0_2 v1 v2 k1 k2 y0 y1))])
  have N9 := own_Fr.app N0 own_Fr.nil
  by_cases c47_9 : (own_le_0_2 v1 v2 k1 k2 y0 y1) = (0 : Int32)
  · refine own_by (fun t_ k_ => XS.ifYes XT8.here hx rfl (pc0 := 47) (pc' := 54) rfl (hb hby d12_47) rfl (XT.i0_eq_t c47_9) (by decide) (by decide) k_) ?_
    show own_Go p e below _ T8 (mkF m 54 #[oR a, oR b, oR b] [])
    refine own_by (fun t_ k_ => XT.iconstV XT8.here hx rfl (0 : Int32) (hb hby d12_54) (by decide) k_) ?_
    show own_Go p e below _ T8 (mkF m 55 #[oR a, oR b, oR b] [(.int (0 : Int32))])
    exact own_retN XT8 hx hlk hret (by simp) (w := (0 : Int32)) (hb hby d12_55) (by decide) (by decide) (by decide) (⟨by rw [own_eq_0_2, if_pos c47_9], eT8, rfl⟩)
  · refine own_by (fun t_ k_ => XS.ifNo XT8.here hx rfl (hb hby d12_47) rfl (XT.i0_eq_f c47_9) k_) ?_
    show own_Go p e below _ T8 (mkF m 50 #[oR a, oR b, oR b] [])
    refine own_by (fun t_ k_ => XT.iconstV XT8.here hx rfl (1 : Int32) (hb hby d12_50) (by decide) k_) ?_
    show own_Go p e below _ T8 (mkF m 51 #[oR a, oR b, oR b] [(.int (1 : Int32))])
    refine own_by (fun t_ k_ => XS.goto XT8.here hx rfl (pc0 := 51) (pc' := 55) rfl (hb hby d12_51) (by decide) (by decide) k_) ?_
    show own_Go p e below _ T8 (mkF m 55 #[oR a, oR b, oR b] [(.int (1 : Int32))])
    exact own_retN XT8 hx hlk hret (by simp) (w := (1 : Int32)) (hb hby d12_55) (by decide) (by decide) (by decide) (⟨by rw [own_eq_0_2, if_neg c47_9], eT8, rfl⟩)
def own_is_0_2 (a : Addr) (b : Addr) (kd wW tx : Addr) (v1 v2 : Addr) (k1 k2 : ClassId) (y0 y1 : Int32) : Int32 := (if kd = wW then (if (own_eq_0_2 tx b v1 v2 k1 k2 y0 y1) = (0 : Int32) then (0 : Int32) else (1 : Int32)) else (0 : Int32))
set_option maxRecDepth 65536 in
set_option maxHeartbeats 40000000 in
theorem own_is_0_2_met (l : Launch) (Z : State) (a0 : Array Value) (hw : ∀ d ∈ tables_1, d.before a0 Z = true) (a : Addr) (b : Addr) (kd wW tx : Addr) (v1 v2 : Addr) (k1 k2 : ClassId) (y0 y1 : Int32) (h0 : Heap) (cs : Int32) (Cs : Sta Z h0 "java/lang/String" "COMPACT_STRINGS" "Z" (.int cs)) (hcs : ¬ cs = (0 : Int32)) (hne : tx ≠ b) (SW : Sta Z h0 "com/example/nimble_gate/nimblegate/policy/Token$Kind" "SYMBOL" "Lcom/example/nimble_gate/nimblegate/policy/Token$Kind;" (.ref wW)) (Fk : Fld Z h0 a "com/example/nimble_gate/nimblegate/policy/Token" "kind" "Lcom/example/nimble_gate/nimblegate/policy/Token$Kind;" (.ref kd)) (Ft : Fld Z h0 a "com/example/nimble_gate/nimblegate/policy/Token" "text" "Ljava/lang/String;" (.ref tx))(E1 : Exa Z h0 tx "java/lang/String") (V1 : Fld Z h0 tx "java/lang/String" "value" "[B" (.ref v1)) (C1 : Fld Z h0 tx "java/lang/String" "coder" "B" (.int 0)) (A1 : own_A Z h0 v1 .byte k1 [])(E2 : Exa Z h0 b "java/lang/String") (V2 : Fld Z h0 b "java/lang/String" "value" "[B" (.ref v2)) (C2 : Fld Z h0 b "java/lang/String" "coder" "B" (.int 0)) (A2 : own_A Z h0 v2 .byte k2 [(.int y0), (.int y1)]) :
    own_Met l (⟨"com/example/nimble_gate/nimblegate/policy/Token", "isSymbol", "(Ljava/lang/String;)Z"⟩ : MethodName) prog_15_method_3_code 2 (some .boolean) [] ({ frames := 2, cells := 0, slots := 0, locals := 28 } : Room) Z #[(.ref a), (.ref b)] h0 (fun rv rh rL => rv = some (.int (own_is_0_2 a b kd wW tx v1 v2 k1 k2 y0 y1)) ∧ rh = h0 ∧ rL = []) := by
  refine own_enter (plainFor_of_name pn_4) ?_
  intro p e s m below meth c T0 hx hby hml hret hlk hown hnm hZ X0 e0
  refine own_at (g' := (mkF m 0 #[oR a, oR b] [])) (by first | (simp [entryFrame, mkF, argsToLocals, Value.category]; done) | rfl) ?_
  show own_Go p e below _ T0 (mkF m 0 #[oR a, oR b] [])
  have K0 : Keep h0 h0 [] := Keep.refl h0 _
  have N0 : own_Fr h0.size h0.size [] := own_Fr.nil
  refine own_by (fun t_ k_ => XS.aloadN X0.here hx rfl (hb hby d8_0) rfl rfl  k_) ?_
  show own_Go p e below _ T0 (mkF m 1 #[oR a, oR b] [(.ref a)])
  refine own_getF X0 hx hZ hown (hw _ (List.mem_of_getElem? (i := 44) rfl)) e0 Fk (hb hby d8_1) ?_
  intro T1 XT1 eT1
  show own_Go p e below _ T1 (mkF m 4 #[oR a, oR b] [(.ref kd)])
  obtain ⟨T2, XT2, eT2, stT2⟩ := getS2 XT1 hx hZ hown (host := "") (Or.inl (hw _ (List.mem_of_getElem? (i := 57) rfl))) Via.refl eT1 SW (g := (mkF m 4 #[oR a, oR b] [(.ref kd)])) rfl (hb hby d8_4)
  refine own_by stT2 ?_
  show own_Go p e below _ T2 (mkF m 7 #[oR a, oR b] [(.ref wW), (.ref kd)])
  by_cases c7_2 : kd = wW
  · refine own_by (fun t_ k_ => Jvm.RoadKit.acmp (g := (mkF m 7 #[oR a, oR b] [(.ref wW), (.ref kd)])) XT2 hx rfl rfl rfl (pc0 := 7) (pc' := 10) (same := true) rfl (hb hby d8_7) rfl (decide_eq_true (congrArg Value.ref (c7_2))) (by decide) (by decide) k_) ?_
    show own_Go p e below _ T2 (mkF m 10 #[oR a, oR b] [])
    refine own_by (fun t_ k_ => XS.aloadN XT2.here hx rfl (hb hby d8_10) rfl rfl  k_) ?_
    show own_Go p e below _ T2 (mkF m 11 #[oR a, oR b] [(.ref a)])
    refine own_getF XT2 hx hZ hown (hw _ (List.mem_of_getElem? (i := 46) rfl)) eT2 Ft (hb hby d8_11) ?_
    intro T4 XT4 eT4
    show own_Go p e below _ T4 (mkF m 14 #[oR a, oR b] [(.ref tx)])
    refine own_by (fun t_ k_ => XS.aloadN XT4.here hx rfl (hb hby d8_14) rfl rfl  k_) ?_
    show own_Go p e below _ T4 (mkF m 15 #[oR a, oR b] [(.ref b), (.ref tx)])
    refine own_callV XT4 hx hZ hown (hw _ (List.mem_of_getElem? (i := 77) rfl)) (hw _ (List.mem_of_getElem? (i := 78) rfl)) (hw _ (List.mem_of_getElem? (i := 80) rfl)) (hw _ (List.mem_of_getElem? (i := 79) rfl)) (hw _ (List.mem_of_getElem? (i := 81) rfl)) (hw _ (List.mem_of_getElem? (i := 6) rfl)) (by decide) eT4 (b := tx) E1 (argsL := [(.ref b)]) (rest := []) (own_eq_0_2_met l Z a0 hw tx b v1 v2 k1 k2 y0 y1 h0 cs Cs hcs hne E1 V1 C1 A1 E2 V2 C2 A2) 0 (by decide) (by decide) (by rw [hml]; rfl) (lenOf pd_7 rfl) (Nat.le_of_eq rfl) (hb hby d8_15) (by decide) (by decide) (st := [(.ref b), (.ref tx)]) rfl ?_
    intro T5 LT5 vT5 XT5 hQT5
    obtain ⟨rfl, eT5, rfl⟩ := hQT5
    show own_Go p e below _ T5 (mkF m 18 #[oR a, oR b] [(.int (own_eq_0_2 tx b v1 v2 k1 k2 y0 y1))])
    have N6 := own_Fr.app N0 own_Fr.nil
    by_cases c18_6 : (own_eq_0_2 tx b v1 v2 k1 k2 y0 y1) = (0 : Int32)
    · refine own_by (fun t_ k_ => XS.ifYes XT5.here hx rfl (pc0 := 18) (pc' := 25) rfl (hb hby d8_18) rfl (XT.i0_eq_t c18_6) (by decide) (by decide) k_) ?_
      show own_Go p e below _ T5 (mkF m 25 #[oR a, oR b] [])
      refine own_by (fun t_ k_ => XT.iconstV XT5.here hx rfl (0 : Int32) (hb hby d8_25) (by decide) k_) ?_
      show own_Go p e below _ T5 (mkF m 26 #[oR a, oR b] [(.int (0 : Int32))])
      exact own_retN XT5 hx hlk hret (by simp) (w := (0 : Int32)) (hb hby d8_26) (by decide) (by decide) (by decide) (⟨by rw [own_is_0_2, if_pos c7_2, if_pos c18_6], eT5, rfl⟩)
    · refine own_by (fun t_ k_ => XS.ifNo XT5.here hx rfl (hb hby d8_18) rfl (XT.i0_eq_f c18_6) k_) ?_
      show own_Go p e below _ T5 (mkF m 21 #[oR a, oR b] [])
      refine own_by (fun t_ k_ => XT.iconstV XT5.here hx rfl (1 : Int32) (hb hby d8_21) (by decide) k_) ?_
      show own_Go p e below _ T5 (mkF m 22 #[oR a, oR b] [(.int (1 : Int32))])
      refine own_by (fun t_ k_ => XS.goto XT5.here hx rfl (pc0 := 22) (pc' := 26) rfl (hb hby d8_22) (by decide) (by decide) k_) ?_
      show own_Go p e below _ T5 (mkF m 26 #[oR a, oR b] [(.int (1 : Int32))])
      exact own_retN XT5 hx hlk hret (by simp) (w := (1 : Int32)) (hb hby d8_26) (by decide) (by decide) (by decide) (⟨by rw [own_is_0_2, if_pos c7_2, if_neg c18_6], eT5, rfl⟩)
  · refine own_by (fun t_ k_ => Jvm.RoadKit.acmp (g := (mkF m 7 #[oR a, oR b] [(.ref wW), (.ref kd)])) XT2 hx rfl rfl rfl (pc0 := 7) (pc' := 25) (same := false) rfl (hb hby d8_7) rfl (decide_eq_false fun q => (c7_2) (Value.ref.inj q)) (by decide) (by decide) k_) ?_
    show own_Go p e below _ T2 (mkF m 25 #[oR a, oR b] [])
    refine own_by (fun t_ k_ => XT.iconstV XT2.here hx rfl (0 : Int32) (hb hby d8_25) (by decide) k_) ?_
    show own_Go p e below _ T2 (mkF m 26 #[oR a, oR b] [(.int (0 : Int32))])
    exact own_retN XT2 hx hlk hret (by simp) (w := (0 : Int32)) (hb hby d8_26) (by decide) (by decide) (by decide) (⟨by rw [own_is_0_2, if_neg c7_2], eT2, rfl⟩)
def own_le_1_0 (v1 : Addr) (v2 : Addr) (k1 k2 : ClassId) (x0 : Int32) : Int32 := (0 : Int32)
set_option maxRecDepth 65536 in
set_option maxHeartbeats 40000000 in
theorem own_le_1_0_met (l : Launch) (Z : State) (a0 : Array Value) (hw : ∀ d ∈ tables_1, d.before a0 Z = true) (v1 : Addr) (v2 : Addr) (k1 k2 : ClassId) (x0 : Int32) (h0 : Heap) (A1 : own_A Z h0 v1 .byte k1 [(.int x0)]) (A2 : own_A Z h0 v2 .byte k2 []) :
    own_Met l (⟨"java/lang/StringLatin1", "equals", "([B[B)Z"⟩ : MethodName) jdk_43_method_13_code 3 (some .boolean) [] ({ frames := 0, cells := 0, slots := 0, locals := 0 } : Room) Z #[(.ref v1), (.ref v2)] h0 (fun rv rh rL => rv = some (.int (own_le_1_0 v1 v2 k1 k2 x0)) ∧ rh = h0 ∧ rL = []) := by
  refine own_enter (plainFor_of_name pn_5) ?_
  intro p e s m below meth c T0 hx hby hml hret hlk hown hnm hZ X0 e0
  refine own_at (g' := (mkF m 0 #[oR v1, oR v2, .unset] [])) (by first | (simp [entryFrame, mkF, argsToLocals, Value.category]; done) | rfl) ?_
  show own_Go p e below _ T0 (mkF m 0 #[oR v1, oR v2, .unset] [])
  have K0 : Keep h0 h0 [] := Keep.refl h0 _
  have N0 : own_Fr h0.size h0.size [] := own_Fr.nil
  refine own_by (fun t_ k_ => XS.aloadN X0.here hx rfl (hb hby d13_0) rfl rfl  k_) ?_
  show own_Go p e below _ T0 (mkF m 1 #[oR v1, oR v2, .unset] [(.ref v1)])
  refine own_len X0 hx hZ e0 A1 (1 : Int32) rfl (hb hby d13_1) ?_
  show own_Go p e below _ T0 (mkF m 2 #[oR v1, oR v2, .unset] [(.int (1 : Int32))])
  refine own_by (fun t_ k_ => XS.aloadN X0.here hx rfl (hb hby d13_2) rfl rfl  k_) ?_
  show own_Go p e below _ T0 (mkF m 3 #[oR v1, oR v2, .unset] [(.ref v2), (.int (1 : Int32))])
  refine own_len X0 hx hZ e0 A2 (0 : Int32) rfl (hb hby d13_3) ?_
  show own_Go p e below _ T0 (mkF m 4 #[oR v1, oR v2, .unset] [(.int (0 : Int32)), (.int (1 : Int32))])
  refine own_by (fun t_ k_ => XS.icmpYes X0.here hx rfl (pc0 := 4) (pc' := 34) rfl (hb hby d13_4) rfl (XT.ii_ne_t (by decide)) (by decide) (by decide) k_) ?_
  show own_Go p e below _ T0 (mkF m 34 #[oR v1, oR v2, .unset] [])
  refine own_by (fun t_ k_ => XT.iconstV X0.here hx rfl (0 : Int32) (hb hby d13_34) (by decide) k_) ?_
  show own_Go p e below _ T0 (mkF m 35 #[oR v1, oR v2, .unset] [(.int (0 : Int32))])
  exact own_retN X0 hx hlk hret (by simp) (w := (0 : Int32)) (hb hby d13_35) (by decide) (by decide) (by decide) (⟨by rw [own_le_1_0], e0, rfl⟩)
def own_eq_1_0 (a : Addr) (b : Addr) (v1 v2 : Addr) (k1 k2 : ClassId) (x0 : Int32) : Int32 := (if (own_le_1_0 v1 v2 k1 k2 x0) = (0 : Int32) then (0 : Int32) else (1 : Int32))
set_option maxRecDepth 65536 in
set_option maxHeartbeats 40000000 in
theorem own_eq_1_0_met (l : Launch) (Z : State) (a0 : Array Value) (hw : ∀ d ∈ tables_1, d.before a0 Z = true) (a : Addr) (b : Addr) (v1 v2 : Addr) (k1 k2 : ClassId) (x0 : Int32) (h0 : Heap) (cs : Int32) (Cs : Sta Z h0 "java/lang/String" "COMPACT_STRINGS" "Z" (.int cs)) (hcs : ¬ cs = (0 : Int32)) (hne : a ≠ b) (E1 : Exa Z h0 a "java/lang/String") (V1 : Fld Z h0 a "java/lang/String" "value" "[B" (.ref v1)) (C1 : Fld Z h0 a "java/lang/String" "coder" "B" (.int 0)) (A1 : own_A Z h0 v1 .byte k1 [(.int x0)])(E2 : Exa Z h0 b "java/lang/String") (V2 : Fld Z h0 b "java/lang/String" "value" "[B" (.ref v2)) (C2 : Fld Z h0 b "java/lang/String" "coder" "B" (.int 0)) (A2 : own_A Z h0 v2 .byte k2 []) :
    own_Met l (⟨"java/lang/String", "equals", "(Ljava/lang/Object;)Z"⟩ : MethodName) jdk_42_method_66_code 3 (some .boolean) [] ({ frames := 1, cells := 0, slots := 0, locals := 14 } : Room) Z #[(.ref a), (.ref b)] h0 (fun rv rh rL => rv = some (.int (own_eq_1_0 a b v1 v2 k1 k2 x0)) ∧ rh = h0 ∧ rL = []) := by
  refine own_enter (plainFor_of_name pn_1) ?_
  intro p e s m below meth c T0 hx hby hml hret hlk hown hnm hZ X0 e0
  refine own_at (g' := (mkF m 0 #[oR a, oR b, .unset] [])) (by first | (simp [entryFrame, mkF, argsToLocals, Value.category]; done) | rfl) ?_
  show own_Go p e below _ T0 (mkF m 0 #[oR a, oR b, .unset] [])
  have K0 : Keep h0 h0 [] := Keep.refl h0 _
  have N0 : own_Fr h0.size h0.size [] := own_Fr.nil
  refine own_by (fun t_ k_ => XS.aloadN X0.here hx rfl (hb hby d12_0) rfl rfl  k_) ?_
  show own_Go p e below _ T0 (mkF m 1 #[oR a, oR b, .unset] [(.ref a)])
  refine own_by (fun t_ k_ => XS.aloadN X0.here hx rfl (hb hby d12_1) rfl rfl  k_) ?_
  show own_Go p e below _ T0 (mkF m 2 #[oR a, oR b, .unset] [(.ref b), (.ref a)])
  refine own_by (fun t_ k_ => Jvm.RoadKit.acmp (g := (mkF m 2 #[oR a, oR b, .unset] [(.ref b), (.ref a)])) X0 hx rfl rfl rfl (pc0 := 2) (pc' := 7) (same := false) rfl (hb hby d12_2) rfl (decide_eq_false fun q => (hne) (Value.ref.inj q)) (by decide) (by decide) k_) ?_
  show own_Go p e below _ T0 (mkF m 7 #[oR a, oR b, .unset] [])
  refine own_by (fun t_ k_ => XS.aloadN X0.here hx rfl (hb hby d12_7) rfl rfl  k_) ?_
  show own_Go p e below _ T0 (mkF m 8 #[oR a, oR b, .unset] [(.ref b)])
  refine own_inst X0 hx hZ hown (hw _ (List.mem_of_getElem? (i := 82) rfl)) e0 E2 (hb hby d12_8) ?_
  intro T1 XT1 eT1
  show own_Go p e below _ T1 (mkF m 11 #[oR a, oR b, .unset] [(.int (1 : Int32))])
  refine own_by (fun t_ k_ => XS.ifNo XT1.here hx rfl (hb hby d12_11) rfl (XT.i0_eq_f (by decide)) k_) ?_
  show own_Go p e below _ T1 (mkF m 14 #[oR a, oR b, .unset] [])
  refine own_by (fun t_ k_ => XS.aloadN XT1.here hx rfl (hb hby d12_14) rfl rfl  k_) ?_
  show own_Go p e below _ T1 (mkF m 15 #[oR a, oR b, .unset] [(.ref b)])
  refine own_cast XT1 hx hZ hown (hw _ (List.mem_of_getElem? (i := 82) rfl)) eT1 E2 (hb hby d12_15) ?_
  intro T2 XT2 eT2
  show own_Go p e below _ T2 (mkF m 18 #[oR a, oR b, .unset] [(.ref b)])
  refine own_by (fun t_ k_ => XS.astoreN XT2.here hx rfl (hb hby d12_18) rfl rfl (l' := #[oR a, oR b, oR b]) rfl k_) ?_
  show own_Go p e below _ T2 (mkF m 19 #[oR a, oR b, oR b] [])
  obtain ⟨T3, XT3, eT3, stT3⟩ := getS2 XT2 hx hZ hown (host := "") (Or.inl (hw _ (List.mem_of_getElem? (i := 59) rfl))) Via.refl eT2 Cs (g := (mkF m 19 #[oR a, oR b, oR b] [])) rfl (hb hby d12_19)
  refine own_by stT3 ?_
  show own_Go p e below _ T3 (mkF m 22 #[oR a, oR b, oR b] [(.int cs)])
  refine own_by (fun t_ k_ => XS.ifNo XT3.here hx rfl (hb hby d12_22) rfl (XT.i0_eq_f hcs) k_) ?_
  show own_Go p e below _ T3 (mkF m 25 #[oR a, oR b, oR b] [])
  refine own_by (fun t_ k_ => XS.aloadN XT3.here hx rfl (hb hby d12_25) rfl rfl  k_) ?_
  show own_Go p e below _ T3 (mkF m 26 #[oR a, oR b, oR b] [(.ref a)])
  refine own_getF XT3 hx hZ hown (hw _ (List.mem_of_getElem? (i := 25) rfl)) eT3 C1 (hb hby d12_26) ?_
  intro T4 XT4 eT4
  show own_Go p e below _ T4 (mkF m 29 #[oR a, oR b, oR b] [(.int (0 : Int32))])
  refine own_by (fun t_ k_ => XS.aloadN XT4.here hx rfl (hb hby d12_29) rfl rfl  k_) ?_
  show own_Go p e below _ T4 (mkF m 30 #[oR a, oR b, oR b] [(.ref b), (.int (0 : Int32))])
  refine own_getF XT4 hx hZ hown (hw _ (List.mem_of_getElem? (i := 25) rfl)) eT4 C2 (hb hby d12_30) ?_
  intro T5 XT5 eT5
  show own_Go p e below _ T5 (mkF m 33 #[oR a, oR b, oR b] [(.int (0 : Int32)), (.int (0 : Int32))])
  refine own_by (fun t_ k_ => XS.icmpNo XT5.here hx rfl (hb hby d12_33) rfl (XT.ii_ne_f (by decide)) k_) ?_
  show own_Go p e below _ T5 (mkF m 36 #[oR a, oR b, oR b] [])
  refine own_by (fun t_ k_ => XS.aloadN XT5.here hx rfl (hb hby d12_36) rfl rfl  k_) ?_
  show own_Go p e below _ T5 (mkF m 37 #[oR a, oR b, oR b] [(.ref a)])
  refine own_getF XT5 hx hZ hown (hw _ (List.mem_of_getElem? (i := 24) rfl)) eT5 V1 (hb hby d12_37) ?_
  intro T6 XT6 eT6
  show own_Go p e below _ T6 (mkF m 40 #[oR a, oR b, oR b] [(.ref v1)])
  refine own_by (fun t_ k_ => XS.aloadN XT6.here hx rfl (hb hby d12_40) rfl rfl  k_) ?_
  show own_Go p e below _ T6 (mkF m 41 #[oR a, oR b, oR b] [(.ref b), (.ref v1)])
  refine own_getF XT6 hx hZ hown (hw _ (List.mem_of_getElem? (i := 24) rfl)) eT6 V2 (hb hby d12_41) ?_
  intro T7 XT7 eT7
  show own_Go p e below _ T7 (mkF m 44 #[oR a, oR b, oR b] [(.ref v2), (.ref v1)])
  refine own_callS XT7 hx hZ hown (hw _ (List.mem_of_getElem? (i := 83) rfl)) (hw _ (List.mem_of_getElem? (i := 84) rfl)) (hw _ (List.mem_of_getElem? (i := 85) rfl)) (hw _ (List.mem_of_getElem? (i := 86) rfl)) (by decide) eT7 (argsL := [(.ref v1), (.ref v2)]) (rest := []) (own_le_1_0_met l Z a0 hw v1 v2 k1 k2 x0 h0 A1 A2) 0 (by decide) (by decide) (by rw [hml]; rfl) (lenOf pd_6 rfl) (Nat.le_of_eq rfl) (hb hby d12_44) (by decide) (by decide) (st := [(.ref v2), (.ref v1)]) rfl ?_
  intro T8 LT8 vT8 XT8 hQT8
  obtain ⟨rfl, eT8, rfl⟩ := hQT8
  show own_Go p e below _ T8 (mkF m 47 #[oR a, oR b, oR b] [(.int (own_le_1_0 v1 v2 k1 k2 x0))])
  have N9 := own_Fr.app N0 own_Fr.nil
  by_cases c47_9 : (own_le_1_0 v1 v2 k1 k2 x0) = (0 : Int32)
  · refine own_by (fun t_ k_ => XS.ifYes XT8.here hx rfl (pc0 := 47) (pc' := 54) rfl (hb hby d12_47) rfl (XT.i0_eq_t c47_9) (by decide) (by decide) k_) ?_
    show own_Go p e below _ T8 (mkF m 54 #[oR a, oR b, oR b] [])
    refine own_by (fun t_ k_ => XT.iconstV XT8.here hx rfl (0 : Int32) (hb hby d12_54) (by decide) k_) ?_
    show own_Go p e below _ T8 (mkF m 55 #[oR a, oR b, oR b] [(.int (0 : Int32))])
    exact own_retN XT8 hx hlk hret (by simp) (w := (0 : Int32)) (hb hby d12_55) (by decide) (by decide) (by decide) (⟨by rw [own_eq_1_0, if_pos c47_9], eT8, rfl⟩)
  · refine own_by (fun t_ k_ => XS.ifNo XT8.here hx rfl (hb hby d12_47) rfl (XT.i0_eq_f c47_9) k_) ?_
    show own_Go p e below _ T8 (mkF m 50 #[oR a, oR b, oR b] [])
    refine own_by (fun t_ k_ => XT.iconstV XT8.here hx rfl (1 : Int32) (hb hby d12_50) (by decide) k_) ?_
    show own_Go p e below _ T8 (mkF m 51 #[oR a, oR b, oR b] [(.int (1 : Int32))])
    refine own_by (fun t_ k_ => XS.goto XT8.here hx rfl (pc0 := 51) (pc' := 55) rfl (hb hby d12_51) (by decide) (by decide) k_) ?_
    show own_Go p e below _ T8 (mkF m 55 #[oR a, oR b, oR b] [(.int (1 : Int32))])
    exact own_retN XT8 hx hlk hret (by simp) (w := (1 : Int32)) (hb hby d12_55) (by decide) (by decide) (by decide) (⟨by rw [own_eq_1_0, if_neg c47_9], eT8, rfl⟩)
def own_is_1_0 (a : Addr) (b : Addr) (kd wW tx : Addr) (v1 v2 : Addr) (k1 k2 : ClassId) (x0 : Int32) : Int32 := (if kd = wW then (if (own_eq_1_0 tx b v1 v2 k1 k2 x0) = (0 : Int32) then (0 : Int32) else (1 : Int32)) else (0 : Int32))
set_option maxRecDepth 65536 in
set_option maxHeartbeats 40000000 in
theorem own_is_1_0_met (l : Launch) (Z : State) (a0 : Array Value) (hw : ∀ d ∈ tables_1, d.before a0 Z = true) (a : Addr) (b : Addr) (kd wW tx : Addr) (v1 v2 : Addr) (k1 k2 : ClassId) (x0 : Int32) (h0 : Heap) (cs : Int32) (Cs : Sta Z h0 "java/lang/String" "COMPACT_STRINGS" "Z" (.int cs)) (hcs : ¬ cs = (0 : Int32)) (hne : tx ≠ b) (SW : Sta Z h0 "com/example/nimble_gate/nimblegate/policy/Token$Kind" "SYMBOL" "Lcom/example/nimble_gate/nimblegate/policy/Token$Kind;" (.ref wW)) (Fk : Fld Z h0 a "com/example/nimble_gate/nimblegate/policy/Token" "kind" "Lcom/example/nimble_gate/nimblegate/policy/Token$Kind;" (.ref kd)) (Ft : Fld Z h0 a "com/example/nimble_gate/nimblegate/policy/Token" "text" "Ljava/lang/String;" (.ref tx))(E1 : Exa Z h0 tx "java/lang/String") (V1 : Fld Z h0 tx "java/lang/String" "value" "[B" (.ref v1)) (C1 : Fld Z h0 tx "java/lang/String" "coder" "B" (.int 0)) (A1 : own_A Z h0 v1 .byte k1 [(.int x0)])(E2 : Exa Z h0 b "java/lang/String") (V2 : Fld Z h0 b "java/lang/String" "value" "[B" (.ref v2)) (C2 : Fld Z h0 b "java/lang/String" "coder" "B" (.int 0)) (A2 : own_A Z h0 v2 .byte k2 []) :
    own_Met l (⟨"com/example/nimble_gate/nimblegate/policy/Token", "isSymbol", "(Ljava/lang/String;)Z"⟩ : MethodName) prog_15_method_3_code 2 (some .boolean) [] ({ frames := 2, cells := 0, slots := 0, locals := 28 } : Room) Z #[(.ref a), (.ref b)] h0 (fun rv rh rL => rv = some (.int (own_is_1_0 a b kd wW tx v1 v2 k1 k2 x0)) ∧ rh = h0 ∧ rL = []) := by
  refine own_enter (plainFor_of_name pn_4) ?_
  intro p e s m below meth c T0 hx hby hml hret hlk hown hnm hZ X0 e0
  refine own_at (g' := (mkF m 0 #[oR a, oR b] [])) (by first | (simp [entryFrame, mkF, argsToLocals, Value.category]; done) | rfl) ?_
  show own_Go p e below _ T0 (mkF m 0 #[oR a, oR b] [])
  have K0 : Keep h0 h0 [] := Keep.refl h0 _
  have N0 : own_Fr h0.size h0.size [] := own_Fr.nil
  refine own_by (fun t_ k_ => XS.aloadN X0.here hx rfl (hb hby d8_0) rfl rfl  k_) ?_
  show own_Go p e below _ T0 (mkF m 1 #[oR a, oR b] [(.ref a)])
  refine own_getF X0 hx hZ hown (hw _ (List.mem_of_getElem? (i := 44) rfl)) e0 Fk (hb hby d8_1) ?_
  intro T1 XT1 eT1
  show own_Go p e below _ T1 (mkF m 4 #[oR a, oR b] [(.ref kd)])
  obtain ⟨T2, XT2, eT2, stT2⟩ := getS2 XT1 hx hZ hown (host := "") (Or.inl (hw _ (List.mem_of_getElem? (i := 57) rfl))) Via.refl eT1 SW (g := (mkF m 4 #[oR a, oR b] [(.ref kd)])) rfl (hb hby d8_4)
  refine own_by stT2 ?_
  show own_Go p e below _ T2 (mkF m 7 #[oR a, oR b] [(.ref wW), (.ref kd)])
  by_cases c7_2 : kd = wW
  · refine own_by (fun t_ k_ => Jvm.RoadKit.acmp (g := (mkF m 7 #[oR a, oR b] [(.ref wW), (.ref kd)])) XT2 hx rfl rfl rfl (pc0 := 7) (pc' := 10) (same := true) rfl (hb hby d8_7) rfl (decide_eq_true (congrArg Value.ref (c7_2))) (by decide) (by decide) k_) ?_
    show own_Go p e below _ T2 (mkF m 10 #[oR a, oR b] [])
    refine own_by (fun t_ k_ => XS.aloadN XT2.here hx rfl (hb hby d8_10) rfl rfl  k_) ?_
    show own_Go p e below _ T2 (mkF m 11 #[oR a, oR b] [(.ref a)])
    refine own_getF XT2 hx hZ hown (hw _ (List.mem_of_getElem? (i := 46) rfl)) eT2 Ft (hb hby d8_11) ?_
    intro T4 XT4 eT4
    show own_Go p e below _ T4 (mkF m 14 #[oR a, oR b] [(.ref tx)])
    refine own_by (fun t_ k_ => XS.aloadN XT4.here hx rfl (hb hby d8_14) rfl rfl  k_) ?_
    show own_Go p e below _ T4 (mkF m 15 #[oR a, oR b] [(.ref b), (.ref tx)])
    refine own_callV XT4 hx hZ hown (hw _ (List.mem_of_getElem? (i := 77) rfl)) (hw _ (List.mem_of_getElem? (i := 78) rfl)) (hw _ (List.mem_of_getElem? (i := 80) rfl)) (hw _ (List.mem_of_getElem? (i := 79) rfl)) (hw _ (List.mem_of_getElem? (i := 81) rfl)) (hw _ (List.mem_of_getElem? (i := 6) rfl)) (by decide) eT4 (b := tx) E1 (argsL := [(.ref b)]) (rest := []) (own_eq_1_0_met l Z a0 hw tx b v1 v2 k1 k2 x0 h0 cs Cs hcs hne E1 V1 C1 A1 E2 V2 C2 A2) 0 (by decide) (by decide) (by rw [hml]; rfl) (lenOf pd_7 rfl) (Nat.le_of_eq rfl) (hb hby d8_15) (by decide) (by decide) (st := [(.ref b), (.ref tx)]) rfl ?_
    intro T5 LT5 vT5 XT5 hQT5
    obtain ⟨rfl, eT5, rfl⟩ := hQT5
    show own_Go p e below _ T5 (mkF m 18 #[oR a, oR b] [(.int (own_eq_1_0 tx b v1 v2 k1 k2 x0))])
    have N6 := own_Fr.app N0 own_Fr.nil
    by_cases c18_6 : (own_eq_1_0 tx b v1 v2 k1 k2 x0) = (0 : Int32)
    · refine own_by (fun t_ k_ => XS.ifYes XT5.here hx rfl (pc0 := 18) (pc' := 25) rfl (hb hby d8_18) rfl (XT.i0_eq_t c18_6) (by decide) (by decide) k_) ?_
      show own_Go p e below _ T5 (mkF m 25 #[oR a, oR b] [])
      refine own_by (fun t_ k_ => XT.iconstV XT5.here hx rfl (0 : Int32) (hb hby d8_25) (by decide) k_) ?_
      show own_Go p e below _ T5 (mkF m 26 #[oR a, oR b] [(.int (0 : Int32))])
      exact own_retN XT5 hx hlk hret (by simp) (w := (0 : Int32)) (hb hby d8_26) (by decide) (by decide) (by decide) (⟨by rw [own_is_1_0, if_pos c7_2, if_pos c18_6], eT5, rfl⟩)
    · refine own_by (fun t_ k_ => XS.ifNo XT5.here hx rfl (hb hby d8_18) rfl (XT.i0_eq_f c18_6) k_) ?_
      show own_Go p e below _ T5 (mkF m 21 #[oR a, oR b] [])
      refine own_by (fun t_ k_ => XT.iconstV XT5.here hx rfl (1 : Int32) (hb hby d8_21) (by decide) k_) ?_
      show own_Go p e below _ T5 (mkF m 22 #[oR a, oR b] [(.int (1 : Int32))])
      refine own_by (fun t_ k_ => XS.goto XT5.here hx rfl (pc0 := 22) (pc' := 26) rfl (hb hby d8_22) (by decide) (by decide) k_) ?_
      show own_Go p e below _ T5 (mkF m 26 #[oR a, oR b] [(.int (1 : Int32))])
      exact own_retN XT5 hx hlk hret (by simp) (w := (1 : Int32)) (hb hby d8_26) (by decide) (by decide) (by decide) (⟨by rw [own_is_1_0, if_pos c7_2, if_neg c18_6], eT5, rfl⟩)
  · refine own_by (fun t_ k_ => Jvm.RoadKit.acmp (g := (mkF m 7 #[oR a, oR b] [(.ref wW), (.ref kd)])) XT2 hx rfl rfl rfl (pc0 := 7) (pc' := 25) (same := false) rfl (hb hby d8_7) rfl (decide_eq_false fun q => (c7_2) (Value.ref.inj q)) (by decide) (by decide) k_) ?_
    show own_Go p e below _ T2 (mkF m 25 #[oR a, oR b] [])
    refine own_by (fun t_ k_ => XT.iconstV XT2.here hx rfl (0 : Int32) (hb hby d8_25) (by decide) k_) ?_
    show own_Go p e below _ T2 (mkF m 26 #[oR a, oR b] [(.int (0 : Int32))])
    exact own_retN XT2 hx hlk hret (by simp) (w := (0 : Int32)) (hb hby d8_26) (by decide) (by decide) (by decide) (⟨by rw [own_is_1_0, if_neg c7_2], eT2, rfl⟩)
def own_le_1_1 (v1 : Addr) (v2 : Addr) (k1 k2 : ClassId) (x0 y0 : Int32) : Int32 := (if x0 = y0 then (1 : Int32) else (0 : Int32))
theorem d13_15 : decode jdk_43_method_13_code 15 = .ok (.aload_n 0, 1) := by decide +kernel
theorem d13_16 : decode jdk_43_method_13_code 16 = .ok (.iload_n 2, 1) := by decide +kernel
theorem d13_17 : decode jdk_43_method_13_code 17 = .ok (.baload, 1) := by decide +kernel
theorem d13_18 : decode jdk_43_method_13_code 18 = .ok (.aload_n 1, 1) := by decide +kernel
theorem d13_19 : decode jdk_43_method_13_code 19 = .ok (.iload_n 2, 1) := by decide +kernel
theorem d13_20 : decode jdk_43_method_13_code 20 = .ok (.baload, 1) := by decide +kernel
theorem d13_21 : decode jdk_43_method_13_code 21 = .ok (.if_icmp .eq 5, 3) := by decide +kernel
theorem d13_26 : decode jdk_43_method_13_code 26 = .ok (.iinc 2 1, 3) := by decide +kernel
theorem d13_29 : decode jdk_43_method_13_code 29 = .ok (.goto (-20), 3) := by decide +kernel
theorem d13_24 : decode jdk_43_method_13_code 24 = .ok (.iconst 0, 1) := by decide +kernel
theorem d13_25 : decode jdk_43_method_13_code 25 = .ok (.ireturn, 1) := by decide +kernel
set_option maxRecDepth 65536 in
set_option maxHeartbeats 40000000 in
theorem own_le_1_1_met (l : Launch) (Z : State) (a0 : Array Value) (hw : ∀ d ∈ tables_1, d.before a0 Z = true) (v1 : Addr) (v2 : Addr) (k1 k2 : ClassId) (x0 y0 : Int32) (h0 : Heap) (A1 : own_A Z h0 v1 .byte k1 [(.int x0)]) (A2 : own_A Z h0 v2 .byte k2 [(.int y0)]) :
    own_Met l (⟨"java/lang/StringLatin1", "equals", "([B[B)Z"⟩ : MethodName) jdk_43_method_13_code 3 (some .boolean) [] ({ frames := 0, cells := 0, slots := 0, locals := 0 } : Room) Z #[(.ref v1), (.ref v2)] h0 (fun rv rh rL => rv = some (.int (own_le_1_1 v1 v2 k1 k2 x0 y0)) ∧ rh = h0 ∧ rL = []) := by
  refine own_enter (plainFor_of_name pn_5) ?_
  intro p e s m below meth c T0 hx hby hml hret hlk hown hnm hZ X0 e0
  refine own_at (g' := (mkF m 0 #[oR v1, oR v2, .unset] [])) (by first | (simp [entryFrame, mkF, argsToLocals, Value.category]; done) | rfl) ?_
  show own_Go p e below _ T0 (mkF m 0 #[oR v1, oR v2, .unset] [])
  have K0 : Keep h0 h0 [] := Keep.refl h0 _
  have N0 : own_Fr h0.size h0.size [] := own_Fr.nil
  refine own_by (fun t_ k_ => XS.aloadN X0.here hx rfl (hb hby d13_0) rfl rfl  k_) ?_
  show own_Go p e below _ T0 (mkF m 1 #[oR v1, oR v2, .unset] [(.ref v1)])
  refine own_len X0 hx hZ e0 A1 (1 : Int32) rfl (hb hby d13_1) ?_
  show own_Go p e below _ T0 (mkF m 2 #[oR v1, oR v2, .unset] [(.int (1 : Int32))])
  refine own_by (fun t_ k_ => XS.aloadN X0.here hx rfl (hb hby d13_2) rfl rfl  k_) ?_
  show own_Go p e below _ T0 (mkF m 3 #[oR v1, oR v2, .unset] [(.ref v2), (.int (1 : Int32))])
  refine own_len X0 hx hZ e0 A2 (1 : Int32) rfl (hb hby d13_3) ?_
  show own_Go p e below _ T0 (mkF m 4 #[oR v1, oR v2, .unset] [(.int (1 : Int32)), (.int (1 : Int32))])
  refine own_by (fun t_ k_ => XS.icmpNo X0.here hx rfl (hb hby d13_4) rfl (XT.ii_ne_f (by decide)) k_) ?_
  show own_Go p e below _ T0 (mkF m 7 #[oR v1, oR v2, .unset] [])
  refine own_by (fun t_ k_ => XT.iconstV X0.here hx rfl (0 : Int32) (hb hby d13_7) (by decide) k_) ?_
  show own_Go p e below _ T0 (mkF m 8 #[oR v1, oR v2, .unset] [(.int (0 : Int32))])
  refine own_by (fun t_ k_ => XS.istoreN X0.here hx rfl (hb hby d13_8) rfl (l' := #[oR v1, oR v2, oI (0 : Int32)]) rfl k_) ?_
  show own_Go p e below _ T0 (mkF m 9 #[oR v1, oR v2, oI (0 : Int32)] [])
  refine own_by (fun t_ k_ => XS.iloadN X0.here hx rfl (hb hby d13_9) rfl  k_) ?_
  show own_Go p e below _ T0 (mkF m 10 #[oR v1, oR v2, oI (0 : Int32)] [(.int (0 : Int32))])
  refine own_by (fun t_ k_ => XS.aloadN X0.here hx rfl (hb hby d13_10) rfl rfl  k_) ?_
  show own_Go p e below _ T0 (mkF m 11 #[oR v1, oR v2, oI (0 : Int32)] [(.ref v1), (.int (0 : Int32))])
  refine own_len X0 hx hZ e0 A1 (1 : Int32) rfl (hb hby d13_11) ?_
  show own_Go p e below _ T0 (mkF m 12 #[oR v1, oR v2, oI (0 : Int32)] [(.int (1 : Int32)), (.int (0 : Int32))])
  refine own_by (fun t_ k_ => XS.icmpNo X0.here hx rfl (hb hby d13_12) rfl (XT.ii_ge_f (by decide)) k_) ?_
  show own_Go p e below _ T0 (mkF m 15 #[oR v1, oR v2, oI (0 : Int32)] [])
  refine own_by (fun t_ k_ => XS.aloadN X0.here hx rfl (hb hby d13_15) rfl rfl  k_) ?_
  show own_Go p e below _ T0 (mkF m 16 #[oR v1, oR v2, oI (0 : Int32)] [(.ref v1)])
  refine own_by (fun t_ k_ => XS.iloadN X0.here hx rfl (hb hby d13_16) rfl  k_) ?_
  show own_Go p e below _ T0 (mkF m 17 #[oR v1, oR v2, oI (0 : Int32)] [(.int (0 : Int32)), (.ref v1)])
  refine own_ldB X0 hx hZ e0 A1 0 (by decide) (by decide) (v := (.int x0)) rfl (hb hby d13_17) ?_
  show own_Go p e below _ T0 (mkF m 18 #[oR v1, oR v2, oI (0 : Int32)] [(.int x0)])
  refine own_by (fun t_ k_ => XS.aloadN X0.here hx rfl (hb hby d13_18) rfl rfl  k_) ?_
  show own_Go p e below _ T0 (mkF m 19 #[oR v1, oR v2, oI (0 : Int32)] [(.ref v2), (.int x0)])
  refine own_by (fun t_ k_ => XS.iloadN X0.here hx rfl (hb hby d13_19) rfl  k_) ?_
  show own_Go p e below _ T0 (mkF m 20 #[oR v1, oR v2, oI (0 : Int32)] [(.int (0 : Int32)), (.ref v2), (.int x0)])
  refine own_ldB X0 hx hZ e0 A2 0 (by decide) (by decide) (v := (.int y0)) rfl (hb hby d13_20) ?_
  show own_Go p e below _ T0 (mkF m 21 #[oR v1, oR v2, oI (0 : Int32)] [(.int y0), (.int x0)])
  by_cases c21_0 : x0 = y0
  · refine own_by (fun t_ k_ => XS.icmpYes X0.here hx rfl (pc0 := 21) (pc' := 26) rfl (hb hby d13_21) rfl (XT.ii_eq_t c21_0) (by decide) (by decide) k_) ?_
    show own_Go p e below _ T0 (mkF m 26 #[oR v1, oR v2, oI (0 : Int32)] [])
    refine own_by (fun t_ k_ => XT.iincV X0.here hx rfl (1 : Int32) (hb hby d13_26) (by decide) rfl (l' := #[oR v1, oR v2, oI ((0 : Int32) + (1 : Int32))]) rfl k_) ?_
    show own_Go p e below _ T0 (mkF m 29 #[oR v1, oR v2, oI ((0 : Int32) + (1 : Int32))] [])
    rw [show ((0 : Int32) + (1 : Int32)) = (1 : Int32) by decide]
    show own_Go p e below _ T0 (mkF m 29 #[oR v1, oR v2, oI (1 : Int32)] [])
    refine own_by (fun t_ k_ => XS.goto X0.here hx rfl (pc0 := 29) (pc' := 9) rfl (hb hby d13_29) (by decide) (by decide) k_) ?_
    show own_Go p e below _ T0 (mkF m 9 #[oR v1, oR v2, oI (1 : Int32)] [])
    refine own_by (fun t_ k_ => XS.iloadN X0.here hx rfl (hb hby d13_9) rfl  k_) ?_
    show own_Go p e below _ T0 (mkF m 10 #[oR v1, oR v2, oI (1 : Int32)] [(.int (1 : Int32))])
    refine own_by (fun t_ k_ => XS.aloadN X0.here hx rfl (hb hby d13_10) rfl rfl  k_) ?_
    show own_Go p e below _ T0 (mkF m 11 #[oR v1, oR v2, oI (1 : Int32)] [(.ref v1), (.int (1 : Int32))])
    refine own_len X0 hx hZ e0 A1 (1 : Int32) rfl (hb hby d13_11) ?_
    show own_Go p e below _ T0 (mkF m 12 #[oR v1, oR v2, oI (1 : Int32)] [(.int (1 : Int32)), (.int (1 : Int32))])
    refine own_by (fun t_ k_ => XS.icmpYes X0.here hx rfl (pc0 := 12) (pc' := 32) rfl (hb hby d13_12) rfl (XT.ii_ge_t (by decide)) (by decide) (by decide) k_) ?_
    show own_Go p e below _ T0 (mkF m 32 #[oR v1, oR v2, oI (1 : Int32)] [])
    refine own_by (fun t_ k_ => XT.iconstV X0.here hx rfl (1 : Int32) (hb hby d13_32) (by decide) k_) ?_
    show own_Go p e below _ T0 (mkF m 33 #[oR v1, oR v2, oI (1 : Int32)] [(.int (1 : Int32))])
    exact own_retN X0 hx hlk hret (by simp) (w := (1 : Int32)) (hb hby d13_33) (by decide) (by decide) (by decide) (⟨by rw [own_le_1_1, if_pos c21_0], e0, rfl⟩)
  · refine own_by (fun t_ k_ => XS.icmpNo X0.here hx rfl (hb hby d13_21) rfl (XT.ii_eq_f c21_0) k_) ?_
    show own_Go p e below _ T0 (mkF m 24 #[oR v1, oR v2, oI (0 : Int32)] [])
    refine own_by (fun t_ k_ => XT.iconstV X0.here hx rfl (0 : Int32) (hb hby d13_24) (by decide) k_) ?_
    show own_Go p e below _ T0 (mkF m 25 #[oR v1, oR v2, oI (0 : Int32)] [(.int (0 : Int32))])
    exact own_retN X0 hx hlk hret (by simp) (w := (0 : Int32)) (hb hby d13_25) (by decide) (by decide) (by decide) (⟨by rw [own_le_1_1, if_neg c21_0], e0, rfl⟩)
def own_eq_1_1 (a : Addr) (b : Addr) (v1 v2 : Addr) (k1 k2 : ClassId) (x0 y0 : Int32) : Int32 := (if (own_le_1_1 v1 v2 k1 k2 x0 y0) = (0 : Int32) then (0 : Int32) else (1 : Int32))
set_option maxRecDepth 65536 in
set_option maxHeartbeats 40000000 in
theorem own_eq_1_1_met (l : Launch) (Z : State) (a0 : Array Value) (hw : ∀ d ∈ tables_1, d.before a0 Z = true) (a : Addr) (b : Addr) (v1 v2 : Addr) (k1 k2 : ClassId) (x0 y0 : Int32) (h0 : Heap) (cs : Int32) (Cs : Sta Z h0 "java/lang/String" "COMPACT_STRINGS" "Z" (.int cs)) (hcs : ¬ cs = (0 : Int32)) (hne : a ≠ b) (E1 : Exa Z h0 a "java/lang/String") (V1 : Fld Z h0 a "java/lang/String" "value" "[B" (.ref v1)) (C1 : Fld Z h0 a "java/lang/String" "coder" "B" (.int 0)) (A1 : own_A Z h0 v1 .byte k1 [(.int x0)])(E2 : Exa Z h0 b "java/lang/String") (V2 : Fld Z h0 b "java/lang/String" "value" "[B" (.ref v2)) (C2 : Fld Z h0 b "java/lang/String" "coder" "B" (.int 0)) (A2 : own_A Z h0 v2 .byte k2 [(.int y0)]) :
    own_Met l (⟨"java/lang/String", "equals", "(Ljava/lang/Object;)Z"⟩ : MethodName) jdk_42_method_66_code 3 (some .boolean) [] ({ frames := 1, cells := 0, slots := 0, locals := 14 } : Room) Z #[(.ref a), (.ref b)] h0 (fun rv rh rL => rv = some (.int (own_eq_1_1 a b v1 v2 k1 k2 x0 y0)) ∧ rh = h0 ∧ rL = []) := by
  refine own_enter (plainFor_of_name pn_1) ?_
  intro p e s m below meth c T0 hx hby hml hret hlk hown hnm hZ X0 e0
  refine own_at (g' := (mkF m 0 #[oR a, oR b, .unset] [])) (by first | (simp [entryFrame, mkF, argsToLocals, Value.category]; done) | rfl) ?_
  show own_Go p e below _ T0 (mkF m 0 #[oR a, oR b, .unset] [])
  have K0 : Keep h0 h0 [] := Keep.refl h0 _
  have N0 : own_Fr h0.size h0.size [] := own_Fr.nil
  refine own_by (fun t_ k_ => XS.aloadN X0.here hx rfl (hb hby d12_0) rfl rfl  k_) ?_
  show own_Go p e below _ T0 (mkF m 1 #[oR a, oR b, .unset] [(.ref a)])
  refine own_by (fun t_ k_ => XS.aloadN X0.here hx rfl (hb hby d12_1) rfl rfl  k_) ?_
  show own_Go p e below _ T0 (mkF m 2 #[oR a, oR b, .unset] [(.ref b), (.ref a)])
  refine own_by (fun t_ k_ => Jvm.RoadKit.acmp (g := (mkF m 2 #[oR a, oR b, .unset] [(.ref b), (.ref a)])) X0 hx rfl rfl rfl (pc0 := 2) (pc' := 7) (same := false) rfl (hb hby d12_2) rfl (decide_eq_false fun q => (hne) (Value.ref.inj q)) (by decide) (by decide) k_) ?_
  show own_Go p e below _ T0 (mkF m 7 #[oR a, oR b, .unset] [])
  refine own_by (fun t_ k_ => XS.aloadN X0.here hx rfl (hb hby d12_7) rfl rfl  k_) ?_
  show own_Go p e below _ T0 (mkF m 8 #[oR a, oR b, .unset] [(.ref b)])
  refine own_inst X0 hx hZ hown (hw _ (List.mem_of_getElem? (i := 82) rfl)) e0 E2 (hb hby d12_8) ?_
  intro T1 XT1 eT1
  show own_Go p e below _ T1 (mkF m 11 #[oR a, oR b, .unset] [(.int (1 : Int32))])
  refine own_by (fun t_ k_ => XS.ifNo XT1.here hx rfl (hb hby d12_11) rfl (XT.i0_eq_f (by decide)) k_) ?_
  show own_Go p e below _ T1 (mkF m 14 #[oR a, oR b, .unset] [])
  refine own_by (fun t_ k_ => XS.aloadN XT1.here hx rfl (hb hby d12_14) rfl rfl  k_) ?_
  show own_Go p e below _ T1 (mkF m 15 #[oR a, oR b, .unset] [(.ref b)])
  refine own_cast XT1 hx hZ hown (hw _ (List.mem_of_getElem? (i := 82) rfl)) eT1 E2 (hb hby d12_15) ?_
  intro T2 XT2 eT2
  show own_Go p e below _ T2 (mkF m 18 #[oR a, oR b, .unset] [(.ref b)])
  refine own_by (fun t_ k_ => XS.astoreN XT2.here hx rfl (hb hby d12_18) rfl rfl (l' := #[oR a, oR b, oR b]) rfl k_) ?_
  show own_Go p e below _ T2 (mkF m 19 #[oR a, oR b, oR b] [])
  obtain ⟨T3, XT3, eT3, stT3⟩ := getS2 XT2 hx hZ hown (host := "") (Or.inl (hw _ (List.mem_of_getElem? (i := 59) rfl))) Via.refl eT2 Cs (g := (mkF m 19 #[oR a, oR b, oR b] [])) rfl (hb hby d12_19)
  refine own_by stT3 ?_
  show own_Go p e below _ T3 (mkF m 22 #[oR a, oR b, oR b] [(.int cs)])
  refine own_by (fun t_ k_ => XS.ifNo XT3.here hx rfl (hb hby d12_22) rfl (XT.i0_eq_f hcs) k_) ?_
  show own_Go p e below _ T3 (mkF m 25 #[oR a, oR b, oR b] [])
  refine own_by (fun t_ k_ => XS.aloadN XT3.here hx rfl (hb hby d12_25) rfl rfl  k_) ?_
  show own_Go p e below _ T3 (mkF m 26 #[oR a, oR b, oR b] [(.ref a)])
  refine own_getF XT3 hx hZ hown (hw _ (List.mem_of_getElem? (i := 25) rfl)) eT3 C1 (hb hby d12_26) ?_
  intro T4 XT4 eT4
  show own_Go p e below _ T4 (mkF m 29 #[oR a, oR b, oR b] [(.int (0 : Int32))])
  refine own_by (fun t_ k_ => XS.aloadN XT4.here hx rfl (hb hby d12_29) rfl rfl  k_) ?_
  show own_Go p e below _ T4 (mkF m 30 #[oR a, oR b, oR b] [(.ref b), (.int (0 : Int32))])
  refine own_getF XT4 hx hZ hown (hw _ (List.mem_of_getElem? (i := 25) rfl)) eT4 C2 (hb hby d12_30) ?_
  intro T5 XT5 eT5
  show own_Go p e below _ T5 (mkF m 33 #[oR a, oR b, oR b] [(.int (0 : Int32)), (.int (0 : Int32))])
  refine own_by (fun t_ k_ => XS.icmpNo XT5.here hx rfl (hb hby d12_33) rfl (XT.ii_ne_f (by decide)) k_) ?_
  show own_Go p e below _ T5 (mkF m 36 #[oR a, oR b, oR b] [])
  refine own_by (fun t_ k_ => XS.aloadN XT5.here hx rfl (hb hby d12_36) rfl rfl  k_) ?_
  show own_Go p e below _ T5 (mkF m 37 #[oR a, oR b, oR b] [(.ref a)])
  refine own_getF XT5 hx hZ hown (hw _ (List.mem_of_getElem? (i := 24) rfl)) eT5 V1 (hb hby d12_37) ?_
  intro T6 XT6 eT6
  show own_Go p e below _ T6 (mkF m 40 #[oR a, oR b, oR b] [(.ref v1)])
  refine own_by (fun t_ k_ => XS.aloadN XT6.here hx rfl (hb hby d12_40) rfl rfl  k_) ?_
  show own_Go p e below _ T6 (mkF m 41 #[oR a, oR b, oR b] [(.ref b), (.ref v1)])
  refine own_getF XT6 hx hZ hown (hw _ (List.mem_of_getElem? (i := 24) rfl)) eT6 V2 (hb hby d12_41) ?_
  intro T7 XT7 eT7
  show own_Go p e below _ T7 (mkF m 44 #[oR a, oR b, oR b] [(.ref v2), (.ref v1)])
  refine own_callS XT7 hx hZ hown (hw _ (List.mem_of_getElem? (i := 83) rfl)) (hw _ (List.mem_of_getElem? (i := 84) rfl)) (hw _ (List.mem_of_getElem? (i := 85) rfl)) (hw _ (List.mem_of_getElem? (i := 86) rfl)) (by decide) eT7 (argsL := [(.ref v1), (.ref v2)]) (rest := []) (own_le_1_1_met l Z a0 hw v1 v2 k1 k2 x0 y0 h0 A1 A2) 0 (by decide) (by decide) (by rw [hml]; rfl) (lenOf pd_6 rfl) (Nat.le_of_eq rfl) (hb hby d12_44) (by decide) (by decide) (st := [(.ref v2), (.ref v1)]) rfl ?_
  intro T8 LT8 vT8 XT8 hQT8
  obtain ⟨rfl, eT8, rfl⟩ := hQT8
  show own_Go p e below _ T8 (mkF m 47 #[oR a, oR b, oR b] [(.int (own_le_1_1 v1 v2 k1 k2 x0 y0))])
  have N9 := own_Fr.app N0 own_Fr.nil
  by_cases c47_9 : (own_le_1_1 v1 v2 k1 k2 x0 y0) = (0 : Int32)
  · refine own_by (fun t_ k_ => XS.ifYes XT8.here hx rfl (pc0 := 47) (pc' := 54) rfl (hb hby d12_47) rfl (XT.i0_eq_t c47_9) (by decide) (by decide) k_) ?_
    show own_Go p e below _ T8 (mkF m 54 #[oR a, oR b, oR b] [])
    refine own_by (fun t_ k_ => XT.iconstV XT8.here hx rfl (0 : Int32) (hb hby d12_54) (by decide) k_) ?_
    show own_Go p e below _ T8 (mkF m 55 #[oR a, oR b, oR b] [(.int (0 : Int32))])
    exact own_retN XT8 hx hlk hret (by simp) (w := (0 : Int32)) (hb hby d12_55) (by decide) (by decide) (by decide) (⟨by rw [own_eq_1_1, if_pos c47_9], eT8, rfl⟩)
  · refine own_by (fun t_ k_ => XS.ifNo XT8.here hx rfl (hb hby d12_47) rfl (XT.i0_eq_f c47_9) k_) ?_
    show own_Go p e below _ T8 (mkF m 50 #[oR a, oR b, oR b] [])
    refine own_by (fun t_ k_ => XT.iconstV XT8.here hx rfl (1 : Int32) (hb hby d12_50) (by decide) k_) ?_
    show own_Go p e below _ T8 (mkF m 51 #[oR a, oR b, oR b] [(.int (1 : Int32))])
    refine own_by (fun t_ k_ => XS.goto XT8.here hx rfl (pc0 := 51) (pc' := 55) rfl (hb hby d12_51) (by decide) (by decide) k_) ?_
    show own_Go p e below _ T8 (mkF m 55 #[oR a, oR b, oR b] [(.int (1 : Int32))])
    exact own_retN XT8 hx hlk hret (by simp) (w := (1 : Int32)) (hb hby d12_55) (by decide) (by decide) (by decide) (⟨by rw [own_eq_1_1, if_neg c47_9], eT8, rfl⟩)
def own_is_1_1 (a : Addr) (b : Addr) (kd wW tx : Addr) (v1 v2 : Addr) (k1 k2 : ClassId) (x0 y0 : Int32) : Int32 := (if kd = wW then (if (own_eq_1_1 tx b v1 v2 k1 k2 x0 y0) = (0 : Int32) then (0 : Int32) else (1 : Int32)) else (0 : Int32))
set_option maxRecDepth 65536 in
set_option maxHeartbeats 40000000 in
theorem own_is_1_1_met (l : Launch) (Z : State) (a0 : Array Value) (hw : ∀ d ∈ tables_1, d.before a0 Z = true) (a : Addr) (b : Addr) (kd wW tx : Addr) (v1 v2 : Addr) (k1 k2 : ClassId) (x0 y0 : Int32) (h0 : Heap) (cs : Int32) (Cs : Sta Z h0 "java/lang/String" "COMPACT_STRINGS" "Z" (.int cs)) (hcs : ¬ cs = (0 : Int32)) (hne : tx ≠ b) (SW : Sta Z h0 "com/example/nimble_gate/nimblegate/policy/Token$Kind" "SYMBOL" "Lcom/example/nimble_gate/nimblegate/policy/Token$Kind;" (.ref wW)) (Fk : Fld Z h0 a "com/example/nimble_gate/nimblegate/policy/Token" "kind" "Lcom/example/nimble_gate/nimblegate/policy/Token$Kind;" (.ref kd)) (Ft : Fld Z h0 a "com/example/nimble_gate/nimblegate/policy/Token" "text" "Ljava/lang/String;" (.ref tx))(E1 : Exa Z h0 tx "java/lang/String") (V1 : Fld Z h0 tx "java/lang/String" "value" "[B" (.ref v1)) (C1 : Fld Z h0 tx "java/lang/String" "coder" "B" (.int 0)) (A1 : own_A Z h0 v1 .byte k1 [(.int x0)])(E2 : Exa Z h0 b "java/lang/String") (V2 : Fld Z h0 b "java/lang/String" "value" "[B" (.ref v2)) (C2 : Fld Z h0 b "java/lang/String" "coder" "B" (.int 0)) (A2 : own_A Z h0 v2 .byte k2 [(.int y0)]) :
    own_Met l (⟨"com/example/nimble_gate/nimblegate/policy/Token", "isSymbol", "(Ljava/lang/String;)Z"⟩ : MethodName) prog_15_method_3_code 2 (some .boolean) [] ({ frames := 2, cells := 0, slots := 0, locals := 28 } : Room) Z #[(.ref a), (.ref b)] h0 (fun rv rh rL => rv = some (.int (own_is_1_1 a b kd wW tx v1 v2 k1 k2 x0 y0)) ∧ rh = h0 ∧ rL = []) := by
  refine own_enter (plainFor_of_name pn_4) ?_
  intro p e s m below meth c T0 hx hby hml hret hlk hown hnm hZ X0 e0
  refine own_at (g' := (mkF m 0 #[oR a, oR b] [])) (by first | (simp [entryFrame, mkF, argsToLocals, Value.category]; done) | rfl) ?_
  show own_Go p e below _ T0 (mkF m 0 #[oR a, oR b] [])
  have K0 : Keep h0 h0 [] := Keep.refl h0 _
  have N0 : own_Fr h0.size h0.size [] := own_Fr.nil
  refine own_by (fun t_ k_ => XS.aloadN X0.here hx rfl (hb hby d8_0) rfl rfl  k_) ?_
  show own_Go p e below _ T0 (mkF m 1 #[oR a, oR b] [(.ref a)])
  refine own_getF X0 hx hZ hown (hw _ (List.mem_of_getElem? (i := 44) rfl)) e0 Fk (hb hby d8_1) ?_
  intro T1 XT1 eT1
  show own_Go p e below _ T1 (mkF m 4 #[oR a, oR b] [(.ref kd)])
  obtain ⟨T2, XT2, eT2, stT2⟩ := getS2 XT1 hx hZ hown (host := "") (Or.inl (hw _ (List.mem_of_getElem? (i := 57) rfl))) Via.refl eT1 SW (g := (mkF m 4 #[oR a, oR b] [(.ref kd)])) rfl (hb hby d8_4)
  refine own_by stT2 ?_
  show own_Go p e below _ T2 (mkF m 7 #[oR a, oR b] [(.ref wW), (.ref kd)])
  by_cases c7_2 : kd = wW
  · refine own_by (fun t_ k_ => Jvm.RoadKit.acmp (g := (mkF m 7 #[oR a, oR b] [(.ref wW), (.ref kd)])) XT2 hx rfl rfl rfl (pc0 := 7) (pc' := 10) (same := true) rfl (hb hby d8_7) rfl (decide_eq_true (congrArg Value.ref (c7_2))) (by decide) (by decide) k_) ?_
    show own_Go p e below _ T2 (mkF m 10 #[oR a, oR b] [])
    refine own_by (fun t_ k_ => XS.aloadN XT2.here hx rfl (hb hby d8_10) rfl rfl  k_) ?_
    show own_Go p e below _ T2 (mkF m 11 #[oR a, oR b] [(.ref a)])
    refine own_getF XT2 hx hZ hown (hw _ (List.mem_of_getElem? (i := 46) rfl)) eT2 Ft (hb hby d8_11) ?_
    intro T4 XT4 eT4
    show own_Go p e below _ T4 (mkF m 14 #[oR a, oR b] [(.ref tx)])
    refine own_by (fun t_ k_ => XS.aloadN XT4.here hx rfl (hb hby d8_14) rfl rfl  k_) ?_
    show own_Go p e below _ T4 (mkF m 15 #[oR a, oR b] [(.ref b), (.ref tx)])
    refine own_callV XT4 hx hZ hown (hw _ (List.mem_of_getElem? (i := 77) rfl)) (hw _ (List.mem_of_getElem? (i := 78) rfl)) (hw _ (List.mem_of_getElem? (i := 80) rfl)) (hw _ (List.mem_of_getElem? (i := 79) rfl)) (hw _ (List.mem_of_getElem? (i := 81) rfl)) (hw _ (List.mem_of_getElem? (i := 6) rfl)) (by decide) eT4 (b := tx) E1 (argsL := [(.ref b)]) (rest := []) (own_eq_1_1_met l Z a0 hw tx b v1 v2 k1 k2 x0 y0 h0 cs Cs hcs hne E1 V1 C1 A1 E2 V2 C2 A2) 0 (by decide) (by decide) (by rw [hml]; rfl) (lenOf pd_7 rfl) (Nat.le_of_eq rfl) (hb hby d8_15) (by decide) (by decide) (st := [(.ref b), (.ref tx)]) rfl ?_
    intro T5 LT5 vT5 XT5 hQT5
    obtain ⟨rfl, eT5, rfl⟩ := hQT5
    show own_Go p e below _ T5 (mkF m 18 #[oR a, oR b] [(.int (own_eq_1_1 tx b v1 v2 k1 k2 x0 y0))])
    have N6 := own_Fr.app N0 own_Fr.nil
    by_cases c18_6 : (own_eq_1_1 tx b v1 v2 k1 k2 x0 y0) = (0 : Int32)
    · refine own_by (fun t_ k_ => XS.ifYes XT5.here hx rfl (pc0 := 18) (pc' := 25) rfl (hb hby d8_18) rfl (XT.i0_eq_t c18_6) (by decide) (by decide) k_) ?_
      show own_Go p e below _ T5 (mkF m 25 #[oR a, oR b] [])
      refine own_by (fun t_ k_ => XT.iconstV XT5.here hx rfl (0 : Int32) (hb hby d8_25) (by decide) k_) ?_
      show own_Go p e below _ T5 (mkF m 26 #[oR a, oR b] [(.int (0 : Int32))])
      exact own_retN XT5 hx hlk hret (by simp) (w := (0 : Int32)) (hb hby d8_26) (by decide) (by decide) (by decide) (⟨by rw [own_is_1_1, if_pos c7_2, if_pos c18_6], eT5, rfl⟩)
    · refine own_by (fun t_ k_ => XS.ifNo XT5.here hx rfl (hb hby d8_18) rfl (XT.i0_eq_f c18_6) k_) ?_
      show own_Go p e below _ T5 (mkF m 21 #[oR a, oR b] [])
      refine own_by (fun t_ k_ => XT.iconstV XT5.here hx rfl (1 : Int32) (hb hby d8_21) (by decide) k_) ?_
      show own_Go p e below _ T5 (mkF m 22 #[oR a, oR b] [(.int (1 : Int32))])
      refine own_by (fun t_ k_ => XS.goto XT5.here hx rfl (pc0 := 22) (pc' := 26) rfl (hb hby d8_22) (by decide) (by decide) k_) ?_
      show own_Go p e below _ T5 (mkF m 26 #[oR a, oR b] [(.int (1 : Int32))])
      exact own_retN XT5 hx hlk hret (by simp) (w := (1 : Int32)) (hb hby d8_26) (by decide) (by decide) (by decide) (⟨by rw [own_is_1_1, if_pos c7_2, if_neg c18_6], eT5, rfl⟩)
  · refine own_by (fun t_ k_ => Jvm.RoadKit.acmp (g := (mkF m 7 #[oR a, oR b] [(.ref wW), (.ref kd)])) XT2 hx rfl rfl rfl (pc0 := 7) (pc' := 25) (same := false) rfl (hb hby d8_7) rfl (decide_eq_false fun q => (c7_2) (Value.ref.inj q)) (by decide) (by decide) k_) ?_
    show own_Go p e below _ T2 (mkF m 25 #[oR a, oR b] [])
    refine own_by (fun t_ k_ => XT.iconstV XT2.here hx rfl (0 : Int32) (hb hby d8_25) (by decide) k_) ?_
    show own_Go p e below _ T2 (mkF m 26 #[oR a, oR b] [(.int (0 : Int32))])
    exact own_retN XT2 hx hlk hret (by simp) (w := (0 : Int32)) (hb hby d8_26) (by decide) (by decide) (by decide) (⟨by rw [own_is_1_1, if_neg c7_2], eT2, rfl⟩)
def own_le_1_2 (v1 : Addr) (v2 : Addr) (k1 k2 : ClassId) (x0 y0 y1 : Int32) : Int32 := (0 : Int32)
set_option maxRecDepth 65536 in
set_option maxHeartbeats 40000000 in
theorem own_le_1_2_met (l : Launch) (Z : State) (a0 : Array Value) (hw : ∀ d ∈ tables_1, d.before a0 Z = true) (v1 : Addr) (v2 : Addr) (k1 k2 : ClassId) (x0 y0 y1 : Int32) (h0 : Heap) (A1 : own_A Z h0 v1 .byte k1 [(.int x0)]) (A2 : own_A Z h0 v2 .byte k2 [(.int y0), (.int y1)]) :
    own_Met l (⟨"java/lang/StringLatin1", "equals", "([B[B)Z"⟩ : MethodName) jdk_43_method_13_code 3 (some .boolean) [] ({ frames := 0, cells := 0, slots := 0, locals := 0 } : Room) Z #[(.ref v1), (.ref v2)] h0 (fun rv rh rL => rv = some (.int (own_le_1_2 v1 v2 k1 k2 x0 y0 y1)) ∧ rh = h0 ∧ rL = []) := by
  refine own_enter (plainFor_of_name pn_5) ?_
  intro p e s m below meth c T0 hx hby hml hret hlk hown hnm hZ X0 e0
  refine own_at (g' := (mkF m 0 #[oR v1, oR v2, .unset] [])) (by first | (simp [entryFrame, mkF, argsToLocals, Value.category]; done) | rfl) ?_
  show own_Go p e below _ T0 (mkF m 0 #[oR v1, oR v2, .unset] [])
  have K0 : Keep h0 h0 [] := Keep.refl h0 _
  have N0 : own_Fr h0.size h0.size [] := own_Fr.nil
  refine own_by (fun t_ k_ => XS.aloadN X0.here hx rfl (hb hby d13_0) rfl rfl  k_) ?_
  show own_Go p e below _ T0 (mkF m 1 #[oR v1, oR v2, .unset] [(.ref v1)])
  refine own_len X0 hx hZ e0 A1 (1 : Int32) rfl (hb hby d13_1) ?_
  show own_Go p e below _ T0 (mkF m 2 #[oR v1, oR v2, .unset] [(.int (1 : Int32))])
  refine own_by (fun t_ k_ => XS.aloadN X0.here hx rfl (hb hby d13_2) rfl rfl  k_) ?_
  show own_Go p e below _ T0 (mkF m 3 #[oR v1, oR v2, .unset] [(.ref v2), (.int (1 : Int32))])
  refine own_len X0 hx hZ e0 A2 (2 : Int32) rfl (hb hby d13_3) ?_
  show own_Go p e below _ T0 (mkF m 4 #[oR v1, oR v2, .unset] [(.int (2 : Int32)), (.int (1 : Int32))])
  refine own_by (fun t_ k_ => XS.icmpYes X0.here hx rfl (pc0 := 4) (pc' := 34) rfl (hb hby d13_4) rfl (XT.ii_ne_t (by decide)) (by decide) (by decide) k_) ?_
  show own_Go p e below _ T0 (mkF m 34 #[oR v1, oR v2, .unset] [])
  refine own_by (fun t_ k_ => XT.iconstV X0.here hx rfl (0 : Int32) (hb hby d13_34) (by decide) k_) ?_
  show own_Go p e below _ T0 (mkF m 35 #[oR v1, oR v2, .unset] [(.int (0 : Int32))])
  exact own_retN X0 hx hlk hret (by simp) (w := (0 : Int32)) (hb hby d13_35) (by decide) (by decide) (by decide) (⟨by rw [own_le_1_2], e0, rfl⟩)
def own_eq_1_2 (a : Addr) (b : Addr) (v1 v2 : Addr) (k1 k2 : ClassId) (x0 y0 y1 : Int32) : Int32 := (if (own_le_1_2 v1 v2 k1 k2 x0 y0 y1) = (0 : Int32) then (0 : Int32) else (1 : Int32))
set_option maxRecDepth 65536 in
set_option maxHeartbeats 40000000 in
theorem own_eq_1_2_met (l : Launch) (Z : State) (a0 : Array Value) (hw : ∀ d ∈ tables_1, d.before a0 Z = true) (a : Addr) (b : Addr) (v1 v2 : Addr) (k1 k2 : ClassId) (x0 y0 y1 : Int32) (h0 : Heap) (cs : Int32) (Cs : Sta Z h0 "java/lang/String" "COMPACT_STRINGS" "Z" (.int cs)) (hcs : ¬ cs = (0 : Int32)) (hne : a ≠ b) (E1 : Exa Z h0 a "java/lang/String") (V1 : Fld Z h0 a "java/lang/String" "value" "[B" (.ref v1)) (C1 : Fld Z h0 a "java/lang/String" "coder" "B" (.int 0)) (A1 : own_A Z h0 v1 .byte k1 [(.int x0)])(E2 : Exa Z h0 b "java/lang/String") (V2 : Fld Z h0 b "java/lang/String" "value" "[B" (.ref v2)) (C2 : Fld Z h0 b "java/lang/String" "coder" "B" (.int 0)) (A2 : own_A Z h0 v2 .byte k2 [(.int y0), (.int y1)]) :
    own_Met l (⟨"java/lang/String", "equals", "(Ljava/lang/Object;)Z"⟩ : MethodName) jdk_42_method_66_code 3 (some .boolean) [] ({ frames := 1, cells := 0, slots := 0, locals := 14 } : Room) Z #[(.ref a), (.ref b)] h0 (fun rv rh rL => rv = some (.int (own_eq_1_2 a b v1 v2 k1 k2 x0 y0 y1)) ∧ rh = h0 ∧ rL = []) := by
  refine own_enter (plainFor_of_name pn_1) ?_
  intro p e s m below meth c T0 hx hby hml hret hlk hown hnm hZ X0 e0
  refine own_at (g' := (mkF m 0 #[oR a, oR b, .unset] [])) (by first | (simp [entryFrame, mkF, argsToLocals, Value.category]; done) | rfl) ?_
  show own_Go p e below _ T0 (mkF m 0 #[oR a, oR b, .unset] [])
  have K0 : Keep h0 h0 [] := Keep.refl h0 _
  have N0 : own_Fr h0.size h0.size [] := own_Fr.nil
  refine own_by (fun t_ k_ => XS.aloadN X0.here hx rfl (hb hby d12_0) rfl rfl  k_) ?_
  show own_Go p e below _ T0 (mkF m 1 #[oR a, oR b, .unset] [(.ref a)])
  refine own_by (fun t_ k_ => XS.aloadN X0.here hx rfl (hb hby d12_1) rfl rfl  k_) ?_
  show own_Go p e below _ T0 (mkF m 2 #[oR a, oR b, .unset] [(.ref b), (.ref a)])
  refine own_by (fun t_ k_ => Jvm.RoadKit.acmp (g := (mkF m 2 #[oR a, oR b, .unset] [(.ref b), (.ref a)])) X0 hx rfl rfl rfl (pc0 := 2) (pc' := 7) (same := false) rfl (hb hby d12_2) rfl (decide_eq_false fun q => (hne) (Value.ref.inj q)) (by decide) (by decide) k_) ?_
  show own_Go p e below _ T0 (mkF m 7 #[oR a, oR b, .unset] [])
  refine own_by (fun t_ k_ => XS.aloadN X0.here hx rfl (hb hby d12_7) rfl rfl  k_) ?_
  show own_Go p e below _ T0 (mkF m 8 #[oR a, oR b, .unset] [(.ref b)])
  refine own_inst X0 hx hZ hown (hw _ (List.mem_of_getElem? (i := 82) rfl)) e0 E2 (hb hby d12_8) ?_
  intro T1 XT1 eT1
  show own_Go p e below _ T1 (mkF m 11 #[oR a, oR b, .unset] [(.int (1 : Int32))])
  refine own_by (fun t_ k_ => XS.ifNo XT1.here hx rfl (hb hby d12_11) rfl (XT.i0_eq_f (by decide)) k_) ?_
  show own_Go p e below _ T1 (mkF m 14 #[oR a, oR b, .unset] [])
  refine own_by (fun t_ k_ => XS.aloadN XT1.here hx rfl (hb hby d12_14) rfl rfl  k_) ?_
  show own_Go p e below _ T1 (mkF m 15 #[oR a, oR b, .unset] [(.ref b)])
  refine own_cast XT1 hx hZ hown (hw _ (List.mem_of_getElem? (i := 82) rfl)) eT1 E2 (hb hby d12_15) ?_
  intro T2 XT2 eT2
  show own_Go p e below _ T2 (mkF m 18 #[oR a, oR b, .unset] [(.ref b)])
  refine own_by (fun t_ k_ => XS.astoreN XT2.here hx rfl (hb hby d12_18) rfl rfl (l' := #[oR a, oR b, oR b]) rfl k_) ?_
  show own_Go p e below _ T2 (mkF m 19 #[oR a, oR b, oR b] [])
  obtain ⟨T3, XT3, eT3, stT3⟩ := getS2 XT2 hx hZ hown (host := "") (Or.inl (hw _ (List.mem_of_getElem? (i := 59) rfl))) Via.refl eT2 Cs (g := (mkF m 19 #[oR a, oR b, oR b] [])) rfl (hb hby d12_19)
  refine own_by stT3 ?_
  show own_Go p e below _ T3 (mkF m 22 #[oR a, oR b, oR b] [(.int cs)])
  refine own_by (fun t_ k_ => XS.ifNo XT3.here hx rfl (hb hby d12_22) rfl (XT.i0_eq_f hcs) k_) ?_
  show own_Go p e below _ T3 (mkF m 25 #[oR a, oR b, oR b] [])
  refine own_by (fun t_ k_ => XS.aloadN XT3.here hx rfl (hb hby d12_25) rfl rfl  k_) ?_
  show own_Go p e below _ T3 (mkF m 26 #[oR a, oR b, oR b] [(.ref a)])
  refine own_getF XT3 hx hZ hown (hw _ (List.mem_of_getElem? (i := 25) rfl)) eT3 C1 (hb hby d12_26) ?_
  intro T4 XT4 eT4
  show own_Go p e below _ T4 (mkF m 29 #[oR a, oR b, oR b] [(.int (0 : Int32))])
  refine own_by (fun t_ k_ => XS.aloadN XT4.here hx rfl (hb hby d12_29) rfl rfl  k_) ?_
  show own_Go p e below _ T4 (mkF m 30 #[oR a, oR b, oR b] [(.ref b), (.int (0 : Int32))])
  refine own_getF XT4 hx hZ hown (hw _ (List.mem_of_getElem? (i := 25) rfl)) eT4 C2 (hb hby d12_30) ?_
  intro T5 XT5 eT5
  show own_Go p e below _ T5 (mkF m 33 #[oR a, oR b, oR b] [(.int (0 : Int32)), (.int (0 : Int32))])
  refine own_by (fun t_ k_ => XS.icmpNo XT5.here hx rfl (hb hby d12_33) rfl (XT.ii_ne_f (by decide)) k_) ?_
  show own_Go p e below _ T5 (mkF m 36 #[oR a, oR b, oR b] [])
  refine own_by (fun t_ k_ => XS.aloadN XT5.here hx rfl (hb hby d12_36) rfl rfl  k_) ?_
  show own_Go p e below _ T5 (mkF m 37 #[oR a, oR b, oR b] [(.ref a)])
  refine own_getF XT5 hx hZ hown (hw _ (List.mem_of_getElem? (i := 24) rfl)) eT5 V1 (hb hby d12_37) ?_
  intro T6 XT6 eT6
  show own_Go p e below _ T6 (mkF m 40 #[oR a, oR b, oR b] [(.ref v1)])
  refine own_by (fun t_ k_ => XS.aloadN XT6.here hx rfl (hb hby d12_40) rfl rfl  k_) ?_
  show own_Go p e below _ T6 (mkF m 41 #[oR a, oR b, oR b] [(.ref b), (.ref v1)])
  refine own_getF XT6 hx hZ hown (hw _ (List.mem_of_getElem? (i := 24) rfl)) eT6 V2 (hb hby d12_41) ?_
  intro T7 XT7 eT7
  show own_Go p e below _ T7 (mkF m 44 #[oR a, oR b, oR b] [(.ref v2), (.ref v1)])
  refine own_callS XT7 hx hZ hown (hw _ (List.mem_of_getElem? (i := 83) rfl)) (hw _ (List.mem_of_getElem? (i := 84) rfl)) (hw _ (List.mem_of_getElem? (i := 85) rfl)) (hw _ (List.mem_of_getElem? (i := 86) rfl)) (by decide) eT7 (argsL := [(.ref v1), (.ref v2)]) (rest := []) (own_le_1_2_met l Z a0 hw v1 v2 k1 k2 x0 y0 y1 h0 A1 A2) 0 (by decide) (by decide) (by rw [hml]; rfl) (lenOf pd_6 rfl) (Nat.le_of_eq rfl) (hb hby d12_44) (by decide) (by decide) (st := [(.ref v2), (.ref v1)]) rfl ?_
  intro T8 LT8 vT8 XT8 hQT8
  obtain ⟨rfl, eT8, rfl⟩ := hQT8
  show own_Go p e below _ T8 (mkF m 47 #[oR a, oR b, oR b] [(.int (own_le_1_2 v1 v2 k1 k2 x0 y0 y1))])
  have N9 := own_Fr.app N0 own_Fr.nil
  by_cases c47_9 : (own_le_1_2 v1 v2 k1 k2 x0 y0 y1) = (0 : Int32)
  · refine own_by (fun t_ k_ => XS.ifYes XT8.here hx rfl (pc0 := 47) (pc' := 54) rfl (hb hby d12_47) rfl (XT.i0_eq_t c47_9) (by decide) (by decide) k_) ?_
    show own_Go p e below _ T8 (mkF m 54 #[oR a, oR b, oR b] [])
    refine own_by (fun t_ k_ => XT.iconstV XT8.here hx rfl (0 : Int32) (hb hby d12_54) (by decide) k_) ?_
    show own_Go p e below _ T8 (mkF m 55 #[oR a, oR b, oR b] [(.int (0 : Int32))])
    exact own_retN XT8 hx hlk hret (by simp) (w := (0 : Int32)) (hb hby d12_55) (by decide) (by decide) (by decide) (⟨by rw [own_eq_1_2, if_pos c47_9], eT8, rfl⟩)
  · refine own_by (fun t_ k_ => XS.ifNo XT8.here hx rfl (hb hby d12_47) rfl (XT.i0_eq_f c47_9) k_) ?_
    show own_Go p e below _ T8 (mkF m 50 #[oR a, oR b, oR b] [])
    refine own_by (fun t_ k_ => XT.iconstV XT8.here hx rfl (1 : Int32) (hb hby d12_50) (by decide) k_) ?_
    show own_Go p e below _ T8 (mkF m 51 #[oR a, oR b, oR b] [(.int (1 : Int32))])
    refine own_by (fun t_ k_ => XS.goto XT8.here hx rfl (pc0 := 51) (pc' := 55) rfl (hb hby d12_51) (by decide) (by decide) k_) ?_
    show own_Go p e below _ T8 (mkF m 55 #[oR a, oR b, oR b] [(.int (1 : Int32))])
    exact own_retN XT8 hx hlk hret (by simp) (w := (1 : Int32)) (hb hby d12_55) (by decide) (by decide) (by decide) (⟨by rw [own_eq_1_2, if_neg c47_9], eT8, rfl⟩)
def own_is_1_2 (a : Addr) (b : Addr) (kd wW tx : Addr) (v1 v2 : Addr) (k1 k2 : ClassId) (x0 y0 y1 : Int32) : Int32 := (if kd = wW then (if (own_eq_1_2 tx b v1 v2 k1 k2 x0 y0 y1) = (0 : Int32) then (0 : Int32) else (1 : Int32)) else (0 : Int32))
set_option maxRecDepth 65536 in
set_option maxHeartbeats 40000000 in
theorem own_is_1_2_met (l : Launch) (Z : State) (a0 : Array Value) (hw : ∀ d ∈ tables_1, d.before a0 Z = true) (a : Addr) (b : Addr) (kd wW tx : Addr) (v1 v2 : Addr) (k1 k2 : ClassId) (x0 y0 y1 : Int32) (h0 : Heap) (cs : Int32) (Cs : Sta Z h0 "java/lang/String" "COMPACT_STRINGS" "Z" (.int cs)) (hcs : ¬ cs = (0 : Int32)) (hne : tx ≠ b) (SW : Sta Z h0 "com/example/nimble_gate/nimblegate/policy/Token$Kind" "SYMBOL" "Lcom/example/nimble_gate/nimblegate/policy/Token$Kind;" (.ref wW)) (Fk : Fld Z h0 a "com/example/nimble_gate/nimblegate/policy/Token" "kind" "Lcom/example/nimble_gate/nimblegate/policy/Token$Kind;" (.ref kd)) (Ft : Fld Z h0 a "com/example/nimble_gate/nimblegate/policy/Token" "text" "Ljava/lang/String;" (.ref tx))(E1 : Exa Z h0 tx "java/lang/String") (V1 : Fld Z h0 tx "java/lang/String" "value" "[B" (.ref v1)) (C1 : Fld Z h0 tx "java/lang/String" "coder" "B" (.int 0)) (A1 : own_A Z h0 v1 .byte k1 [(.int x0)])(E2 : Exa Z h0 b "java/lang/String") (V2 : Fld Z h0 b "java/lang/String" "value" "[B" (.ref v2)) (C2 : Fld Z h0 b "java/lang/String" "coder" "B" (.int 0)) (A2 : own_A Z h0 v2 .byte k2 [(.int y0), (.int y1)]) :
    own_Met l (⟨"com/example/nimble_gate/nimblegate/policy/Token", "isSymbol", "(Ljava/lang/String;)Z"⟩ : MethodName) prog_15_method_3_code 2 (some .boolean) [] ({ frames := 2, cells := 0, slots := 0, locals := 28 } : Room) Z #[(.ref a), (.ref b)] h0 (fun rv rh rL => rv = some (.int (own_is_1_2 a b kd wW tx v1 v2 k1 k2 x0 y0 y1)) ∧ rh = h0 ∧ rL = []) := by
  refine own_enter (plainFor_of_name pn_4) ?_
  intro p e s m below meth c T0 hx hby hml hret hlk hown hnm hZ X0 e0
  refine own_at (g' := (mkF m 0 #[oR a, oR b] [])) (by first | (simp [entryFrame, mkF, argsToLocals, Value.category]; done) | rfl) ?_
  show own_Go p e below _ T0 (mkF m 0 #[oR a, oR b] [])
  have K0 : Keep h0 h0 [] := Keep.refl h0 _
  have N0 : own_Fr h0.size h0.size [] := own_Fr.nil
  refine own_by (fun t_ k_ => XS.aloadN X0.here hx rfl (hb hby d8_0) rfl rfl  k_) ?_
  show own_Go p e below _ T0 (mkF m 1 #[oR a, oR b] [(.ref a)])
  refine own_getF X0 hx hZ hown (hw _ (List.mem_of_getElem? (i := 44) rfl)) e0 Fk (hb hby d8_1) ?_
  intro T1 XT1 eT1
  show own_Go p e below _ T1 (mkF m 4 #[oR a, oR b] [(.ref kd)])
  obtain ⟨T2, XT2, eT2, stT2⟩ := getS2 XT1 hx hZ hown (host := "") (Or.inl (hw _ (List.mem_of_getElem? (i := 57) rfl))) Via.refl eT1 SW (g := (mkF m 4 #[oR a, oR b] [(.ref kd)])) rfl (hb hby d8_4)
  refine own_by stT2 ?_
  show own_Go p e below _ T2 (mkF m 7 #[oR a, oR b] [(.ref wW), (.ref kd)])
  by_cases c7_2 : kd = wW
  · refine own_by (fun t_ k_ => Jvm.RoadKit.acmp (g := (mkF m 7 #[oR a, oR b] [(.ref wW), (.ref kd)])) XT2 hx rfl rfl rfl (pc0 := 7) (pc' := 10) (same := true) rfl (hb hby d8_7) rfl (decide_eq_true (congrArg Value.ref (c7_2))) (by decide) (by decide) k_) ?_
    show own_Go p e below _ T2 (mkF m 10 #[oR a, oR b] [])
    refine own_by (fun t_ k_ => XS.aloadN XT2.here hx rfl (hb hby d8_10) rfl rfl  k_) ?_
    show own_Go p e below _ T2 (mkF m 11 #[oR a, oR b] [(.ref a)])
    refine own_getF XT2 hx hZ hown (hw _ (List.mem_of_getElem? (i := 46) rfl)) eT2 Ft (hb hby d8_11) ?_
    intro T4 XT4 eT4
    show own_Go p e below _ T4 (mkF m 14 #[oR a, oR b] [(.ref tx)])
    refine own_by (fun t_ k_ => XS.aloadN XT4.here hx rfl (hb hby d8_14) rfl rfl  k_) ?_
    show own_Go p e below _ T4 (mkF m 15 #[oR a, oR b] [(.ref b), (.ref tx)])
    refine own_callV XT4 hx hZ hown (hw _ (List.mem_of_getElem? (i := 77) rfl)) (hw _ (List.mem_of_getElem? (i := 78) rfl)) (hw _ (List.mem_of_getElem? (i := 80) rfl)) (hw _ (List.mem_of_getElem? (i := 79) rfl)) (hw _ (List.mem_of_getElem? (i := 81) rfl)) (hw _ (List.mem_of_getElem? (i := 6) rfl)) (by decide) eT4 (b := tx) E1 (argsL := [(.ref b)]) (rest := []) (own_eq_1_2_met l Z a0 hw tx b v1 v2 k1 k2 x0 y0 y1 h0 cs Cs hcs hne E1 V1 C1 A1 E2 V2 C2 A2) 0 (by decide) (by decide) (by rw [hml]; rfl) (lenOf pd_7 rfl) (Nat.le_of_eq rfl) (hb hby d8_15) (by decide) (by decide) (st := [(.ref b), (.ref tx)]) rfl ?_
    intro T5 LT5 vT5 XT5 hQT5
    obtain ⟨rfl, eT5, rfl⟩ := hQT5
    show own_Go p e below _ T5 (mkF m 18 #[oR a, oR b] [(.int (own_eq_1_2 tx b v1 v2 k1 k2 x0 y0 y1))])
    have N6 := own_Fr.app N0 own_Fr.nil
    by_cases c18_6 : (own_eq_1_2 tx b v1 v2 k1 k2 x0 y0 y1) = (0 : Int32)
    · refine own_by (fun t_ k_ => XS.ifYes XT5.here hx rfl (pc0 := 18) (pc' := 25) rfl (hb hby d8_18) rfl (XT.i0_eq_t c18_6) (by decide) (by decide) k_) ?_
      show own_Go p e below _ T5 (mkF m 25 #[oR a, oR b] [])
      refine own_by (fun t_ k_ => XT.iconstV XT5.here hx rfl (0 : Int32) (hb hby d8_25) (by decide) k_) ?_
      show own_Go p e below _ T5 (mkF m 26 #[oR a, oR b] [(.int (0 : Int32))])
      exact own_retN XT5 hx hlk hret (by simp) (w := (0 : Int32)) (hb hby d8_26) (by decide) (by decide) (by decide) (⟨by rw [own_is_1_2, if_pos c7_2, if_pos c18_6], eT5, rfl⟩)
    · refine own_by (fun t_ k_ => XS.ifNo XT5.here hx rfl (hb hby d8_18) rfl (XT.i0_eq_f c18_6) k_) ?_
      show own_Go p e below _ T5 (mkF m 21 #[oR a, oR b] [])
      refine own_by (fun t_ k_ => XT.iconstV XT5.here hx rfl (1 : Int32) (hb hby d8_21) (by decide) k_) ?_
      show own_Go p e below _ T5 (mkF m 22 #[oR a, oR b] [(.int (1 : Int32))])
      refine own_by (fun t_ k_ => XS.goto XT5.here hx rfl (pc0 := 22) (pc' := 26) rfl (hb hby d8_22) (by decide) (by decide) k_) ?_
      show own_Go p e below _ T5 (mkF m 26 #[oR a, oR b] [(.int (1 : Int32))])
      exact own_retN XT5 hx hlk hret (by simp) (w := (1 : Int32)) (hb hby d8_26) (by decide) (by decide) (by decide) (⟨by rw [own_is_1_2, if_pos c7_2, if_neg c18_6], eT5, rfl⟩)
  · refine own_by (fun t_ k_ => Jvm.RoadKit.acmp (g := (mkF m 7 #[oR a, oR b] [(.ref wW), (.ref kd)])) XT2 hx rfl rfl rfl (pc0 := 7) (pc' := 25) (same := false) rfl (hb hby d8_7) rfl (decide_eq_false fun q => (c7_2) (Value.ref.inj q)) (by decide) (by decide) k_) ?_
    show own_Go p e below _ T2 (mkF m 25 #[oR a, oR b] [])
    refine own_by (fun t_ k_ => XT.iconstV XT2.here hx rfl (0 : Int32) (hb hby d8_25) (by decide) k_) ?_
    show own_Go p e below _ T2 (mkF m 26 #[oR a, oR b] [(.int (0 : Int32))])
    exact own_retN XT2 hx hlk hret (by simp) (w := (0 : Int32)) (hb hby d8_26) (by decide) (by decide) (by decide) (⟨by rw [own_is_1_2, if_neg c7_2], eT2, rfl⟩)
def own_le_2_0 (v1 : Addr) (v2 : Addr) (k1 k2 : ClassId) (x0 x1 : Int32) : Int32 := (0 : Int32)
set_option maxRecDepth 65536 in
set_option maxHeartbeats 40000000 in
theorem own_le_2_0_met (l : Launch) (Z : State) (a0 : Array Value) (hw : ∀ d ∈ tables_1, d.before a0 Z = true) (v1 : Addr) (v2 : Addr) (k1 k2 : ClassId) (x0 x1 : Int32) (h0 : Heap) (A1 : own_A Z h0 v1 .byte k1 [(.int x0), (.int x1)]) (A2 : own_A Z h0 v2 .byte k2 []) :
    own_Met l (⟨"java/lang/StringLatin1", "equals", "([B[B)Z"⟩ : MethodName) jdk_43_method_13_code 3 (some .boolean) [] ({ frames := 0, cells := 0, slots := 0, locals := 0 } : Room) Z #[(.ref v1), (.ref v2)] h0 (fun rv rh rL => rv = some (.int (own_le_2_0 v1 v2 k1 k2 x0 x1)) ∧ rh = h0 ∧ rL = []) := by
  refine own_enter (plainFor_of_name pn_5) ?_
  intro p e s m below meth c T0 hx hby hml hret hlk hown hnm hZ X0 e0
  refine own_at (g' := (mkF m 0 #[oR v1, oR v2, .unset] [])) (by first | (simp [entryFrame, mkF, argsToLocals, Value.category]; done) | rfl) ?_
  show own_Go p e below _ T0 (mkF m 0 #[oR v1, oR v2, .unset] [])
  have K0 : Keep h0 h0 [] := Keep.refl h0 _
  have N0 : own_Fr h0.size h0.size [] := own_Fr.nil
  refine own_by (fun t_ k_ => XS.aloadN X0.here hx rfl (hb hby d13_0) rfl rfl  k_) ?_
  show own_Go p e below _ T0 (mkF m 1 #[oR v1, oR v2, .unset] [(.ref v1)])
  refine own_len X0 hx hZ e0 A1 (2 : Int32) rfl (hb hby d13_1) ?_
  show own_Go p e below _ T0 (mkF m 2 #[oR v1, oR v2, .unset] [(.int (2 : Int32))])
  refine own_by (fun t_ k_ => XS.aloadN X0.here hx rfl (hb hby d13_2) rfl rfl  k_) ?_
  show own_Go p e below _ T0 (mkF m 3 #[oR v1, oR v2, .unset] [(.ref v2), (.int (2 : Int32))])
  refine own_len X0 hx hZ e0 A2 (0 : Int32) rfl (hb hby d13_3) ?_
  show own_Go p e below _ T0 (mkF m 4 #[oR v1, oR v2, .unset] [(.int (0 : Int32)), (.int (2 : Int32))])
  refine own_by (fun t_ k_ => XS.icmpYes X0.here hx rfl (pc0 := 4) (pc' := 34) rfl (hb hby d13_4) rfl (XT.ii_ne_t (by decide)) (by decide) (by decide) k_) ?_
  show own_Go p e below _ T0 (mkF m 34 #[oR v1, oR v2, .unset] [])
  refine own_by (fun t_ k_ => XT.iconstV X0.here hx rfl (0 : Int32) (hb hby d13_34) (by decide) k_) ?_
  show own_Go p e below _ T0 (mkF m 35 #[oR v1, oR v2, .unset] [(.int (0 : Int32))])
  exact own_retN X0 hx hlk hret (by simp) (w := (0 : Int32)) (hb hby d13_35) (by decide) (by decide) (by decide) (⟨by rw [own_le_2_0], e0, rfl⟩)
def own_eq_2_0 (a : Addr) (b : Addr) (v1 v2 : Addr) (k1 k2 : ClassId) (x0 x1 : Int32) : Int32 := (if (own_le_2_0 v1 v2 k1 k2 x0 x1) = (0 : Int32) then (0 : Int32) else (1 : Int32))
set_option maxRecDepth 65536 in
set_option maxHeartbeats 40000000 in
theorem own_eq_2_0_met (l : Launch) (Z : State) (a0 : Array Value) (hw : ∀ d ∈ tables_1, d.before a0 Z = true) (a : Addr) (b : Addr) (v1 v2 : Addr) (k1 k2 : ClassId) (x0 x1 : Int32) (h0 : Heap) (cs : Int32) (Cs : Sta Z h0 "java/lang/String" "COMPACT_STRINGS" "Z" (.int cs)) (hcs : ¬ cs = (0 : Int32)) (hne : a ≠ b) (E1 : Exa Z h0 a "java/lang/String") (V1 : Fld Z h0 a "java/lang/String" "value" "[B" (.ref v1)) (C1 : Fld Z h0 a "java/lang/String" "coder" "B" (.int 0)) (A1 : own_A Z h0 v1 .byte k1 [(.int x0), (.int x1)])(E2 : Exa Z h0 b "java/lang/String") (V2 : Fld Z h0 b "java/lang/String" "value" "[B" (.ref v2)) (C2 : Fld Z h0 b "java/lang/String" "coder" "B" (.int 0)) (A2 : own_A Z h0 v2 .byte k2 []) :
    own_Met l (⟨"java/lang/String", "equals", "(Ljava/lang/Object;)Z"⟩ : MethodName) jdk_42_method_66_code 3 (some .boolean) [] ({ frames := 1, cells := 0, slots := 0, locals := 14 } : Room) Z #[(.ref a), (.ref b)] h0 (fun rv rh rL => rv = some (.int (own_eq_2_0 a b v1 v2 k1 k2 x0 x1)) ∧ rh = h0 ∧ rL = []) := by
  refine own_enter (plainFor_of_name pn_1) ?_
  intro p e s m below meth c T0 hx hby hml hret hlk hown hnm hZ X0 e0
  refine own_at (g' := (mkF m 0 #[oR a, oR b, .unset] [])) (by first | (simp [entryFrame, mkF, argsToLocals, Value.category]; done) | rfl) ?_
  show own_Go p e below _ T0 (mkF m 0 #[oR a, oR b, .unset] [])
  have K0 : Keep h0 h0 [] := Keep.refl h0 _
  have N0 : own_Fr h0.size h0.size [] := own_Fr.nil
  refine own_by (fun t_ k_ => XS.aloadN X0.here hx rfl (hb hby d12_0) rfl rfl  k_) ?_
  show own_Go p e below _ T0 (mkF m 1 #[oR a, oR b, .unset] [(.ref a)])
  refine own_by (fun t_ k_ => XS.aloadN X0.here hx rfl (hb hby d12_1) rfl rfl  k_) ?_
  show own_Go p e below _ T0 (mkF m 2 #[oR a, oR b, .unset] [(.ref b), (.ref a)])
  refine own_by (fun t_ k_ => Jvm.RoadKit.acmp (g := (mkF m 2 #[oR a, oR b, .unset] [(.ref b), (.ref a)])) X0 hx rfl rfl rfl (pc0 := 2) (pc' := 7) (same := false) rfl (hb hby d12_2) rfl (decide_eq_false fun q => (hne) (Value.ref.inj q)) (by decide) (by decide) k_) ?_
  show own_Go p e below _ T0 (mkF m 7 #[oR a, oR b, .unset] [])
  refine own_by (fun t_ k_ => XS.aloadN X0.here hx rfl (hb hby d12_7) rfl rfl  k_) ?_
  show own_Go p e below _ T0 (mkF m 8 #[oR a, oR b, .unset] [(.ref b)])
  refine own_inst X0 hx hZ hown (hw _ (List.mem_of_getElem? (i := 82) rfl)) e0 E2 (hb hby d12_8) ?_
  intro T1 XT1 eT1
  show own_Go p e below _ T1 (mkF m 11 #[oR a, oR b, .unset] [(.int (1 : Int32))])
  refine own_by (fun t_ k_ => XS.ifNo XT1.here hx rfl (hb hby d12_11) rfl (XT.i0_eq_f (by decide)) k_) ?_
  show own_Go p e below _ T1 (mkF m 14 #[oR a, oR b, .unset] [])
  refine own_by (fun t_ k_ => XS.aloadN XT1.here hx rfl (hb hby d12_14) rfl rfl  k_) ?_
  show own_Go p e below _ T1 (mkF m 15 #[oR a, oR b, .unset] [(.ref b)])
  refine own_cast XT1 hx hZ hown (hw _ (List.mem_of_getElem? (i := 82) rfl)) eT1 E2 (hb hby d12_15) ?_
  intro T2 XT2 eT2
  show own_Go p e below _ T2 (mkF m 18 #[oR a, oR b, .unset] [(.ref b)])
  refine own_by (fun t_ k_ => XS.astoreN XT2.here hx rfl (hb hby d12_18) rfl rfl (l' := #[oR a, oR b, oR b]) rfl k_) ?_
  show own_Go p e below _ T2 (mkF m 19 #[oR a, oR b, oR b] [])
  obtain ⟨T3, XT3, eT3, stT3⟩ := getS2 XT2 hx hZ hown (host := "") (Or.inl (hw _ (List.mem_of_getElem? (i := 59) rfl))) Via.refl eT2 Cs (g := (mkF m 19 #[oR a, oR b, oR b] [])) rfl (hb hby d12_19)
  refine own_by stT3 ?_
  show own_Go p e below _ T3 (mkF m 22 #[oR a, oR b, oR b] [(.int cs)])
  refine own_by (fun t_ k_ => XS.ifNo XT3.here hx rfl (hb hby d12_22) rfl (XT.i0_eq_f hcs) k_) ?_
  show own_Go p e below _ T3 (mkF m 25 #[oR a, oR b, oR b] [])
  refine own_by (fun t_ k_ => XS.aloadN XT3.here hx rfl (hb hby d12_25) rfl rfl  k_) ?_
  show own_Go p e below _ T3 (mkF m 26 #[oR a, oR b, oR b] [(.ref a)])
  refine own_getF XT3 hx hZ hown (hw _ (List.mem_of_getElem? (i := 25) rfl)) eT3 C1 (hb hby d12_26) ?_
  intro T4 XT4 eT4
  show own_Go p e below _ T4 (mkF m 29 #[oR a, oR b, oR b] [(.int (0 : Int32))])
  refine own_by (fun t_ k_ => XS.aloadN XT4.here hx rfl (hb hby d12_29) rfl rfl  k_) ?_
  show own_Go p e below _ T4 (mkF m 30 #[oR a, oR b, oR b] [(.ref b), (.int (0 : Int32))])
  refine own_getF XT4 hx hZ hown (hw _ (List.mem_of_getElem? (i := 25) rfl)) eT4 C2 (hb hby d12_30) ?_
  intro T5 XT5 eT5
  show own_Go p e below _ T5 (mkF m 33 #[oR a, oR b, oR b] [(.int (0 : Int32)), (.int (0 : Int32))])
  refine own_by (fun t_ k_ => XS.icmpNo XT5.here hx rfl (hb hby d12_33) rfl (XT.ii_ne_f (by decide)) k_) ?_
  show own_Go p e below _ T5 (mkF m 36 #[oR a, oR b, oR b] [])
  refine own_by (fun t_ k_ => XS.aloadN XT5.here hx rfl (hb hby d12_36) rfl rfl  k_) ?_
  show own_Go p e below _ T5 (mkF m 37 #[oR a, oR b, oR b] [(.ref a)])
  refine own_getF XT5 hx hZ hown (hw _ (List.mem_of_getElem? (i := 24) rfl)) eT5 V1 (hb hby d12_37) ?_
  intro T6 XT6 eT6
  show own_Go p e below _ T6 (mkF m 40 #[oR a, oR b, oR b] [(.ref v1)])
  refine own_by (fun t_ k_ => XS.aloadN XT6.here hx rfl (hb hby d12_40) rfl rfl  k_) ?_
  show own_Go p e below _ T6 (mkF m 41 #[oR a, oR b, oR b] [(.ref b), (.ref v1)])
  refine own_getF XT6 hx hZ hown (hw _ (List.mem_of_getElem? (i := 24) rfl)) eT6 V2 (hb hby d12_41) ?_
  intro T7 XT7 eT7
  show own_Go p e below _ T7 (mkF m 44 #[oR a, oR b, oR b] [(.ref v2), (.ref v1)])
  refine own_callS XT7 hx hZ hown (hw _ (List.mem_of_getElem? (i := 83) rfl)) (hw _ (List.mem_of_getElem? (i := 84) rfl)) (hw _ (List.mem_of_getElem? (i := 85) rfl)) (hw _ (List.mem_of_getElem? (i := 86) rfl)) (by decide) eT7 (argsL := [(.ref v1), (.ref v2)]) (rest := []) (own_le_2_0_met l Z a0 hw v1 v2 k1 k2 x0 x1 h0 A1 A2) 0 (by decide) (by decide) (by rw [hml]; rfl) (lenOf pd_6 rfl) (Nat.le_of_eq rfl) (hb hby d12_44) (by decide) (by decide) (st := [(.ref v2), (.ref v1)]) rfl ?_
  intro T8 LT8 vT8 XT8 hQT8
  obtain ⟨rfl, eT8, rfl⟩ := hQT8
  show own_Go p e below _ T8 (mkF m 47 #[oR a, oR b, oR b] [(.int (own_le_2_0 v1 v2 k1 k2 x0 x1))])
  have N9 := own_Fr.app N0 own_Fr.nil
  by_cases c47_9 : (own_le_2_0 v1 v2 k1 k2 x0 x1) = (0 : Int32)
  · refine own_by (fun t_ k_ => XS.ifYes XT8.here hx rfl (pc0 := 47) (pc' := 54) rfl (hb hby d12_47) rfl (XT.i0_eq_t c47_9) (by decide) (by decide) k_) ?_
    show own_Go p e below _ T8 (mkF m 54 #[oR a, oR b, oR b] [])
    refine own_by (fun t_ k_ => XT.iconstV XT8.here hx rfl (0 : Int32) (hb hby d12_54) (by decide) k_) ?_
    show own_Go p e below _ T8 (mkF m 55 #[oR a, oR b, oR b] [(.int (0 : Int32))])
    exact own_retN XT8 hx hlk hret (by simp) (w := (0 : Int32)) (hb hby d12_55) (by decide) (by decide) (by decide) (⟨by rw [own_eq_2_0, if_pos c47_9], eT8, rfl⟩)
  · refine own_by (fun t_ k_ => XS.ifNo XT8.here hx rfl (hb hby d12_47) rfl (XT.i0_eq_f c47_9) k_) ?_
    show own_Go p e below _ T8 (mkF m 50 #[oR a, oR b, oR b] [])
    refine own_by (fun t_ k_ => XT.iconstV XT8.here hx rfl (1 : Int32) (hb hby d12_50) (by decide) k_) ?_
    show own_Go p e below _ T8 (mkF m 51 #[oR a, oR b, oR b] [(.int (1 : Int32))])
    refine own_by (fun t_ k_ => XS.goto XT8.here hx rfl (pc0 := 51) (pc' := 55) rfl (hb hby d12_51) (by decide) (by decide) k_) ?_
    show own_Go p e below _ T8 (mkF m 55 #[oR a, oR b, oR b] [(.int (1 : Int32))])
    exact own_retN XT8 hx hlk hret (by simp) (w := (1 : Int32)) (hb hby d12_55) (by decide) (by decide) (by decide) (⟨by rw [own_eq_2_0, if_neg c47_9], eT8, rfl⟩)
def own_is_2_0 (a : Addr) (b : Addr) (kd wW tx : Addr) (v1 v2 : Addr) (k1 k2 : ClassId) (x0 x1 : Int32) : Int32 := (if kd = wW then (if (own_eq_2_0 tx b v1 v2 k1 k2 x0 x1) = (0 : Int32) then (0 : Int32) else (1 : Int32)) else (0 : Int32))
set_option maxRecDepth 65536 in
set_option maxHeartbeats 40000000 in
theorem own_is_2_0_met (l : Launch) (Z : State) (a0 : Array Value) (hw : ∀ d ∈ tables_1, d.before a0 Z = true) (a : Addr) (b : Addr) (kd wW tx : Addr) (v1 v2 : Addr) (k1 k2 : ClassId) (x0 x1 : Int32) (h0 : Heap) (cs : Int32) (Cs : Sta Z h0 "java/lang/String" "COMPACT_STRINGS" "Z" (.int cs)) (hcs : ¬ cs = (0 : Int32)) (hne : tx ≠ b) (SW : Sta Z h0 "com/example/nimble_gate/nimblegate/policy/Token$Kind" "SYMBOL" "Lcom/example/nimble_gate/nimblegate/policy/Token$Kind;" (.ref wW)) (Fk : Fld Z h0 a "com/example/nimble_gate/nimblegate/policy/Token" "kind" "Lcom/example/nimble_gate/nimblegate/policy/Token$Kind;" (.ref kd)) (Ft : Fld Z h0 a "com/example/nimble_gate/nimblegate/policy/Token" "text" "Ljava/lang/String;" (.ref tx))(E1 : Exa Z h0 tx "java/lang/String") (V1 : Fld Z h0 tx "java/lang/String" "value" "[B" (.ref v1)) (C1 : Fld Z h0 tx "java/lang/String" "coder" "B" (.int 0)) (A1 : own_A Z h0 v1 .byte k1 [(.int x0), (.int x1)])(E2 : Exa Z h0 b "java/lang/String") (V2 : Fld Z h0 b "java/lang/String" "value" "[B" (.ref v2)) (C2 : Fld Z h0 b "java/lang/String" "coder" "B" (.int 0)) (A2 : own_A Z h0 v2 .byte k2 []) :
    own_Met l (⟨"com/example/nimble_gate/nimblegate/policy/Token", "isSymbol", "(Ljava/lang/String;)Z"⟩ : MethodName) prog_15_method_3_code 2 (some .boolean) [] ({ frames := 2, cells := 0, slots := 0, locals := 28 } : Room) Z #[(.ref a), (.ref b)] h0 (fun rv rh rL => rv = some (.int (own_is_2_0 a b kd wW tx v1 v2 k1 k2 x0 x1)) ∧ rh = h0 ∧ rL = []) := by
  refine own_enter (plainFor_of_name pn_4) ?_
  intro p e s m below meth c T0 hx hby hml hret hlk hown hnm hZ X0 e0
  refine own_at (g' := (mkF m 0 #[oR a, oR b] [])) (by first | (simp [entryFrame, mkF, argsToLocals, Value.category]; done) | rfl) ?_
  show own_Go p e below _ T0 (mkF m 0 #[oR a, oR b] [])
  have K0 : Keep h0 h0 [] := Keep.refl h0 _
  have N0 : own_Fr h0.size h0.size [] := own_Fr.nil
  refine own_by (fun t_ k_ => XS.aloadN X0.here hx rfl (hb hby d8_0) rfl rfl  k_) ?_
  show own_Go p e below _ T0 (mkF m 1 #[oR a, oR b] [(.ref a)])
  refine own_getF X0 hx hZ hown (hw _ (List.mem_of_getElem? (i := 44) rfl)) e0 Fk (hb hby d8_1) ?_
  intro T1 XT1 eT1
  show own_Go p e below _ T1 (mkF m 4 #[oR a, oR b] [(.ref kd)])
  obtain ⟨T2, XT2, eT2, stT2⟩ := getS2 XT1 hx hZ hown (host := "") (Or.inl (hw _ (List.mem_of_getElem? (i := 57) rfl))) Via.refl eT1 SW (g := (mkF m 4 #[oR a, oR b] [(.ref kd)])) rfl (hb hby d8_4)
  refine own_by stT2 ?_
  show own_Go p e below _ T2 (mkF m 7 #[oR a, oR b] [(.ref wW), (.ref kd)])
  by_cases c7_2 : kd = wW
  · refine own_by (fun t_ k_ => Jvm.RoadKit.acmp (g := (mkF m 7 #[oR a, oR b] [(.ref wW), (.ref kd)])) XT2 hx rfl rfl rfl (pc0 := 7) (pc' := 10) (same := true) rfl (hb hby d8_7) rfl (decide_eq_true (congrArg Value.ref (c7_2))) (by decide) (by decide) k_) ?_
    show own_Go p e below _ T2 (mkF m 10 #[oR a, oR b] [])
    refine own_by (fun t_ k_ => XS.aloadN XT2.here hx rfl (hb hby d8_10) rfl rfl  k_) ?_
    show own_Go p e below _ T2 (mkF m 11 #[oR a, oR b] [(.ref a)])
    refine own_getF XT2 hx hZ hown (hw _ (List.mem_of_getElem? (i := 46) rfl)) eT2 Ft (hb hby d8_11) ?_
    intro T4 XT4 eT4
    show own_Go p e below _ T4 (mkF m 14 #[oR a, oR b] [(.ref tx)])
    refine own_by (fun t_ k_ => XS.aloadN XT4.here hx rfl (hb hby d8_14) rfl rfl  k_) ?_
    show own_Go p e below _ T4 (mkF m 15 #[oR a, oR b] [(.ref b), (.ref tx)])
    refine own_callV XT4 hx hZ hown (hw _ (List.mem_of_getElem? (i := 77) rfl)) (hw _ (List.mem_of_getElem? (i := 78) rfl)) (hw _ (List.mem_of_getElem? (i := 80) rfl)) (hw _ (List.mem_of_getElem? (i := 79) rfl)) (hw _ (List.mem_of_getElem? (i := 81) rfl)) (hw _ (List.mem_of_getElem? (i := 6) rfl)) (by decide) eT4 (b := tx) E1 (argsL := [(.ref b)]) (rest := []) (own_eq_2_0_met l Z a0 hw tx b v1 v2 k1 k2 x0 x1 h0 cs Cs hcs hne E1 V1 C1 A1 E2 V2 C2 A2) 0 (by decide) (by decide) (by rw [hml]; rfl) (lenOf pd_7 rfl) (Nat.le_of_eq rfl) (hb hby d8_15) (by decide) (by decide) (st := [(.ref b), (.ref tx)]) rfl ?_
    intro T5 LT5 vT5 XT5 hQT5
    obtain ⟨rfl, eT5, rfl⟩ := hQT5
    show own_Go p e below _ T5 (mkF m 18 #[oR a, oR b] [(.int (own_eq_2_0 tx b v1 v2 k1 k2 x0 x1))])
    have N6 := own_Fr.app N0 own_Fr.nil
    by_cases c18_6 : (own_eq_2_0 tx b v1 v2 k1 k2 x0 x1) = (0 : Int32)
    · refine own_by (fun t_ k_ => XS.ifYes XT5.here hx rfl (pc0 := 18) (pc' := 25) rfl (hb hby d8_18) rfl (XT.i0_eq_t c18_6) (by decide) (by decide) k_) ?_
      show own_Go p e below _ T5 (mkF m 25 #[oR a, oR b] [])
      refine own_by (fun t_ k_ => XT.iconstV XT5.here hx rfl (0 : Int32) (hb hby d8_25) (by decide) k_) ?_
      show own_Go p e below _ T5 (mkF m 26 #[oR a, oR b] [(.int (0 : Int32))])
      exact own_retN XT5 hx hlk hret (by simp) (w := (0 : Int32)) (hb hby d8_26) (by decide) (by decide) (by decide) (⟨by rw [own_is_2_0, if_pos c7_2, if_pos c18_6], eT5, rfl⟩)
    · refine own_by (fun t_ k_ => XS.ifNo XT5.here hx rfl (hb hby d8_18) rfl (XT.i0_eq_f c18_6) k_) ?_
      show own_Go p e below _ T5 (mkF m 21 #[oR a, oR b] [])
      refine own_by (fun t_ k_ => XT.iconstV XT5.here hx rfl (1 : Int32) (hb hby d8_21) (by decide) k_) ?_
      show own_Go p e below _ T5 (mkF m 22 #[oR a, oR b] [(.int (1 : Int32))])
      refine own_by (fun t_ k_ => XS.goto XT5.here hx rfl (pc0 := 22) (pc' := 26) rfl (hb hby d8_22) (by decide) (by decide) k_) ?_
      show own_Go p e below _ T5 (mkF m 26 #[oR a, oR b] [(.int (1 : Int32))])
      exact own_retN XT5 hx hlk hret (by simp) (w := (1 : Int32)) (hb hby d8_26) (by decide) (by decide) (by decide) (⟨by rw [own_is_2_0, if_pos c7_2, if_neg c18_6], eT5, rfl⟩)
  · refine own_by (fun t_ k_ => Jvm.RoadKit.acmp (g := (mkF m 7 #[oR a, oR b] [(.ref wW), (.ref kd)])) XT2 hx rfl rfl rfl (pc0 := 7) (pc' := 25) (same := false) rfl (hb hby d8_7) rfl (decide_eq_false fun q => (c7_2) (Value.ref.inj q)) (by decide) (by decide) k_) ?_
    show own_Go p e below _ T2 (mkF m 25 #[oR a, oR b] [])
    refine own_by (fun t_ k_ => XT.iconstV XT2.here hx rfl (0 : Int32) (hb hby d8_25) (by decide) k_) ?_
    show own_Go p e below _ T2 (mkF m 26 #[oR a, oR b] [(.int (0 : Int32))])
    exact own_retN XT2 hx hlk hret (by simp) (w := (0 : Int32)) (hb hby d8_26) (by decide) (by decide) (by decide) (⟨by rw [own_is_2_0, if_neg c7_2], eT2, rfl⟩)
def own_le_2_1 (v1 : Addr) (v2 : Addr) (k1 k2 : ClassId) (x0 x1 y0 : Int32) : Int32 := (0 : Int32)
set_option maxRecDepth 65536 in
set_option maxHeartbeats 40000000 in
theorem own_le_2_1_met (l : Launch) (Z : State) (a0 : Array Value) (hw : ∀ d ∈ tables_1, d.before a0 Z = true) (v1 : Addr) (v2 : Addr) (k1 k2 : ClassId) (x0 x1 y0 : Int32) (h0 : Heap) (A1 : own_A Z h0 v1 .byte k1 [(.int x0), (.int x1)]) (A2 : own_A Z h0 v2 .byte k2 [(.int y0)]) :
    own_Met l (⟨"java/lang/StringLatin1", "equals", "([B[B)Z"⟩ : MethodName) jdk_43_method_13_code 3 (some .boolean) [] ({ frames := 0, cells := 0, slots := 0, locals := 0 } : Room) Z #[(.ref v1), (.ref v2)] h0 (fun rv rh rL => rv = some (.int (own_le_2_1 v1 v2 k1 k2 x0 x1 y0)) ∧ rh = h0 ∧ rL = []) := by
  refine own_enter (plainFor_of_name pn_5) ?_
  intro p e s m below meth c T0 hx hby hml hret hlk hown hnm hZ X0 e0
  refine own_at (g' := (mkF m 0 #[oR v1, oR v2, .unset] [])) (by first | (simp [entryFrame, mkF, argsToLocals, Value.category]; done) | rfl) ?_
  show own_Go p e below _ T0 (mkF m 0 #[oR v1, oR v2, .unset] [])
  have K0 : Keep h0 h0 [] := Keep.refl h0 _
  have N0 : own_Fr h0.size h0.size [] := own_Fr.nil
  refine own_by (fun t_ k_ => XS.aloadN X0.here hx rfl (hb hby d13_0) rfl rfl  k_) ?_
  show own_Go p e below _ T0 (mkF m 1 #[oR v1, oR v2, .unset] [(.ref v1)])
  refine own_len X0 hx hZ e0 A1 (2 : Int32) rfl (hb hby d13_1) ?_
  show own_Go p e below _ T0 (mkF m 2 #[oR v1, oR v2, .unset] [(.int (2 : Int32))])
  refine own_by (fun t_ k_ => XS.aloadN X0.here hx rfl (hb hby d13_2) rfl rfl  k_) ?_
  show own_Go p e below _ T0 (mkF m 3 #[oR v1, oR v2, .unset] [(.ref v2), (.int (2 : Int32))])
  refine own_len X0 hx hZ e0 A2 (1 : Int32) rfl (hb hby d13_3) ?_
  show own_Go p e below _ T0 (mkF m 4 #[oR v1, oR v2, .unset] [(.int (1 : Int32)), (.int (2 : Int32))])
  refine own_by (fun t_ k_ => XS.icmpYes X0.here hx rfl (pc0 := 4) (pc' := 34) rfl (hb hby d13_4) rfl (XT.ii_ne_t (by decide)) (by decide) (by decide) k_) ?_
  show own_Go p e below _ T0 (mkF m 34 #[oR v1, oR v2, .unset] [])
  refine own_by (fun t_ k_ => XT.iconstV X0.here hx rfl (0 : Int32) (hb hby d13_34) (by decide) k_) ?_
  show own_Go p e below _ T0 (mkF m 35 #[oR v1, oR v2, .unset] [(.int (0 : Int32))])
  exact own_retN X0 hx hlk hret (by simp) (w := (0 : Int32)) (hb hby d13_35) (by decide) (by decide) (by decide) (⟨by rw [own_le_2_1], e0, rfl⟩)
def own_eq_2_1 (a : Addr) (b : Addr) (v1 v2 : Addr) (k1 k2 : ClassId) (x0 x1 y0 : Int32) : Int32 := (if (own_le_2_1 v1 v2 k1 k2 x0 x1 y0) = (0 : Int32) then (0 : Int32) else (1 : Int32))
set_option maxRecDepth 65536 in
set_option maxHeartbeats 40000000 in
theorem own_eq_2_1_met (l : Launch) (Z : State) (a0 : Array Value) (hw : ∀ d ∈ tables_1, d.before a0 Z = true) (a : Addr) (b : Addr) (v1 v2 : Addr) (k1 k2 : ClassId) (x0 x1 y0 : Int32) (h0 : Heap) (cs : Int32) (Cs : Sta Z h0 "java/lang/String" "COMPACT_STRINGS" "Z" (.int cs)) (hcs : ¬ cs = (0 : Int32)) (hne : a ≠ b) (E1 : Exa Z h0 a "java/lang/String") (V1 : Fld Z h0 a "java/lang/String" "value" "[B" (.ref v1)) (C1 : Fld Z h0 a "java/lang/String" "coder" "B" (.int 0)) (A1 : own_A Z h0 v1 .byte k1 [(.int x0), (.int x1)])(E2 : Exa Z h0 b "java/lang/String") (V2 : Fld Z h0 b "java/lang/String" "value" "[B" (.ref v2)) (C2 : Fld Z h0 b "java/lang/String" "coder" "B" (.int 0)) (A2 : own_A Z h0 v2 .byte k2 [(.int y0)]) :
    own_Met l (⟨"java/lang/String", "equals", "(Ljava/lang/Object;)Z"⟩ : MethodName) jdk_42_method_66_code 3 (some .boolean) [] ({ frames := 1, cells := 0, slots := 0, locals := 14 } : Room) Z #[(.ref a), (.ref b)] h0 (fun rv rh rL => rv = some (.int (own_eq_2_1 a b v1 v2 k1 k2 x0 x1 y0)) ∧ rh = h0 ∧ rL = []) := by
  refine own_enter (plainFor_of_name pn_1) ?_
  intro p e s m below meth c T0 hx hby hml hret hlk hown hnm hZ X0 e0
  refine own_at (g' := (mkF m 0 #[oR a, oR b, .unset] [])) (by first | (simp [entryFrame, mkF, argsToLocals, Value.category]; done) | rfl) ?_
  show own_Go p e below _ T0 (mkF m 0 #[oR a, oR b, .unset] [])
  have K0 : Keep h0 h0 [] := Keep.refl h0 _
  have N0 : own_Fr h0.size h0.size [] := own_Fr.nil
  refine own_by (fun t_ k_ => XS.aloadN X0.here hx rfl (hb hby d12_0) rfl rfl  k_) ?_
  show own_Go p e below _ T0 (mkF m 1 #[oR a, oR b, .unset] [(.ref a)])
  refine own_by (fun t_ k_ => XS.aloadN X0.here hx rfl (hb hby d12_1) rfl rfl  k_) ?_
  show own_Go p e below _ T0 (mkF m 2 #[oR a, oR b, .unset] [(.ref b), (.ref a)])
  refine own_by (fun t_ k_ => Jvm.RoadKit.acmp (g := (mkF m 2 #[oR a, oR b, .unset] [(.ref b), (.ref a)])) X0 hx rfl rfl rfl (pc0 := 2) (pc' := 7) (same := false) rfl (hb hby d12_2) rfl (decide_eq_false fun q => (hne) (Value.ref.inj q)) (by decide) (by decide) k_) ?_
  show own_Go p e below _ T0 (mkF m 7 #[oR a, oR b, .unset] [])
  refine own_by (fun t_ k_ => XS.aloadN X0.here hx rfl (hb hby d12_7) rfl rfl  k_) ?_
  show own_Go p e below _ T0 (mkF m 8 #[oR a, oR b, .unset] [(.ref b)])
  refine own_inst X0 hx hZ hown (hw _ (List.mem_of_getElem? (i := 82) rfl)) e0 E2 (hb hby d12_8) ?_
  intro T1 XT1 eT1
  show own_Go p e below _ T1 (mkF m 11 #[oR a, oR b, .unset] [(.int (1 : Int32))])
  refine own_by (fun t_ k_ => XS.ifNo XT1.here hx rfl (hb hby d12_11) rfl (XT.i0_eq_f (by decide)) k_) ?_
  show own_Go p e below _ T1 (mkF m 14 #[oR a, oR b, .unset] [])
  refine own_by (fun t_ k_ => XS.aloadN XT1.here hx rfl (hb hby d12_14) rfl rfl  k_) ?_
  show own_Go p e below _ T1 (mkF m 15 #[oR a, oR b, .unset] [(.ref b)])
  refine own_cast XT1 hx hZ hown (hw _ (List.mem_of_getElem? (i := 82) rfl)) eT1 E2 (hb hby d12_15) ?_
  intro T2 XT2 eT2
  show own_Go p e below _ T2 (mkF m 18 #[oR a, oR b, .unset] [(.ref b)])
  refine own_by (fun t_ k_ => XS.astoreN XT2.here hx rfl (hb hby d12_18) rfl rfl (l' := #[oR a, oR b, oR b]) rfl k_) ?_
  show own_Go p e below _ T2 (mkF m 19 #[oR a, oR b, oR b] [])
  obtain ⟨T3, XT3, eT3, stT3⟩ := getS2 XT2 hx hZ hown (host := "") (Or.inl (hw _ (List.mem_of_getElem? (i := 59) rfl))) Via.refl eT2 Cs (g := (mkF m 19 #[oR a, oR b, oR b] [])) rfl (hb hby d12_19)
  refine own_by stT3 ?_
  show own_Go p e below _ T3 (mkF m 22 #[oR a, oR b, oR b] [(.int cs)])
  refine own_by (fun t_ k_ => XS.ifNo XT3.here hx rfl (hb hby d12_22) rfl (XT.i0_eq_f hcs) k_) ?_
  show own_Go p e below _ T3 (mkF m 25 #[oR a, oR b, oR b] [])
  refine own_by (fun t_ k_ => XS.aloadN XT3.here hx rfl (hb hby d12_25) rfl rfl  k_) ?_
  show own_Go p e below _ T3 (mkF m 26 #[oR a, oR b, oR b] [(.ref a)])
  refine own_getF XT3 hx hZ hown (hw _ (List.mem_of_getElem? (i := 25) rfl)) eT3 C1 (hb hby d12_26) ?_
  intro T4 XT4 eT4
  show own_Go p e below _ T4 (mkF m 29 #[oR a, oR b, oR b] [(.int (0 : Int32))])
  refine own_by (fun t_ k_ => XS.aloadN XT4.here hx rfl (hb hby d12_29) rfl rfl  k_) ?_
  show own_Go p e below _ T4 (mkF m 30 #[oR a, oR b, oR b] [(.ref b), (.int (0 : Int32))])
  refine own_getF XT4 hx hZ hown (hw _ (List.mem_of_getElem? (i := 25) rfl)) eT4 C2 (hb hby d12_30) ?_
  intro T5 XT5 eT5
  show own_Go p e below _ T5 (mkF m 33 #[oR a, oR b, oR b] [(.int (0 : Int32)), (.int (0 : Int32))])
  refine own_by (fun t_ k_ => XS.icmpNo XT5.here hx rfl (hb hby d12_33) rfl (XT.ii_ne_f (by decide)) k_) ?_
  show own_Go p e below _ T5 (mkF m 36 #[oR a, oR b, oR b] [])
  refine own_by (fun t_ k_ => XS.aloadN XT5.here hx rfl (hb hby d12_36) rfl rfl  k_) ?_
  show own_Go p e below _ T5 (mkF m 37 #[oR a, oR b, oR b] [(.ref a)])
  refine own_getF XT5 hx hZ hown (hw _ (List.mem_of_getElem? (i := 24) rfl)) eT5 V1 (hb hby d12_37) ?_
  intro T6 XT6 eT6
  show own_Go p e below _ T6 (mkF m 40 #[oR a, oR b, oR b] [(.ref v1)])
  refine own_by (fun t_ k_ => XS.aloadN XT6.here hx rfl (hb hby d12_40) rfl rfl  k_) ?_
  show own_Go p e below _ T6 (mkF m 41 #[oR a, oR b, oR b] [(.ref b), (.ref v1)])
  refine own_getF XT6 hx hZ hown (hw _ (List.mem_of_getElem? (i := 24) rfl)) eT6 V2 (hb hby d12_41) ?_
  intro T7 XT7 eT7
  show own_Go p e below _ T7 (mkF m 44 #[oR a, oR b, oR b] [(.ref v2), (.ref v1)])
  refine own_callS XT7 hx hZ hown (hw _ (List.mem_of_getElem? (i := 83) rfl)) (hw _ (List.mem_of_getElem? (i := 84) rfl)) (hw _ (List.mem_of_getElem? (i := 85) rfl)) (hw _ (List.mem_of_getElem? (i := 86) rfl)) (by decide) eT7 (argsL := [(.ref v1), (.ref v2)]) (rest := []) (own_le_2_1_met l Z a0 hw v1 v2 k1 k2 x0 x1 y0 h0 A1 A2) 0 (by decide) (by decide) (by rw [hml]; rfl) (lenOf pd_6 rfl) (Nat.le_of_eq rfl) (hb hby d12_44) (by decide) (by decide) (st := [(.ref v2), (.ref v1)]) rfl ?_
  intro T8 LT8 vT8 XT8 hQT8
  obtain ⟨rfl, eT8, rfl⟩ := hQT8
  show own_Go p e below _ T8 (mkF m 47 #[oR a, oR b, oR b] [(.int (own_le_2_1 v1 v2 k1 k2 x0 x1 y0))])
  have N9 := own_Fr.app N0 own_Fr.nil
  by_cases c47_9 : (own_le_2_1 v1 v2 k1 k2 x0 x1 y0) = (0 : Int32)
  · refine own_by (fun t_ k_ => XS.ifYes XT8.here hx rfl (pc0 := 47) (pc' := 54) rfl (hb hby d12_47) rfl (XT.i0_eq_t c47_9) (by decide) (by decide) k_) ?_
    show own_Go p e below _ T8 (mkF m 54 #[oR a, oR b, oR b] [])
    refine own_by (fun t_ k_ => XT.iconstV XT8.here hx rfl (0 : Int32) (hb hby d12_54) (by decide) k_) ?_
    show own_Go p e below _ T8 (mkF m 55 #[oR a, oR b, oR b] [(.int (0 : Int32))])
    exact own_retN XT8 hx hlk hret (by simp) (w := (0 : Int32)) (hb hby d12_55) (by decide) (by decide) (by decide) (⟨by rw [own_eq_2_1, if_pos c47_9], eT8, rfl⟩)
  · refine own_by (fun t_ k_ => XS.ifNo XT8.here hx rfl (hb hby d12_47) rfl (XT.i0_eq_f c47_9) k_) ?_
    show own_Go p e below _ T8 (mkF m 50 #[oR a, oR b, oR b] [])
    refine own_by (fun t_ k_ => XT.iconstV XT8.here hx rfl (1 : Int32) (hb hby d12_50) (by decide) k_) ?_
    show own_Go p e below _ T8 (mkF m 51 #[oR a, oR b, oR b] [(.int (1 : Int32))])
    refine own_by (fun t_ k_ => XS.goto XT8.here hx rfl (pc0 := 51) (pc' := 55) rfl (hb hby d12_51) (by decide) (by decide) k_) ?_
    show own_Go p e below _ T8 (mkF m 55 #[oR a, oR b, oR b] [(.int (1 : Int32))])
    exact own_retN XT8 hx hlk hret (by simp) (w := (1 : Int32)) (hb hby d12_55) (by decide) (by decide) (by decide) (⟨by rw [own_eq_2_1, if_neg c47_9], eT8, rfl⟩)
def own_is_2_1 (a : Addr) (b : Addr) (kd wW tx : Addr) (v1 v2 : Addr) (k1 k2 : ClassId) (x0 x1 y0 : Int32) : Int32 := (if kd = wW then (if (own_eq_2_1 tx b v1 v2 k1 k2 x0 x1 y0) = (0 : Int32) then (0 : Int32) else (1 : Int32)) else (0 : Int32))
set_option maxRecDepth 65536 in
set_option maxHeartbeats 40000000 in
theorem own_is_2_1_met (l : Launch) (Z : State) (a0 : Array Value) (hw : ∀ d ∈ tables_1, d.before a0 Z = true) (a : Addr) (b : Addr) (kd wW tx : Addr) (v1 v2 : Addr) (k1 k2 : ClassId) (x0 x1 y0 : Int32) (h0 : Heap) (cs : Int32) (Cs : Sta Z h0 "java/lang/String" "COMPACT_STRINGS" "Z" (.int cs)) (hcs : ¬ cs = (0 : Int32)) (hne : tx ≠ b) (SW : Sta Z h0 "com/example/nimble_gate/nimblegate/policy/Token$Kind" "SYMBOL" "Lcom/example/nimble_gate/nimblegate/policy/Token$Kind;" (.ref wW)) (Fk : Fld Z h0 a "com/example/nimble_gate/nimblegate/policy/Token" "kind" "Lcom/example/nimble_gate/nimblegate/policy/Token$Kind;" (.ref kd)) (Ft : Fld Z h0 a "com/example/nimble_gate/nimblegate/policy/Token" "text" "Ljava/lang/String;" (.ref tx))(E1 : Exa Z h0 tx "java/lang/String") (V1 : Fld Z h0 tx "java/lang/String" "value" "[B" (.ref v1)) (C1 : Fld Z h0 tx "java/lang/String" "coder" "B" (.int 0)) (A1 : own_A Z h0 v1 .byte k1 [(.int x0), (.int x1)])(E2 : Exa Z h0 b "java/lang/String") (V2 : Fld Z h0 b "java/lang/String" "value" "[B" (.ref v2)) (C2 : Fld Z h0 b "java/lang/String" "coder" "B" (.int 0)) (A2 : own_A Z h0 v2 .byte k2 [(.int y0)]) :
    own_Met l (⟨"com/example/nimble_gate/nimblegate/policy/Token", "isSymbol", "(Ljava/lang/String;)Z"⟩ : MethodName) prog_15_method_3_code 2 (some .boolean) [] ({ frames := 2, cells := 0, slots := 0, locals := 28 } : Room) Z #[(.ref a), (.ref b)] h0 (fun rv rh rL => rv = some (.int (own_is_2_1 a b kd wW tx v1 v2 k1 k2 x0 x1 y0)) ∧ rh = h0 ∧ rL = []) := by
  refine own_enter (plainFor_of_name pn_4) ?_
  intro p e s m below meth c T0 hx hby hml hret hlk hown hnm hZ X0 e0
  refine own_at (g' := (mkF m 0 #[oR a, oR b] [])) (by first | (simp [entryFrame, mkF, argsToLocals, Value.category]; done) | rfl) ?_
  show own_Go p e below _ T0 (mkF m 0 #[oR a, oR b] [])
  have K0 : Keep h0 h0 [] := Keep.refl h0 _
  have N0 : own_Fr h0.size h0.size [] := own_Fr.nil
  refine own_by (fun t_ k_ => XS.aloadN X0.here hx rfl (hb hby d8_0) rfl rfl  k_) ?_
  show own_Go p e below _ T0 (mkF m 1 #[oR a, oR b] [(.ref a)])
  refine own_getF X0 hx hZ hown (hw _ (List.mem_of_getElem? (i := 44) rfl)) e0 Fk (hb hby d8_1) ?_
  intro T1 XT1 eT1
  show own_Go p e below _ T1 (mkF m 4 #[oR a, oR b] [(.ref kd)])
  obtain ⟨T2, XT2, eT2, stT2⟩ := getS2 XT1 hx hZ hown (host := "") (Or.inl (hw _ (List.mem_of_getElem? (i := 57) rfl))) Via.refl eT1 SW (g := (mkF m 4 #[oR a, oR b] [(.ref kd)])) rfl (hb hby d8_4)
  refine own_by stT2 ?_
  show own_Go p e below _ T2 (mkF m 7 #[oR a, oR b] [(.ref wW), (.ref kd)])
  by_cases c7_2 : kd = wW
  · refine own_by (fun t_ k_ => Jvm.RoadKit.acmp (g := (mkF m 7 #[oR a, oR b] [(.ref wW), (.ref kd)])) XT2 hx rfl rfl rfl (pc0 := 7) (pc' := 10) (same := true) rfl (hb hby d8_7) rfl (decide_eq_true (congrArg Value.ref (c7_2))) (by decide) (by decide) k_) ?_
    show own_Go p e below _ T2 (mkF m 10 #[oR a, oR b] [])
    refine own_by (fun t_ k_ => XS.aloadN XT2.here hx rfl (hb hby d8_10) rfl rfl  k_) ?_
    show own_Go p e below _ T2 (mkF m 11 #[oR a, oR b] [(.ref a)])
    refine own_getF XT2 hx hZ hown (hw _ (List.mem_of_getElem? (i := 46) rfl)) eT2 Ft (hb hby d8_11) ?_
    intro T4 XT4 eT4
    show own_Go p e below _ T4 (mkF m 14 #[oR a, oR b] [(.ref tx)])
    refine own_by (fun t_ k_ => XS.aloadN XT4.here hx rfl (hb hby d8_14) rfl rfl  k_) ?_
    show own_Go p e below _ T4 (mkF m 15 #[oR a, oR b] [(.ref b), (.ref tx)])
    refine own_callV XT4 hx hZ hown (hw _ (List.mem_of_getElem? (i := 77) rfl)) (hw _ (List.mem_of_getElem? (i := 78) rfl)) (hw _ (List.mem_of_getElem? (i := 80) rfl)) (hw _ (List.mem_of_getElem? (i := 79) rfl)) (hw _ (List.mem_of_getElem? (i := 81) rfl)) (hw _ (List.mem_of_getElem? (i := 6) rfl)) (by decide) eT4 (b := tx) E1 (argsL := [(.ref b)]) (rest := []) (own_eq_2_1_met l Z a0 hw tx b v1 v2 k1 k2 x0 x1 y0 h0 cs Cs hcs hne E1 V1 C1 A1 E2 V2 C2 A2) 0 (by decide) (by decide) (by rw [hml]; rfl) (lenOf pd_7 rfl) (Nat.le_of_eq rfl) (hb hby d8_15) (by decide) (by decide) (st := [(.ref b), (.ref tx)]) rfl ?_
    intro T5 LT5 vT5 XT5 hQT5
    obtain ⟨rfl, eT5, rfl⟩ := hQT5
    show own_Go p e below _ T5 (mkF m 18 #[oR a, oR b] [(.int (own_eq_2_1 tx b v1 v2 k1 k2 x0 x1 y0))])
    have N6 := own_Fr.app N0 own_Fr.nil
    by_cases c18_6 : (own_eq_2_1 tx b v1 v2 k1 k2 x0 x1 y0) = (0 : Int32)
    · refine own_by (fun t_ k_ => XS.ifYes XT5.here hx rfl (pc0 := 18) (pc' := 25) rfl (hb hby d8_18) rfl (XT.i0_eq_t c18_6) (by decide) (by decide) k_) ?_
      show own_Go p e below _ T5 (mkF m 25 #[oR a, oR b] [])
      refine own_by (fun t_ k_ => XT.iconstV XT5.here hx rfl (0 : Int32) (hb hby d8_25) (by decide) k_) ?_
      show own_Go p e below _ T5 (mkF m 26 #[oR a, oR b] [(.int (0 : Int32))])
      exact own_retN XT5 hx hlk hret (by simp) (w := (0 : Int32)) (hb hby d8_26) (by decide) (by decide) (by decide) (⟨by rw [own_is_2_1, if_pos c7_2, if_pos c18_6], eT5, rfl⟩)
    · refine own_by (fun t_ k_ => XS.ifNo XT5.here hx rfl (hb hby d8_18) rfl (XT.i0_eq_f c18_6) k_) ?_
      show own_Go p e below _ T5 (mkF m 21 #[oR a, oR b] [])
      refine own_by (fun t_ k_ => XT.iconstV XT5.here hx rfl (1 : Int32) (hb hby d8_21) (by decide) k_) ?_
      show own_Go p e below _ T5 (mkF m 22 #[oR a, oR b] [(.int (1 : Int32))])
      refine own_by (fun t_ k_ => XS.goto XT5.here hx rfl (pc0 := 22) (pc' := 26) rfl (hb hby d8_22) (by decide) (by decide) k_) ?_
      show own_Go p e below _ T5 (mkF m 26 #[oR a, oR b] [(.int (1 : Int32))])
      exact own_retN XT5 hx hlk hret (by simp) (w := (1 : Int32)) (hb hby d8_26) (by decide) (by decide) (by decide) (⟨by rw [own_is_2_1, if_pos c7_2, if_neg c18_6], eT5, rfl⟩)
  · refine own_by (fun t_ k_ => Jvm.RoadKit.acmp (g := (mkF m 7 #[oR a, oR b] [(.ref wW), (.ref kd)])) XT2 hx rfl rfl rfl (pc0 := 7) (pc' := 25) (same := false) rfl (hb hby d8_7) rfl (decide_eq_false fun q => (c7_2) (Value.ref.inj q)) (by decide) (by decide) k_) ?_
    show own_Go p e below _ T2 (mkF m 25 #[oR a, oR b] [])
    refine own_by (fun t_ k_ => XT.iconstV XT2.here hx rfl (0 : Int32) (hb hby d8_25) (by decide) k_) ?_
    show own_Go p e below _ T2 (mkF m 26 #[oR a, oR b] [(.int (0 : Int32))])
    exact own_retN XT2 hx hlk hret (by simp) (w := (0 : Int32)) (hb hby d8_26) (by decide) (by decide) (by decide) (⟨by rw [own_is_2_1, if_neg c7_2], eT2, rfl⟩)
def own_le_2_2 (v1 : Addr) (v2 : Addr) (k1 k2 : ClassId) (x0 x1 y0 y1 : Int32) : Int32 := (if x0 = y0 then (if x1 = y1 then (1 : Int32) else (0 : Int32)) else (0 : Int32))
set_option maxRecDepth 65536 in
set_option maxHeartbeats 40000000 in
theorem own_le_2_2_met (l : Launch) (Z : State) (a0 : Array Value) (hw : ∀ d ∈ tables_1, d.before a0 Z = true) (v1 : Addr) (v2 : Addr) (k1 k2 : ClassId) (x0 x1 y0 y1 : Int32) (h0 : Heap) (A1 : own_A Z h0 v1 .byte k1 [(.int x0), (.int x1)]) (A2 : own_A Z h0 v2 .byte k2 [(.int y0), (.int y1)]) :
    own_Met l (⟨"java/lang/StringLatin1", "equals", "([B[B)Z"⟩ : MethodName) jdk_43_method_13_code 3 (some .boolean) [] ({ frames := 0, cells := 0, slots := 0, locals := 0 } : Room) Z #[(.ref v1), (.ref v2)] h0 (fun rv rh rL => rv = some (.int (own_le_2_2 v1 v2 k1 k2 x0 x1 y0 y1)) ∧ rh = h0 ∧ rL = []) := by
  refine own_enter (plainFor_of_name pn_5) ?_
  intro p e s m below meth c T0 hx hby hml hret hlk hown hnm hZ X0 e0
  refine own_at (g' := (mkF m 0 #[oR v1, oR v2, .unset] [])) (by first | (simp [entryFrame, mkF, argsToLocals, Value.category]; done) | rfl) ?_
  show own_Go p e below _ T0 (mkF m 0 #[oR v1, oR v2, .unset] [])
  have K0 : Keep h0 h0 [] := Keep.refl h0 _
  have N0 : own_Fr h0.size h0.size [] := own_Fr.nil
  refine own_by (fun t_ k_ => XS.aloadN X0.here hx rfl (hb hby d13_0) rfl rfl  k_) ?_
  show own_Go p e below _ T0 (mkF m 1 #[oR v1, oR v2, .unset] [(.ref v1)])
  refine own_len X0 hx hZ e0 A1 (2 : Int32) rfl (hb hby d13_1) ?_
  show own_Go p e below _ T0 (mkF m 2 #[oR v1, oR v2, .unset] [(.int (2 : Int32))])
  refine own_by (fun t_ k_ => XS.aloadN X0.here hx rfl (hb hby d13_2) rfl rfl  k_) ?_
  show own_Go p e below _ T0 (mkF m 3 #[oR v1, oR v2, .unset] [(.ref v2), (.int (2 : Int32))])
  refine own_len X0 hx hZ e0 A2 (2 : Int32) rfl (hb hby d13_3) ?_
  show own_Go p e below _ T0 (mkF m 4 #[oR v1, oR v2, .unset] [(.int (2 : Int32)), (.int (2 : Int32))])
  refine own_by (fun t_ k_ => XS.icmpNo X0.here hx rfl (hb hby d13_4) rfl (XT.ii_ne_f (by decide)) k_) ?_
  show own_Go p e below _ T0 (mkF m 7 #[oR v1, oR v2, .unset] [])
  refine own_by (fun t_ k_ => XT.iconstV X0.here hx rfl (0 : Int32) (hb hby d13_7) (by decide) k_) ?_
  show own_Go p e below _ T0 (mkF m 8 #[oR v1, oR v2, .unset] [(.int (0 : Int32))])
  refine own_by (fun t_ k_ => XS.istoreN X0.here hx rfl (hb hby d13_8) rfl (l' := #[oR v1, oR v2, oI (0 : Int32)]) rfl k_) ?_
  show own_Go p e below _ T0 (mkF m 9 #[oR v1, oR v2, oI (0 : Int32)] [])
  refine own_by (fun t_ k_ => XS.iloadN X0.here hx rfl (hb hby d13_9) rfl  k_) ?_
  show own_Go p e below _ T0 (mkF m 10 #[oR v1, oR v2, oI (0 : Int32)] [(.int (0 : Int32))])
  refine own_by (fun t_ k_ => XS.aloadN X0.here hx rfl (hb hby d13_10) rfl rfl  k_) ?_
  show own_Go p e below _ T0 (mkF m 11 #[oR v1, oR v2, oI (0 : Int32)] [(.ref v1), (.int (0 : Int32))])
  refine own_len X0 hx hZ e0 A1 (2 : Int32) rfl (hb hby d13_11) ?_
  show own_Go p e below _ T0 (mkF m 12 #[oR v1, oR v2, oI (0 : Int32)] [(.int (2 : Int32)), (.int (0 : Int32))])
  refine own_by (fun t_ k_ => XS.icmpNo X0.here hx rfl (hb hby d13_12) rfl (XT.ii_ge_f (by decide)) k_) ?_
  show own_Go p e below _ T0 (mkF m 15 #[oR v1, oR v2, oI (0 : Int32)] [])
  refine own_by (fun t_ k_ => XS.aloadN X0.here hx rfl (hb hby d13_15) rfl rfl  k_) ?_
  show own_Go p e below _ T0 (mkF m 16 #[oR v1, oR v2, oI (0 : Int32)] [(.ref v1)])
  refine own_by (fun t_ k_ => XS.iloadN X0.here hx rfl (hb hby d13_16) rfl  k_) ?_
  show own_Go p e below _ T0 (mkF m 17 #[oR v1, oR v2, oI (0 : Int32)] [(.int (0 : Int32)), (.ref v1)])
  refine own_ldB X0 hx hZ e0 A1 0 (by decide) (by decide) (v := (.int x0)) rfl (hb hby d13_17) ?_
  show own_Go p e below _ T0 (mkF m 18 #[oR v1, oR v2, oI (0 : Int32)] [(.int x0)])
  refine own_by (fun t_ k_ => XS.aloadN X0.here hx rfl (hb hby d13_18) rfl rfl  k_) ?_
  show own_Go p e below _ T0 (mkF m 19 #[oR v1, oR v2, oI (0 : Int32)] [(.ref v2), (.int x0)])
  refine own_by (fun t_ k_ => XS.iloadN X0.here hx rfl (hb hby d13_19) rfl  k_) ?_
  show own_Go p e below _ T0 (mkF m 20 #[oR v1, oR v2, oI (0 : Int32)] [(.int (0 : Int32)), (.ref v2), (.int x0)])
  refine own_ldB X0 hx hZ e0 A2 0 (by decide) (by decide) (v := (.int y0)) rfl (hb hby d13_20) ?_
  show own_Go p e below _ T0 (mkF m 21 #[oR v1, oR v2, oI (0 : Int32)] [(.int y0), (.int x0)])
  by_cases c21_0 : x0 = y0
  · refine own_by (fun t_ k_ => XS.icmpYes X0.here hx rfl (pc0 := 21) (pc' := 26) rfl (hb hby d13_21) rfl (XT.ii_eq_t c21_0) (by decide) (by decide) k_) ?_
    show own_Go p e below _ T0 (mkF m 26 #[oR v1, oR v2, oI (0 : Int32)] [])
    refine own_by (fun t_ k_ => XT.iincV X0.here hx rfl (1 : Int32) (hb hby d13_26) (by decide) rfl (l' := #[oR v1, oR v2, oI ((0 : Int32) + (1 : Int32))]) rfl k_) ?_
    show own_Go p e below _ T0 (mkF m 29 #[oR v1, oR v2, oI ((0 : Int32) + (1 : Int32))] [])
    rw [show ((0 : Int32) + (1 : Int32)) = (1 : Int32) by decide]
    show own_Go p e below _ T0 (mkF m 29 #[oR v1, oR v2, oI (1 : Int32)] [])
    refine own_by (fun t_ k_ => XS.goto X0.here hx rfl (pc0 := 29) (pc' := 9) rfl (hb hby d13_29) (by decide) (by decide) k_) ?_
    show own_Go p e below _ T0 (mkF m 9 #[oR v1, oR v2, oI (1 : Int32)] [])
    refine own_by (fun t_ k_ => XS.iloadN X0.here hx rfl (hb hby d13_9) rfl  k_) ?_
    show own_Go p e below _ T0 (mkF m 10 #[oR v1, oR v2, oI (1 : Int32)] [(.int (1 : Int32))])
    refine own_by (fun t_ k_ => XS.aloadN X0.here hx rfl (hb hby d13_10) rfl rfl  k_) ?_
    show own_Go p e below _ T0 (mkF m 11 #[oR v1, oR v2, oI (1 : Int32)] [(.ref v1), (.int (1 : Int32))])
    refine own_len X0 hx hZ e0 A1 (2 : Int32) rfl (hb hby d13_11) ?_
    show own_Go p e below _ T0 (mkF m 12 #[oR v1, oR v2, oI (1 : Int32)] [(.int (2 : Int32)), (.int (1 : Int32))])
    refine own_by (fun t_ k_ => XS.icmpNo X0.here hx rfl (hb hby d13_12) rfl (XT.ii_ge_f (by decide)) k_) ?_
    show own_Go p e below _ T0 (mkF m 15 #[oR v1, oR v2, oI (1 : Int32)] [])
    refine own_by (fun t_ k_ => XS.aloadN X0.here hx rfl (hb hby d13_15) rfl rfl  k_) ?_
    show own_Go p e below _ T0 (mkF m 16 #[oR v1, oR v2, oI (1 : Int32)] [(.ref v1)])
    refine own_by (fun t_ k_ => XS.iloadN X0.here hx rfl (hb hby d13_16) rfl  k_) ?_
    show own_Go p e below _ T0 (mkF m 17 #[oR v1, oR v2, oI (1 : Int32)] [(.int (1 : Int32)), (.ref v1)])
    refine own_ldB X0 hx hZ e0 A1 1 (by decide) (by decide) (v := (.int x1)) rfl (hb hby d13_17) ?_
    show own_Go p e below _ T0 (mkF m 18 #[oR v1, oR v2, oI (1 : Int32)] [(.int x1)])
    refine own_by (fun t_ k_ => XS.aloadN X0.here hx rfl (hb hby d13_18) rfl rfl  k_) ?_
    show own_Go p e below _ T0 (mkF m 19 #[oR v1, oR v2, oI (1 : Int32)] [(.ref v2), (.int x1)])
    refine own_by (fun t_ k_ => XS.iloadN X0.here hx rfl (hb hby d13_19) rfl  k_) ?_
    show own_Go p e below _ T0 (mkF m 20 #[oR v1, oR v2, oI (1 : Int32)] [(.int (1 : Int32)), (.ref v2), (.int x1)])
    refine own_ldB X0 hx hZ e0 A2 1 (by decide) (by decide) (v := (.int y1)) rfl (hb hby d13_20) ?_
    show own_Go p e below _ T0 (mkF m 21 #[oR v1, oR v2, oI (1 : Int32)] [(.int y1), (.int x1)])
    by_cases c21_1 : x1 = y1
    · refine own_by (fun t_ k_ => XS.icmpYes X0.here hx rfl (pc0 := 21) (pc' := 26) rfl (hb hby d13_21) rfl (XT.ii_eq_t c21_1) (by decide) (by decide) k_) ?_
      show own_Go p e below _ T0 (mkF m 26 #[oR v1, oR v2, oI (1 : Int32)] [])
      refine own_by (fun t_ k_ => XT.iincV X0.here hx rfl (1 : Int32) (hb hby d13_26) (by decide) rfl (l' := #[oR v1, oR v2, oI ((1 : Int32) + (1 : Int32))]) rfl k_) ?_
      show own_Go p e below _ T0 (mkF m 29 #[oR v1, oR v2, oI ((1 : Int32) + (1 : Int32))] [])
      rw [show ((1 : Int32) + (1 : Int32)) = (2 : Int32) by decide]
      show own_Go p e below _ T0 (mkF m 29 #[oR v1, oR v2, oI (2 : Int32)] [])
      refine own_by (fun t_ k_ => XS.goto X0.here hx rfl (pc0 := 29) (pc' := 9) rfl (hb hby d13_29) (by decide) (by decide) k_) ?_
      show own_Go p e below _ T0 (mkF m 9 #[oR v1, oR v2, oI (2 : Int32)] [])
      refine own_by (fun t_ k_ => XS.iloadN X0.here hx rfl (hb hby d13_9) rfl  k_) ?_
      show own_Go p e below _ T0 (mkF m 10 #[oR v1, oR v2, oI (2 : Int32)] [(.int (2 : Int32))])
      refine own_by (fun t_ k_ => XS.aloadN X0.here hx rfl (hb hby d13_10) rfl rfl  k_) ?_
      show own_Go p e below _ T0 (mkF m 11 #[oR v1, oR v2, oI (2 : Int32)] [(.ref v1), (.int (2 : Int32))])
      refine own_len X0 hx hZ e0 A1 (2 : Int32) rfl (hb hby d13_11) ?_
      show own_Go p e below _ T0 (mkF m 12 #[oR v1, oR v2, oI (2 : Int32)] [(.int (2 : Int32)), (.int (2 : Int32))])
      refine own_by (fun t_ k_ => XS.icmpYes X0.here hx rfl (pc0 := 12) (pc' := 32) rfl (hb hby d13_12) rfl (XT.ii_ge_t (by decide)) (by decide) (by decide) k_) ?_
      show own_Go p e below _ T0 (mkF m 32 #[oR v1, oR v2, oI (2 : Int32)] [])
      refine own_by (fun t_ k_ => XT.iconstV X0.here hx rfl (1 : Int32) (hb hby d13_32) (by decide) k_) ?_
      show own_Go p e below _ T0 (mkF m 33 #[oR v1, oR v2, oI (2 : Int32)] [(.int (1 : Int32))])
      exact own_retN X0 hx hlk hret (by simp) (w := (1 : Int32)) (hb hby d13_33) (by decide) (by decide) (by decide) (⟨by rw [own_le_2_2, if_pos c21_0, if_pos c21_1], e0, rfl⟩)
    · refine own_by (fun t_ k_ => XS.icmpNo X0.here hx rfl (hb hby d13_21) rfl (XT.ii_eq_f c21_1) k_) ?_
      show own_Go p e below _ T0 (mkF m 24 #[oR v1, oR v2, oI (1 : Int32)] [])
      refine own_by (fun t_ k_ => XT.iconstV X0.here hx rfl (0 : Int32) (hb hby d13_24) (by decide) k_) ?_
      show own_Go p e below _ T0 (mkF m 25 #[oR v1, oR v2, oI (1 : Int32)] [(.int (0 : Int32))])
      exact own_retN X0 hx hlk hret (by simp) (w := (0 : Int32)) (hb hby d13_25) (by decide) (by decide) (by decide) (⟨by rw [own_le_2_2, if_pos c21_0, if_neg c21_1], e0, rfl⟩)
  · refine own_by (fun t_ k_ => XS.icmpNo X0.here hx rfl (hb hby d13_21) rfl (XT.ii_eq_f c21_0) k_) ?_
    show own_Go p e below _ T0 (mkF m 24 #[oR v1, oR v2, oI (0 : Int32)] [])
    refine own_by (fun t_ k_ => XT.iconstV X0.here hx rfl (0 : Int32) (hb hby d13_24) (by decide) k_) ?_
    show own_Go p e below _ T0 (mkF m 25 #[oR v1, oR v2, oI (0 : Int32)] [(.int (0 : Int32))])
    exact own_retN X0 hx hlk hret (by simp) (w := (0 : Int32)) (hb hby d13_25) (by decide) (by decide) (by decide) (⟨by rw [own_le_2_2, if_neg c21_0], e0, rfl⟩)
def own_eq_2_2 (a : Addr) (b : Addr) (v1 v2 : Addr) (k1 k2 : ClassId) (x0 x1 y0 y1 : Int32) : Int32 := (if (own_le_2_2 v1 v2 k1 k2 x0 x1 y0 y1) = (0 : Int32) then (0 : Int32) else (1 : Int32))
set_option maxRecDepth 65536 in
set_option maxHeartbeats 40000000 in
theorem own_eq_2_2_met (l : Launch) (Z : State) (a0 : Array Value) (hw : ∀ d ∈ tables_1, d.before a0 Z = true) (a : Addr) (b : Addr) (v1 v2 : Addr) (k1 k2 : ClassId) (x0 x1 y0 y1 : Int32) (h0 : Heap) (cs : Int32) (Cs : Sta Z h0 "java/lang/String" "COMPACT_STRINGS" "Z" (.int cs)) (hcs : ¬ cs = (0 : Int32)) (hne : a ≠ b) (E1 : Exa Z h0 a "java/lang/String") (V1 : Fld Z h0 a "java/lang/String" "value" "[B" (.ref v1)) (C1 : Fld Z h0 a "java/lang/String" "coder" "B" (.int 0)) (A1 : own_A Z h0 v1 .byte k1 [(.int x0), (.int x1)])(E2 : Exa Z h0 b "java/lang/String") (V2 : Fld Z h0 b "java/lang/String" "value" "[B" (.ref v2)) (C2 : Fld Z h0 b "java/lang/String" "coder" "B" (.int 0)) (A2 : own_A Z h0 v2 .byte k2 [(.int y0), (.int y1)]) :
    own_Met l (⟨"java/lang/String", "equals", "(Ljava/lang/Object;)Z"⟩ : MethodName) jdk_42_method_66_code 3 (some .boolean) [] ({ frames := 1, cells := 0, slots := 0, locals := 14 } : Room) Z #[(.ref a), (.ref b)] h0 (fun rv rh rL => rv = some (.int (own_eq_2_2 a b v1 v2 k1 k2 x0 x1 y0 y1)) ∧ rh = h0 ∧ rL = []) := by
  refine own_enter (plainFor_of_name pn_1) ?_
  intro p e s m below meth c T0 hx hby hml hret hlk hown hnm hZ X0 e0
  refine own_at (g' := (mkF m 0 #[oR a, oR b, .unset] [])) (by first | (simp [entryFrame, mkF, argsToLocals, Value.category]; done) | rfl) ?_
  show own_Go p e below _ T0 (mkF m 0 #[oR a, oR b, .unset] [])
  have K0 : Keep h0 h0 [] := Keep.refl h0 _
  have N0 : own_Fr h0.size h0.size [] := own_Fr.nil
  refine own_by (fun t_ k_ => XS.aloadN X0.here hx rfl (hb hby d12_0) rfl rfl  k_) ?_
  show own_Go p e below _ T0 (mkF m 1 #[oR a, oR b, .unset] [(.ref a)])
  refine own_by (fun t_ k_ => XS.aloadN X0.here hx rfl (hb hby d12_1) rfl rfl  k_) ?_
  show own_Go p e below _ T0 (mkF m 2 #[oR a, oR b, .unset] [(.ref b), (.ref a)])
  refine own_by (fun t_ k_ => Jvm.RoadKit.acmp (g := (mkF m 2 #[oR a, oR b, .unset] [(.ref b), (.ref a)])) X0 hx rfl rfl rfl (pc0 := 2) (pc' := 7) (same := false) rfl (hb hby d12_2) rfl (decide_eq_false fun q => (hne) (Value.ref.inj q)) (by decide) (by decide) k_) ?_
  show own_Go p e below _ T0 (mkF m 7 #[oR a, oR b, .unset] [])
  refine own_by (fun t_ k_ => XS.aloadN X0.here hx rfl (hb hby d12_7) rfl rfl  k_) ?_
  show own_Go p e below _ T0 (mkF m 8 #[oR a, oR b, .unset] [(.ref b)])
  refine own_inst X0 hx hZ hown (hw _ (List.mem_of_getElem? (i := 82) rfl)) e0 E2 (hb hby d12_8) ?_
  intro T1 XT1 eT1
  show own_Go p e below _ T1 (mkF m 11 #[oR a, oR b, .unset] [(.int (1 : Int32))])
  refine own_by (fun t_ k_ => XS.ifNo XT1.here hx rfl (hb hby d12_11) rfl (XT.i0_eq_f (by decide)) k_) ?_
  show own_Go p e below _ T1 (mkF m 14 #[oR a, oR b, .unset] [])
  refine own_by (fun t_ k_ => XS.aloadN XT1.here hx rfl (hb hby d12_14) rfl rfl  k_) ?_
  show own_Go p e below _ T1 (mkF m 15 #[oR a, oR b, .unset] [(.ref b)])
  refine own_cast XT1 hx hZ hown (hw _ (List.mem_of_getElem? (i := 82) rfl)) eT1 E2 (hb hby d12_15) ?_
  intro T2 XT2 eT2
  show own_Go p e below _ T2 (mkF m 18 #[oR a, oR b, .unset] [(.ref b)])
  refine own_by (fun t_ k_ => XS.astoreN XT2.here hx rfl (hb hby d12_18) rfl rfl (l' := #[oR a, oR b, oR b]) rfl k_) ?_
  show own_Go p e below _ T2 (mkF m 19 #[oR a, oR b, oR b] [])
  obtain ⟨T3, XT3, eT3, stT3⟩ := getS2 XT2 hx hZ hown (host := "") (Or.inl (hw _ (List.mem_of_getElem? (i := 59) rfl))) Via.refl eT2 Cs (g := (mkF m 19 #[oR a, oR b, oR b] [])) rfl (hb hby d12_19)
  refine own_by stT3 ?_
  show own_Go p e below _ T3 (mkF m 22 #[oR a, oR b, oR b] [(.int cs)])
  refine own_by (fun t_ k_ => XS.ifNo XT3.here hx rfl (hb hby d12_22) rfl (XT.i0_eq_f hcs) k_) ?_
  show own_Go p e below _ T3 (mkF m 25 #[oR a, oR b, oR b] [])
  refine own_by (fun t_ k_ => XS.aloadN XT3.here hx rfl (hb hby d12_25) rfl rfl  k_) ?_
  show own_Go p e below _ T3 (mkF m 26 #[oR a, oR b, oR b] [(.ref a)])
  refine own_getF XT3 hx hZ hown (hw _ (List.mem_of_getElem? (i := 25) rfl)) eT3 C1 (hb hby d12_26) ?_
  intro T4 XT4 eT4
  show own_Go p e below _ T4 (mkF m 29 #[oR a, oR b, oR b] [(.int (0 : Int32))])
  refine own_by (fun t_ k_ => XS.aloadN XT4.here hx rfl (hb hby d12_29) rfl rfl  k_) ?_
  show own_Go p e below _ T4 (mkF m 30 #[oR a, oR b, oR b] [(.ref b), (.int (0 : Int32))])
  refine own_getF XT4 hx hZ hown (hw _ (List.mem_of_getElem? (i := 25) rfl)) eT4 C2 (hb hby d12_30) ?_
  intro T5 XT5 eT5
  show own_Go p e below _ T5 (mkF m 33 #[oR a, oR b, oR b] [(.int (0 : Int32)), (.int (0 : Int32))])
  refine own_by (fun t_ k_ => XS.icmpNo XT5.here hx rfl (hb hby d12_33) rfl (XT.ii_ne_f (by decide)) k_) ?_
  show own_Go p e below _ T5 (mkF m 36 #[oR a, oR b, oR b] [])
  refine own_by (fun t_ k_ => XS.aloadN XT5.here hx rfl (hb hby d12_36) rfl rfl  k_) ?_
  show own_Go p e below _ T5 (mkF m 37 #[oR a, oR b, oR b] [(.ref a)])
  refine own_getF XT5 hx hZ hown (hw _ (List.mem_of_getElem? (i := 24) rfl)) eT5 V1 (hb hby d12_37) ?_
  intro T6 XT6 eT6
  show own_Go p e below _ T6 (mkF m 40 #[oR a, oR b, oR b] [(.ref v1)])
  refine own_by (fun t_ k_ => XS.aloadN XT6.here hx rfl (hb hby d12_40) rfl rfl  k_) ?_
  show own_Go p e below _ T6 (mkF m 41 #[oR a, oR b, oR b] [(.ref b), (.ref v1)])
  refine own_getF XT6 hx hZ hown (hw _ (List.mem_of_getElem? (i := 24) rfl)) eT6 V2 (hb hby d12_41) ?_
  intro T7 XT7 eT7
  show own_Go p e below _ T7 (mkF m 44 #[oR a, oR b, oR b] [(.ref v2), (.ref v1)])
  refine own_callS XT7 hx hZ hown (hw _ (List.mem_of_getElem? (i := 83) rfl)) (hw _ (List.mem_of_getElem? (i := 84) rfl)) (hw _ (List.mem_of_getElem? (i := 85) rfl)) (hw _ (List.mem_of_getElem? (i := 86) rfl)) (by decide) eT7 (argsL := [(.ref v1), (.ref v2)]) (rest := []) (own_le_2_2_met l Z a0 hw v1 v2 k1 k2 x0 x1 y0 y1 h0 A1 A2) 0 (by decide) (by decide) (by rw [hml]; rfl) (lenOf pd_6 rfl) (Nat.le_of_eq rfl) (hb hby d12_44) (by decide) (by decide) (st := [(.ref v2), (.ref v1)]) rfl ?_
  intro T8 LT8 vT8 XT8 hQT8
  obtain ⟨rfl, eT8, rfl⟩ := hQT8
  show own_Go p e below _ T8 (mkF m 47 #[oR a, oR b, oR b] [(.int (own_le_2_2 v1 v2 k1 k2 x0 x1 y0 y1))])
  have N9 := own_Fr.app N0 own_Fr.nil
  by_cases c47_9 : (own_le_2_2 v1 v2 k1 k2 x0 x1 y0 y1) = (0 : Int32)
  · refine own_by (fun t_ k_ => XS.ifYes XT8.here hx rfl (pc0 := 47) (pc' := 54) rfl (hb hby d12_47) rfl (XT.i0_eq_t c47_9) (by decide) (by decide) k_) ?_
    show own_Go p e below _ T8 (mkF m 54 #[oR a, oR b, oR b] [])
    refine own_by (fun t_ k_ => XT.iconstV XT8.here hx rfl (0 : Int32) (hb hby d12_54) (by decide) k_) ?_
    show own_Go p e below _ T8 (mkF m 55 #[oR a, oR b, oR b] [(.int (0 : Int32))])
    exact own_retN XT8 hx hlk hret (by simp) (w := (0 : Int32)) (hb hby d12_55) (by decide) (by decide) (by decide) (⟨by rw [own_eq_2_2, if_pos c47_9], eT8, rfl⟩)
  · refine own_by (fun t_ k_ => XS.ifNo XT8.here hx rfl (hb hby d12_47) rfl (XT.i0_eq_f c47_9) k_) ?_
    show own_Go p e below _ T8 (mkF m 50 #[oR a, oR b, oR b] [])
    refine own_by (fun t_ k_ => XT.iconstV XT8.here hx rfl (1 : Int32) (hb hby d12_50) (by decide) k_) ?_
    show own_Go p e below _ T8 (mkF m 51 #[oR a, oR b, oR b] [(.int (1 : Int32))])
    refine own_by (fun t_ k_ => XS.goto XT8.here hx rfl (pc0 := 51) (pc' := 55) rfl (hb hby d12_51) (by decide) (by decide) k_) ?_
    show own_Go p e below _ T8 (mkF m 55 #[oR a, oR b, oR b] [(.int (1 : Int32))])
    exact own_retN XT8 hx hlk hret (by simp) (w := (1 : Int32)) (hb hby d12_55) (by decide) (by decide) (by decide) (⟨by rw [own_eq_2_2, if_neg c47_9], eT8, rfl⟩)
def own_is_2_2 (a : Addr) (b : Addr) (kd wW tx : Addr) (v1 v2 : Addr) (k1 k2 : ClassId) (x0 x1 y0 y1 : Int32) : Int32 := (if kd = wW then (if (own_eq_2_2 tx b v1 v2 k1 k2 x0 x1 y0 y1) = (0 : Int32) then (0 : Int32) else (1 : Int32)) else (0 : Int32))
set_option maxRecDepth 65536 in
set_option maxHeartbeats 40000000 in
theorem own_is_2_2_met (l : Launch) (Z : State) (a0 : Array Value) (hw : ∀ d ∈ tables_1, d.before a0 Z = true) (a : Addr) (b : Addr) (kd wW tx : Addr) (v1 v2 : Addr) (k1 k2 : ClassId) (x0 x1 y0 y1 : Int32) (h0 : Heap) (cs : Int32) (Cs : Sta Z h0 "java/lang/String" "COMPACT_STRINGS" "Z" (.int cs)) (hcs : ¬ cs = (0 : Int32)) (hne : tx ≠ b) (SW : Sta Z h0 "com/example/nimble_gate/nimblegate/policy/Token$Kind" "SYMBOL" "Lcom/example/nimble_gate/nimblegate/policy/Token$Kind;" (.ref wW)) (Fk : Fld Z h0 a "com/example/nimble_gate/nimblegate/policy/Token" "kind" "Lcom/example/nimble_gate/nimblegate/policy/Token$Kind;" (.ref kd)) (Ft : Fld Z h0 a "com/example/nimble_gate/nimblegate/policy/Token" "text" "Ljava/lang/String;" (.ref tx))(E1 : Exa Z h0 tx "java/lang/String") (V1 : Fld Z h0 tx "java/lang/String" "value" "[B" (.ref v1)) (C1 : Fld Z h0 tx "java/lang/String" "coder" "B" (.int 0)) (A1 : own_A Z h0 v1 .byte k1 [(.int x0), (.int x1)])(E2 : Exa Z h0 b "java/lang/String") (V2 : Fld Z h0 b "java/lang/String" "value" "[B" (.ref v2)) (C2 : Fld Z h0 b "java/lang/String" "coder" "B" (.int 0)) (A2 : own_A Z h0 v2 .byte k2 [(.int y0), (.int y1)]) :
    own_Met l (⟨"com/example/nimble_gate/nimblegate/policy/Token", "isSymbol", "(Ljava/lang/String;)Z"⟩ : MethodName) prog_15_method_3_code 2 (some .boolean) [] ({ frames := 2, cells := 0, slots := 0, locals := 28 } : Room) Z #[(.ref a), (.ref b)] h0 (fun rv rh rL => rv = some (.int (own_is_2_2 a b kd wW tx v1 v2 k1 k2 x0 x1 y0 y1)) ∧ rh = h0 ∧ rL = []) := by
  refine own_enter (plainFor_of_name pn_4) ?_
  intro p e s m below meth c T0 hx hby hml hret hlk hown hnm hZ X0 e0
  refine own_at (g' := (mkF m 0 #[oR a, oR b] [])) (by first | (simp [entryFrame, mkF, argsToLocals, Value.category]; done) | rfl) ?_
  show own_Go p e below _ T0 (mkF m 0 #[oR a, oR b] [])
  have K0 : Keep h0 h0 [] := Keep.refl h0 _
  have N0 : own_Fr h0.size h0.size [] := own_Fr.nil
  refine own_by (fun t_ k_ => XS.aloadN X0.here hx rfl (hb hby d8_0) rfl rfl  k_) ?_
  show own_Go p e below _ T0 (mkF m 1 #[oR a, oR b] [(.ref a)])
  refine own_getF X0 hx hZ hown (hw _ (List.mem_of_getElem? (i := 44) rfl)) e0 Fk (hb hby d8_1) ?_
  intro T1 XT1 eT1
  show own_Go p e below _ T1 (mkF m 4 #[oR a, oR b] [(.ref kd)])
  obtain ⟨T2, XT2, eT2, stT2⟩ := getS2 XT1 hx hZ hown (host := "") (Or.inl (hw _ (List.mem_of_getElem? (i := 57) rfl))) Via.refl eT1 SW (g := (mkF m 4 #[oR a, oR b] [(.ref kd)])) rfl (hb hby d8_4)
  refine own_by stT2 ?_
  show own_Go p e below _ T2 (mkF m 7 #[oR a, oR b] [(.ref wW), (.ref kd)])
  by_cases c7_2 : kd = wW
  · refine own_by (fun t_ k_ => Jvm.RoadKit.acmp (g := (mkF m 7 #[oR a, oR b] [(.ref wW), (.ref kd)])) XT2 hx rfl rfl rfl (pc0 := 7) (pc' := 10) (same := true) rfl (hb hby d8_7) rfl (decide_eq_true (congrArg Value.ref (c7_2))) (by decide) (by decide) k_) ?_
    show own_Go p e below _ T2 (mkF m 10 #[oR a, oR b] [])
    refine own_by (fun t_ k_ => XS.aloadN XT2.here hx rfl (hb hby d8_10) rfl rfl  k_) ?_
    show own_Go p e below _ T2 (mkF m 11 #[oR a, oR b] [(.ref a)])
    refine own_getF XT2 hx hZ hown (hw _ (List.mem_of_getElem? (i := 46) rfl)) eT2 Ft (hb hby d8_11) ?_
    intro T4 XT4 eT4
    show own_Go p e below _ T4 (mkF m 14 #[oR a, oR b] [(.ref tx)])
    refine own_by (fun t_ k_ => XS.aloadN XT4.here hx rfl (hb hby d8_14) rfl rfl  k_) ?_
    show own_Go p e below _ T4 (mkF m 15 #[oR a, oR b] [(.ref b), (.ref tx)])
    refine own_callV XT4 hx hZ hown (hw _ (List.mem_of_getElem? (i := 77) rfl)) (hw _ (List.mem_of_getElem? (i := 78) rfl)) (hw _ (List.mem_of_getElem? (i := 80) rfl)) (hw _ (List.mem_of_getElem? (i := 79) rfl)) (hw _ (List.mem_of_getElem? (i := 81) rfl)) (hw _ (List.mem_of_getElem? (i := 6) rfl)) (by decide) eT4 (b := tx) E1 (argsL := [(.ref b)]) (rest := []) (own_eq_2_2_met l Z a0 hw tx b v1 v2 k1 k2 x0 x1 y0 y1 h0 cs Cs hcs hne E1 V1 C1 A1 E2 V2 C2 A2) 0 (by decide) (by decide) (by rw [hml]; rfl) (lenOf pd_7 rfl) (Nat.le_of_eq rfl) (hb hby d8_15) (by decide) (by decide) (st := [(.ref b), (.ref tx)]) rfl ?_
    intro T5 LT5 vT5 XT5 hQT5
    obtain ⟨rfl, eT5, rfl⟩ := hQT5
    show own_Go p e below _ T5 (mkF m 18 #[oR a, oR b] [(.int (own_eq_2_2 tx b v1 v2 k1 k2 x0 x1 y0 y1))])
    have N6 := own_Fr.app N0 own_Fr.nil
    by_cases c18_6 : (own_eq_2_2 tx b v1 v2 k1 k2 x0 x1 y0 y1) = (0 : Int32)
    · refine own_by (fun t_ k_ => XS.ifYes XT5.here hx rfl (pc0 := 18) (pc' := 25) rfl (hb hby d8_18) rfl (XT.i0_eq_t c18_6) (by decide) (by decide) k_) ?_
      show own_Go p e below _ T5 (mkF m 25 #[oR a, oR b] [])
      refine own_by (fun t_ k_ => XT.iconstV XT5.here hx rfl (0 : Int32) (hb hby d8_25) (by decide) k_) ?_
      show own_Go p e below _ T5 (mkF m 26 #[oR a, oR b] [(.int (0 : Int32))])
      exact own_retN XT5 hx hlk hret (by simp) (w := (0 : Int32)) (hb hby d8_26) (by decide) (by decide) (by decide) (⟨by rw [own_is_2_2, if_pos c7_2, if_pos c18_6], eT5, rfl⟩)
    · refine own_by (fun t_ k_ => XS.ifNo XT5.here hx rfl (hb hby d8_18) rfl (XT.i0_eq_f c18_6) k_) ?_
      show own_Go p e below _ T5 (mkF m 21 #[oR a, oR b] [])
      refine own_by (fun t_ k_ => XT.iconstV XT5.here hx rfl (1 : Int32) (hb hby d8_21) (by decide) k_) ?_
      show own_Go p e below _ T5 (mkF m 22 #[oR a, oR b] [(.int (1 : Int32))])
      refine own_by (fun t_ k_ => XS.goto XT5.here hx rfl (pc0 := 22) (pc' := 26) rfl (hb hby d8_22) (by decide) (by decide) k_) ?_
      show own_Go p e below _ T5 (mkF m 26 #[oR a, oR b] [(.int (1 : Int32))])
      exact own_retN XT5 hx hlk hret (by simp) (w := (1 : Int32)) (hb hby d8_26) (by decide) (by decide) (by decide) (⟨by rw [own_is_2_2, if_pos c7_2, if_neg c18_6], eT5, rfl⟩)
  · refine own_by (fun t_ k_ => Jvm.RoadKit.acmp (g := (mkF m 7 #[oR a, oR b] [(.ref wW), (.ref kd)])) XT2 hx rfl rfl rfl (pc0 := 7) (pc' := 25) (same := false) rfl (hb hby d8_7) rfl (decide_eq_false fun q => (c7_2) (Value.ref.inj q)) (by decide) (by decide) k_) ?_
    show own_Go p e below _ T2 (mkF m 25 #[oR a, oR b] [])
    refine own_by (fun t_ k_ => XT.iconstV XT2.here hx rfl (0 : Int32) (hb hby d8_25) (by decide) k_) ?_
    show own_Go p e below _ T2 (mkF m 26 #[oR a, oR b] [(.int (0 : Int32))])
    exact own_retN XT2 hx hlk hret (by simp) (w := (0 : Int32)) (hb hby d8_26) (by decide) (by decide) (by decide) (⟨by rw [own_is_2_2, if_neg c7_2], eT2, rfl⟩)
theorem own_pick_ne (k : Int32) (w0 w1 w2 w3 w4 : Addr) (hk : ¬ k = (3 : Int32)) (nw0 : w0 ≠ w3) (nw1 : w1 ≠ w3) (nw2 : w2 ≠ w3) (nw4 : w4 ≠ w3) : own_pick k w0 w1 w2 w3 w4 ≠ w3 := by
  unfold own_pick
  repeat' split
  all_goals first | assumption | exact absurd (by assumption) hk
theorem own_n3 (x : Int32) : ((x &&& (3 : Int32)) % (3 : Int32)) = (0 : Int32) ∨ ((x &&& (3 : Int32)) % (3 : Int32)) = (1 : Int32) ∨ ((x &&& (3 : Int32)) % (3 : Int32)) = (2 : Int32) := by
  have h := c_mask x (3 : Int32) 2 (by decide) (by decide)
  have h1 := (c_irem (x &&& (3 : Int32)) (3 : Int32) 3 (by decide)).1 (by omega)
  have h2 : ((x &&& (3 : Int32)) % (3 : Int32)).toInt = 0 ∨ ((x &&& (3 : Int32)) % (3 : Int32)).toInt = 1 ∨ ((x &&& (3 : Int32)) % (3 : Int32)).toInt = 2 := by omega
  rcases h2 with q | q | q
  · exact Or.inl (Int32.toInt_inj.mp (q.trans (by decide)))
  · exact Or.inr (Or.inl (Int32.toInt_inj.mp (q.trans (by decide))))
  · exact Or.inr (Or.inr ((Int32.toInt_inj.mp (q.trans (by decide)))))
theorem own_m3 (x : Int32) : x &&& (3 : Int32) = (0 : Int32) ∨ x &&& (3 : Int32) = (1 : Int32) ∨ x &&& (3 : Int32) = (2 : Int32) ∨ x &&& (3 : Int32) = (3 : Int32) := by
  have h := c_mask x (3 : Int32) 2 (by decide) (by decide)
  have h2 : (x &&& (3 : Int32)).toInt = 0 ∨ (x &&& (3 : Int32)).toInt = 1 ∨ (x &&& (3 : Int32)).toInt = 2 ∨ (x &&& (3 : Int32)).toInt = 3 := by omega
  rcases h2 with q | q | q | q
  · exact Or.inl (Int32.toInt_inj.mp (q.trans (by decide)))
  · exact Or.inr (Or.inl (Int32.toInt_inj.mp (q.trans (by decide))))
  · exact Or.inr (Or.inr (Or.inl (Int32.toInt_inj.mp (q.trans (by decide)))))
  · exact Or.inr (Or.inr (Or.inr ((Int32.toInt_inj.mp (q.trans (by decide))))))
def own_eqN (a : Addr)  : Int32 := (0 : Int32)
set_option maxRecDepth 65536 in
set_option maxHeartbeats 40000000 in
theorem own_eqN_met (l : Launch) (Z : State) (a0 : Array Value) (hw : ∀ d ∈ tables_1, d.before a0 Z = true) (a : Addr)  (h0 : Heap)  :
    own_Met l (⟨"java/lang/String", "equals", "(Ljava/lang/Object;)Z"⟩ : MethodName) jdk_42_method_66_code 3 (some .boolean) [] ({ frames := 0, cells := 0, slots := 0, locals := 0 } : Room) Z #[(.ref a), .null] h0 (fun rv rh rL => rv = some (.int (own_eqN a )) ∧ rh = h0 ∧ rL = []) := by
  refine own_enter (plainFor_of_name pn_1) ?_
  intro p e s m below meth c T0 hx hby hml hret hlk hown hnm hZ X0 e0
  refine own_at (g' := (mkF m 0 #[oR a, .val .null, .unset] [])) (by first | (simp [entryFrame, mkF, argsToLocals, Value.category]; done) | rfl) ?_
  show own_Go p e below _ T0 (mkF m 0 #[oR a, .val .null, .unset] [])
  have K0 : Keep h0 h0 [] := Keep.refl h0 _
  have N0 : own_Fr h0.size h0.size [] := own_Fr.nil
  refine own_by (fun t_ k_ => XS.aloadN X0.here hx rfl (hb hby d12_0) rfl rfl  k_) ?_
  show own_Go p e below _ T0 (mkF m 1 #[oR a, .val .null, .unset] [(.ref a)])
  refine own_by (fun t_ k_ => XS.aloadN X0.here hx rfl (hb hby d12_1) rfl rfl  k_) ?_
  show own_Go p e below _ T0 (mkF m 2 #[oR a, .val .null, .unset] [.null, (.ref a)])
  refine own_by (fun t_ k_ => Jvm.RoadKit.acmp (g := (mkF m 2 #[oR a, .val .null, .unset] [.null, (.ref a)])) X0 hx rfl rfl rfl (pc0 := 2) (pc' := 7) (same := false) rfl (hb hby d12_2) rfl (decide_eq_false (fun q => by cases q)) (by decide) (by decide) k_) ?_
  show own_Go p e below _ T0 (mkF m 7 #[oR a, .val .null, .unset] [])
  refine own_by (fun t_ k_ => XS.aloadN X0.here hx rfl (hb hby d12_7) rfl rfl  k_) ?_
  show own_Go p e below _ T0 (mkF m 8 #[oR a, .val .null, .unset] [.null])
  refine own_by (X0.instanceofNull hx (g := (mkF m 8 #[oR a, .val .null, .unset] [.null])) rfl rfl (hb hby d12_8)) ?_
  show own_Go p e below _ T0 (mkF m 11 #[oR a, .val .null, .unset] [(.int (0 : Int32))])
  refine own_by (fun t_ k_ => XS.ifYes X0.here hx rfl (pc0 := 11) (pc' := 54) rfl (hb hby d12_11) rfl (XT.i0_eq_t (by decide)) (by decide) (by decide) k_) ?_
  show own_Go p e below _ T0 (mkF m 54 #[oR a, .val .null, .unset] [])
  refine own_by (fun t_ k_ => XT.iconstV X0.here hx rfl (0 : Int32) (hb hby d12_54) (by decide) k_) ?_
  show own_Go p e below _ T0 (mkF m 55 #[oR a, .val .null, .unset] [(.int (0 : Int32))])
  exact own_retN X0 hx hlk hret (by simp) (w := (0 : Int32)) (hb hby d12_55) (by decide) (by decide) (by decide) (⟨by rw [own_eqN], e0, rfl⟩)
def own_isN (a : Addr) (kd wW tx : Addr) : Int32 := (if kd = wW then (0 : Int32) else (0 : Int32))
set_option maxRecDepth 65536 in
set_option maxHeartbeats 40000000 in
theorem own_isN_met (l : Launch) (Z : State) (a0 : Array Value) (hw : ∀ d ∈ tables_1, d.before a0 Z = true) (a : Addr) (kd wW tx : Addr) (h0 : Heap) (SW : Sta Z h0 "com/example/nimble_gate/nimblegate/policy/Token$Kind" "SYMBOL" "Lcom/example/nimble_gate/nimblegate/policy/Token$Kind;" (.ref wW)) (Fk : Fld Z h0 a "com/example/nimble_gate/nimblegate/policy/Token" "kind" "Lcom/example/nimble_gate/nimblegate/policy/Token$Kind;" (.ref kd)) (Ft : Fld Z h0 a "com/example/nimble_gate/nimblegate/policy/Token" "text" "Ljava/lang/String;" (.ref tx)) (E1 : Exa Z h0 tx "java/lang/String") :
    own_Met l (⟨"com/example/nimble_gate/nimblegate/policy/Token", "isSymbol", "(Ljava/lang/String;)Z"⟩ : MethodName) prog_15_method_3_code 2 (some .boolean) [] ({ frames := 1, cells := 0, slots := 0, locals := 14 } : Room) Z #[(.ref a), .null] h0 (fun rv rh rL => rv = some (.int (own_isN a kd wW tx)) ∧ rh = h0 ∧ rL = []) := by
  refine own_enter (plainFor_of_name pn_4) ?_
  intro p e s m below meth c T0 hx hby hml hret hlk hown hnm hZ X0 e0
  refine own_at (g' := (mkF m 0 #[oR a, .val .null] [])) (by first | (simp [entryFrame, mkF, argsToLocals, Value.category]; done) | rfl) ?_
  show own_Go p e below _ T0 (mkF m 0 #[oR a, .val .null] [])
  have K0 : Keep h0 h0 [] := Keep.refl h0 _
  have N0 : own_Fr h0.size h0.size [] := own_Fr.nil
  refine own_by (fun t_ k_ => XS.aloadN X0.here hx rfl (hb hby d8_0) rfl rfl  k_) ?_
  show own_Go p e below _ T0 (mkF m 1 #[oR a, .val .null] [(.ref a)])
  refine own_getF X0 hx hZ hown (hw _ (List.mem_of_getElem? (i := 44) rfl)) e0 Fk (hb hby d8_1) ?_
  intro T1 XT1 eT1
  show own_Go p e below _ T1 (mkF m 4 #[oR a, .val .null] [(.ref kd)])
  obtain ⟨T2, XT2, eT2, stT2⟩ := getS2 XT1 hx hZ hown (host := "") (Or.inl (hw _ (List.mem_of_getElem? (i := 57) rfl))) Via.refl eT1 SW (g := (mkF m 4 #[oR a, .val .null] [(.ref kd)])) rfl (hb hby d8_4)
  refine own_by stT2 ?_
  show own_Go p e below _ T2 (mkF m 7 #[oR a, .val .null] [(.ref wW), (.ref kd)])
  by_cases c7_2 : kd = wW
  · refine own_by (fun t_ k_ => Jvm.RoadKit.acmp (g := (mkF m 7 #[oR a, .val .null] [(.ref wW), (.ref kd)])) XT2 hx rfl rfl rfl (pc0 := 7) (pc' := 10) (same := true) rfl (hb hby d8_7) rfl (decide_eq_true (congrArg Value.ref (c7_2))) (by decide) (by decide) k_) ?_
    show own_Go p e below _ T2 (mkF m 10 #[oR a, .val .null] [])
    refine own_by (fun t_ k_ => XS.aloadN XT2.here hx rfl (hb hby d8_10) rfl rfl  k_) ?_
    show own_Go p e below _ T2 (mkF m 11 #[oR a, .val .null] [(.ref a)])
    refine own_getF XT2 hx hZ hown (hw _ (List.mem_of_getElem? (i := 46) rfl)) eT2 Ft (hb hby d8_11) ?_
    intro T4 XT4 eT4
    show own_Go p e below _ T4 (mkF m 14 #[oR a, .val .null] [(.ref tx)])
    refine own_by (fun t_ k_ => XS.aloadN XT4.here hx rfl (hb hby d8_14) rfl rfl  k_) ?_
    show own_Go p e below _ T4 (mkF m 15 #[oR a, .val .null] [.null, (.ref tx)])
    refine own_callV XT4 hx hZ hown (hw _ (List.mem_of_getElem? (i := 77) rfl)) (hw _ (List.mem_of_getElem? (i := 78) rfl)) (hw _ (List.mem_of_getElem? (i := 80) rfl)) (hw _ (List.mem_of_getElem? (i := 79) rfl)) (hw _ (List.mem_of_getElem? (i := 81) rfl)) (hw _ (List.mem_of_getElem? (i := 6) rfl)) (by decide) eT4 (b := tx) E1 (argsL := [.null]) (rest := []) (own_eqN_met l Z a0 hw tx h0) 0 (by decide) (by decide) (by rw [hml]; rfl) (lenOf pd_7 rfl) (Nat.le_of_eq rfl) (hb hby d8_15) (by decide) (by decide) (st := [.null, (.ref tx)]) rfl ?_
    intro T5 LT5 vT5 XT5 hQT5
    obtain ⟨rfl, eT5, rfl⟩ := hQT5
    show own_Go p e below _ T5 (mkF m 18 #[oR a, .val .null] [(.int (own_eqN tx))])
    have N6 := own_Fr.app N0 own_Fr.nil
    refine own_by (fun t_ k_ => XS.ifYes XT5.here hx rfl (pc0 := 18) (pc' := 25) rfl (hb hby d8_18) rfl (XT.i0_eq_t rfl) (by decide) (by decide) k_) ?_
    show own_Go p e below _ T5 (mkF m 25 #[oR a, .val .null] [])
    refine own_by (fun t_ k_ => XT.iconstV XT5.here hx rfl (0 : Int32) (hb hby d8_25) (by decide) k_) ?_
    show own_Go p e below _ T5 (mkF m 26 #[oR a, .val .null] [(.int (0 : Int32))])
    exact own_retN XT5 hx hlk hret (by simp) (w := (0 : Int32)) (hb hby d8_26) (by decide) (by decide) (by decide) (⟨by rw [own_isN, if_pos c7_2], eT5, rfl⟩)
  · refine own_by (fun t_ k_ => Jvm.RoadKit.acmp (g := (mkF m 7 #[oR a, .val .null] [(.ref wW), (.ref kd)])) XT2 hx rfl rfl rfl (pc0 := 7) (pc' := 25) (same := false) rfl (hb hby d8_7) rfl (decide_eq_false fun q => (c7_2) (Value.ref.inj q)) (by decide) (by decide) k_) ?_
    show own_Go p e below _ T2 (mkF m 25 #[oR a, .val .null] [])
    refine own_by (fun t_ k_ => XT.iconstV XT2.here hx rfl (0 : Int32) (hb hby d8_25) (by decide) k_) ?_
    show own_Go p e below _ T2 (mkF m 26 #[oR a, .val .null] [(.int (0 : Int32))])
    exact own_retN XT2 hx hlk hret (by simp) (w := (0 : Int32)) (hb hby d8_26) (by decide) (by decide) (by decide) (⟨by rw [own_isN, if_neg c7_2], eT2, rfl⟩)
theorem pd_8 : parseMethodDescriptor "(ICC)Ljava/lang/String;" = some ⟨[.int, .char, .char], some (.object "java/lang/String")⟩ := by decide +kernel
theorem pd_9 : parseMethodDescriptor "(I)Lcom/example/nimble_gate/nimblegate/policy/Token$Kind;" = some ⟨[.int], some (.object "com/example/nimble_gate/nimblegate/policy/Token$Kind")⟩ := by decide +kernel
theorem pd_10 : parseMethodDescriptor "(Lcom/example/nimble_gate/nimblegate/policy/Token$Kind;Ljava/lang/String;II)V" = some ⟨[(.object "com/example/nimble_gate/nimblegate/policy/Token$Kind"), (.object "java/lang/String"), .int, .int], none⟩ := by decide +kernel
theorem pd_11 : parseMethodDescriptor "(Ljava/lang/String;)Z" = some ⟨[(.object "java/lang/String")], some .boolean⟩ := by decide +kernel
set_option maxRecDepth 65536 in
set_option maxHeartbeats 40000000 in
theorem own_law (l : Launch) (Z : State) (a0 : Array Value) (hw : ∀ d ∈ tables_1, d.before a0 Z = true) (EL : List (String × Nat)) (hEL : EW Z a0 EL) (w0 w1 w2 w3 w4 : Addr) (i0 i1 i2 i3 i4 i5 : Int32) (h0 : Heap) (cs : Int32) (Cs : Sta Z h0 "java/lang/String" "COMPACT_STRINGS" "Z" (.int cs)) (hcs : ¬ cs = (0 : Int32)) (hmem : ("java/lang/String", 7) ∈ EL) (S : own_S Z h0 w0 w1 w2 w3 w4) (E0 : Exa Z h0 w0 "com/example/nimble_gate/nimblegate/policy/Token$Kind") (E1 : Exa Z h0 w1 "com/example/nimble_gate/nimblegate/policy/Token$Kind") (E2 : Exa Z h0 w2 "com/example/nimble_gate/nimblegate/policy/Token$Kind") (E3 : Exa Z h0 w3 "com/example/nimble_gate/nimblegate/policy/Token$Kind") (E4 : Exa Z h0 w4 "com/example/nimble_gate/nimblegate/policy/Token$Kind") (F0 : Fld Z h0 w0 "java/lang/Enum" "ordinal" "I" (.int (0 : Int32))) (F1 : Fld Z h0 w1 "java/lang/Enum" "ordinal" "I" (.int (1 : Int32))) (F2 : Fld Z h0 w2 "java/lang/Enum" "ordinal" "I" (.int (2 : Int32))) (F3 : Fld Z h0 w3 "java/lang/Enum" "ordinal" "I" (.int (3 : Int32))) (F4 : Fld Z h0 w4 "java/lang/Enum" "ordinal" "I" (.int (4 : Int32))) :
    own_MetW l x code maxLocals ret tables_1 room_1 Z EL #[(.int i0), (.int i1), (.int i2), (.int i3), (.int i4), (.int i5)] h0 (fun v h L => v = some (.int (1 : Int32)) ∧ Fr h0.size L) := by
  refine own_enterW (plainFor_of_name pn_2) ?_
  intro p e s m below meth c T0 hx hby hml hret hlk hown hnm hZ X0 e0 hS hC
  refine own_at (g' := (mkF m 0 #[oI i0, oI i1, oI i2, oI i3, oI i4, oI i5, .unset, .unset, .unset, .unset, .unset, .unset, .unset, .unset, .unset, .unset, .unset] [])) (by first | (simp [entryFrame, mkF, argsToLocals, Value.category, maxLocals]; done) | rfl) ?_
  show own_Go p e below _ T0 (mkF m 0 #[oI i0, oI i1, oI i2, oI i3, oI i4, oI i5, .unset, .unset, .unset, .unset, .unset, .unset, .unset, .unset, .unset, .unset, .unset] [])
  obtain ⟨S0, S1, S2, S3, S4⟩ := S
  have K0 : Keep h0 h0 [] := Keep.refl h0 _
  have N0 : own_Fr h0.size h0.size [] := own_Fr.nil
  have hk0 : 0 ≤ h0.size := Nat.zero_le _
  refine own_by (fun t_ k_ => XS.iloadN X0.here hx rfl (hb hby at_0) rfl  k_) ?_
  show own_Go p e below _ T0 (mkF m 1 #[oI i0, oI i1, oI i2, oI i3, oI i4, oI i5, .unset, .unset, .unset, .unset, .unset, .unset, .unset, .unset, .unset, .unset, .unset] [(.int i0)])
  refine own_by (fun t_ k_ => XT.bipushV X0.here hx rfl (7 : Int32) (hb hby at_1) (by decide) k_) ?_
  show own_Go p e below _ T0 (mkF m 3 #[oI i0, oI i1, oI i2, oI i3, oI i4, oI i5, .unset, .unset, .unset, .unset, .unset, .unset, .unset, .unset, .unset, .unset, .unset] [(.int (7 : Int32)), (.int i0)])
  refine own_by (fun t_ k_ => XS.iand X0.here hx rfl (hb hby at_3) rfl k_) ?_
  show own_Go p e below _ T0 (mkF m 4 #[oI i0, oI i1, oI i2, oI i3, oI i4, oI i5, .unset, .unset, .unset, .unset, .unset, .unset, .unset, .unset, .unset, .unset, .unset] [(.int (i0 &&& (7 : Int32)))])
  refine own_by (fun t_ k_ => XT.iconstV X0.here hx rfl (5 : Int32) (hb hby at_4) (by decide) k_) ?_
  show own_Go p e below _ T0 (mkF m 5 #[oI i0, oI i1, oI i2, oI i3, oI i4, oI i5, .unset, .unset, .unset, .unset, .unset, .unset, .unset, .unset, .unset, .unset, .unset] [(.int (5 : Int32)), (.int (i0 &&& (7 : Int32)))])
  refine own_by (fun t_ k_ => iremM X0 hx rfl (hb hby at_5) rfl (by decide) k_) ?_
  show own_Go p e below _ T0 (mkF m 6 #[oI i0, oI i1, oI i2, oI i3, oI i4, oI i5, .unset, .unset, .unset, .unset, .unset, .unset, .unset, .unset, .unset, .unset, .unset] [(.int ((i0 &&& (7 : Int32)) % (5 : Int32)))])
  generalize ((i0 &&& (7 : Int32)) % (5 : Int32)) = kk
  show own_Go p e below _ T0 (mkF m 6 #[oI i0, oI i1, oI i2, oI i3, oI i4, oI i5, .unset, .unset, .unset, .unset, .unset, .unset, .unset, .unset, .unset, .unset, .unset] [(.int kk)])
  refine own_by (fun t_ k_ => XS.istore X0.here hx rfl (hb hby at_6) rfl (l' := #[oI i0, oI i1, oI i2, oI i3, oI i4, oI i5, oI kk, .unset, .unset, .unset, .unset, .unset, .unset, .unset, .unset, .unset, .unset]) rfl k_) ?_
  show own_Go p e below _ T0 (mkF m 8 #[oI i0, oI i1, oI i2, oI i3, oI i4, oI i5, oI kk, .unset, .unset, .unset, .unset, .unset, .unset, .unset, .unset, .unset, .unset] [])
  refine own_by (fun t_ k_ => XS.iload X0.here hx rfl (hb hby at_8) rfl  k_) ?_
  show own_Go p e below _ T0 (mkF m 10 #[oI i0, oI i1, oI i2, oI i3, oI i4, oI i5, oI kk, .unset, .unset, .unset, .unset, .unset, .unset, .unset, .unset, .unset, .unset] [(.int i4)])
  refine own_by (fun t_ k_ => XT.iconstV X0.here hx rfl (3 : Int32) (hb hby at_10) (by decide) k_) ?_
  show own_Go p e below _ T0 (mkF m 11 #[oI i0, oI i1, oI i2, oI i3, oI i4, oI i5, oI kk, .unset, .unset, .unset, .unset, .unset, .unset, .unset, .unset, .unset, .unset] [(.int (3 : Int32)), (.int i4)])
  refine own_by (fun t_ k_ => XS.iand X0.here hx rfl (hb hby at_11) rfl k_) ?_
  show own_Go p e below _ T0 (mkF m 12 #[oI i0, oI i1, oI i2, oI i3, oI i4, oI i5, oI kk, .unset, .unset, .unset, .unset, .unset, .unset, .unset, .unset, .unset, .unset] [(.int (i4 &&& (3 : Int32)))])
  refine own_by (fun t_ k_ => XT.iconstV X0.here hx rfl (3 : Int32) (hb hby at_12) (by decide) k_) ?_
  show own_Go p e below _ T0 (mkF m 13 #[oI i0, oI i1, oI i2, oI i3, oI i4, oI i5, oI kk, .unset, .unset, .unset, .unset, .unset, .unset, .unset, .unset, .unset, .unset] [(.int (3 : Int32)), (.int (i4 &&& (3 : Int32)))])
  refine own_by (fun t_ k_ => iremM X0 hx rfl (hb hby at_13) rfl (by decide) k_) ?_
  show own_Go p e below _ T0 (mkF m 14 #[oI i0, oI i1, oI i2, oI i3, oI i4, oI i5, oI kk, .unset, .unset, .unset, .unset, .unset, .unset, .unset, .unset, .unset, .unset] [(.int ((i4 &&& (3 : Int32)) % (3 : Int32)))])
  have htn := own_n3 i4
  generalize ((i4 &&& (3 : Int32)) % (3 : Int32)) = tn at htn ⊢
  show own_Go p e below _ T0 (mkF m 14 #[oI i0, oI i1, oI i2, oI i3, oI i4, oI i5, oI kk, .unset, .unset, .unset, .unset, .unset, .unset, .unset, .unset, .unset, .unset] [(.int tn)])
  refine own_by (fun t_ k_ => XS.istore X0.here hx rfl (hb hby at_14) rfl (l' := #[oI i0, oI i1, oI i2, oI i3, oI i4, oI i5, oI kk, oI tn, .unset, .unset, .unset, .unset, .unset, .unset, .unset, .unset, .unset]) rfl k_) ?_
  show own_Go p e below _ T0 (mkF m 16 #[oI i0, oI i1, oI i2, oI i3, oI i4, oI i5, oI kk, oI tn, .unset, .unset, .unset, .unset, .unset, .unset, .unset, .unset, .unset] [])
  refine own_by (fun t_ k_ => XS.iload X0.here hx rfl (hb hby at_16) rfl  k_) ?_
  show own_Go p e below _ T0 (mkF m 18 #[oI i0, oI i1, oI i2, oI i3, oI i4, oI i5, oI kk, oI tn, .unset, .unset, .unset, .unset, .unset, .unset, .unset, .unset, .unset] [(.int i4)])
  refine own_by (fun t_ k_ => XT.iconstV X0.here hx rfl (2 : Int32) (hb hby at_18) (by decide) k_) ?_
  show own_Go p e below _ T0 (mkF m 19 #[oI i0, oI i1, oI i2, oI i3, oI i4, oI i5, oI kk, oI tn, .unset, .unset, .unset, .unset, .unset, .unset, .unset, .unset, .unset] [(.int (2 : Int32)), (.int i4)])
  refine own_by (fun t_ k_ => XT.iushr X0.here hx rfl (hb hby at_19) rfl k_) ?_
  show own_Go p e below _ T0 (mkF m 20 #[oI i0, oI i1, oI i2, oI i3, oI i4, oI i5, oI kk, oI tn, .unset, .unset, .unset, .unset, .unset, .unset, .unset, .unset, .unset] [(.int ((i4.toUInt32 >>> ((2 : Int32) &&& 31).toUInt32).toInt32))])
  refine own_by (fun t_ k_ => XT.iconstV X0.here hx rfl (3 : Int32) (hb hby at_20) (by decide) k_) ?_
  show own_Go p e below _ T0 (mkF m 21 #[oI i0, oI i1, oI i2, oI i3, oI i4, oI i5, oI kk, oI tn, .unset, .unset, .unset, .unset, .unset, .unset, .unset, .unset, .unset] [(.int (3 : Int32)), (.int ((i4.toUInt32 >>> ((2 : Int32) &&& 31).toUInt32).toInt32))])
  refine own_by (fun t_ k_ => XS.iand X0.here hx rfl (hb hby at_21) rfl k_) ?_
  show own_Go p e below _ T0 (mkF m 22 #[oI i0, oI i1, oI i2, oI i3, oI i4, oI i5, oI kk, oI tn, .unset, .unset, .unset, .unset, .unset, .unset, .unset, .unset, .unset] [(.int (((i4.toUInt32 >>> ((2 : Int32) &&& 31).toUInt32).toInt32) &&& (3 : Int32)))])
  have hwn := own_m3 ((i4.toUInt32 >>> ((2 : Int32) &&& 31).toUInt32).toInt32)
  generalize (((i4.toUInt32 >>> ((2 : Int32) &&& 31).toUInt32).toInt32) &&& (3 : Int32)) = wn at hwn ⊢
  show own_Go p e below _ T0 (mkF m 22 #[oI i0, oI i1, oI i2, oI i3, oI i4, oI i5, oI kk, oI tn, .unset, .unset, .unset, .unset, .unset, .unset, .unset, .unset, .unset] [(.int wn)])
  refine own_by (fun t_ k_ => XS.istore X0.here hx rfl (hb hby at_22) rfl (l' := #[oI i0, oI i1, oI i2, oI i3, oI i4, oI i5, oI kk, oI tn, oI wn, .unset, .unset, .unset, .unset, .unset, .unset, .unset, .unset]) rfl k_) ?_
  show own_Go p e below _ T0 (mkF m 24 #[oI i0, oI i1, oI i2, oI i3, oI i4, oI i5, oI kk, oI tn, oI wn, .unset, .unset, .unset, .unset, .unset, .unset, .unset, .unset] [])
  refine own_by (fun t_ k_ => XS.iloadN X0.here hx rfl (hb hby at_24) rfl  k_) ?_
  show own_Go p e below _ T0 (mkF m 25 #[oI i0, oI i1, oI i2, oI i3, oI i4, oI i5, oI kk, oI tn, oI wn, .unset, .unset, .unset, .unset, .unset, .unset, .unset, .unset] [(.int i1)])
  refine own_by (fun t_ k_ => XT.sipushV X0.here hx rfl (255 : Int32) (hb hby at_25) (by decide) k_) ?_
  show own_Go p e below _ T0 (mkF m 28 #[oI i0, oI i1, oI i2, oI i3, oI i4, oI i5, oI kk, oI tn, oI wn, .unset, .unset, .unset, .unset, .unset, .unset, .unset, .unset] [(.int (255 : Int32)), (.int i1)])
  refine own_by (fun t_ k_ => XS.iand X0.here hx rfl (hb hby at_28) rfl k_) ?_
  show own_Go p e below _ T0 (mkF m 29 #[oI i0, oI i1, oI i2, oI i3, oI i4, oI i5, oI kk, oI tn, oI wn, .unset, .unset, .unset, .unset, .unset, .unset, .unset, .unset] [(.int (i1 &&& (255 : Int32)))])
  refine own_by (fun t_ k_ => XT.i2c X0.here hx rfl (hb hby at_29) rfl k_) ?_
  show own_Go p e below _ T0 (mkF m 30 #[oI i0, oI i1, oI i2, oI i3, oI i4, oI i5, oI kk, oI tn, oI wn, .unset, .unset, .unset, .unset, .unset, .unset, .unset, .unset] [(.int ((i1 &&& (255 : Int32)).toUInt32.toUInt16.toUInt32.toInt32))])
  rw [i2c_mask i1]
  show own_Go p e below _ T0 (mkF m 30 #[oI i0, oI i1, oI i2, oI i3, oI i4, oI i5, oI kk, oI tn, oI wn, .unset, .unset, .unset, .unset, .unset, .unset, .unset, .unset] [(.int (i1 &&& (255 : Int32)))])
  have Bch0 := own_ch_mask i1
  generalize (i1 &&& (255 : Int32)) = ch0 at Bch0 ⊢
  show own_Go p e below _ T0 (mkF m 30 #[oI i0, oI i1, oI i2, oI i3, oI i4, oI i5, oI kk, oI tn, oI wn, .unset, .unset, .unset, .unset, .unset, .unset, .unset, .unset] [(.int ch0)])
  refine own_by (fun t_ k_ => XS.istore X0.here hx rfl (hb hby at_30) rfl (l' := #[oI i0, oI i1, oI i2, oI i3, oI i4, oI i5, oI kk, oI tn, oI wn, oI ch0, .unset, .unset, .unset, .unset, .unset, .unset, .unset]) rfl k_) ?_
  show own_Go p e below _ T0 (mkF m 32 #[oI i0, oI i1, oI i2, oI i3, oI i4, oI i5, oI kk, oI tn, oI wn, oI ch0, .unset, .unset, .unset, .unset, .unset, .unset, .unset] [])
  refine own_by (fun t_ k_ => XS.iloadN X0.here hx rfl (hb hby at_32) rfl  k_) ?_
  show own_Go p e below _ T0 (mkF m 33 #[oI i0, oI i1, oI i2, oI i3, oI i4, oI i5, oI kk, oI tn, oI wn, oI ch0, .unset, .unset, .unset, .unset, .unset, .unset, .unset] [(.int i2)])
  refine own_by (fun t_ k_ => XT.sipushV X0.here hx rfl (255 : Int32) (hb hby at_33) (by decide) k_) ?_
  show own_Go p e below _ T0 (mkF m 36 #[oI i0, oI i1, oI i2, oI i3, oI i4, oI i5, oI kk, oI tn, oI wn, oI ch0, .unset, .unset, .unset, .unset, .unset, .unset, .unset] [(.int (255 : Int32)), (.int i2)])
  refine own_by (fun t_ k_ => XS.iand X0.here hx rfl (hb hby at_36) rfl k_) ?_
  show own_Go p e below _ T0 (mkF m 37 #[oI i0, oI i1, oI i2, oI i3, oI i4, oI i5, oI kk, oI tn, oI wn, oI ch0, .unset, .unset, .unset, .unset, .unset, .unset, .unset] [(.int (i2 &&& (255 : Int32)))])
  refine own_by (fun t_ k_ => XT.i2c X0.here hx rfl (hb hby at_37) rfl k_) ?_
  show own_Go p e below _ T0 (mkF m 38 #[oI i0, oI i1, oI i2, oI i3, oI i4, oI i5, oI kk, oI tn, oI wn, oI ch0, .unset, .unset, .unset, .unset, .unset, .unset, .unset] [(.int ((i2 &&& (255 : Int32)).toUInt32.toUInt16.toUInt32.toInt32))])
  rw [i2c_mask i2]
  show own_Go p e below _ T0 (mkF m 38 #[oI i0, oI i1, oI i2, oI i3, oI i4, oI i5, oI kk, oI tn, oI wn, oI ch0, .unset, .unset, .unset, .unset, .unset, .unset, .unset] [(.int (i2 &&& (255 : Int32)))])
  have Bch1 := own_ch_mask i2
  generalize (i2 &&& (255 : Int32)) = ch1 at Bch1 ⊢
  show own_Go p e below _ T0 (mkF m 38 #[oI i0, oI i1, oI i2, oI i3, oI i4, oI i5, oI kk, oI tn, oI wn, oI ch0, .unset, .unset, .unset, .unset, .unset, .unset, .unset] [(.int ch1)])
  refine own_by (fun t_ k_ => XS.istore X0.here hx rfl (hb hby at_38) rfl (l' := #[oI i0, oI i1, oI i2, oI i3, oI i4, oI i5, oI kk, oI tn, oI wn, oI ch0, oI ch1, .unset, .unset, .unset, .unset, .unset, .unset]) rfl k_) ?_
  show own_Go p e below _ T0 (mkF m 40 #[oI i0, oI i1, oI i2, oI i3, oI i4, oI i5, oI kk, oI tn, oI wn, oI ch0, oI ch1, .unset, .unset, .unset, .unset, .unset, .unset] [])
  refine own_by (fun t_ k_ => XS.iloadN X0.here hx rfl (hb hby at_40) rfl  k_) ?_
  show own_Go p e below _ T0 (mkF m 41 #[oI i0, oI i1, oI i2, oI i3, oI i4, oI i5, oI kk, oI tn, oI wn, oI ch0, oI ch1, .unset, .unset, .unset, .unset, .unset, .unset] [(.int i1)])
  refine own_by (fun t_ k_ => XS.iloadN X0.here hx rfl (hb hby at_41) rfl  k_) ?_
  show own_Go p e below _ T0 (mkF m 42 #[oI i0, oI i1, oI i2, oI i3, oI i4, oI i5, oI kk, oI tn, oI wn, oI ch0, oI ch1, .unset, .unset, .unset, .unset, .unset, .unset] [(.int i3), (.int i1)])
  refine own_by (fun t_ k_ => XT.iconstV X0.here hx rfl (3 : Int32) (hb hby at_42) (by decide) k_) ?_
  show own_Go p e below _ T0 (mkF m 43 #[oI i0, oI i1, oI i2, oI i3, oI i4, oI i5, oI kk, oI tn, oI wn, oI ch0, oI ch1, .unset, .unset, .unset, .unset, .unset, .unset] [(.int (3 : Int32)), (.int i3), (.int i1)])
  refine own_by (fun t_ k_ => XS.iand X0.here hx rfl (hb hby at_43) rfl k_) ?_
  show own_Go p e below _ T0 (mkF m 44 #[oI i0, oI i1, oI i2, oI i3, oI i4, oI i5, oI kk, oI tn, oI wn, oI ch0, oI ch1, .unset, .unset, .unset, .unset, .unset, .unset] [(.int (i3 &&& (3 : Int32))), (.int i1)])
  refine own_by (fun t_ k_ => XT.ixor X0.here hx rfl (hb hby at_44) rfl k_) ?_
  show own_Go p e below _ T0 (mkF m 45 #[oI i0, oI i1, oI i2, oI i3, oI i4, oI i5, oI kk, oI tn, oI wn, oI ch0, oI ch1, .unset, .unset, .unset, .unset, .unset, .unset] [(.int (i1 ^^^ (i3 &&& (3 : Int32))))])
  refine own_by (fun t_ k_ => XT.sipushV X0.here hx rfl (255 : Int32) (hb hby at_45) (by decide) k_) ?_
  show own_Go p e below _ T0 (mkF m 48 #[oI i0, oI i1, oI i2, oI i3, oI i4, oI i5, oI kk, oI tn, oI wn, oI ch0, oI ch1, .unset, .unset, .unset, .unset, .unset, .unset] [(.int (255 : Int32)), (.int (i1 ^^^ (i3 &&& (3 : Int32))))])
  refine own_by (fun t_ k_ => XS.iand X0.here hx rfl (hb hby at_48) rfl k_) ?_
  show own_Go p e below _ T0 (mkF m 49 #[oI i0, oI i1, oI i2, oI i3, oI i4, oI i5, oI kk, oI tn, oI wn, oI ch0, oI ch1, .unset, .unset, .unset, .unset, .unset, .unset] [(.int ((i1 ^^^ (i3 &&& (3 : Int32))) &&& (255 : Int32)))])
  refine own_by (fun t_ k_ => XT.i2c X0.here hx rfl (hb hby at_49) rfl k_) ?_
  show own_Go p e below _ T0 (mkF m 50 #[oI i0, oI i1, oI i2, oI i3, oI i4, oI i5, oI kk, oI tn, oI wn, oI ch0, oI ch1, .unset, .unset, .unset, .unset, .unset, .unset] [(.int (((i1 ^^^ (i3 &&& (3 : Int32))) &&& (255 : Int32)).toUInt32.toUInt16.toUInt32.toInt32))])
  rw [i2c_mask (i1 ^^^ (i3 &&& (3 : Int32)))]
  show own_Go p e below _ T0 (mkF m 50 #[oI i0, oI i1, oI i2, oI i3, oI i4, oI i5, oI kk, oI tn, oI wn, oI ch0, oI ch1, .unset, .unset, .unset, .unset, .unset, .unset] [(.int ((i1 ^^^ (i3 &&& (3 : Int32))) &&& (255 : Int32)))])
  have Bdh0 := own_ch_mask (i1 ^^^ (i3 &&& (3 : Int32)))
  generalize ((i1 ^^^ (i3 &&& (3 : Int32))) &&& (255 : Int32)) = dh0 at Bdh0 ⊢
  show own_Go p e below _ T0 (mkF m 50 #[oI i0, oI i1, oI i2, oI i3, oI i4, oI i5, oI kk, oI tn, oI wn, oI ch0, oI ch1, .unset, .unset, .unset, .unset, .unset, .unset] [(.int dh0)])
  refine own_by (fun t_ k_ => XS.istore X0.here hx rfl (hb hby at_50) rfl (l' := #[oI i0, oI i1, oI i2, oI i3, oI i4, oI i5, oI kk, oI tn, oI wn, oI ch0, oI ch1, oI dh0, .unset, .unset, .unset, .unset, .unset]) rfl k_) ?_
  show own_Go p e below _ T0 (mkF m 52 #[oI i0, oI i1, oI i2, oI i3, oI i4, oI i5, oI kk, oI tn, oI wn, oI ch0, oI ch1, oI dh0, .unset, .unset, .unset, .unset, .unset] [])
  refine own_by (fun t_ k_ => XS.iloadN X0.here hx rfl (hb hby at_52) rfl  k_) ?_
  show own_Go p e below _ T0 (mkF m 53 #[oI i0, oI i1, oI i2, oI i3, oI i4, oI i5, oI kk, oI tn, oI wn, oI ch0, oI ch1, oI dh0, .unset, .unset, .unset, .unset, .unset] [(.int i2)])
  refine own_by (fun t_ k_ => XS.iloadN X0.here hx rfl (hb hby at_53) rfl  k_) ?_
  show own_Go p e below _ T0 (mkF m 54 #[oI i0, oI i1, oI i2, oI i3, oI i4, oI i5, oI kk, oI tn, oI wn, oI ch0, oI ch1, oI dh0, .unset, .unset, .unset, .unset, .unset] [(.int i3), (.int i2)])
  refine own_by (fun t_ k_ => XT.iconstV X0.here hx rfl (2 : Int32) (hb hby at_54) (by decide) k_) ?_
  show own_Go p e below _ T0 (mkF m 55 #[oI i0, oI i1, oI i2, oI i3, oI i4, oI i5, oI kk, oI tn, oI wn, oI ch0, oI ch1, oI dh0, .unset, .unset, .unset, .unset, .unset] [(.int (2 : Int32)), (.int i3), (.int i2)])
  refine own_by (fun t_ k_ => XT.iushr X0.here hx rfl (hb hby at_55) rfl k_) ?_
  show own_Go p e below _ T0 (mkF m 56 #[oI i0, oI i1, oI i2, oI i3, oI i4, oI i5, oI kk, oI tn, oI wn, oI ch0, oI ch1, oI dh0, .unset, .unset, .unset, .unset, .unset] [(.int ((i3.toUInt32 >>> ((2 : Int32) &&& 31).toUInt32).toInt32)), (.int i2)])
  refine own_by (fun t_ k_ => XT.iconstV X0.here hx rfl (3 : Int32) (hb hby at_56) (by decide) k_) ?_
  show own_Go p e below _ T0 (mkF m 57 #[oI i0, oI i1, oI i2, oI i3, oI i4, oI i5, oI kk, oI tn, oI wn, oI ch0, oI ch1, oI dh0, .unset, .unset, .unset, .unset, .unset] [(.int (3 : Int32)), (.int ((i3.toUInt32 >>> ((2 : Int32) &&& 31).toUInt32).toInt32)), (.int i2)])
  refine own_by (fun t_ k_ => XS.iand X0.here hx rfl (hb hby at_57) rfl k_) ?_
  show own_Go p e below _ T0 (mkF m 58 #[oI i0, oI i1, oI i2, oI i3, oI i4, oI i5, oI kk, oI tn, oI wn, oI ch0, oI ch1, oI dh0, .unset, .unset, .unset, .unset, .unset] [(.int (((i3.toUInt32 >>> ((2 : Int32) &&& 31).toUInt32).toInt32) &&& (3 : Int32))), (.int i2)])
  refine own_by (fun t_ k_ => XT.ixor X0.here hx rfl (hb hby at_58) rfl k_) ?_
  show own_Go p e below _ T0 (mkF m 59 #[oI i0, oI i1, oI i2, oI i3, oI i4, oI i5, oI kk, oI tn, oI wn, oI ch0, oI ch1, oI dh0, .unset, .unset, .unset, .unset, .unset] [(.int (i2 ^^^ (((i3.toUInt32 >>> ((2 : Int32) &&& 31).toUInt32).toInt32) &&& (3 : Int32))))])
  refine own_by (fun t_ k_ => XT.sipushV X0.here hx rfl (255 : Int32) (hb hby at_59) (by decide) k_) ?_
  show own_Go p e below _ T0 (mkF m 62 #[oI i0, oI i1, oI i2, oI i3, oI i4, oI i5, oI kk, oI tn, oI wn, oI ch0, oI ch1, oI dh0, .unset, .unset, .unset, .unset, .unset] [(.int (255 : Int32)), (.int (i2 ^^^ (((i3.toUInt32 >>> ((2 : Int32) &&& 31).toUInt32).toInt32) &&& (3 : Int32))))])
  refine own_by (fun t_ k_ => XS.iand X0.here hx rfl (hb hby at_62) rfl k_) ?_
  show own_Go p e below _ T0 (mkF m 63 #[oI i0, oI i1, oI i2, oI i3, oI i4, oI i5, oI kk, oI tn, oI wn, oI ch0, oI ch1, oI dh0, .unset, .unset, .unset, .unset, .unset] [(.int ((i2 ^^^ (((i3.toUInt32 >>> ((2 : Int32) &&& 31).toUInt32).toInt32) &&& (3 : Int32))) &&& (255 : Int32)))])
  refine own_by (fun t_ k_ => XT.i2c X0.here hx rfl (hb hby at_63) rfl k_) ?_
  show own_Go p e below _ T0 (mkF m 64 #[oI i0, oI i1, oI i2, oI i3, oI i4, oI i5, oI kk, oI tn, oI wn, oI ch0, oI ch1, oI dh0, .unset, .unset, .unset, .unset, .unset] [(.int (((i2 ^^^ (((i3.toUInt32 >>> ((2 : Int32) &&& 31).toUInt32).toInt32) &&& (3 : Int32))) &&& (255 : Int32)).toUInt32.toUInt16.toUInt32.toInt32))])
  rw [i2c_mask (i2 ^^^ (((i3.toUInt32 >>> ((2 : Int32) &&& 31).toUInt32).toInt32) &&& (3 : Int32)))]
  show own_Go p e below _ T0 (mkF m 64 #[oI i0, oI i1, oI i2, oI i3, oI i4, oI i5, oI kk, oI tn, oI wn, oI ch0, oI ch1, oI dh0, .unset, .unset, .unset, .unset, .unset] [(.int ((i2 ^^^ (((i3.toUInt32 >>> ((2 : Int32) &&& 31).toUInt32).toInt32) &&& (3 : Int32))) &&& (255 : Int32)))])
  have Bdh1 := own_ch_mask (i2 ^^^ (((i3.toUInt32 >>> ((2 : Int32) &&& 31).toUInt32).toInt32) &&& (3 : Int32)))
  generalize ((i2 ^^^ (((i3.toUInt32 >>> ((2 : Int32) &&& 31).toUInt32).toInt32) &&& (3 : Int32))) &&& (255 : Int32)) = dh1 at Bdh1 ⊢
  show own_Go p e below _ T0 (mkF m 64 #[oI i0, oI i1, oI i2, oI i3, oI i4, oI i5, oI kk, oI tn, oI wn, oI ch0, oI ch1, oI dh0, .unset, .unset, .unset, .unset, .unset] [(.int dh1)])
  refine own_by (fun t_ k_ => XS.istore X0.here hx rfl (hb hby at_64) rfl (l' := #[oI i0, oI i1, oI i2, oI i3, oI i4, oI i5, oI kk, oI tn, oI wn, oI ch0, oI ch1, oI dh0, oI dh1, .unset, .unset, .unset, .unset]) rfl k_) ?_
  show own_Go p e below _ T0 (mkF m 66 #[oI i0, oI i1, oI i2, oI i3, oI i4, oI i5, oI kk, oI tn, oI wn, oI ch0, oI ch1, oI dh0, oI dh1, .unset, .unset, .unset, .unset] [])
  rcases htn with hk | hk | hk
  · subst hk
    show own_Go p e below _ T0 (mkF m 66 #[oI i0, oI i1, oI i2, oI i3, oI i4, oI i5, oI kk, oI (0 : Int32), oI wn, oI ch0, oI ch1, oI dh0, oI dh1, .unset, .unset, .unset, .unset] [])
    refine own_by (fun t_ k_ => XS.iload X0.here hx rfl (hb hby at_66) rfl  k_) ?_
    show own_Go p e below _ T0 (mkF m 68 #[oI i0, oI i1, oI i2, oI i3, oI i4, oI i5, oI kk, oI (0 : Int32), oI wn, oI ch0, oI ch1, oI dh0, oI dh1, .unset, .unset, .unset, .unset] [(.int (0 : Int32))])
    refine own_by (fun t_ k_ => XS.iload X0.here hx rfl (hb hby at_68) rfl  k_) ?_
    show own_Go p e below _ T0 (mkF m 70 #[oI i0, oI i1, oI i2, oI i3, oI i4, oI i5, oI kk, oI (0 : Int32), oI wn, oI ch0, oI ch1, oI dh0, oI dh1, .unset, .unset, .unset, .unset] [(.int ch0), (.int (0 : Int32))])
    refine own_by (fun t_ k_ => XS.iload X0.here hx rfl (hb hby at_70) rfl  k_) ?_
    show own_Go p e below _ T0 (mkF m 72 #[oI i0, oI i1, oI i2, oI i3, oI i4, oI i5, oI kk, oI (0 : Int32), oI wn, oI ch0, oI ch1, oI dh0, oI dh1, .unset, .unset, .unset, .unset] [(.int ch1), (.int ch0), (.int (0 : Int32))])
    have g1 : h0.size ≤ h0.size := K0.1
    refine own_callSW X0 hx hZ hEL hS e0 hk0 hC hown (hw _ (List.mem_of_getElem? (i := 0) rfl)) (hw _ (List.mem_of_getElem? (i := 1) rfl)) (hw _ (List.mem_of_getElem? (i := 2) rfl)) (hw _ (List.mem_of_getElem? (i := 3) rfl)) (by decide) (argsL := [(.int (0 : Int32)), (.int ch0), (.int ch1)]) (rest := []) (own_str_0 l Z a0 hw EL hEL ch0 ch1 h0 cs Cs hcs Bch0 Bch1 hmem) 0 (by decide) (by decide) (by rw [hml]; rfl) (lenOf pd_8 rfl) (Nat.le_of_eq rfl) (hb hby at_72) (by decide) (by decide) (st := [(.int ch1), (.int ch0), (.int (0 : Int32))]) rfl ?_
    rintro T2 LT2 vT2 ⟨XT2, hQT2, hS, hgT2, hZ, hown, hCT2⟩
    obtain ⟨rfl, KT2, NT2, ST2⟩ := hQT2
    show own_Go p e below _ T2 (mkF m 75 #[oI i0, oI i1, oI i2, oI i3, oI i4, oI i5, oI kk, oI (0 : Int32), oI wn, oI ch0, oI ch1, oI dh0, oI dh1, .unset, .unset, .unset, .unset] [(.ref h0.size)])
    have fq3_1 := own_stak Cs KT2
    have fq3_2 := own_stak S0 KT2
    have fq3_3 := own_stak S1 KT2
    have fq3_4 := own_stak S2 KT2
    have fq3_5 := own_stak S3 KT2
    have fq3_6 := own_stak S4 KT2
    have Kq3 := own_trans0 K0 KT2
    have hC := hCT2
    have hk0 := Nat.le_refl T2.heap.size
    obtain ⟨bT2, kbT2, EsT2, FvT2, FcT2, VT2⟩ := ST2
    have lt4 := EsT2.lt
    have lt5 := VT2.lt
    have N6 := own_Fr.app N0 (own_Fr.of NT2 (K0).1)
    refine own_by (fun t_ k_ => XS.astore XT2.here hx rfl (hb hby at_75) rfl rfl (l' := #[oI i0, oI i1, oI i2, oI i3, oI i4, oI i5, oI kk, oI (0 : Int32), oI wn, oI ch0, oI ch1, oI dh0, oI dh1, oR h0.size, .unset, .unset, .unset]) rfl k_) ?_
    show own_Go p e below _ T2 (mkF m 77 #[oI i0, oI i1, oI i2, oI i3, oI i4, oI i5, oI kk, oI (0 : Int32), oI wn, oI ch0, oI ch1, oI dh0, oI dh1, oR h0.size, .unset, .unset, .unset] [])
    rcases hwn with hk | hk | hk | hk
    · subst hk
      show own_Go p e below _ T2 (mkF m 77 #[oI i0, oI i1, oI i2, oI i3, oI i4, oI i5, oI kk, oI (0 : Int32), oI (0 : Int32), oI ch0, oI ch1, oI dh0, oI dh1, oR h0.size, .unset, .unset, .unset] [])
      refine own_by (fun t_ k_ => XS.iload XT2.here hx rfl (hb hby at_77) rfl  k_) ?_
      show own_Go p e below _ T2 (mkF m 79 #[oI i0, oI i1, oI i2, oI i3, oI i4, oI i5, oI kk, oI (0 : Int32), oI (0 : Int32), oI ch0, oI ch1, oI dh0, oI dh1, oR h0.size, .unset, .unset, .unset] [(.int (0 : Int32))])
      refine own_by (fun t_ k_ => XT.iconstV XT2.here hx rfl (3 : Int32) (hb hby at_79) (by decide) k_) ?_
      show own_Go p e below _ T2 (mkF m 80 #[oI i0, oI i1, oI i2, oI i3, oI i4, oI i5, oI kk, oI (0 : Int32), oI (0 : Int32), oI ch0, oI ch1, oI dh0, oI dh1, oR h0.size, .unset, .unset, .unset] [(.int (3 : Int32)), (.int (0 : Int32))])
      refine own_by (fun t_ k_ => XS.icmpYes XT2.here hx rfl (pc0 := 80) (pc' := 87) rfl (hb hby at_80) rfl (XT.ii_ne_t (by decide)) (by decide) (by decide) k_) ?_
      show own_Go p e below _ T2 (mkF m 87 #[oI i0, oI i1, oI i2, oI i3, oI i4, oI i5, oI kk, oI (0 : Int32), oI (0 : Int32), oI ch0, oI ch1, oI dh0, oI dh1, oR h0.size, .unset, .unset, .unset] [])
      refine own_by (fun t_ k_ => XS.iload XT2.here hx rfl (hb hby at_87) rfl  k_) ?_
      show own_Go p e below _ T2 (mkF m 89 #[oI i0, oI i1, oI i2, oI i3, oI i4, oI i5, oI kk, oI (0 : Int32), oI (0 : Int32), oI ch0, oI ch1, oI dh0, oI dh1, oR h0.size, .unset, .unset, .unset] [(.int (0 : Int32))])
      refine own_by (fun t_ k_ => XS.iload XT2.here hx rfl (hb hby at_89) rfl  k_) ?_
      show own_Go p e below _ T2 (mkF m 91 #[oI i0, oI i1, oI i2, oI i3, oI i4, oI i5, oI kk, oI (0 : Int32), oI (0 : Int32), oI ch0, oI ch1, oI dh0, oI dh1, oR h0.size, .unset, .unset, .unset] [(.int dh0), (.int (0 : Int32))])
      refine own_by (fun t_ k_ => XS.iload XT2.here hx rfl (hb hby at_91) rfl  k_) ?_
      show own_Go p e below _ T2 (mkF m 93 #[oI i0, oI i1, oI i2, oI i3, oI i4, oI i5, oI kk, oI (0 : Int32), oI (0 : Int32), oI ch0, oI ch1, oI dh0, oI dh1, oR h0.size, .unset, .unset, .unset] [(.int dh1), (.int dh0), (.int (0 : Int32))])
      have g7 : h0.size ≤ T2.heap.size := Kq3.1
      refine own_callSW XT2 hx hZ hEL hS (rfl : T2.heap = T2.heap) hk0 hC hown (hw _ (List.mem_of_getElem? (i := 0) rfl)) (hw _ (List.mem_of_getElem? (i := 1) rfl)) (hw _ (List.mem_of_getElem? (i := 2) rfl)) (hw _ (List.mem_of_getElem? (i := 3) rfl)) (by decide) (argsL := [(.int (0 : Int32)), (.int dh0), (.int dh1)]) (rest := []) (own_str_0 l Z a0 hw EL hEL dh0 dh1 T2.heap cs fq3_1 hcs Bdh0 Bdh1 hmem) 0 (by decide) (by decide) (by rw [hml]; rfl) (lenOf pd_8 rfl) (Nat.le_of_eq rfl) (hb hby at_93) (by decide) (by decide) (st := [(.int dh1), (.int dh0), (.int (0 : Int32))]) rfl ?_
      rintro T8 LT8 vT8 ⟨XT8, hQT8, hS, hgT8, hZ, hown, hCT8⟩
      obtain ⟨rfl, KT8, NT8, ST8⟩ := hQT8
      show own_Go p e below _ T8 (mkF m 96 #[oI i0, oI i1, oI i2, oI i3, oI i4, oI i5, oI kk, oI (0 : Int32), oI (0 : Int32), oI ch0, oI ch1, oI dh0, oI dh1, oR h0.size, .unset, .unset, .unset] [(.ref T2.heap.size)])
      have fq9_1 := own_stak fq3_1 KT8
      have fq9_2 := own_stak fq3_2 KT8
      have fq9_3 := own_stak fq3_3 KT8
      have fq9_4 := own_stak fq3_4 KT8
      have fq9_5 := own_stak fq3_5 KT8
      have fq9_6 := own_stak fq3_6 KT8
      have fq9_7 := EsT2.keep KT8
      have fq9_8 := FvT2.keep KT8 nin0
      have fq9_9 := FcT2.keep KT8 nin0
      have fq9_10 := VT2.keep KT8 nin0
      have lq9_0 := Nat.lt_of_lt_of_le lt4 KT8.1
      have lq9_1 := Nat.lt_of_lt_of_le lt5 KT8.1
      have Kq9 := own_trans0 Kq3 KT8
      have hC := hCT8
      have hk0 := Nat.le_refl T8.heap.size
      obtain ⟨bT8, kbT8, EsT8, FvT8, FcT8, VT8⟩ := ST8
      have lt10 := EsT8.lt
      have lt11 := VT8.lt
      have z12 : h0.size ≠ T2.heap.size := Nat.ne_of_lt lt4
      have z13 : bT2 ≠ T2.heap.size := Nat.ne_of_lt lt5
      have N14 := own_Fr.app N6 (own_Fr.of NT8 (Kq3).1)
      refine own_by (fun t_ k_ => XS.astore XT8.here hx rfl (hb hby at_96) rfl rfl (l' := #[oI i0, oI i1, oI i2, oI i3, oI i4, oI i5, oI kk, oI (0 : Int32), oI (0 : Int32), oI ch0, oI ch1, oI dh0, oI dh1, oR h0.size, oR T2.heap.size, .unset, .unset]) rfl k_) ?_
      show own_Go p e below _ T8 (mkF m 98 #[oI i0, oI i1, oI i2, oI i3, oI i4, oI i5, oI kk, oI (0 : Int32), oI (0 : Int32), oI ch0, oI ch1, oI dh0, oI dh1, oR h0.size, oR T2.heap.size, .unset, .unset] [])
      have g16 : h0.size ≤ T8.heap.size := Kq9.1
      refine own_new XT8 hx hZ hown (hw _ (List.mem_of_getElem? (i := 26) rfl)) (hw _ (List.mem_of_getElem? (i := 27) rfl)) (hw _ (List.mem_of_getElem? (i := 28) rfl)) (rfl : T8.heap = T8.heap) (hb hby at_98) (by decide) (by decide) ?_
      intro T15 hT15 XT15 eT15 ET15 AT15 DT15
      have fq17_1 := own_stak fq9_1 (own_ek ET15)
      have fq17_2 := own_stak fq9_2 (own_ek ET15)
      have fq17_3 := own_stak fq9_3 (own_ek ET15)
      have fq17_4 := own_stak fq9_4 (own_ek ET15)
      have fq17_5 := own_stak fq9_5 (own_ek ET15)
      have fq17_6 := own_stak fq9_6 (own_ek ET15)
      have fq17_7 := fq9_7.keep (own_ek ET15)
      have fq17_8 := fq9_8.keep (own_ek ET15) nin0
      have fq17_9 := fq9_9.keep (own_ek ET15) nin0
      have fq17_10 := fq9_10.keep (own_ek ET15) nin0
      have fq17_11 := EsT8.keep (own_ek ET15)
      have fq17_12 := FvT8.keep (own_ek ET15) nin0
      have fq17_13 := FcT8.keep (own_ek ET15) nin0
      have fq17_14 := VT8.keep (own_ek ET15) nin0
      have lq17_0 := Nat.lt_of_lt_of_le lq9_0 (own_ek ET15).1
      have lq17_1 := Nat.lt_of_lt_of_le lq9_1 (own_ek ET15).1
      have lq17_2 := Nat.lt_of_lt_of_le lt10 (own_ek ET15).1
      have lq17_3 := Nat.lt_of_lt_of_le lt11 (own_ek ET15).1
      have hC := hC.trans (CHr.keep (own_ek ET15) (fun _ q => by cases q) hC.1)
      have hk0 := Nat.le_trans hk0 (own_ek ET15).1
      have Kq17 := own_trans0 Kq9 (own_ek ET15)
      have z18 : h0.size ≠ T8.heap.size := Nat.ne_of_lt lq9_0
      have z19 : bT2 ≠ T8.heap.size := Nat.ne_of_lt lq9_1
      have z20 : T2.heap.size ≠ T8.heap.size := Nat.ne_of_lt lt10
      have z21 : bT8 ≠ T8.heap.size := Nat.ne_of_lt lt11
      have FT15_kind : Fld Z hT15 T8.heap.size "com/example/nimble_gate/nimblegate/policy/Token" "kind" "Lcom/example/nimble_gate/nimblegate/policy/Token$Kind;" .null := DT15 (ty := (.object "com/example/nimble_gate/nimblegate/policy/Token$Kind")) (Or.inr (hw _ (List.mem_of_getElem? (i := 45) rfl))) (by decide +kernel)
      have FT15_text : Fld Z hT15 T8.heap.size "com/example/nimble_gate/nimblegate/policy/Token" "text" "Ljava/lang/String;" .null := DT15 (ty := (.object "java/lang/String")) (Or.inr (hw _ (List.mem_of_getElem? (i := 47) rfl))) (by decide +kernel)
      have FT15_line : Fld Z hT15 T8.heap.size "com/example/nimble_gate/nimblegate/policy/Token" "line" "I" (.int 0) := DT15 (ty := .int) (Or.inr (hw _ (List.mem_of_getElem? (i := 49) rfl))) (by decide +kernel)
      have FT15_column : Fld Z hT15 T8.heap.size "com/example/nimble_gate/nimblegate/policy/Token" "column" "I" (.int 0) := DT15 (ty := .int) (Or.inr (hw _ (List.mem_of_getElem? (i := 51) rfl))) (by decide +kernel)
      clear DT15
      have lt22 := AT15.lt
      show own_Go p e below _ T15 (mkF m 101 #[oI i0, oI i1, oI i2, oI i3, oI i4, oI i5, oI kk, oI (0 : Int32), oI (0 : Int32), oI ch0, oI ch1, oI dh0, oI dh1, oR h0.size, oR T2.heap.size, .unset, .unset] [(.ref T8.heap.size)])
      refine own_by (fun t_ k_ => XS.dup XT15.here hx rfl (hb hby at_101) rfl rfl k_) ?_
      show own_Go p e below _ T15 (mkF m 102 #[oI i0, oI i1, oI i2, oI i3, oI i4, oI i5, oI kk, oI (0 : Int32), oI (0 : Int32), oI ch0, oI ch1, oI dh0, oI dh1, oR h0.size, oR T2.heap.size, .unset, .unset] [(.ref T8.heap.size), (.ref T8.heap.size)])
      refine own_by (fun t_ k_ => XS.iload XT15.here hx rfl (hb hby at_102) rfl  k_) ?_
      show own_Go p e below _ T15 (mkF m 104 #[oI i0, oI i1, oI i2, oI i3, oI i4, oI i5, oI kk, oI (0 : Int32), oI (0 : Int32), oI ch0, oI ch1, oI dh0, oI dh1, oR h0.size, oR T2.heap.size, .unset, .unset] [(.int kk), (.ref T8.heap.size), (.ref T8.heap.size)])
      refine own_callS XT15 hx hZ hown (hw _ (List.mem_of_getElem? (i := 29) rfl)) (hw _ (List.mem_of_getElem? (i := 30) rfl)) (hw _ (List.mem_of_getElem? (i := 2) rfl)) (hw _ (List.mem_of_getElem? (i := 31) rfl)) (by decide) eT15 (argsL := [(.int kk)]) (rest := [(.ref T8.heap.size), (.ref T8.heap.size)]) (own_pick_met l Z a0 hw kk w0 w1 w2 w3 w4 hT15 ⟨fq17_2, fq17_3, fq17_4, fq17_5, fq17_6⟩) 2 (by decide) (by decide) (by rw [hml]; rfl) (lenOf pd_9 rfl) (Nat.le_of_eq rfl) (hb hby at_104) (by decide) (by decide) (st := [(.int kk), (.ref T8.heap.size), (.ref T8.heap.size)]) rfl ?_
      intro T23 LT23 vT23 XT23 hQT23
      obtain ⟨rfl, eT23, rfl⟩ := hQT23
      show own_Go p e below _ T23 (mkF m 107 #[oI i0, oI i1, oI i2, oI i3, oI i4, oI i5, oI kk, oI (0 : Int32), oI (0 : Int32), oI ch0, oI ch1, oI dh0, oI dh1, oR h0.size, oR T2.heap.size, .unset, .unset] [(.ref (own_pick kk w0 w1 w2 w3 w4)), (.ref T8.heap.size), (.ref T8.heap.size)])
      have N24 := own_Fr.app N14 own_Fr.nil
      generalize hkd : (own_pick kk w0 w1 w2 w3 w4) = kd
      show own_Go p e below _ T23 (mkF m 107 #[oI i0, oI i1, oI i2, oI i3, oI i4, oI i5, oI kk, oI (0 : Int32), oI (0 : Int32), oI ch0, oI ch1, oI dh0, oI dh1, oR h0.size, oR T2.heap.size, .unset, .unset] [(.ref kd), (.ref T8.heap.size), (.ref T8.heap.size)])
      refine own_by (fun t_ k_ => XS.aload XT23.here hx rfl (hb hby at_107) rfl rfl  k_) ?_
      show own_Go p e below _ T23 (mkF m 109 #[oI i0, oI i1, oI i2, oI i3, oI i4, oI i5, oI kk, oI (0 : Int32), oI (0 : Int32), oI ch0, oI ch1, oI dh0, oI dh1, oR h0.size, oR T2.heap.size, .unset, .unset] [(.ref h0.size), (.ref kd), (.ref T8.heap.size), (.ref T8.heap.size)])
      refine own_by (fun t_ k_ => XS.iload XT23.here hx rfl (hb hby at_109) rfl  k_) ?_
      show own_Go p e below _ T23 (mkF m 111 #[oI i0, oI i1, oI i2, oI i3, oI i4, oI i5, oI kk, oI (0 : Int32), oI (0 : Int32), oI ch0, oI ch1, oI dh0, oI dh1, oR h0.size, oR T2.heap.size, .unset, .unset] [(.int i5), (.ref h0.size), (.ref kd), (.ref T8.heap.size), (.ref T8.heap.size)])
      refine own_by (fun t_ k_ => XS.iloadN XT23.here hx rfl (hb hby at_111) rfl  k_) ?_
      show own_Go p e below _ T23 (mkF m 112 #[oI i0, oI i1, oI i2, oI i3, oI i4, oI i5, oI kk, oI (0 : Int32), oI (0 : Int32), oI ch0, oI ch1, oI dh0, oI dh1, oR h0.size, oR T2.heap.size, .unset, .unset] [(.int i0), (.int i5), (.ref h0.size), (.ref kd), (.ref T8.heap.size), (.ref T8.heap.size)])
      refine own_callN XT23 hx hZ rfl hown (hw _ (List.mem_of_getElem? (i := 35) rfl)) (hw _ (List.mem_of_getElem? (i := 36) rfl)) (hw _ (List.mem_of_getElem? (i := 37) rfl)) (hw _ (List.mem_of_getElem? (i := 28) rfl)) (by decide) eT23 (b := T8.heap.size) (argsL := [(.ref kd), (.ref h0.size), (.int i5), (.int i0)]) (rest := [(.ref T8.heap.size)]) (own_tok l Z a0 hw T8.heap.size kd h0.size i5 i0 hT15 AT15 FT15_kind FT15_text FT15_line FT15_column) 1 (by decide) (by decide) (by rw [hml]; rfl) (lenOf pd_10 rfl) (Nat.le_of_eq rfl) (hb hby at_112) (by decide) (by decide) (st := [(.int i0), (.int i5), (.ref h0.size), (.ref kd), (.ref T8.heap.size), (.ref T8.heap.size)]) rfl ?_
      intro T25 LT25 vT25 XT25 hQT25
      obtain ⟨rfl, KT25, NT25, FkT25, FtT25⟩ := hQT25
      show own_Go p e below _ T25 (mkF m 115 #[oI i0, oI i1, oI i2, oI i3, oI i4, oI i5, oI kk, oI (0 : Int32), oI (0 : Int32), oI ch0, oI ch1, oI dh0, oI dh1, oR h0.size, oR T2.heap.size, .unset, .unset] [(.ref T8.heap.size)])
      have fq26_1 := own_stak1 fq17_1 KT25 AT15
      have fq26_2 := own_stak1 fq17_2 KT25 AT15
      have fq26_3 := own_stak1 fq17_3 KT25 AT15
      have fq26_4 := own_stak1 fq17_4 KT25 AT15
      have fq26_5 := own_stak1 fq17_5 KT25 AT15
      have fq26_6 := own_stak1 fq17_6 KT25 AT15
      have fq26_7 := fq17_7.keep KT25
      have fq26_8 := fq17_8.keep KT25 (own_nin z18)
      have fq26_9 := fq17_9.keep KT25 (own_nin z18)
      have fq26_10 := fq17_10.keep KT25 (own_nin z19)
      have fq26_11 := fq17_11.keep KT25
      have fq26_12 := fq17_12.keep KT25 (own_nin z20)
      have fq26_13 := fq17_13.keep KT25 (own_nin z20)
      have fq26_14 := fq17_14.keep KT25 (own_nin z21)
      have fq26_15 := AT15.keep KT25
      have lq26_0 := Nat.lt_of_lt_of_le lq17_0 KT25.1
      have lq26_1 := Nat.lt_of_lt_of_le lq17_1 KT25.1
      have lq26_2 := Nat.lt_of_lt_of_le lq17_2 KT25.1
      have lq26_3 := Nat.lt_of_lt_of_le lq17_3 KT25.1
      have lq26_4 := Nat.lt_of_lt_of_le lt22 KT25.1
      have hC := hC.trans (CHr.keep KT25 (fun _ q => by cases List.mem_singleton.mp q; exact (Safe.exa hZ.alike AT15 (by decide) (by decide))) hC.1)
      have hk0 := Nat.le_trans hk0 KT25.1
      have Kq26 := own_trans1 Kq17 KT25 (Or.inr g16)
      have N27 := own_Fr.app N24 (own_Fr.of (own_Fr.new NT25 g16 (Kq17).1) (Nat.le_refl _))
      refine own_by (fun t_ k_ => XS.astore XT25.here hx rfl (hb hby at_115) rfl rfl (l' := #[oI i0, oI i1, oI i2, oI i3, oI i4, oI i5, oI kk, oI (0 : Int32), oI (0 : Int32), oI ch0, oI ch1, oI dh0, oI dh1, oR h0.size, oR T2.heap.size, oR T8.heap.size, .unset]) rfl k_) ?_
      show own_Go p e below _ T25 (mkF m 117 #[oI i0, oI i1, oI i2, oI i3, oI i4, oI i5, oI kk, oI (0 : Int32), oI (0 : Int32), oI ch0, oI ch1, oI dh0, oI dh1, oR h0.size, oR T2.heap.size, oR T8.heap.size, .unset] [])
      refine own_by (fun t_ k_ => XS.iload XT25.here hx rfl (hb hby at_117) rfl  k_) ?_
      show own_Go p e below _ T25 (mkF m 119 #[oI i0, oI i1, oI i2, oI i3, oI i4, oI i5, oI kk, oI (0 : Int32), oI (0 : Int32), oI ch0, oI ch1, oI dh0, oI dh1, oR h0.size, oR T2.heap.size, oR T8.heap.size, .unset] [(.int kk)])
      refine own_by (fun t_ k_ => XT.iconstV XT25.here hx rfl (3 : Int32) (hb hby at_119) (by decide) k_) ?_
      show own_Go p e below _ T25 (mkF m 120 #[oI i0, oI i1, oI i2, oI i3, oI i4, oI i5, oI kk, oI (0 : Int32), oI (0 : Int32), oI ch0, oI ch1, oI dh0, oI dh1, oR h0.size, oR T2.heap.size, oR T8.heap.size, .unset] [(.int (3 : Int32)), (.int kk)])
      by_cases c120_27 : kk = (3 : Int32)
      · refine own_by (fun t_ k_ => XS.icmpNo XT25.here hx rfl (hb hby at_120) rfl (XT.ii_ne_f c120_27) k_) ?_
        show own_Go p e below _ T25 (mkF m 123 #[oI i0, oI i1, oI i2, oI i3, oI i4, oI i5, oI kk, oI (0 : Int32), oI (0 : Int32), oI ch0, oI ch1, oI dh0, oI dh1, oR h0.size, oR T2.heap.size, oR T8.heap.size, .unset] [])
        refine own_by (fun t_ k_ => XS.iload XT25.here hx rfl (hb hby at_123) rfl  k_) ?_
        show own_Go p e below _ T25 (mkF m 125 #[oI i0, oI i1, oI i2, oI i3, oI i4, oI i5, oI kk, oI (0 : Int32), oI (0 : Int32), oI ch0, oI ch1, oI dh0, oI dh1, oR h0.size, oR T2.heap.size, oR T8.heap.size, .unset] [(.int (0 : Int32))])
        refine own_by (fun t_ k_ => XS.iload XT25.here hx rfl (hb hby at_125) rfl  k_) ?_
        show own_Go p e below _ T25 (mkF m 127 #[oI i0, oI i1, oI i2, oI i3, oI i4, oI i5, oI kk, oI (0 : Int32), oI (0 : Int32), oI ch0, oI ch1, oI dh0, oI dh1, oR h0.size, oR T2.heap.size, oR T8.heap.size, .unset] [(.int (0 : Int32)), (.int (0 : Int32))])
        refine own_by (fun t_ k_ => XS.icmpNo XT25.here hx rfl (hb hby at_127) rfl (XT.ii_ne_f (by decide)) k_) ?_
        show own_Go p e below _ T25 (mkF m 130 #[oI i0, oI i1, oI i2, oI i3, oI i4, oI i5, oI kk, oI (0 : Int32), oI (0 : Int32), oI ch0, oI ch1, oI dh0, oI dh1, oR h0.size, oR T2.heap.size, oR T8.heap.size, .unset] [])
        refine own_by (fun t_ k_ => XS.iload XT25.here hx rfl (hb hby at_130) rfl  k_) ?_
        show own_Go p e below _ T25 (mkF m 132 #[oI i0, oI i1, oI i2, oI i3, oI i4, oI i5, oI kk, oI (0 : Int32), oI (0 : Int32), oI ch0, oI ch1, oI dh0, oI dh1, oR h0.size, oR T2.heap.size, oR T8.heap.size, .unset] [(.int (0 : Int32))])
        refine own_by (fun t_ k_ => XT.iconstV XT25.here hx rfl (1 : Int32) (hb hby at_132) (by decide) k_) ?_
        show own_Go p e below _ T25 (mkF m 133 #[oI i0, oI i1, oI i2, oI i3, oI i4, oI i5, oI kk, oI (0 : Int32), oI (0 : Int32), oI ch0, oI ch1, oI dh0, oI dh1, oR h0.size, oR T2.heap.size, oR T8.heap.size, .unset] [(.int (1 : Int32)), (.int (0 : Int32))])
        refine own_by (fun t_ k_ => XS.icmpYes XT25.here hx rfl (pc0 := 133) (pc' := 143) rfl (hb hby at_133) rfl (XT.ii_lt_t (by decide)) (by decide) (by decide) k_) ?_
        show own_Go p e below _ T25 (mkF m 143 #[oI i0, oI i1, oI i2, oI i3, oI i4, oI i5, oI kk, oI (0 : Int32), oI (0 : Int32), oI ch0, oI ch1, oI dh0, oI dh1, oR h0.size, oR T2.heap.size, oR T8.heap.size, .unset] [])
        refine own_by (fun t_ k_ => XS.iload XT25.here hx rfl (hb hby at_143) rfl  k_) ?_
        show own_Go p e below _ T25 (mkF m 145 #[oI i0, oI i1, oI i2, oI i3, oI i4, oI i5, oI kk, oI (0 : Int32), oI (0 : Int32), oI ch0, oI ch1, oI dh0, oI dh1, oR h0.size, oR T2.heap.size, oR T8.heap.size, .unset] [(.int (0 : Int32))])
        refine own_by (fun t_ k_ => XT.iconstV XT25.here hx rfl (2 : Int32) (hb hby at_145) (by decide) k_) ?_
        show own_Go p e below _ T25 (mkF m 146 #[oI i0, oI i1, oI i2, oI i3, oI i4, oI i5, oI kk, oI (0 : Int32), oI (0 : Int32), oI ch0, oI ch1, oI dh0, oI dh1, oR h0.size, oR T2.heap.size, oR T8.heap.size, .unset] [(.int (2 : Int32)), (.int (0 : Int32))])
        refine own_by (fun t_ k_ => XS.icmpYes XT25.here hx rfl (pc0 := 146) (pc' := 156) rfl (hb hby at_146) rfl (XT.ii_lt_t (by decide)) (by decide) (by decide) k_) ?_
        show own_Go p e below _ T25 (mkF m 156 #[oI i0, oI i1, oI i2, oI i3, oI i4, oI i5, oI kk, oI (0 : Int32), oI (0 : Int32), oI ch0, oI ch1, oI dh0, oI dh1, oR h0.size, oR T2.heap.size, oR T8.heap.size, .unset] [])
        refine own_by (fun t_ k_ => XT.iconstV XT25.here hx rfl (1 : Int32) (hb hby at_156) (by decide) k_) ?_
        show own_Go p e below _ T25 (mkF m 157 #[oI i0, oI i1, oI i2, oI i3, oI i4, oI i5, oI kk, oI (0 : Int32), oI (0 : Int32), oI ch0, oI ch1, oI dh0, oI dh1, oR h0.size, oR T2.heap.size, oR T8.heap.size, .unset] [(.int (1 : Int32))])
        refine own_by (fun t_ k_ => XS.goto XT25.here hx rfl (pc0 := 157) (pc' := 161) rfl (hb hby at_157) (by decide) (by decide) k_) ?_
        show own_Go p e below _ T25 (mkF m 161 #[oI i0, oI i1, oI i2, oI i3, oI i4, oI i5, oI kk, oI (0 : Int32), oI (0 : Int32), oI ch0, oI ch1, oI dh0, oI dh1, oR h0.size, oR T2.heap.size, oR T8.heap.size, .unset] [(.int (1 : Int32))])
        refine own_by (fun t_ k_ => XS.istore XT25.here hx rfl (hb hby at_161) rfl (l' := #[oI i0, oI i1, oI i2, oI i3, oI i4, oI i5, oI kk, oI (0 : Int32), oI (0 : Int32), oI ch0, oI ch1, oI dh0, oI dh1, oR h0.size, oR T2.heap.size, oR T8.heap.size, oI (1 : Int32)]) rfl k_) ?_
        show own_Go p e below _ T25 (mkF m 163 #[oI i0, oI i1, oI i2, oI i3, oI i4, oI i5, oI kk, oI (0 : Int32), oI (0 : Int32), oI ch0, oI ch1, oI dh0, oI dh1, oR h0.size, oR T2.heap.size, oR T8.heap.size, oI (1 : Int32)] [])
        refine own_by (fun t_ k_ => XS.aload XT25.here hx rfl (hb hby at_163) rfl rfl  k_) ?_
        show own_Go p e below _ T25 (mkF m 165 #[oI i0, oI i1, oI i2, oI i3, oI i4, oI i5, oI kk, oI (0 : Int32), oI (0 : Int32), oI ch0, oI ch1, oI dh0, oI dh1, oR h0.size, oR T2.heap.size, oR T8.heap.size, oI (1 : Int32)] [(.ref T8.heap.size)])
        refine own_by (fun t_ k_ => XS.aload XT25.here hx rfl (hb hby at_165) rfl rfl  k_) ?_
        show own_Go p e below _ T25 (mkF m 167 #[oI i0, oI i1, oI i2, oI i3, oI i4, oI i5, oI kk, oI (0 : Int32), oI (0 : Int32), oI ch0, oI ch1, oI dh0, oI dh1, oR h0.size, oR T2.heap.size, oR T8.heap.size, oI (1 : Int32)] [(.ref T2.heap.size), (.ref T8.heap.size)])
        refine own_callV XT25 hx hZ hown (hw _ (List.mem_of_getElem? (i := 52) rfl)) (hw _ (List.mem_of_getElem? (i := 53) rfl)) (hw _ (List.mem_of_getElem? (i := 55) rfl)) (hw _ (List.mem_of_getElem? (i := 54) rfl)) (hw _ (List.mem_of_getElem? (i := 56) rfl)) (hw _ (List.mem_of_getElem? (i := 28) rfl)) (by decide) (rfl : T25.heap = T25.heap) (b := T8.heap.size) fq26_15 (argsL := [(.ref T2.heap.size)]) (rest := []) (own_is_0_0_met l Z a0 hw T8.heap.size T2.heap.size kd w3 h0.size bT2 bT8 kbT2 kbT8 T25.heap cs fq26_1 hcs z12 fq26_5 FkT25 FtT25 fq26_7 fq26_8 fq26_9 fq26_10 fq26_11 fq26_12 fq26_13 fq26_14) 0 (by decide) (by decide) (by rw [hml]; rfl) (lenOf pd_11 rfl) (Nat.le_of_eq rfl) (hb hby at_167) (by decide) (by decide) (st := [(.ref T2.heap.size), (.ref T8.heap.size)]) rfl ?_
        intro T29 LT29 vT29 XT29 hQT29
        obtain ⟨rfl, eT29, rfl⟩ := hQT29
        show own_Go p e below _ T29 (mkF m 170 #[oI i0, oI i1, oI i2, oI i3, oI i4, oI i5, oI kk, oI (0 : Int32), oI (0 : Int32), oI ch0, oI ch1, oI dh0, oI dh1, oR h0.size, oR T2.heap.size, oR T8.heap.size, oI (1 : Int32)] [(.int (own_is_0_0 T8.heap.size T2.heap.size kd w3 h0.size bT2 bT8 kbT2 kbT8))])
        have N30 := own_Fr.app N27 own_Fr.nil
        refine own_by (fun t_ k_ => XS.iload XT29.here hx rfl (hb hby at_170) rfl  k_) ?_
        show own_Go p e below _ T29 (mkF m 172 #[oI i0, oI i1, oI i2, oI i3, oI i4, oI i5, oI kk, oI (0 : Int32), oI (0 : Int32), oI ch0, oI ch1, oI dh0, oI dh1, oR h0.size, oR T2.heap.size, oR T8.heap.size, oI (1 : Int32)] [(.int (1 : Int32)), (.int (own_is_0_0 T8.heap.size T2.heap.size kd w3 h0.size bT2 bT8 kbT2 kbT8))])
        have hW : kd = w3 := hkd.symm.trans (by rw [own_pick, c120_27, if_neg (by decide), if_neg (by decide), if_neg (by decide), if_pos (by decide)])
        have hfin : (own_is_0_0 T8.heap.size T2.heap.size kd w3 h0.size bT2 bT8 kbT2 kbT8) = (1 : Int32) := by rw [show (own_is_0_0 T8.heap.size T2.heap.size kd w3 h0.size bT2 bT8 kbT2 kbT8) = (1 : Int32) by rw [own_is_0_0, if_pos hW, if_neg (by rw [show (own_eq_0_0 h0.size T2.heap.size bT2 bT8 kbT2 kbT8 ) = (1 : Int32) by rw [own_eq_0_0, if_neg (by rw [show (own_le_0_0 bT2 bT8 kbT2 kbT8 ) = (1 : Int32) by rw [own_le_0_0]]; decide)]]; decide)]]
        refine own_by (fun t_ k_ => XS.icmpNo XT29.here hx rfl (hb hby at_172) rfl (XT.ii_ne_f hfin) k_) ?_
        show own_Go p e below _ T29 (mkF m 175 #[oI i0, oI i1, oI i2, oI i3, oI i4, oI i5, oI kk, oI (0 : Int32), oI (0 : Int32), oI ch0, oI ch1, oI dh0, oI dh1, oR h0.size, oR T2.heap.size, oR T8.heap.size, oI (1 : Int32)] [])
        refine own_by (fun t_ k_ => XT.iconstV XT29.here hx rfl (1 : Int32) (hb hby at_175) (by decide) k_) ?_
        show own_Go p e below _ T29 (mkF m 176 #[oI i0, oI i1, oI i2, oI i3, oI i4, oI i5, oI kk, oI (0 : Int32), oI (0 : Int32), oI ch0, oI ch1, oI dh0, oI dh1, oR h0.size, oR T2.heap.size, oR T8.heap.size, oI (1 : Int32)] [(.int (1 : Int32))])
        refine own_by (fun t_ k_ => XS.goto XT29.here hx rfl (pc0 := 176) (pc' := 180) rfl (hb hby at_176) (by decide) (by decide) k_) ?_
        show own_Go p e below _ T29 (mkF m 180 #[oI i0, oI i1, oI i2, oI i3, oI i4, oI i5, oI kk, oI (0 : Int32), oI (0 : Int32), oI ch0, oI ch1, oI dh0, oI dh1, oR h0.size, oR T2.heap.size, oR T8.heap.size, oI (1 : Int32)] [(.int (1 : Int32))])
        exact own_retNW XT29 hx hlk hZ hEL hS eT29 hk0 hC hret (by simp) (w := (1 : Int32)) (hb hby at_180) (by decide) (by decide) (by decide) (⟨rfl, (N30).to (Nat.le_refl _)⟩)
      · refine own_by (fun t_ k_ => XS.icmpYes XT25.here hx rfl (pc0 := 120) (pc' := 160) rfl (hb hby at_120) rfl (XT.ii_ne_t c120_27) (by decide) (by decide) k_) ?_
        show own_Go p e below _ T25 (mkF m 160 #[oI i0, oI i1, oI i2, oI i3, oI i4, oI i5, oI kk, oI (0 : Int32), oI (0 : Int32), oI ch0, oI ch1, oI dh0, oI dh1, oR h0.size, oR T2.heap.size, oR T8.heap.size, .unset] [])
        refine own_by (fun t_ k_ => XT.iconstV XT25.here hx rfl (0 : Int32) (hb hby at_160) (by decide) k_) ?_
        show own_Go p e below _ T25 (mkF m 161 #[oI i0, oI i1, oI i2, oI i3, oI i4, oI i5, oI kk, oI (0 : Int32), oI (0 : Int32), oI ch0, oI ch1, oI dh0, oI dh1, oR h0.size, oR T2.heap.size, oR T8.heap.size, .unset] [(.int (0 : Int32))])
        refine own_by (fun t_ k_ => XS.istore XT25.here hx rfl (hb hby at_161) rfl (l' := #[oI i0, oI i1, oI i2, oI i3, oI i4, oI i5, oI kk, oI (0 : Int32), oI (0 : Int32), oI ch0, oI ch1, oI dh0, oI dh1, oR h0.size, oR T2.heap.size, oR T8.heap.size, oI (0 : Int32)]) rfl k_) ?_
        show own_Go p e below _ T25 (mkF m 163 #[oI i0, oI i1, oI i2, oI i3, oI i4, oI i5, oI kk, oI (0 : Int32), oI (0 : Int32), oI ch0, oI ch1, oI dh0, oI dh1, oR h0.size, oR T2.heap.size, oR T8.heap.size, oI (0 : Int32)] [])
        refine own_by (fun t_ k_ => XS.aload XT25.here hx rfl (hb hby at_163) rfl rfl  k_) ?_
        show own_Go p e below _ T25 (mkF m 165 #[oI i0, oI i1, oI i2, oI i3, oI i4, oI i5, oI kk, oI (0 : Int32), oI (0 : Int32), oI ch0, oI ch1, oI dh0, oI dh1, oR h0.size, oR T2.heap.size, oR T8.heap.size, oI (0 : Int32)] [(.ref T8.heap.size)])
        refine own_by (fun t_ k_ => XS.aload XT25.here hx rfl (hb hby at_165) rfl rfl  k_) ?_
        show own_Go p e below _ T25 (mkF m 167 #[oI i0, oI i1, oI i2, oI i3, oI i4, oI i5, oI kk, oI (0 : Int32), oI (0 : Int32), oI ch0, oI ch1, oI dh0, oI dh1, oR h0.size, oR T2.heap.size, oR T8.heap.size, oI (0 : Int32)] [(.ref T2.heap.size), (.ref T8.heap.size)])
        refine own_callV XT25 hx hZ hown (hw _ (List.mem_of_getElem? (i := 52) rfl)) (hw _ (List.mem_of_getElem? (i := 53) rfl)) (hw _ (List.mem_of_getElem? (i := 55) rfl)) (hw _ (List.mem_of_getElem? (i := 54) rfl)) (hw _ (List.mem_of_getElem? (i := 56) rfl)) (hw _ (List.mem_of_getElem? (i := 28) rfl)) (by decide) (rfl : T25.heap = T25.heap) (b := T8.heap.size) fq26_15 (argsL := [(.ref T2.heap.size)]) (rest := []) (own_is_0_0_met l Z a0 hw T8.heap.size T2.heap.size kd w3 h0.size bT2 bT8 kbT2 kbT8 T25.heap cs fq26_1 hcs z12 fq26_5 FkT25 FtT25 fq26_7 fq26_8 fq26_9 fq26_10 fq26_11 fq26_12 fq26_13 fq26_14) 0 (by decide) (by decide) (by rw [hml]; rfl) (lenOf pd_11 rfl) (Nat.le_of_eq rfl) (hb hby at_167) (by decide) (by decide) (st := [(.ref T2.heap.size), (.ref T8.heap.size)]) rfl ?_
        intro T31 LT31 vT31 XT31 hQT31
        obtain ⟨rfl, eT31, rfl⟩ := hQT31
        show own_Go p e below _ T31 (mkF m 170 #[oI i0, oI i1, oI i2, oI i3, oI i4, oI i5, oI kk, oI (0 : Int32), oI (0 : Int32), oI ch0, oI ch1, oI dh0, oI dh1, oR h0.size, oR T2.heap.size, oR T8.heap.size, oI (0 : Int32)] [(.int (own_is_0_0 T8.heap.size T2.heap.size kd w3 h0.size bT2 bT8 kbT2 kbT8))])
        have N32 := own_Fr.app N27 own_Fr.nil
        refine own_by (fun t_ k_ => XS.iload XT31.here hx rfl (hb hby at_170) rfl  k_) ?_
        show own_Go p e below _ T31 (mkF m 172 #[oI i0, oI i1, oI i2, oI i3, oI i4, oI i5, oI kk, oI (0 : Int32), oI (0 : Int32), oI ch0, oI ch1, oI dh0, oI dh1, oR h0.size, oR T2.heap.size, oR T8.heap.size, oI (0 : Int32)] [(.int (0 : Int32)), (.int (own_is_0_0 T8.heap.size T2.heap.size kd w3 h0.size bT2 bT8 kbT2 kbT8))])
        have hW : ¬ kd = w3 := fun q => own_pick_ne kk w0 w1 w2 w3 w4 c120_27 (F0.ne F3 (by decide)) (F1.ne F3 (by decide)) (F2.ne F3 (by decide)) (F4.ne F3 (by decide)) (hkd.trans q)
        have hfin : (own_is_0_0 T8.heap.size T2.heap.size kd w3 h0.size bT2 bT8 kbT2 kbT8) = (0 : Int32) := by rw [show (own_is_0_0 T8.heap.size T2.heap.size kd w3 h0.size bT2 bT8 kbT2 kbT8) = (0 : Int32) by rw [own_is_0_0, if_neg hW]]
        refine own_by (fun t_ k_ => XS.icmpNo XT31.here hx rfl (hb hby at_172) rfl (XT.ii_ne_f hfin) k_) ?_
        show own_Go p e below _ T31 (mkF m 175 #[oI i0, oI i1, oI i2, oI i3, oI i4, oI i5, oI kk, oI (0 : Int32), oI (0 : Int32), oI ch0, oI ch1, oI dh0, oI dh1, oR h0.size, oR T2.heap.size, oR T8.heap.size, oI (0 : Int32)] [])
        refine own_by (fun t_ k_ => XT.iconstV XT31.here hx rfl (1 : Int32) (hb hby at_175) (by decide) k_) ?_
        show own_Go p e below _ T31 (mkF m 176 #[oI i0, oI i1, oI i2, oI i3, oI i4, oI i5, oI kk, oI (0 : Int32), oI (0 : Int32), oI ch0, oI ch1, oI dh0, oI dh1, oR h0.size, oR T2.heap.size, oR T8.heap.size, oI (0 : Int32)] [(.int (1 : Int32))])
        refine own_by (fun t_ k_ => XS.goto XT31.here hx rfl (pc0 := 176) (pc' := 180) rfl (hb hby at_176) (by decide) (by decide) k_) ?_
        show own_Go p e below _ T31 (mkF m 180 #[oI i0, oI i1, oI i2, oI i3, oI i4, oI i5, oI kk, oI (0 : Int32), oI (0 : Int32), oI ch0, oI ch1, oI dh0, oI dh1, oR h0.size, oR T2.heap.size, oR T8.heap.size, oI (0 : Int32)] [(.int (1 : Int32))])
        exact own_retNW XT31 hx hlk hZ hEL hS eT31 hk0 hC hret (by simp) (w := (1 : Int32)) (hb hby at_180) (by decide) (by decide) (by decide) (⟨rfl, (N32).to (Nat.le_refl _)⟩)
    · subst hk
      show own_Go p e below _ T2 (mkF m 77 #[oI i0, oI i1, oI i2, oI i3, oI i4, oI i5, oI kk, oI (0 : Int32), oI (1 : Int32), oI ch0, oI ch1, oI dh0, oI dh1, oR h0.size, .unset, .unset, .unset] [])
      refine own_by (fun t_ k_ => XS.iload XT2.here hx rfl (hb hby at_77) rfl  k_) ?_
      show own_Go p e below _ T2 (mkF m 79 #[oI i0, oI i1, oI i2, oI i3, oI i4, oI i5, oI kk, oI (0 : Int32), oI (1 : Int32), oI ch0, oI ch1, oI dh0, oI dh1, oR h0.size, .unset, .unset, .unset] [(.int (1 : Int32))])
      refine own_by (fun t_ k_ => XT.iconstV XT2.here hx rfl (3 : Int32) (hb hby at_79) (by decide) k_) ?_
      show own_Go p e below _ T2 (mkF m 80 #[oI i0, oI i1, oI i2, oI i3, oI i4, oI i5, oI kk, oI (0 : Int32), oI (1 : Int32), oI ch0, oI ch1, oI dh0, oI dh1, oR h0.size, .unset, .unset, .unset] [(.int (3 : Int32)), (.int (1 : Int32))])
      refine own_by (fun t_ k_ => XS.icmpYes XT2.here hx rfl (pc0 := 80) (pc' := 87) rfl (hb hby at_80) rfl (XT.ii_ne_t (by decide)) (by decide) (by decide) k_) ?_
      show own_Go p e below _ T2 (mkF m 87 #[oI i0, oI i1, oI i2, oI i3, oI i4, oI i5, oI kk, oI (0 : Int32), oI (1 : Int32), oI ch0, oI ch1, oI dh0, oI dh1, oR h0.size, .unset, .unset, .unset] [])
      refine own_by (fun t_ k_ => XS.iload XT2.here hx rfl (hb hby at_87) rfl  k_) ?_
      show own_Go p e below _ T2 (mkF m 89 #[oI i0, oI i1, oI i2, oI i3, oI i4, oI i5, oI kk, oI (0 : Int32), oI (1 : Int32), oI ch0, oI ch1, oI dh0, oI dh1, oR h0.size, .unset, .unset, .unset] [(.int (1 : Int32))])
      refine own_by (fun t_ k_ => XS.iload XT2.here hx rfl (hb hby at_89) rfl  k_) ?_
      show own_Go p e below _ T2 (mkF m 91 #[oI i0, oI i1, oI i2, oI i3, oI i4, oI i5, oI kk, oI (0 : Int32), oI (1 : Int32), oI ch0, oI ch1, oI dh0, oI dh1, oR h0.size, .unset, .unset, .unset] [(.int dh0), (.int (1 : Int32))])
      refine own_by (fun t_ k_ => XS.iload XT2.here hx rfl (hb hby at_91) rfl  k_) ?_
      show own_Go p e below _ T2 (mkF m 93 #[oI i0, oI i1, oI i2, oI i3, oI i4, oI i5, oI kk, oI (0 : Int32), oI (1 : Int32), oI ch0, oI ch1, oI dh0, oI dh1, oR h0.size, .unset, .unset, .unset] [(.int dh1), (.int dh0), (.int (1 : Int32))])
      have g33 : h0.size ≤ T2.heap.size := Kq3.1
      refine own_callSW XT2 hx hZ hEL hS (rfl : T2.heap = T2.heap) hk0 hC hown (hw _ (List.mem_of_getElem? (i := 0) rfl)) (hw _ (List.mem_of_getElem? (i := 1) rfl)) (hw _ (List.mem_of_getElem? (i := 2) rfl)) (hw _ (List.mem_of_getElem? (i := 3) rfl)) (by decide) (argsL := [(.int (1 : Int32)), (.int dh0), (.int dh1)]) (rest := []) (own_str_1 l Z a0 hw EL hEL dh0 dh1 T2.heap cs fq3_1 hcs Bdh0 Bdh1 hmem) 0 (by decide) (by decide) (by rw [hml]; rfl) (lenOf pd_8 rfl) (Nat.le_of_eq rfl) (hb hby at_93) (by decide) (by decide) (st := [(.int dh1), (.int dh0), (.int (1 : Int32))]) rfl ?_
      rintro T34 LT34 vT34 ⟨XT34, hQT34, hS, hgT34, hZ, hown, hCT34⟩
      obtain ⟨rfl, KT34, NT34, ST34⟩ := hQT34
      show own_Go p e below _ T34 (mkF m 96 #[oI i0, oI i1, oI i2, oI i3, oI i4, oI i5, oI kk, oI (0 : Int32), oI (1 : Int32), oI ch0, oI ch1, oI dh0, oI dh1, oR h0.size, .unset, .unset, .unset] [(.ref T2.heap.size)])
      have fq35_1 := own_stak fq3_1 KT34
      have fq35_2 := own_stak fq3_2 KT34
      have fq35_3 := own_stak fq3_3 KT34
      have fq35_4 := own_stak fq3_4 KT34
      have fq35_5 := own_stak fq3_5 KT34
      have fq35_6 := own_stak fq3_6 KT34
      have fq35_7 := EsT2.keep KT34
      have fq35_8 := FvT2.keep KT34 nin0
      have fq35_9 := FcT2.keep KT34 nin0
      have fq35_10 := VT2.keep KT34 nin0
      have lq35_0 := Nat.lt_of_lt_of_le lt4 KT34.1
      have lq35_1 := Nat.lt_of_lt_of_le lt5 KT34.1
      have Kq35 := own_trans0 Kq3 KT34
      have hC := hCT34
      have hk0 := Nat.le_refl T34.heap.size
      obtain ⟨bT34, kbT34, EsT34, FvT34, FcT34, VT34⟩ := ST34
      have lt36 := EsT34.lt
      have lt37 := VT34.lt
      have z38 : h0.size ≠ T2.heap.size := Nat.ne_of_lt lt4
      have z39 : bT2 ≠ T2.heap.size := Nat.ne_of_lt lt5
      have N40 := own_Fr.app N6 (own_Fr.of NT34 (Kq3).1)
      refine own_by (fun t_ k_ => XS.astore XT34.here hx rfl (hb hby at_96) rfl rfl (l' := #[oI i0, oI i1, oI i2, oI i3, oI i4, oI i5, oI kk, oI (0 : Int32), oI (1 : Int32), oI ch0, oI ch1, oI dh0, oI dh1, oR h0.size, oR T2.heap.size, .unset, .unset]) rfl k_) ?_
      show own_Go p e below _ T34 (mkF m 98 #[oI i0, oI i1, oI i2, oI i3, oI i4, oI i5, oI kk, oI (0 : Int32), oI (1 : Int32), oI ch0, oI ch1, oI dh0, oI dh1, oR h0.size, oR T2.heap.size, .unset, .unset] [])
      have g42 : h0.size ≤ T34.heap.size := Kq35.1
      refine own_new XT34 hx hZ hown (hw _ (List.mem_of_getElem? (i := 26) rfl)) (hw _ (List.mem_of_getElem? (i := 27) rfl)) (hw _ (List.mem_of_getElem? (i := 28) rfl)) (rfl : T34.heap = T34.heap) (hb hby at_98) (by decide) (by decide) ?_
      intro T41 hT41 XT41 eT41 ET41 AT41 DT41
      have fq43_1 := own_stak fq35_1 (own_ek ET41)
      have fq43_2 := own_stak fq35_2 (own_ek ET41)
      have fq43_3 := own_stak fq35_3 (own_ek ET41)
      have fq43_4 := own_stak fq35_4 (own_ek ET41)
      have fq43_5 := own_stak fq35_5 (own_ek ET41)
      have fq43_6 := own_stak fq35_6 (own_ek ET41)
      have fq43_7 := fq35_7.keep (own_ek ET41)
      have fq43_8 := fq35_8.keep (own_ek ET41) nin0
      have fq43_9 := fq35_9.keep (own_ek ET41) nin0
      have fq43_10 := fq35_10.keep (own_ek ET41) nin0
      have fq43_11 := EsT34.keep (own_ek ET41)
      have fq43_12 := FvT34.keep (own_ek ET41) nin0
      have fq43_13 := FcT34.keep (own_ek ET41) nin0
      have fq43_14 := VT34.keep (own_ek ET41) nin0
      have lq43_0 := Nat.lt_of_lt_of_le lq35_0 (own_ek ET41).1
      have lq43_1 := Nat.lt_of_lt_of_le lq35_1 (own_ek ET41).1
      have lq43_2 := Nat.lt_of_lt_of_le lt36 (own_ek ET41).1
      have lq43_3 := Nat.lt_of_lt_of_le lt37 (own_ek ET41).1
      have hC := hC.trans (CHr.keep (own_ek ET41) (fun _ q => by cases q) hC.1)
      have hk0 := Nat.le_trans hk0 (own_ek ET41).1
      have Kq43 := own_trans0 Kq35 (own_ek ET41)
      have z44 : h0.size ≠ T34.heap.size := Nat.ne_of_lt lq35_0
      have z45 : bT2 ≠ T34.heap.size := Nat.ne_of_lt lq35_1
      have z46 : T2.heap.size ≠ T34.heap.size := Nat.ne_of_lt lt36
      have z47 : bT34 ≠ T34.heap.size := Nat.ne_of_lt lt37
      have FT41_kind : Fld Z hT41 T34.heap.size "com/example/nimble_gate/nimblegate/policy/Token" "kind" "Lcom/example/nimble_gate/nimblegate/policy/Token$Kind;" .null := DT41 (ty := (.object "com/example/nimble_gate/nimblegate/policy/Token$Kind")) (Or.inr (hw _ (List.mem_of_getElem? (i := 45) rfl))) (by decide +kernel)
      have FT41_text : Fld Z hT41 T34.heap.size "com/example/nimble_gate/nimblegate/policy/Token" "text" "Ljava/lang/String;" .null := DT41 (ty := (.object "java/lang/String")) (Or.inr (hw _ (List.mem_of_getElem? (i := 47) rfl))) (by decide +kernel)
      have FT41_line : Fld Z hT41 T34.heap.size "com/example/nimble_gate/nimblegate/policy/Token" "line" "I" (.int 0) := DT41 (ty := .int) (Or.inr (hw _ (List.mem_of_getElem? (i := 49) rfl))) (by decide +kernel)
      have FT41_column : Fld Z hT41 T34.heap.size "com/example/nimble_gate/nimblegate/policy/Token" "column" "I" (.int 0) := DT41 (ty := .int) (Or.inr (hw _ (List.mem_of_getElem? (i := 51) rfl))) (by decide +kernel)
      clear DT41
      have lt48 := AT41.lt
      show own_Go p e below _ T41 (mkF m 101 #[oI i0, oI i1, oI i2, oI i3, oI i4, oI i5, oI kk, oI (0 : Int32), oI (1 : Int32), oI ch0, oI ch1, oI dh0, oI dh1, oR h0.size, oR T2.heap.size, .unset, .unset] [(.ref T34.heap.size)])
      refine own_by (fun t_ k_ => XS.dup XT41.here hx rfl (hb hby at_101) rfl rfl k_) ?_
      show own_Go p e below _ T41 (mkF m 102 #[oI i0, oI i1, oI i2, oI i3, oI i4, oI i5, oI kk, oI (0 : Int32), oI (1 : Int32), oI ch0, oI ch1, oI dh0, oI dh1, oR h0.size, oR T2.heap.size, .unset, .unset] [(.ref T34.heap.size), (.ref T34.heap.size)])
      refine own_by (fun t_ k_ => XS.iload XT41.here hx rfl (hb hby at_102) rfl  k_) ?_
      show own_Go p e below _ T41 (mkF m 104 #[oI i0, oI i1, oI i2, oI i3, oI i4, oI i5, oI kk, oI (0 : Int32), oI (1 : Int32), oI ch0, oI ch1, oI dh0, oI dh1, oR h0.size, oR T2.heap.size, .unset, .unset] [(.int kk), (.ref T34.heap.size), (.ref T34.heap.size)])
      refine own_callS XT41 hx hZ hown (hw _ (List.mem_of_getElem? (i := 29) rfl)) (hw _ (List.mem_of_getElem? (i := 30) rfl)) (hw _ (List.mem_of_getElem? (i := 2) rfl)) (hw _ (List.mem_of_getElem? (i := 31) rfl)) (by decide) eT41 (argsL := [(.int kk)]) (rest := [(.ref T34.heap.size), (.ref T34.heap.size)]) (own_pick_met l Z a0 hw kk w0 w1 w2 w3 w4 hT41 ⟨fq43_2, fq43_3, fq43_4, fq43_5, fq43_6⟩) 2 (by decide) (by decide) (by rw [hml]; rfl) (lenOf pd_9 rfl) (Nat.le_of_eq rfl) (hb hby at_104) (by decide) (by decide) (st := [(.int kk), (.ref T34.heap.size), (.ref T34.heap.size)]) rfl ?_
      intro T49 LT49 vT49 XT49 hQT49
      obtain ⟨rfl, eT49, rfl⟩ := hQT49
      show own_Go p e below _ T49 (mkF m 107 #[oI i0, oI i1, oI i2, oI i3, oI i4, oI i5, oI kk, oI (0 : Int32), oI (1 : Int32), oI ch0, oI ch1, oI dh0, oI dh1, oR h0.size, oR T2.heap.size, .unset, .unset] [(.ref (own_pick kk w0 w1 w2 w3 w4)), (.ref T34.heap.size), (.ref T34.heap.size)])
      have N50 := own_Fr.app N40 own_Fr.nil
      generalize hkd : (own_pick kk w0 w1 w2 w3 w4) = kd
      show own_Go p e below _ T49 (mkF m 107 #[oI i0, oI i1, oI i2, oI i3, oI i4, oI i5, oI kk, oI (0 : Int32), oI (1 : Int32), oI ch0, oI ch1, oI dh0, oI dh1, oR h0.size, oR T2.heap.size, .unset, .unset] [(.ref kd), (.ref T34.heap.size), (.ref T34.heap.size)])
      refine own_by (fun t_ k_ => XS.aload XT49.here hx rfl (hb hby at_107) rfl rfl  k_) ?_
      show own_Go p e below _ T49 (mkF m 109 #[oI i0, oI i1, oI i2, oI i3, oI i4, oI i5, oI kk, oI (0 : Int32), oI (1 : Int32), oI ch0, oI ch1, oI dh0, oI dh1, oR h0.size, oR T2.heap.size, .unset, .unset] [(.ref h0.size), (.ref kd), (.ref T34.heap.size), (.ref T34.heap.size)])
      refine own_by (fun t_ k_ => XS.iload XT49.here hx rfl (hb hby at_109) rfl  k_) ?_
      show own_Go p e below _ T49 (mkF m 111 #[oI i0, oI i1, oI i2, oI i3, oI i4, oI i5, oI kk, oI (0 : Int32), oI (1 : Int32), oI ch0, oI ch1, oI dh0, oI dh1, oR h0.size, oR T2.heap.size, .unset, .unset] [(.int i5), (.ref h0.size), (.ref kd), (.ref T34.heap.size), (.ref T34.heap.size)])
      refine own_by (fun t_ k_ => XS.iloadN XT49.here hx rfl (hb hby at_111) rfl  k_) ?_
      show own_Go p e below _ T49 (mkF m 112 #[oI i0, oI i1, oI i2, oI i3, oI i4, oI i5, oI kk, oI (0 : Int32), oI (1 : Int32), oI ch0, oI ch1, oI dh0, oI dh1, oR h0.size, oR T2.heap.size, .unset, .unset] [(.int i0), (.int i5), (.ref h0.size), (.ref kd), (.ref T34.heap.size), (.ref T34.heap.size)])
      refine own_callN XT49 hx hZ rfl hown (hw _ (List.mem_of_getElem? (i := 35) rfl)) (hw _ (List.mem_of_getElem? (i := 36) rfl)) (hw _ (List.mem_of_getElem? (i := 37) rfl)) (hw _ (List.mem_of_getElem? (i := 28) rfl)) (by decide) eT49 (b := T34.heap.size) (argsL := [(.ref kd), (.ref h0.size), (.int i5), (.int i0)]) (rest := [(.ref T34.heap.size)]) (own_tok l Z a0 hw T34.heap.size kd h0.size i5 i0 hT41 AT41 FT41_kind FT41_text FT41_line FT41_column) 1 (by decide) (by decide) (by rw [hml]; rfl) (lenOf pd_10 rfl) (Nat.le_of_eq rfl) (hb hby at_112) (by decide) (by decide) (st := [(.int i0), (.int i5), (.ref h0.size), (.ref kd), (.ref T34.heap.size), (.ref T34.heap.size)]) rfl ?_
      intro T51 LT51 vT51 XT51 hQT51
      obtain ⟨rfl, KT51, NT51, FkT51, FtT51⟩ := hQT51
      show own_Go p e below _ T51 (mkF m 115 #[oI i0, oI i1, oI i2, oI i3, oI i4, oI i5, oI kk, oI (0 : Int32), oI (1 : Int32), oI ch0, oI ch1, oI dh0, oI dh1, oR h0.size, oR T2.heap.size, .unset, .unset] [(.ref T34.heap.size)])
      have fq52_1 := own_stak1 fq43_1 KT51 AT41
      have fq52_2 := own_stak1 fq43_2 KT51 AT41
      have fq52_3 := own_stak1 fq43_3 KT51 AT41
      have fq52_4 := own_stak1 fq43_4 KT51 AT41
      have fq52_5 := own_stak1 fq43_5 KT51 AT41
      have fq52_6 := own_stak1 fq43_6 KT51 AT41
      have fq52_7 := fq43_7.keep KT51
      have fq52_8 := fq43_8.keep KT51 (own_nin z44)
      have fq52_9 := fq43_9.keep KT51 (own_nin z44)
      have fq52_10 := fq43_10.keep KT51 (own_nin z45)
      have fq52_11 := fq43_11.keep KT51
      have fq52_12 := fq43_12.keep KT51 (own_nin z46)
      have fq52_13 := fq43_13.keep KT51 (own_nin z46)
      have fq52_14 := fq43_14.keep KT51 (own_nin z47)
      have fq52_15 := AT41.keep KT51
      have lq52_0 := Nat.lt_of_lt_of_le lq43_0 KT51.1
      have lq52_1 := Nat.lt_of_lt_of_le lq43_1 KT51.1
      have lq52_2 := Nat.lt_of_lt_of_le lq43_2 KT51.1
      have lq52_3 := Nat.lt_of_lt_of_le lq43_3 KT51.1
      have lq52_4 := Nat.lt_of_lt_of_le lt48 KT51.1
      have hC := hC.trans (CHr.keep KT51 (fun _ q => by cases List.mem_singleton.mp q; exact (Safe.exa hZ.alike AT41 (by decide) (by decide))) hC.1)
      have hk0 := Nat.le_trans hk0 KT51.1
      have Kq52 := own_trans1 Kq43 KT51 (Or.inr g42)
      have N53 := own_Fr.app N50 (own_Fr.of (own_Fr.new NT51 g42 (Kq43).1) (Nat.le_refl _))
      refine own_by (fun t_ k_ => XS.astore XT51.here hx rfl (hb hby at_115) rfl rfl (l' := #[oI i0, oI i1, oI i2, oI i3, oI i4, oI i5, oI kk, oI (0 : Int32), oI (1 : Int32), oI ch0, oI ch1, oI dh0, oI dh1, oR h0.size, oR T2.heap.size, oR T34.heap.size, .unset]) rfl k_) ?_
      show own_Go p e below _ T51 (mkF m 117 #[oI i0, oI i1, oI i2, oI i3, oI i4, oI i5, oI kk, oI (0 : Int32), oI (1 : Int32), oI ch0, oI ch1, oI dh0, oI dh1, oR h0.size, oR T2.heap.size, oR T34.heap.size, .unset] [])
      refine own_by (fun t_ k_ => XS.iload XT51.here hx rfl (hb hby at_117) rfl  k_) ?_
      show own_Go p e below _ T51 (mkF m 119 #[oI i0, oI i1, oI i2, oI i3, oI i4, oI i5, oI kk, oI (0 : Int32), oI (1 : Int32), oI ch0, oI ch1, oI dh0, oI dh1, oR h0.size, oR T2.heap.size, oR T34.heap.size, .unset] [(.int kk)])
      refine own_by (fun t_ k_ => XT.iconstV XT51.here hx rfl (3 : Int32) (hb hby at_119) (by decide) k_) ?_
      show own_Go p e below _ T51 (mkF m 120 #[oI i0, oI i1, oI i2, oI i3, oI i4, oI i5, oI kk, oI (0 : Int32), oI (1 : Int32), oI ch0, oI ch1, oI dh0, oI dh1, oR h0.size, oR T2.heap.size, oR T34.heap.size, .unset] [(.int (3 : Int32)), (.int kk)])
      by_cases c120_53 : kk = (3 : Int32)
      · refine own_by (fun t_ k_ => XS.icmpNo XT51.here hx rfl (hb hby at_120) rfl (XT.ii_ne_f c120_53) k_) ?_
        show own_Go p e below _ T51 (mkF m 123 #[oI i0, oI i1, oI i2, oI i3, oI i4, oI i5, oI kk, oI (0 : Int32), oI (1 : Int32), oI ch0, oI ch1, oI dh0, oI dh1, oR h0.size, oR T2.heap.size, oR T34.heap.size, .unset] [])
        refine own_by (fun t_ k_ => XS.iload XT51.here hx rfl (hb hby at_123) rfl  k_) ?_
        show own_Go p e below _ T51 (mkF m 125 #[oI i0, oI i1, oI i2, oI i3, oI i4, oI i5, oI kk, oI (0 : Int32), oI (1 : Int32), oI ch0, oI ch1, oI dh0, oI dh1, oR h0.size, oR T2.heap.size, oR T34.heap.size, .unset] [(.int (1 : Int32))])
        refine own_by (fun t_ k_ => XS.iload XT51.here hx rfl (hb hby at_125) rfl  k_) ?_
        show own_Go p e below _ T51 (mkF m 127 #[oI i0, oI i1, oI i2, oI i3, oI i4, oI i5, oI kk, oI (0 : Int32), oI (1 : Int32), oI ch0, oI ch1, oI dh0, oI dh1, oR h0.size, oR T2.heap.size, oR T34.heap.size, .unset] [(.int (0 : Int32)), (.int (1 : Int32))])
        refine own_by (fun t_ k_ => XS.icmpYes XT51.here hx rfl (pc0 := 127) (pc' := 160) rfl (hb hby at_127) rfl (XT.ii_ne_t (by decide)) (by decide) (by decide) k_) ?_
        show own_Go p e below _ T51 (mkF m 160 #[oI i0, oI i1, oI i2, oI i3, oI i4, oI i5, oI kk, oI (0 : Int32), oI (1 : Int32), oI ch0, oI ch1, oI dh0, oI dh1, oR h0.size, oR T2.heap.size, oR T34.heap.size, .unset] [])
        refine own_by (fun t_ k_ => XT.iconstV XT51.here hx rfl (0 : Int32) (hb hby at_160) (by decide) k_) ?_
        show own_Go p e below _ T51 (mkF m 161 #[oI i0, oI i1, oI i2, oI i3, oI i4, oI i5, oI kk, oI (0 : Int32), oI (1 : Int32), oI ch0, oI ch1, oI dh0, oI dh1, oR h0.size, oR T2.heap.size, oR T34.heap.size, .unset] [(.int (0 : Int32))])
        refine own_by (fun t_ k_ => XS.istore XT51.here hx rfl (hb hby at_161) rfl (l' := #[oI i0, oI i1, oI i2, oI i3, oI i4, oI i5, oI kk, oI (0 : Int32), oI (1 : Int32), oI ch0, oI ch1, oI dh0, oI dh1, oR h0.size, oR T2.heap.size, oR T34.heap.size, oI (0 : Int32)]) rfl k_) ?_
        show own_Go p e below _ T51 (mkF m 163 #[oI i0, oI i1, oI i2, oI i3, oI i4, oI i5, oI kk, oI (0 : Int32), oI (1 : Int32), oI ch0, oI ch1, oI dh0, oI dh1, oR h0.size, oR T2.heap.size, oR T34.heap.size, oI (0 : Int32)] [])
        refine own_by (fun t_ k_ => XS.aload XT51.here hx rfl (hb hby at_163) rfl rfl  k_) ?_
        show own_Go p e below _ T51 (mkF m 165 #[oI i0, oI i1, oI i2, oI i3, oI i4, oI i5, oI kk, oI (0 : Int32), oI (1 : Int32), oI ch0, oI ch1, oI dh0, oI dh1, oR h0.size, oR T2.heap.size, oR T34.heap.size, oI (0 : Int32)] [(.ref T34.heap.size)])
        refine own_by (fun t_ k_ => XS.aload XT51.here hx rfl (hb hby at_165) rfl rfl  k_) ?_
        show own_Go p e below _ T51 (mkF m 167 #[oI i0, oI i1, oI i2, oI i3, oI i4, oI i5, oI kk, oI (0 : Int32), oI (1 : Int32), oI ch0, oI ch1, oI dh0, oI dh1, oR h0.size, oR T2.heap.size, oR T34.heap.size, oI (0 : Int32)] [(.ref T2.heap.size), (.ref T34.heap.size)])
        refine own_callV XT51 hx hZ hown (hw _ (List.mem_of_getElem? (i := 52) rfl)) (hw _ (List.mem_of_getElem? (i := 53) rfl)) (hw _ (List.mem_of_getElem? (i := 55) rfl)) (hw _ (List.mem_of_getElem? (i := 54) rfl)) (hw _ (List.mem_of_getElem? (i := 56) rfl)) (hw _ (List.mem_of_getElem? (i := 28) rfl)) (by decide) (rfl : T51.heap = T51.heap) (b := T34.heap.size) fq52_15 (argsL := [(.ref T2.heap.size)]) (rest := []) (own_is_0_1_met l Z a0 hw T34.heap.size T2.heap.size kd w3 h0.size bT2 bT34 kbT2 kbT34 (dh0.toInt8.toInt32) T51.heap cs fq52_1 hcs z38 fq52_5 FkT51 FtT51 fq52_7 fq52_8 fq52_9 fq52_10 fq52_11 fq52_12 fq52_13 fq52_14) 0 (by decide) (by decide) (by rw [hml]; rfl) (lenOf pd_11 rfl) (Nat.le_of_eq rfl) (hb hby at_167) (by decide) (by decide) (st := [(.ref T2.heap.size), (.ref T34.heap.size)]) rfl ?_
        intro T55 LT55 vT55 XT55 hQT55
        obtain ⟨rfl, eT55, rfl⟩ := hQT55
        show own_Go p e below _ T55 (mkF m 170 #[oI i0, oI i1, oI i2, oI i3, oI i4, oI i5, oI kk, oI (0 : Int32), oI (1 : Int32), oI ch0, oI ch1, oI dh0, oI dh1, oR h0.size, oR T2.heap.size, oR T34.heap.size, oI (0 : Int32)] [(.int (own_is_0_1 T34.heap.size T2.heap.size kd w3 h0.size bT2 bT34 kbT2 kbT34 (dh0.toInt8.toInt32)))])
        have N56 := own_Fr.app N53 own_Fr.nil
        refine own_by (fun t_ k_ => XS.iload XT55.here hx rfl (hb hby at_170) rfl  k_) ?_
        show own_Go p e below _ T55 (mkF m 172 #[oI i0, oI i1, oI i2, oI i3, oI i4, oI i5, oI kk, oI (0 : Int32), oI (1 : Int32), oI ch0, oI ch1, oI dh0, oI dh1, oR h0.size, oR T2.heap.size, oR T34.heap.size, oI (0 : Int32)] [(.int (0 : Int32)), (.int (own_is_0_1 T34.heap.size T2.heap.size kd w3 h0.size bT2 bT34 kbT2 kbT34 (dh0.toInt8.toInt32)))])
        have hW : kd = w3 := hkd.symm.trans (by rw [own_pick, c120_53, if_neg (by decide), if_neg (by decide), if_neg (by decide), if_pos (by decide)])
        have hfin : (own_is_0_1 T34.heap.size T2.heap.size kd w3 h0.size bT2 bT34 kbT2 kbT34 (dh0.toInt8.toInt32)) = (0 : Int32) := by rw [show (own_is_0_1 T34.heap.size T2.heap.size kd w3 h0.size bT2 bT34 kbT2 kbT34 (dh0.toInt8.toInt32)) = (0 : Int32) by rw [own_is_0_1, if_pos hW, if_pos (by rw [show (own_eq_0_1 h0.size T2.heap.size bT2 bT34 kbT2 kbT34 (dh0.toInt8.toInt32)) = (0 : Int32) by rw [own_eq_0_1, if_pos (by rw [show (own_le_0_1 bT2 bT34 kbT2 kbT34 (dh0.toInt8.toInt32)) = (0 : Int32) by rw [own_le_0_1]])]])]]
        refine own_by (fun t_ k_ => XS.icmpNo XT55.here hx rfl (hb hby at_172) rfl (XT.ii_ne_f hfin) k_) ?_
        show own_Go p e below _ T55 (mkF m 175 #[oI i0, oI i1, oI i2, oI i3, oI i4, oI i5, oI kk, oI (0 : Int32), oI (1 : Int32), oI ch0, oI ch1, oI dh0, oI dh1, oR h0.size, oR T2.heap.size, oR T34.heap.size, oI (0 : Int32)] [])
        refine own_by (fun t_ k_ => XT.iconstV XT55.here hx rfl (1 : Int32) (hb hby at_175) (by decide) k_) ?_
        show own_Go p e below _ T55 (mkF m 176 #[oI i0, oI i1, oI i2, oI i3, oI i4, oI i5, oI kk, oI (0 : Int32), oI (1 : Int32), oI ch0, oI ch1, oI dh0, oI dh1, oR h0.size, oR T2.heap.size, oR T34.heap.size, oI (0 : Int32)] [(.int (1 : Int32))])
        refine own_by (fun t_ k_ => XS.goto XT55.here hx rfl (pc0 := 176) (pc' := 180) rfl (hb hby at_176) (by decide) (by decide) k_) ?_
        show own_Go p e below _ T55 (mkF m 180 #[oI i0, oI i1, oI i2, oI i3, oI i4, oI i5, oI kk, oI (0 : Int32), oI (1 : Int32), oI ch0, oI ch1, oI dh0, oI dh1, oR h0.size, oR T2.heap.size, oR T34.heap.size, oI (0 : Int32)] [(.int (1 : Int32))])
        exact own_retNW XT55 hx hlk hZ hEL hS eT55 hk0 hC hret (by simp) (w := (1 : Int32)) (hb hby at_180) (by decide) (by decide) (by decide) (⟨rfl, (N56).to (Nat.le_refl _)⟩)
      · refine own_by (fun t_ k_ => XS.icmpYes XT51.here hx rfl (pc0 := 120) (pc' := 160) rfl (hb hby at_120) rfl (XT.ii_ne_t c120_53) (by decide) (by decide) k_) ?_
        show own_Go p e below _ T51 (mkF m 160 #[oI i0, oI i1, oI i2, oI i3, oI i4, oI i5, oI kk, oI (0 : Int32), oI (1 : Int32), oI ch0, oI ch1, oI dh0, oI dh1, oR h0.size, oR T2.heap.size, oR T34.heap.size, .unset] [])
        refine own_by (fun t_ k_ => XT.iconstV XT51.here hx rfl (0 : Int32) (hb hby at_160) (by decide) k_) ?_
        show own_Go p e below _ T51 (mkF m 161 #[oI i0, oI i1, oI i2, oI i3, oI i4, oI i5, oI kk, oI (0 : Int32), oI (1 : Int32), oI ch0, oI ch1, oI dh0, oI dh1, oR h0.size, oR T2.heap.size, oR T34.heap.size, .unset] [(.int (0 : Int32))])
        refine own_by (fun t_ k_ => XS.istore XT51.here hx rfl (hb hby at_161) rfl (l' := #[oI i0, oI i1, oI i2, oI i3, oI i4, oI i5, oI kk, oI (0 : Int32), oI (1 : Int32), oI ch0, oI ch1, oI dh0, oI dh1, oR h0.size, oR T2.heap.size, oR T34.heap.size, oI (0 : Int32)]) rfl k_) ?_
        show own_Go p e below _ T51 (mkF m 163 #[oI i0, oI i1, oI i2, oI i3, oI i4, oI i5, oI kk, oI (0 : Int32), oI (1 : Int32), oI ch0, oI ch1, oI dh0, oI dh1, oR h0.size, oR T2.heap.size, oR T34.heap.size, oI (0 : Int32)] [])
        refine own_by (fun t_ k_ => XS.aload XT51.here hx rfl (hb hby at_163) rfl rfl  k_) ?_
        show own_Go p e below _ T51 (mkF m 165 #[oI i0, oI i1, oI i2, oI i3, oI i4, oI i5, oI kk, oI (0 : Int32), oI (1 : Int32), oI ch0, oI ch1, oI dh0, oI dh1, oR h0.size, oR T2.heap.size, oR T34.heap.size, oI (0 : Int32)] [(.ref T34.heap.size)])
        refine own_by (fun t_ k_ => XS.aload XT51.here hx rfl (hb hby at_165) rfl rfl  k_) ?_
        show own_Go p e below _ T51 (mkF m 167 #[oI i0, oI i1, oI i2, oI i3, oI i4, oI i5, oI kk, oI (0 : Int32), oI (1 : Int32), oI ch0, oI ch1, oI dh0, oI dh1, oR h0.size, oR T2.heap.size, oR T34.heap.size, oI (0 : Int32)] [(.ref T2.heap.size), (.ref T34.heap.size)])
        refine own_callV XT51 hx hZ hown (hw _ (List.mem_of_getElem? (i := 52) rfl)) (hw _ (List.mem_of_getElem? (i := 53) rfl)) (hw _ (List.mem_of_getElem? (i := 55) rfl)) (hw _ (List.mem_of_getElem? (i := 54) rfl)) (hw _ (List.mem_of_getElem? (i := 56) rfl)) (hw _ (List.mem_of_getElem? (i := 28) rfl)) (by decide) (rfl : T51.heap = T51.heap) (b := T34.heap.size) fq52_15 (argsL := [(.ref T2.heap.size)]) (rest := []) (own_is_0_1_met l Z a0 hw T34.heap.size T2.heap.size kd w3 h0.size bT2 bT34 kbT2 kbT34 (dh0.toInt8.toInt32) T51.heap cs fq52_1 hcs z38 fq52_5 FkT51 FtT51 fq52_7 fq52_8 fq52_9 fq52_10 fq52_11 fq52_12 fq52_13 fq52_14) 0 (by decide) (by decide) (by rw [hml]; rfl) (lenOf pd_11 rfl) (Nat.le_of_eq rfl) (hb hby at_167) (by decide) (by decide) (st := [(.ref T2.heap.size), (.ref T34.heap.size)]) rfl ?_
        intro T57 LT57 vT57 XT57 hQT57
        obtain ⟨rfl, eT57, rfl⟩ := hQT57
        show own_Go p e below _ T57 (mkF m 170 #[oI i0, oI i1, oI i2, oI i3, oI i4, oI i5, oI kk, oI (0 : Int32), oI (1 : Int32), oI ch0, oI ch1, oI dh0, oI dh1, oR h0.size, oR T2.heap.size, oR T34.heap.size, oI (0 : Int32)] [(.int (own_is_0_1 T34.heap.size T2.heap.size kd w3 h0.size bT2 bT34 kbT2 kbT34 (dh0.toInt8.toInt32)))])
        have N58 := own_Fr.app N53 own_Fr.nil
        refine own_by (fun t_ k_ => XS.iload XT57.here hx rfl (hb hby at_170) rfl  k_) ?_
        show own_Go p e below _ T57 (mkF m 172 #[oI i0, oI i1, oI i2, oI i3, oI i4, oI i5, oI kk, oI (0 : Int32), oI (1 : Int32), oI ch0, oI ch1, oI dh0, oI dh1, oR h0.size, oR T2.heap.size, oR T34.heap.size, oI (0 : Int32)] [(.int (0 : Int32)), (.int (own_is_0_1 T34.heap.size T2.heap.size kd w3 h0.size bT2 bT34 kbT2 kbT34 (dh0.toInt8.toInt32)))])
        have hW : ¬ kd = w3 := fun q => own_pick_ne kk w0 w1 w2 w3 w4 c120_53 (F0.ne F3 (by decide)) (F1.ne F3 (by decide)) (F2.ne F3 (by decide)) (F4.ne F3 (by decide)) (hkd.trans q)
        have hfin : (own_is_0_1 T34.heap.size T2.heap.size kd w3 h0.size bT2 bT34 kbT2 kbT34 (dh0.toInt8.toInt32)) = (0 : Int32) := by rw [show (own_is_0_1 T34.heap.size T2.heap.size kd w3 h0.size bT2 bT34 kbT2 kbT34 (dh0.toInt8.toInt32)) = (0 : Int32) by rw [own_is_0_1, if_neg hW]]
        refine own_by (fun t_ k_ => XS.icmpNo XT57.here hx rfl (hb hby at_172) rfl (XT.ii_ne_f hfin) k_) ?_
        show own_Go p e below _ T57 (mkF m 175 #[oI i0, oI i1, oI i2, oI i3, oI i4, oI i5, oI kk, oI (0 : Int32), oI (1 : Int32), oI ch0, oI ch1, oI dh0, oI dh1, oR h0.size, oR T2.heap.size, oR T34.heap.size, oI (0 : Int32)] [])
        refine own_by (fun t_ k_ => XT.iconstV XT57.here hx rfl (1 : Int32) (hb hby at_175) (by decide) k_) ?_
        show own_Go p e below _ T57 (mkF m 176 #[oI i0, oI i1, oI i2, oI i3, oI i4, oI i5, oI kk, oI (0 : Int32), oI (1 : Int32), oI ch0, oI ch1, oI dh0, oI dh1, oR h0.size, oR T2.heap.size, oR T34.heap.size, oI (0 : Int32)] [(.int (1 : Int32))])
        refine own_by (fun t_ k_ => XS.goto XT57.here hx rfl (pc0 := 176) (pc' := 180) rfl (hb hby at_176) (by decide) (by decide) k_) ?_
        show own_Go p e below _ T57 (mkF m 180 #[oI i0, oI i1, oI i2, oI i3, oI i4, oI i5, oI kk, oI (0 : Int32), oI (1 : Int32), oI ch0, oI ch1, oI dh0, oI dh1, oR h0.size, oR T2.heap.size, oR T34.heap.size, oI (0 : Int32)] [(.int (1 : Int32))])
        exact own_retNW XT57 hx hlk hZ hEL hS eT57 hk0 hC hret (by simp) (w := (1 : Int32)) (hb hby at_180) (by decide) (by decide) (by decide) (⟨rfl, (N58).to (Nat.le_refl _)⟩)
    · subst hk
      show own_Go p e below _ T2 (mkF m 77 #[oI i0, oI i1, oI i2, oI i3, oI i4, oI i5, oI kk, oI (0 : Int32), oI (2 : Int32), oI ch0, oI ch1, oI dh0, oI dh1, oR h0.size, .unset, .unset, .unset] [])
      refine own_by (fun t_ k_ => XS.iload XT2.here hx rfl (hb hby at_77) rfl  k_) ?_
      show own_Go p e below _ T2 (mkF m 79 #[oI i0, oI i1, oI i2, oI i3, oI i4, oI i5, oI kk, oI (0 : Int32), oI (2 : Int32), oI ch0, oI ch1, oI dh0, oI dh1, oR h0.size, .unset, .unset, .unset] [(.int (2 : Int32))])
      refine own_by (fun t_ k_ => XT.iconstV XT2.here hx rfl (3 : Int32) (hb hby at_79) (by decide) k_) ?_
      show own_Go p e below _ T2 (mkF m 80 #[oI i0, oI i1, oI i2, oI i3, oI i4, oI i5, oI kk, oI (0 : Int32), oI (2 : Int32), oI ch0, oI ch1, oI dh0, oI dh1, oR h0.size, .unset, .unset, .unset] [(.int (3 : Int32)), (.int (2 : Int32))])
      refine own_by (fun t_ k_ => XS.icmpYes XT2.here hx rfl (pc0 := 80) (pc' := 87) rfl (hb hby at_80) rfl (XT.ii_ne_t (by decide)) (by decide) (by decide) k_) ?_
      show own_Go p e below _ T2 (mkF m 87 #[oI i0, oI i1, oI i2, oI i3, oI i4, oI i5, oI kk, oI (0 : Int32), oI (2 : Int32), oI ch0, oI ch1, oI dh0, oI dh1, oR h0.size, .unset, .unset, .unset] [])
      refine own_by (fun t_ k_ => XS.iload XT2.here hx rfl (hb hby at_87) rfl  k_) ?_
      show own_Go p e below _ T2 (mkF m 89 #[oI i0, oI i1, oI i2, oI i3, oI i4, oI i5, oI kk, oI (0 : Int32), oI (2 : Int32), oI ch0, oI ch1, oI dh0, oI dh1, oR h0.size, .unset, .unset, .unset] [(.int (2 : Int32))])
      refine own_by (fun t_ k_ => XS.iload XT2.here hx rfl (hb hby at_89) rfl  k_) ?_
      show own_Go p e below _ T2 (mkF m 91 #[oI i0, oI i1, oI i2, oI i3, oI i4, oI i5, oI kk, oI (0 : Int32), oI (2 : Int32), oI ch0, oI ch1, oI dh0, oI dh1, oR h0.size, .unset, .unset, .unset] [(.int dh0), (.int (2 : Int32))])
      refine own_by (fun t_ k_ => XS.iload XT2.here hx rfl (hb hby at_91) rfl  k_) ?_
      show own_Go p e below _ T2 (mkF m 93 #[oI i0, oI i1, oI i2, oI i3, oI i4, oI i5, oI kk, oI (0 : Int32), oI (2 : Int32), oI ch0, oI ch1, oI dh0, oI dh1, oR h0.size, .unset, .unset, .unset] [(.int dh1), (.int dh0), (.int (2 : Int32))])
      have g59 : h0.size ≤ T2.heap.size := Kq3.1
      refine own_callSW XT2 hx hZ hEL hS (rfl : T2.heap = T2.heap) hk0 hC hown (hw _ (List.mem_of_getElem? (i := 0) rfl)) (hw _ (List.mem_of_getElem? (i := 1) rfl)) (hw _ (List.mem_of_getElem? (i := 2) rfl)) (hw _ (List.mem_of_getElem? (i := 3) rfl)) (by decide) (argsL := [(.int (2 : Int32)), (.int dh0), (.int dh1)]) (rest := []) (own_str_2 l Z a0 hw EL hEL dh0 dh1 T2.heap cs fq3_1 hcs Bdh0 Bdh1 hmem) 0 (by decide) (by decide) (by rw [hml]; rfl) (lenOf pd_8 rfl) (Nat.le_of_eq rfl) (hb hby at_93) (by decide) (by decide) (st := [(.int dh1), (.int dh0), (.int (2 : Int32))]) rfl ?_
      rintro T60 LT60 vT60 ⟨XT60, hQT60, hS, hgT60, hZ, hown, hCT60⟩
      obtain ⟨rfl, KT60, NT60, ST60⟩ := hQT60
      show own_Go p e below _ T60 (mkF m 96 #[oI i0, oI i1, oI i2, oI i3, oI i4, oI i5, oI kk, oI (0 : Int32), oI (2 : Int32), oI ch0, oI ch1, oI dh0, oI dh1, oR h0.size, .unset, .unset, .unset] [(.ref T2.heap.size)])
      have fq61_1 := own_stak fq3_1 KT60
      have fq61_2 := own_stak fq3_2 KT60
      have fq61_3 := own_stak fq3_3 KT60
      have fq61_4 := own_stak fq3_4 KT60
      have fq61_5 := own_stak fq3_5 KT60
      have fq61_6 := own_stak fq3_6 KT60
      have fq61_7 := EsT2.keep KT60
      have fq61_8 := FvT2.keep KT60 nin0
      have fq61_9 := FcT2.keep KT60 nin0
      have fq61_10 := VT2.keep KT60 nin0
      have lq61_0 := Nat.lt_of_lt_of_le lt4 KT60.1
      have lq61_1 := Nat.lt_of_lt_of_le lt5 KT60.1
      have Kq61 := own_trans0 Kq3 KT60
      have hC := hCT60
      have hk0 := Nat.le_refl T60.heap.size
      obtain ⟨bT60, kbT60, EsT60, FvT60, FcT60, VT60⟩ := ST60
      have lt62 := EsT60.lt
      have lt63 := VT60.lt
      have z64 : h0.size ≠ T2.heap.size := Nat.ne_of_lt lt4
      have z65 : bT2 ≠ T2.heap.size := Nat.ne_of_lt lt5
      have N66 := own_Fr.app N6 (own_Fr.of NT60 (Kq3).1)
      refine own_by (fun t_ k_ => XS.astore XT60.here hx rfl (hb hby at_96) rfl rfl (l' := #[oI i0, oI i1, oI i2, oI i3, oI i4, oI i5, oI kk, oI (0 : Int32), oI (2 : Int32), oI ch0, oI ch1, oI dh0, oI dh1, oR h0.size, oR T2.heap.size, .unset, .unset]) rfl k_) ?_
      show own_Go p e below _ T60 (mkF m 98 #[oI i0, oI i1, oI i2, oI i3, oI i4, oI i5, oI kk, oI (0 : Int32), oI (2 : Int32), oI ch0, oI ch1, oI dh0, oI dh1, oR h0.size, oR T2.heap.size, .unset, .unset] [])
      have g68 : h0.size ≤ T60.heap.size := Kq61.1
      refine own_new XT60 hx hZ hown (hw _ (List.mem_of_getElem? (i := 26) rfl)) (hw _ (List.mem_of_getElem? (i := 27) rfl)) (hw _ (List.mem_of_getElem? (i := 28) rfl)) (rfl : T60.heap = T60.heap) (hb hby at_98) (by decide) (by decide) ?_
      intro T67 hT67 XT67 eT67 ET67 AT67 DT67
      have fq69_1 := own_stak fq61_1 (own_ek ET67)
      have fq69_2 := own_stak fq61_2 (own_ek ET67)
      have fq69_3 := own_stak fq61_3 (own_ek ET67)
      have fq69_4 := own_stak fq61_4 (own_ek ET67)
      have fq69_5 := own_stak fq61_5 (own_ek ET67)
      have fq69_6 := own_stak fq61_6 (own_ek ET67)
      have fq69_7 := fq61_7.keep (own_ek ET67)
      have fq69_8 := fq61_8.keep (own_ek ET67) nin0
      have fq69_9 := fq61_9.keep (own_ek ET67) nin0
      have fq69_10 := fq61_10.keep (own_ek ET67) nin0
      have fq69_11 := EsT60.keep (own_ek ET67)
      have fq69_12 := FvT60.keep (own_ek ET67) nin0
      have fq69_13 := FcT60.keep (own_ek ET67) nin0
      have fq69_14 := VT60.keep (own_ek ET67) nin0
      have lq69_0 := Nat.lt_of_lt_of_le lq61_0 (own_ek ET67).1
      have lq69_1 := Nat.lt_of_lt_of_le lq61_1 (own_ek ET67).1
      have lq69_2 := Nat.lt_of_lt_of_le lt62 (own_ek ET67).1
      have lq69_3 := Nat.lt_of_lt_of_le lt63 (own_ek ET67).1
      have hC := hC.trans (CHr.keep (own_ek ET67) (fun _ q => by cases q) hC.1)
      have hk0 := Nat.le_trans hk0 (own_ek ET67).1
      have Kq69 := own_trans0 Kq61 (own_ek ET67)
      have z70 : h0.size ≠ T60.heap.size := Nat.ne_of_lt lq61_0
      have z71 : bT2 ≠ T60.heap.size := Nat.ne_of_lt lq61_1
      have z72 : T2.heap.size ≠ T60.heap.size := Nat.ne_of_lt lt62
      have z73 : bT60 ≠ T60.heap.size := Nat.ne_of_lt lt63
      have FT67_kind : Fld Z hT67 T60.heap.size "com/example/nimble_gate/nimblegate/policy/Token" "kind" "Lcom/example/nimble_gate/nimblegate/policy/Token$Kind;" .null := DT67 (ty := (.object "com/example/nimble_gate/nimblegate/policy/Token$Kind")) (Or.inr (hw _ (List.mem_of_getElem? (i := 45) rfl))) (by decide +kernel)
      have FT67_text : Fld Z hT67 T60.heap.size "com/example/nimble_gate/nimblegate/policy/Token" "text" "Ljava/lang/String;" .null := DT67 (ty := (.object "java/lang/String")) (Or.inr (hw _ (List.mem_of_getElem? (i := 47) rfl))) (by decide +kernel)
      have FT67_line : Fld Z hT67 T60.heap.size "com/example/nimble_gate/nimblegate/policy/Token" "line" "I" (.int 0) := DT67 (ty := .int) (Or.inr (hw _ (List.mem_of_getElem? (i := 49) rfl))) (by decide +kernel)
      have FT67_column : Fld Z hT67 T60.heap.size "com/example/nimble_gate/nimblegate/policy/Token" "column" "I" (.int 0) := DT67 (ty := .int) (Or.inr (hw _ (List.mem_of_getElem? (i := 51) rfl))) (by decide +kernel)
      clear DT67
      have lt74 := AT67.lt
      show own_Go p e below _ T67 (mkF m 101 #[oI i0, oI i1, oI i2, oI i3, oI i4, oI i5, oI kk, oI (0 : Int32), oI (2 : Int32), oI ch0, oI ch1, oI dh0, oI dh1, oR h0.size, oR T2.heap.size, .unset, .unset] [(.ref T60.heap.size)])
      refine own_by (fun t_ k_ => XS.dup XT67.here hx rfl (hb hby at_101) rfl rfl k_) ?_
      show own_Go p e below _ T67 (mkF m 102 #[oI i0, oI i1, oI i2, oI i3, oI i4, oI i5, oI kk, oI (0 : Int32), oI (2 : Int32), oI ch0, oI ch1, oI dh0, oI dh1, oR h0.size, oR T2.heap.size, .unset, .unset] [(.ref T60.heap.size), (.ref T60.heap.size)])
      refine own_by (fun t_ k_ => XS.iload XT67.here hx rfl (hb hby at_102) rfl  k_) ?_
      show own_Go p e below _ T67 (mkF m 104 #[oI i0, oI i1, oI i2, oI i3, oI i4, oI i5, oI kk, oI (0 : Int32), oI (2 : Int32), oI ch0, oI ch1, oI dh0, oI dh1, oR h0.size, oR T2.heap.size, .unset, .unset] [(.int kk), (.ref T60.heap.size), (.ref T60.heap.size)])
      refine own_callS XT67 hx hZ hown (hw _ (List.mem_of_getElem? (i := 29) rfl)) (hw _ (List.mem_of_getElem? (i := 30) rfl)) (hw _ (List.mem_of_getElem? (i := 2) rfl)) (hw _ (List.mem_of_getElem? (i := 31) rfl)) (by decide) eT67 (argsL := [(.int kk)]) (rest := [(.ref T60.heap.size), (.ref T60.heap.size)]) (own_pick_met l Z a0 hw kk w0 w1 w2 w3 w4 hT67 ⟨fq69_2, fq69_3, fq69_4, fq69_5, fq69_6⟩) 2 (by decide) (by decide) (by rw [hml]; rfl) (lenOf pd_9 rfl) (Nat.le_of_eq rfl) (hb hby at_104) (by decide) (by decide) (st := [(.int kk), (.ref T60.heap.size), (.ref T60.heap.size)]) rfl ?_
      intro T75 LT75 vT75 XT75 hQT75
      obtain ⟨rfl, eT75, rfl⟩ := hQT75
      show own_Go p e below _ T75 (mkF m 107 #[oI i0, oI i1, oI i2, oI i3, oI i4, oI i5, oI kk, oI (0 : Int32), oI (2 : Int32), oI ch0, oI ch1, oI dh0, oI dh1, oR h0.size, oR T2.heap.size, .unset, .unset] [(.ref (own_pick kk w0 w1 w2 w3 w4)), (.ref T60.heap.size), (.ref T60.heap.size)])
      have N76 := own_Fr.app N66 own_Fr.nil
      generalize hkd : (own_pick kk w0 w1 w2 w3 w4) = kd
      show own_Go p e below _ T75 (mkF m 107 #[oI i0, oI i1, oI i2, oI i3, oI i4, oI i5, oI kk, oI (0 : Int32), oI (2 : Int32), oI ch0, oI ch1, oI dh0, oI dh1, oR h0.size, oR T2.heap.size, .unset, .unset] [(.ref kd), (.ref T60.heap.size), (.ref T60.heap.size)])
      refine own_by (fun t_ k_ => XS.aload XT75.here hx rfl (hb hby at_107) rfl rfl  k_) ?_
      show own_Go p e below _ T75 (mkF m 109 #[oI i0, oI i1, oI i2, oI i3, oI i4, oI i5, oI kk, oI (0 : Int32), oI (2 : Int32), oI ch0, oI ch1, oI dh0, oI dh1, oR h0.size, oR T2.heap.size, .unset, .unset] [(.ref h0.size), (.ref kd), (.ref T60.heap.size), (.ref T60.heap.size)])
      refine own_by (fun t_ k_ => XS.iload XT75.here hx rfl (hb hby at_109) rfl  k_) ?_
      show own_Go p e below _ T75 (mkF m 111 #[oI i0, oI i1, oI i2, oI i3, oI i4, oI i5, oI kk, oI (0 : Int32), oI (2 : Int32), oI ch0, oI ch1, oI dh0, oI dh1, oR h0.size, oR T2.heap.size, .unset, .unset] [(.int i5), (.ref h0.size), (.ref kd), (.ref T60.heap.size), (.ref T60.heap.size)])
      refine own_by (fun t_ k_ => XS.iloadN XT75.here hx rfl (hb hby at_111) rfl  k_) ?_
      show own_Go p e below _ T75 (mkF m 112 #[oI i0, oI i1, oI i2, oI i3, oI i4, oI i5, oI kk, oI (0 : Int32), oI (2 : Int32), oI ch0, oI ch1, oI dh0, oI dh1, oR h0.size, oR T2.heap.size, .unset, .unset] [(.int i0), (.int i5), (.ref h0.size), (.ref kd), (.ref T60.heap.size), (.ref T60.heap.size)])
      refine own_callN XT75 hx hZ rfl hown (hw _ (List.mem_of_getElem? (i := 35) rfl)) (hw _ (List.mem_of_getElem? (i := 36) rfl)) (hw _ (List.mem_of_getElem? (i := 37) rfl)) (hw _ (List.mem_of_getElem? (i := 28) rfl)) (by decide) eT75 (b := T60.heap.size) (argsL := [(.ref kd), (.ref h0.size), (.int i5), (.int i0)]) (rest := [(.ref T60.heap.size)]) (own_tok l Z a0 hw T60.heap.size kd h0.size i5 i0 hT67 AT67 FT67_kind FT67_text FT67_line FT67_column) 1 (by decide) (by decide) (by rw [hml]; rfl) (lenOf pd_10 rfl) (Nat.le_of_eq rfl) (hb hby at_112) (by decide) (by decide) (st := [(.int i0), (.int i5), (.ref h0.size), (.ref kd), (.ref T60.heap.size), (.ref T60.heap.size)]) rfl ?_
      intro T77 LT77 vT77 XT77 hQT77
      obtain ⟨rfl, KT77, NT77, FkT77, FtT77⟩ := hQT77
      show own_Go p e below _ T77 (mkF m 115 #[oI i0, oI i1, oI i2, oI i3, oI i4, oI i5, oI kk, oI (0 : Int32), oI (2 : Int32), oI ch0, oI ch1, oI dh0, oI dh1, oR h0.size, oR T2.heap.size, .unset, .unset] [(.ref T60.heap.size)])
      have fq78_1 := own_stak1 fq69_1 KT77 AT67
      have fq78_2 := own_stak1 fq69_2 KT77 AT67
      have fq78_3 := own_stak1 fq69_3 KT77 AT67
      have fq78_4 := own_stak1 fq69_4 KT77 AT67
      have fq78_5 := own_stak1 fq69_5 KT77 AT67
      have fq78_6 := own_stak1 fq69_6 KT77 AT67
      have fq78_7 := fq69_7.keep KT77
      have fq78_8 := fq69_8.keep KT77 (own_nin z70)
      have fq78_9 := fq69_9.keep KT77 (own_nin z70)
      have fq78_10 := fq69_10.keep KT77 (own_nin z71)
      have fq78_11 := fq69_11.keep KT77
      have fq78_12 := fq69_12.keep KT77 (own_nin z72)
      have fq78_13 := fq69_13.keep KT77 (own_nin z72)
      have fq78_14 := fq69_14.keep KT77 (own_nin z73)
      have fq78_15 := AT67.keep KT77
      have lq78_0 := Nat.lt_of_lt_of_le lq69_0 KT77.1
      have lq78_1 := Nat.lt_of_lt_of_le lq69_1 KT77.1
      have lq78_2 := Nat.lt_of_lt_of_le lq69_2 KT77.1
      have lq78_3 := Nat.lt_of_lt_of_le lq69_3 KT77.1
      have lq78_4 := Nat.lt_of_lt_of_le lt74 KT77.1
      have hC := hC.trans (CHr.keep KT77 (fun _ q => by cases List.mem_singleton.mp q; exact (Safe.exa hZ.alike AT67 (by decide) (by decide))) hC.1)
      have hk0 := Nat.le_trans hk0 KT77.1
      have Kq78 := own_trans1 Kq69 KT77 (Or.inr g68)
      have N79 := own_Fr.app N76 (own_Fr.of (own_Fr.new NT77 g68 (Kq69).1) (Nat.le_refl _))
      refine own_by (fun t_ k_ => XS.astore XT77.here hx rfl (hb hby at_115) rfl rfl (l' := #[oI i0, oI i1, oI i2, oI i3, oI i4, oI i5, oI kk, oI (0 : Int32), oI (2 : Int32), oI ch0, oI ch1, oI dh0, oI dh1, oR h0.size, oR T2.heap.size, oR T60.heap.size, .unset]) rfl k_) ?_
      show own_Go p e below _ T77 (mkF m 117 #[oI i0, oI i1, oI i2, oI i3, oI i4, oI i5, oI kk, oI (0 : Int32), oI (2 : Int32), oI ch0, oI ch1, oI dh0, oI dh1, oR h0.size, oR T2.heap.size, oR T60.heap.size, .unset] [])
      refine own_by (fun t_ k_ => XS.iload XT77.here hx rfl (hb hby at_117) rfl  k_) ?_
      show own_Go p e below _ T77 (mkF m 119 #[oI i0, oI i1, oI i2, oI i3, oI i4, oI i5, oI kk, oI (0 : Int32), oI (2 : Int32), oI ch0, oI ch1, oI dh0, oI dh1, oR h0.size, oR T2.heap.size, oR T60.heap.size, .unset] [(.int kk)])
      refine own_by (fun t_ k_ => XT.iconstV XT77.here hx rfl (3 : Int32) (hb hby at_119) (by decide) k_) ?_
      show own_Go p e below _ T77 (mkF m 120 #[oI i0, oI i1, oI i2, oI i3, oI i4, oI i5, oI kk, oI (0 : Int32), oI (2 : Int32), oI ch0, oI ch1, oI dh0, oI dh1, oR h0.size, oR T2.heap.size, oR T60.heap.size, .unset] [(.int (3 : Int32)), (.int kk)])
      by_cases c120_79 : kk = (3 : Int32)
      · refine own_by (fun t_ k_ => XS.icmpNo XT77.here hx rfl (hb hby at_120) rfl (XT.ii_ne_f c120_79) k_) ?_
        show own_Go p e below _ T77 (mkF m 123 #[oI i0, oI i1, oI i2, oI i3, oI i4, oI i5, oI kk, oI (0 : Int32), oI (2 : Int32), oI ch0, oI ch1, oI dh0, oI dh1, oR h0.size, oR T2.heap.size, oR T60.heap.size, .unset] [])
        refine own_by (fun t_ k_ => XS.iload XT77.here hx rfl (hb hby at_123) rfl  k_) ?_
        show own_Go p e below _ T77 (mkF m 125 #[oI i0, oI i1, oI i2, oI i3, oI i4, oI i5, oI kk, oI (0 : Int32), oI (2 : Int32), oI ch0, oI ch1, oI dh0, oI dh1, oR h0.size, oR T2.heap.size, oR T60.heap.size, .unset] [(.int (2 : Int32))])
        refine own_by (fun t_ k_ => XS.iload XT77.here hx rfl (hb hby at_125) rfl  k_) ?_
        show own_Go p e below _ T77 (mkF m 127 #[oI i0, oI i1, oI i2, oI i3, oI i4, oI i5, oI kk, oI (0 : Int32), oI (2 : Int32), oI ch0, oI ch1, oI dh0, oI dh1, oR h0.size, oR T2.heap.size, oR T60.heap.size, .unset] [(.int (0 : Int32)), (.int (2 : Int32))])
        refine own_by (fun t_ k_ => XS.icmpYes XT77.here hx rfl (pc0 := 127) (pc' := 160) rfl (hb hby at_127) rfl (XT.ii_ne_t (by decide)) (by decide) (by decide) k_) ?_
        show own_Go p e below _ T77 (mkF m 160 #[oI i0, oI i1, oI i2, oI i3, oI i4, oI i5, oI kk, oI (0 : Int32), oI (2 : Int32), oI ch0, oI ch1, oI dh0, oI dh1, oR h0.size, oR T2.heap.size, oR T60.heap.size, .unset] [])
        refine own_by (fun t_ k_ => XT.iconstV XT77.here hx rfl (0 : Int32) (hb hby at_160) (by decide) k_) ?_
        show own_Go p e below _ T77 (mkF m 161 #[oI i0, oI i1, oI i2, oI i3, oI i4, oI i5, oI kk, oI (0 : Int32), oI (2 : Int32), oI ch0, oI ch1, oI dh0, oI dh1, oR h0.size, oR T2.heap.size, oR T60.heap.size, .unset] [(.int (0 : Int32))])
        refine own_by (fun t_ k_ => XS.istore XT77.here hx rfl (hb hby at_161) rfl (l' := #[oI i0, oI i1, oI i2, oI i3, oI i4, oI i5, oI kk, oI (0 : Int32), oI (2 : Int32), oI ch0, oI ch1, oI dh0, oI dh1, oR h0.size, oR T2.heap.size, oR T60.heap.size, oI (0 : Int32)]) rfl k_) ?_
        show own_Go p e below _ T77 (mkF m 163 #[oI i0, oI i1, oI i2, oI i3, oI i4, oI i5, oI kk, oI (0 : Int32), oI (2 : Int32), oI ch0, oI ch1, oI dh0, oI dh1, oR h0.size, oR T2.heap.size, oR T60.heap.size, oI (0 : Int32)] [])
        refine own_by (fun t_ k_ => XS.aload XT77.here hx rfl (hb hby at_163) rfl rfl  k_) ?_
        show own_Go p e below _ T77 (mkF m 165 #[oI i0, oI i1, oI i2, oI i3, oI i4, oI i5, oI kk, oI (0 : Int32), oI (2 : Int32), oI ch0, oI ch1, oI dh0, oI dh1, oR h0.size, oR T2.heap.size, oR T60.heap.size, oI (0 : Int32)] [(.ref T60.heap.size)])
        refine own_by (fun t_ k_ => XS.aload XT77.here hx rfl (hb hby at_165) rfl rfl  k_) ?_
        show own_Go p e below _ T77 (mkF m 167 #[oI i0, oI i1, oI i2, oI i3, oI i4, oI i5, oI kk, oI (0 : Int32), oI (2 : Int32), oI ch0, oI ch1, oI dh0, oI dh1, oR h0.size, oR T2.heap.size, oR T60.heap.size, oI (0 : Int32)] [(.ref T2.heap.size), (.ref T60.heap.size)])
        refine own_callV XT77 hx hZ hown (hw _ (List.mem_of_getElem? (i := 52) rfl)) (hw _ (List.mem_of_getElem? (i := 53) rfl)) (hw _ (List.mem_of_getElem? (i := 55) rfl)) (hw _ (List.mem_of_getElem? (i := 54) rfl)) (hw _ (List.mem_of_getElem? (i := 56) rfl)) (hw _ (List.mem_of_getElem? (i := 28) rfl)) (by decide) (rfl : T77.heap = T77.heap) (b := T60.heap.size) fq78_15 (argsL := [(.ref T2.heap.size)]) (rest := []) (own_is_0_2_met l Z a0 hw T60.heap.size T2.heap.size kd w3 h0.size bT2 bT60 kbT2 kbT60 (dh0.toInt8.toInt32) (dh1.toInt8.toInt32) T77.heap cs fq78_1 hcs z64 fq78_5 FkT77 FtT77 fq78_7 fq78_8 fq78_9 fq78_10 fq78_11 fq78_12 fq78_13 fq78_14) 0 (by decide) (by decide) (by rw [hml]; rfl) (lenOf pd_11 rfl) (Nat.le_of_eq rfl) (hb hby at_167) (by decide) (by decide) (st := [(.ref T2.heap.size), (.ref T60.heap.size)]) rfl ?_
        intro T81 LT81 vT81 XT81 hQT81
        obtain ⟨rfl, eT81, rfl⟩ := hQT81
        show own_Go p e below _ T81 (mkF m 170 #[oI i0, oI i1, oI i2, oI i3, oI i4, oI i5, oI kk, oI (0 : Int32), oI (2 : Int32), oI ch0, oI ch1, oI dh0, oI dh1, oR h0.size, oR T2.heap.size, oR T60.heap.size, oI (0 : Int32)] [(.int (own_is_0_2 T60.heap.size T2.heap.size kd w3 h0.size bT2 bT60 kbT2 kbT60 (dh0.toInt8.toInt32) (dh1.toInt8.toInt32)))])
        have N82 := own_Fr.app N79 own_Fr.nil
        refine own_by (fun t_ k_ => XS.iload XT81.here hx rfl (hb hby at_170) rfl  k_) ?_
        show own_Go p e below _ T81 (mkF m 172 #[oI i0, oI i1, oI i2, oI i3, oI i4, oI i5, oI kk, oI (0 : Int32), oI (2 : Int32), oI ch0, oI ch1, oI dh0, oI dh1, oR h0.size, oR T2.heap.size, oR T60.heap.size, oI (0 : Int32)] [(.int (0 : Int32)), (.int (own_is_0_2 T60.heap.size T2.heap.size kd w3 h0.size bT2 bT60 kbT2 kbT60 (dh0.toInt8.toInt32) (dh1.toInt8.toInt32)))])
        have hW : kd = w3 := hkd.symm.trans (by rw [own_pick, c120_79, if_neg (by decide), if_neg (by decide), if_neg (by decide), if_pos (by decide)])
        have hfin : (own_is_0_2 T60.heap.size T2.heap.size kd w3 h0.size bT2 bT60 kbT2 kbT60 (dh0.toInt8.toInt32) (dh1.toInt8.toInt32)) = (0 : Int32) := by rw [show (own_is_0_2 T60.heap.size T2.heap.size kd w3 h0.size bT2 bT60 kbT2 kbT60 (dh0.toInt8.toInt32) (dh1.toInt8.toInt32)) = (0 : Int32) by rw [own_is_0_2, if_pos hW, if_pos (by rw [show (own_eq_0_2 h0.size T2.heap.size bT2 bT60 kbT2 kbT60 (dh0.toInt8.toInt32) (dh1.toInt8.toInt32)) = (0 : Int32) by rw [own_eq_0_2, if_pos (by rw [show (own_le_0_2 bT2 bT60 kbT2 kbT60 (dh0.toInt8.toInt32) (dh1.toInt8.toInt32)) = (0 : Int32) by rw [own_le_0_2]])]])]]
        refine own_by (fun t_ k_ => XS.icmpNo XT81.here hx rfl (hb hby at_172) rfl (XT.ii_ne_f hfin) k_) ?_
        show own_Go p e below _ T81 (mkF m 175 #[oI i0, oI i1, oI i2, oI i3, oI i4, oI i5, oI kk, oI (0 : Int32), oI (2 : Int32), oI ch0, oI ch1, oI dh0, oI dh1, oR h0.size, oR T2.heap.size, oR T60.heap.size, oI (0 : Int32)] [])
        refine own_by (fun t_ k_ => XT.iconstV XT81.here hx rfl (1 : Int32) (hb hby at_175) (by decide) k_) ?_
        show own_Go p e below _ T81 (mkF m 176 #[oI i0, oI i1, oI i2, oI i3, oI i4, oI i5, oI kk, oI (0 : Int32), oI (2 : Int32), oI ch0, oI ch1, oI dh0, oI dh1, oR h0.size, oR T2.heap.size, oR T60.heap.size, oI (0 : Int32)] [(.int (1 : Int32))])
        refine own_by (fun t_ k_ => XS.goto XT81.here hx rfl (pc0 := 176) (pc' := 180) rfl (hb hby at_176) (by decide) (by decide) k_) ?_
        show own_Go p e below _ T81 (mkF m 180 #[oI i0, oI i1, oI i2, oI i3, oI i4, oI i5, oI kk, oI (0 : Int32), oI (2 : Int32), oI ch0, oI ch1, oI dh0, oI dh1, oR h0.size, oR T2.heap.size, oR T60.heap.size, oI (0 : Int32)] [(.int (1 : Int32))])
        exact own_retNW XT81 hx hlk hZ hEL hS eT81 hk0 hC hret (by simp) (w := (1 : Int32)) (hb hby at_180) (by decide) (by decide) (by decide) (⟨rfl, (N82).to (Nat.le_refl _)⟩)
      · refine own_by (fun t_ k_ => XS.icmpYes XT77.here hx rfl (pc0 := 120) (pc' := 160) rfl (hb hby at_120) rfl (XT.ii_ne_t c120_79) (by decide) (by decide) k_) ?_
        show own_Go p e below _ T77 (mkF m 160 #[oI i0, oI i1, oI i2, oI i3, oI i4, oI i5, oI kk, oI (0 : Int32), oI (2 : Int32), oI ch0, oI ch1, oI dh0, oI dh1, oR h0.size, oR T2.heap.size, oR T60.heap.size, .unset] [])
        refine own_by (fun t_ k_ => XT.iconstV XT77.here hx rfl (0 : Int32) (hb hby at_160) (by decide) k_) ?_
        show own_Go p e below _ T77 (mkF m 161 #[oI i0, oI i1, oI i2, oI i3, oI i4, oI i5, oI kk, oI (0 : Int32), oI (2 : Int32), oI ch0, oI ch1, oI dh0, oI dh1, oR h0.size, oR T2.heap.size, oR T60.heap.size, .unset] [(.int (0 : Int32))])
        refine own_by (fun t_ k_ => XS.istore XT77.here hx rfl (hb hby at_161) rfl (l' := #[oI i0, oI i1, oI i2, oI i3, oI i4, oI i5, oI kk, oI (0 : Int32), oI (2 : Int32), oI ch0, oI ch1, oI dh0, oI dh1, oR h0.size, oR T2.heap.size, oR T60.heap.size, oI (0 : Int32)]) rfl k_) ?_
        show own_Go p e below _ T77 (mkF m 163 #[oI i0, oI i1, oI i2, oI i3, oI i4, oI i5, oI kk, oI (0 : Int32), oI (2 : Int32), oI ch0, oI ch1, oI dh0, oI dh1, oR h0.size, oR T2.heap.size, oR T60.heap.size, oI (0 : Int32)] [])
        refine own_by (fun t_ k_ => XS.aload XT77.here hx rfl (hb hby at_163) rfl rfl  k_) ?_
        show own_Go p e below _ T77 (mkF m 165 #[oI i0, oI i1, oI i2, oI i3, oI i4, oI i5, oI kk, oI (0 : Int32), oI (2 : Int32), oI ch0, oI ch1, oI dh0, oI dh1, oR h0.size, oR T2.heap.size, oR T60.heap.size, oI (0 : Int32)] [(.ref T60.heap.size)])
        refine own_by (fun t_ k_ => XS.aload XT77.here hx rfl (hb hby at_165) rfl rfl  k_) ?_
        show own_Go p e below _ T77 (mkF m 167 #[oI i0, oI i1, oI i2, oI i3, oI i4, oI i5, oI kk, oI (0 : Int32), oI (2 : Int32), oI ch0, oI ch1, oI dh0, oI dh1, oR h0.size, oR T2.heap.size, oR T60.heap.size, oI (0 : Int32)] [(.ref T2.heap.size), (.ref T60.heap.size)])
        refine own_callV XT77 hx hZ hown (hw _ (List.mem_of_getElem? (i := 52) rfl)) (hw _ (List.mem_of_getElem? (i := 53) rfl)) (hw _ (List.mem_of_getElem? (i := 55) rfl)) (hw _ (List.mem_of_getElem? (i := 54) rfl)) (hw _ (List.mem_of_getElem? (i := 56) rfl)) (hw _ (List.mem_of_getElem? (i := 28) rfl)) (by decide) (rfl : T77.heap = T77.heap) (b := T60.heap.size) fq78_15 (argsL := [(.ref T2.heap.size)]) (rest := []) (own_is_0_2_met l Z a0 hw T60.heap.size T2.heap.size kd w3 h0.size bT2 bT60 kbT2 kbT60 (dh0.toInt8.toInt32) (dh1.toInt8.toInt32) T77.heap cs fq78_1 hcs z64 fq78_5 FkT77 FtT77 fq78_7 fq78_8 fq78_9 fq78_10 fq78_11 fq78_12 fq78_13 fq78_14) 0 (by decide) (by decide) (by rw [hml]; rfl) (lenOf pd_11 rfl) (Nat.le_of_eq rfl) (hb hby at_167) (by decide) (by decide) (st := [(.ref T2.heap.size), (.ref T60.heap.size)]) rfl ?_
        intro T83 LT83 vT83 XT83 hQT83
        obtain ⟨rfl, eT83, rfl⟩ := hQT83
        show own_Go p e below _ T83 (mkF m 170 #[oI i0, oI i1, oI i2, oI i3, oI i4, oI i5, oI kk, oI (0 : Int32), oI (2 : Int32), oI ch0, oI ch1, oI dh0, oI dh1, oR h0.size, oR T2.heap.size, oR T60.heap.size, oI (0 : Int32)] [(.int (own_is_0_2 T60.heap.size T2.heap.size kd w3 h0.size bT2 bT60 kbT2 kbT60 (dh0.toInt8.toInt32) (dh1.toInt8.toInt32)))])
        have N84 := own_Fr.app N79 own_Fr.nil
        refine own_by (fun t_ k_ => XS.iload XT83.here hx rfl (hb hby at_170) rfl  k_) ?_
        show own_Go p e below _ T83 (mkF m 172 #[oI i0, oI i1, oI i2, oI i3, oI i4, oI i5, oI kk, oI (0 : Int32), oI (2 : Int32), oI ch0, oI ch1, oI dh0, oI dh1, oR h0.size, oR T2.heap.size, oR T60.heap.size, oI (0 : Int32)] [(.int (0 : Int32)), (.int (own_is_0_2 T60.heap.size T2.heap.size kd w3 h0.size bT2 bT60 kbT2 kbT60 (dh0.toInt8.toInt32) (dh1.toInt8.toInt32)))])
        have hW : ¬ kd = w3 := fun q => own_pick_ne kk w0 w1 w2 w3 w4 c120_79 (F0.ne F3 (by decide)) (F1.ne F3 (by decide)) (F2.ne F3 (by decide)) (F4.ne F3 (by decide)) (hkd.trans q)
        have hfin : (own_is_0_2 T60.heap.size T2.heap.size kd w3 h0.size bT2 bT60 kbT2 kbT60 (dh0.toInt8.toInt32) (dh1.toInt8.toInt32)) = (0 : Int32) := by rw [show (own_is_0_2 T60.heap.size T2.heap.size kd w3 h0.size bT2 bT60 kbT2 kbT60 (dh0.toInt8.toInt32) (dh1.toInt8.toInt32)) = (0 : Int32) by rw [own_is_0_2, if_neg hW]]
        refine own_by (fun t_ k_ => XS.icmpNo XT83.here hx rfl (hb hby at_172) rfl (XT.ii_ne_f hfin) k_) ?_
        show own_Go p e below _ T83 (mkF m 175 #[oI i0, oI i1, oI i2, oI i3, oI i4, oI i5, oI kk, oI (0 : Int32), oI (2 : Int32), oI ch0, oI ch1, oI dh0, oI dh1, oR h0.size, oR T2.heap.size, oR T60.heap.size, oI (0 : Int32)] [])
        refine own_by (fun t_ k_ => XT.iconstV XT83.here hx rfl (1 : Int32) (hb hby at_175) (by decide) k_) ?_
        show own_Go p e below _ T83 (mkF m 176 #[oI i0, oI i1, oI i2, oI i3, oI i4, oI i5, oI kk, oI (0 : Int32), oI (2 : Int32), oI ch0, oI ch1, oI dh0, oI dh1, oR h0.size, oR T2.heap.size, oR T60.heap.size, oI (0 : Int32)] [(.int (1 : Int32))])
        refine own_by (fun t_ k_ => XS.goto XT83.here hx rfl (pc0 := 176) (pc' := 180) rfl (hb hby at_176) (by decide) (by decide) k_) ?_
        show own_Go p e below _ T83 (mkF m 180 #[oI i0, oI i1, oI i2, oI i3, oI i4, oI i5, oI kk, oI (0 : Int32), oI (2 : Int32), oI ch0, oI ch1, oI dh0, oI dh1, oR h0.size, oR T2.heap.size, oR T60.heap.size, oI (0 : Int32)] [(.int (1 : Int32))])
        exact own_retNW XT83 hx hlk hZ hEL hS eT83 hk0 hC hret (by simp) (w := (1 : Int32)) (hb hby at_180) (by decide) (by decide) (by decide) (⟨rfl, (N84).to (Nat.le_refl _)⟩)
    · subst hk
      show own_Go p e below _ T2 (mkF m 77 #[oI i0, oI i1, oI i2, oI i3, oI i4, oI i5, oI kk, oI (0 : Int32), oI (3 : Int32), oI ch0, oI ch1, oI dh0, oI dh1, oR h0.size, .unset, .unset, .unset] [])
      refine own_by (fun t_ k_ => XS.iload XT2.here hx rfl (hb hby at_77) rfl  k_) ?_
      show own_Go p e below _ T2 (mkF m 79 #[oI i0, oI i1, oI i2, oI i3, oI i4, oI i5, oI kk, oI (0 : Int32), oI (3 : Int32), oI ch0, oI ch1, oI dh0, oI dh1, oR h0.size, .unset, .unset, .unset] [(.int (3 : Int32))])
      refine own_by (fun t_ k_ => XT.iconstV XT2.here hx rfl (3 : Int32) (hb hby at_79) (by decide) k_) ?_
      show own_Go p e below _ T2 (mkF m 80 #[oI i0, oI i1, oI i2, oI i3, oI i4, oI i5, oI kk, oI (0 : Int32), oI (3 : Int32), oI ch0, oI ch1, oI dh0, oI dh1, oR h0.size, .unset, .unset, .unset] [(.int (3 : Int32)), (.int (3 : Int32))])
      refine own_by (fun t_ k_ => XS.icmpNo XT2.here hx rfl (hb hby at_80) rfl (XT.ii_ne_f (by decide)) k_) ?_
      show own_Go p e below _ T2 (mkF m 83 #[oI i0, oI i1, oI i2, oI i3, oI i4, oI i5, oI kk, oI (0 : Int32), oI (3 : Int32), oI ch0, oI ch1, oI dh0, oI dh1, oR h0.size, .unset, .unset, .unset] [])
      refine own_by (fun t_ k_ => XS.aconstNull XT2.here hx rfl (hb hby at_83) k_) ?_
      show own_Go p e below _ T2 (mkF m 84 #[oI i0, oI i1, oI i2, oI i3, oI i4, oI i5, oI kk, oI (0 : Int32), oI (3 : Int32), oI ch0, oI ch1, oI dh0, oI dh1, oR h0.size, .unset, .unset, .unset] [.null])
      refine own_by (fun t_ k_ => XS.goto XT2.here hx rfl (pc0 := 84) (pc' := 96) rfl (hb hby at_84) (by decide) (by decide) k_) ?_
      show own_Go p e below _ T2 (mkF m 96 #[oI i0, oI i1, oI i2, oI i3, oI i4, oI i5, oI kk, oI (0 : Int32), oI (3 : Int32), oI ch0, oI ch1, oI dh0, oI dh1, oR h0.size, .unset, .unset, .unset] [.null])
      refine own_by (fun t_ k_ => XS.astore XT2.here hx rfl (hb hby at_96) rfl rfl (l' := #[oI i0, oI i1, oI i2, oI i3, oI i4, oI i5, oI kk, oI (0 : Int32), oI (3 : Int32), oI ch0, oI ch1, oI dh0, oI dh1, oR h0.size, .val .null, .unset, .unset]) rfl k_) ?_
      show own_Go p e below _ T2 (mkF m 98 #[oI i0, oI i1, oI i2, oI i3, oI i4, oI i5, oI kk, oI (0 : Int32), oI (3 : Int32), oI ch0, oI ch1, oI dh0, oI dh1, oR h0.size, .val .null, .unset, .unset] [])
      have g86 : h0.size ≤ T2.heap.size := Kq3.1
      refine own_new XT2 hx hZ hown (hw _ (List.mem_of_getElem? (i := 26) rfl)) (hw _ (List.mem_of_getElem? (i := 27) rfl)) (hw _ (List.mem_of_getElem? (i := 28) rfl)) (rfl : T2.heap = T2.heap) (hb hby at_98) (by decide) (by decide) ?_
      intro T85 hT85 XT85 eT85 ET85 AT85 DT85
      have fq87_1 := own_stak fq3_1 (own_ek ET85)
      have fq87_2 := own_stak fq3_2 (own_ek ET85)
      have fq87_3 := own_stak fq3_3 (own_ek ET85)
      have fq87_4 := own_stak fq3_4 (own_ek ET85)
      have fq87_5 := own_stak fq3_5 (own_ek ET85)
      have fq87_6 := own_stak fq3_6 (own_ek ET85)
      have fq87_7 := EsT2.keep (own_ek ET85)
      have fq87_8 := FvT2.keep (own_ek ET85) nin0
      have fq87_9 := FcT2.keep (own_ek ET85) nin0
      have fq87_10 := VT2.keep (own_ek ET85) nin0
      have lq87_0 := Nat.lt_of_lt_of_le lt4 (own_ek ET85).1
      have lq87_1 := Nat.lt_of_lt_of_le lt5 (own_ek ET85).1
      have hC := hC.trans (CHr.keep (own_ek ET85) (fun _ q => by cases q) hC.1)
      have hk0 := Nat.le_trans hk0 (own_ek ET85).1
      have Kq87 := own_trans0 Kq3 (own_ek ET85)
      have z88 : h0.size ≠ T2.heap.size := Nat.ne_of_lt lt4
      have z89 : bT2 ≠ T2.heap.size := Nat.ne_of_lt lt5
      have FT85_kind : Fld Z hT85 T2.heap.size "com/example/nimble_gate/nimblegate/policy/Token" "kind" "Lcom/example/nimble_gate/nimblegate/policy/Token$Kind;" .null := DT85 (ty := (.object "com/example/nimble_gate/nimblegate/policy/Token$Kind")) (Or.inr (hw _ (List.mem_of_getElem? (i := 45) rfl))) (by decide +kernel)
      have FT85_text : Fld Z hT85 T2.heap.size "com/example/nimble_gate/nimblegate/policy/Token" "text" "Ljava/lang/String;" .null := DT85 (ty := (.object "java/lang/String")) (Or.inr (hw _ (List.mem_of_getElem? (i := 47) rfl))) (by decide +kernel)
      have FT85_line : Fld Z hT85 T2.heap.size "com/example/nimble_gate/nimblegate/policy/Token" "line" "I" (.int 0) := DT85 (ty := .int) (Or.inr (hw _ (List.mem_of_getElem? (i := 49) rfl))) (by decide +kernel)
      have FT85_column : Fld Z hT85 T2.heap.size "com/example/nimble_gate/nimblegate/policy/Token" "column" "I" (.int 0) := DT85 (ty := .int) (Or.inr (hw _ (List.mem_of_getElem? (i := 51) rfl))) (by decide +kernel)
      clear DT85
      have lt90 := AT85.lt
      show own_Go p e below _ T85 (mkF m 101 #[oI i0, oI i1, oI i2, oI i3, oI i4, oI i5, oI kk, oI (0 : Int32), oI (3 : Int32), oI ch0, oI ch1, oI dh0, oI dh1, oR h0.size, .val .null, .unset, .unset] [(.ref T2.heap.size)])
      refine own_by (fun t_ k_ => XS.dup XT85.here hx rfl (hb hby at_101) rfl rfl k_) ?_
      show own_Go p e below _ T85 (mkF m 102 #[oI i0, oI i1, oI i2, oI i3, oI i4, oI i5, oI kk, oI (0 : Int32), oI (3 : Int32), oI ch0, oI ch1, oI dh0, oI dh1, oR h0.size, .val .null, .unset, .unset] [(.ref T2.heap.size), (.ref T2.heap.size)])
      refine own_by (fun t_ k_ => XS.iload XT85.here hx rfl (hb hby at_102) rfl  k_) ?_
      show own_Go p e below _ T85 (mkF m 104 #[oI i0, oI i1, oI i2, oI i3, oI i4, oI i5, oI kk, oI (0 : Int32), oI (3 : Int32), oI ch0, oI ch1, oI dh0, oI dh1, oR h0.size, .val .null, .unset, .unset] [(.int kk), (.ref T2.heap.size), (.ref T2.heap.size)])
      refine own_callS XT85 hx hZ hown (hw _ (List.mem_of_getElem? (i := 29) rfl)) (hw _ (List.mem_of_getElem? (i := 30) rfl)) (hw _ (List.mem_of_getElem? (i := 2) rfl)) (hw _ (List.mem_of_getElem? (i := 31) rfl)) (by decide) eT85 (argsL := [(.int kk)]) (rest := [(.ref T2.heap.size), (.ref T2.heap.size)]) (own_pick_met l Z a0 hw kk w0 w1 w2 w3 w4 hT85 ⟨fq87_2, fq87_3, fq87_4, fq87_5, fq87_6⟩) 2 (by decide) (by decide) (by rw [hml]; rfl) (lenOf pd_9 rfl) (Nat.le_of_eq rfl) (hb hby at_104) (by decide) (by decide) (st := [(.int kk), (.ref T2.heap.size), (.ref T2.heap.size)]) rfl ?_
      intro T91 LT91 vT91 XT91 hQT91
      obtain ⟨rfl, eT91, rfl⟩ := hQT91
      show own_Go p e below _ T91 (mkF m 107 #[oI i0, oI i1, oI i2, oI i3, oI i4, oI i5, oI kk, oI (0 : Int32), oI (3 : Int32), oI ch0, oI ch1, oI dh0, oI dh1, oR h0.size, .val .null, .unset, .unset] [(.ref (own_pick kk w0 w1 w2 w3 w4)), (.ref T2.heap.size), (.ref T2.heap.size)])
      have N92 := own_Fr.app N6 own_Fr.nil
      generalize hkd : (own_pick kk w0 w1 w2 w3 w4) = kd
      show own_Go p e below _ T91 (mkF m 107 #[oI i0, oI i1, oI i2, oI i3, oI i4, oI i5, oI kk, oI (0 : Int32), oI (3 : Int32), oI ch0, oI ch1, oI dh0, oI dh1, oR h0.size, .val .null, .unset, .unset] [(.ref kd), (.ref T2.heap.size), (.ref T2.heap.size)])
      refine own_by (fun t_ k_ => XS.aload XT91.here hx rfl (hb hby at_107) rfl rfl  k_) ?_
      show own_Go p e below _ T91 (mkF m 109 #[oI i0, oI i1, oI i2, oI i3, oI i4, oI i5, oI kk, oI (0 : Int32), oI (3 : Int32), oI ch0, oI ch1, oI dh0, oI dh1, oR h0.size, .val .null, .unset, .unset] [(.ref h0.size), (.ref kd), (.ref T2.heap.size), (.ref T2.heap.size)])
      refine own_by (fun t_ k_ => XS.iload XT91.here hx rfl (hb hby at_109) rfl  k_) ?_
      show own_Go p e below _ T91 (mkF m 111 #[oI i0, oI i1, oI i2, oI i3, oI i4, oI i5, oI kk, oI (0 : Int32), oI (3 : Int32), oI ch0, oI ch1, oI dh0, oI dh1, oR h0.size, .val .null, .unset, .unset] [(.int i5), (.ref h0.size), (.ref kd), (.ref T2.heap.size), (.ref T2.heap.size)])
      refine own_by (fun t_ k_ => XS.iloadN XT91.here hx rfl (hb hby at_111) rfl  k_) ?_
      show own_Go p e below _ T91 (mkF m 112 #[oI i0, oI i1, oI i2, oI i3, oI i4, oI i5, oI kk, oI (0 : Int32), oI (3 : Int32), oI ch0, oI ch1, oI dh0, oI dh1, oR h0.size, .val .null, .unset, .unset] [(.int i0), (.int i5), (.ref h0.size), (.ref kd), (.ref T2.heap.size), (.ref T2.heap.size)])
      refine own_callN XT91 hx hZ rfl hown (hw _ (List.mem_of_getElem? (i := 35) rfl)) (hw _ (List.mem_of_getElem? (i := 36) rfl)) (hw _ (List.mem_of_getElem? (i := 37) rfl)) (hw _ (List.mem_of_getElem? (i := 28) rfl)) (by decide) eT91 (b := T2.heap.size) (argsL := [(.ref kd), (.ref h0.size), (.int i5), (.int i0)]) (rest := [(.ref T2.heap.size)]) (own_tok l Z a0 hw T2.heap.size kd h0.size i5 i0 hT85 AT85 FT85_kind FT85_text FT85_line FT85_column) 1 (by decide) (by decide) (by rw [hml]; rfl) (lenOf pd_10 rfl) (Nat.le_of_eq rfl) (hb hby at_112) (by decide) (by decide) (st := [(.int i0), (.int i5), (.ref h0.size), (.ref kd), (.ref T2.heap.size), (.ref T2.heap.size)]) rfl ?_
      intro T93 LT93 vT93 XT93 hQT93
      obtain ⟨rfl, KT93, NT93, FkT93, FtT93⟩ := hQT93
      show own_Go p e below _ T93 (mkF m 115 #[oI i0, oI i1, oI i2, oI i3, oI i4, oI i5, oI kk, oI (0 : Int32), oI (3 : Int32), oI ch0, oI ch1, oI dh0, oI dh1, oR h0.size, .val .null, .unset, .unset] [(.ref T2.heap.size)])
      have fq94_1 := own_stak1 fq87_1 KT93 AT85
      have fq94_2 := own_stak1 fq87_2 KT93 AT85
      have fq94_3 := own_stak1 fq87_3 KT93 AT85
      have fq94_4 := own_stak1 fq87_4 KT93 AT85
      have fq94_5 := own_stak1 fq87_5 KT93 AT85
      have fq94_6 := own_stak1 fq87_6 KT93 AT85
      have fq94_7 := fq87_7.keep KT93
      have fq94_8 := fq87_8.keep KT93 (own_nin z88)
      have fq94_9 := fq87_9.keep KT93 (own_nin z88)
      have fq94_10 := fq87_10.keep KT93 (own_nin z89)
      have fq94_11 := AT85.keep KT93
      have lq94_0 := Nat.lt_of_lt_of_le lq87_0 KT93.1
      have lq94_1 := Nat.lt_of_lt_of_le lq87_1 KT93.1
      have lq94_2 := Nat.lt_of_lt_of_le lt90 KT93.1
      have hC := hC.trans (CHr.keep KT93 (fun _ q => by cases List.mem_singleton.mp q; exact (Safe.exa hZ.alike AT85 (by decide) (by decide))) hC.1)
      have hk0 := Nat.le_trans hk0 KT93.1
      have Kq94 := own_trans1 Kq87 KT93 (Or.inr g86)
      have N95 := own_Fr.app N92 (own_Fr.of (own_Fr.new NT93 g86 (Kq87).1) (Nat.le_refl _))
      refine own_by (fun t_ k_ => XS.astore XT93.here hx rfl (hb hby at_115) rfl rfl (l' := #[oI i0, oI i1, oI i2, oI i3, oI i4, oI i5, oI kk, oI (0 : Int32), oI (3 : Int32), oI ch0, oI ch1, oI dh0, oI dh1, oR h0.size, .val .null, oR T2.heap.size, .unset]) rfl k_) ?_
      show own_Go p e below _ T93 (mkF m 117 #[oI i0, oI i1, oI i2, oI i3, oI i4, oI i5, oI kk, oI (0 : Int32), oI (3 : Int32), oI ch0, oI ch1, oI dh0, oI dh1, oR h0.size, .val .null, oR T2.heap.size, .unset] [])
      refine own_by (fun t_ k_ => XS.iload XT93.here hx rfl (hb hby at_117) rfl  k_) ?_
      show own_Go p e below _ T93 (mkF m 119 #[oI i0, oI i1, oI i2, oI i3, oI i4, oI i5, oI kk, oI (0 : Int32), oI (3 : Int32), oI ch0, oI ch1, oI dh0, oI dh1, oR h0.size, .val .null, oR T2.heap.size, .unset] [(.int kk)])
      refine own_by (fun t_ k_ => XT.iconstV XT93.here hx rfl (3 : Int32) (hb hby at_119) (by decide) k_) ?_
      show own_Go p e below _ T93 (mkF m 120 #[oI i0, oI i1, oI i2, oI i3, oI i4, oI i5, oI kk, oI (0 : Int32), oI (3 : Int32), oI ch0, oI ch1, oI dh0, oI dh1, oR h0.size, .val .null, oR T2.heap.size, .unset] [(.int (3 : Int32)), (.int kk)])
      by_cases c120_95 : kk = (3 : Int32)
      · refine own_by (fun t_ k_ => XS.icmpNo XT93.here hx rfl (hb hby at_120) rfl (XT.ii_ne_f c120_95) k_) ?_
        show own_Go p e below _ T93 (mkF m 123 #[oI i0, oI i1, oI i2, oI i3, oI i4, oI i5, oI kk, oI (0 : Int32), oI (3 : Int32), oI ch0, oI ch1, oI dh0, oI dh1, oR h0.size, .val .null, oR T2.heap.size, .unset] [])
        refine own_by (fun t_ k_ => XS.iload XT93.here hx rfl (hb hby at_123) rfl  k_) ?_
        show own_Go p e below _ T93 (mkF m 125 #[oI i0, oI i1, oI i2, oI i3, oI i4, oI i5, oI kk, oI (0 : Int32), oI (3 : Int32), oI ch0, oI ch1, oI dh0, oI dh1, oR h0.size, .val .null, oR T2.heap.size, .unset] [(.int (3 : Int32))])
        refine own_by (fun t_ k_ => XS.iload XT93.here hx rfl (hb hby at_125) rfl  k_) ?_
        show own_Go p e below _ T93 (mkF m 127 #[oI i0, oI i1, oI i2, oI i3, oI i4, oI i5, oI kk, oI (0 : Int32), oI (3 : Int32), oI ch0, oI ch1, oI dh0, oI dh1, oR h0.size, .val .null, oR T2.heap.size, .unset] [(.int (0 : Int32)), (.int (3 : Int32))])
        refine own_by (fun t_ k_ => XS.icmpYes XT93.here hx rfl (pc0 := 127) (pc' := 160) rfl (hb hby at_127) rfl (XT.ii_ne_t (by decide)) (by decide) (by decide) k_) ?_
        show own_Go p e below _ T93 (mkF m 160 #[oI i0, oI i1, oI i2, oI i3, oI i4, oI i5, oI kk, oI (0 : Int32), oI (3 : Int32), oI ch0, oI ch1, oI dh0, oI dh1, oR h0.size, .val .null, oR T2.heap.size, .unset] [])
        refine own_by (fun t_ k_ => XT.iconstV XT93.here hx rfl (0 : Int32) (hb hby at_160) (by decide) k_) ?_
        show own_Go p e below _ T93 (mkF m 161 #[oI i0, oI i1, oI i2, oI i3, oI i4, oI i5, oI kk, oI (0 : Int32), oI (3 : Int32), oI ch0, oI ch1, oI dh0, oI dh1, oR h0.size, .val .null, oR T2.heap.size, .unset] [(.int (0 : Int32))])
        refine own_by (fun t_ k_ => XS.istore XT93.here hx rfl (hb hby at_161) rfl (l' := #[oI i0, oI i1, oI i2, oI i3, oI i4, oI i5, oI kk, oI (0 : Int32), oI (3 : Int32), oI ch0, oI ch1, oI dh0, oI dh1, oR h0.size, .val .null, oR T2.heap.size, oI (0 : Int32)]) rfl k_) ?_
        show own_Go p e below _ T93 (mkF m 163 #[oI i0, oI i1, oI i2, oI i3, oI i4, oI i5, oI kk, oI (0 : Int32), oI (3 : Int32), oI ch0, oI ch1, oI dh0, oI dh1, oR h0.size, .val .null, oR T2.heap.size, oI (0 : Int32)] [])
        refine own_by (fun t_ k_ => XS.aload XT93.here hx rfl (hb hby at_163) rfl rfl  k_) ?_
        show own_Go p e below _ T93 (mkF m 165 #[oI i0, oI i1, oI i2, oI i3, oI i4, oI i5, oI kk, oI (0 : Int32), oI (3 : Int32), oI ch0, oI ch1, oI dh0, oI dh1, oR h0.size, .val .null, oR T2.heap.size, oI (0 : Int32)] [(.ref T2.heap.size)])
        refine own_by (fun t_ k_ => XS.aload XT93.here hx rfl (hb hby at_165) rfl rfl  k_) ?_
        show own_Go p e below _ T93 (mkF m 167 #[oI i0, oI i1, oI i2, oI i3, oI i4, oI i5, oI kk, oI (0 : Int32), oI (3 : Int32), oI ch0, oI ch1, oI dh0, oI dh1, oR h0.size, .val .null, oR T2.heap.size, oI (0 : Int32)] [.null, (.ref T2.heap.size)])
        refine own_callV XT93 hx hZ hown (hw _ (List.mem_of_getElem? (i := 52) rfl)) (hw _ (List.mem_of_getElem? (i := 53) rfl)) (hw _ (List.mem_of_getElem? (i := 55) rfl)) (hw _ (List.mem_of_getElem? (i := 54) rfl)) (hw _ (List.mem_of_getElem? (i := 56) rfl)) (hw _ (List.mem_of_getElem? (i := 28) rfl)) (by decide) (rfl : T93.heap = T93.heap) (b := T2.heap.size) fq94_11 (argsL := [.null]) (rest := []) (own_isN_met l Z a0 hw T2.heap.size kd w3 h0.size T93.heap fq94_5 FkT93 FtT93 fq94_7) 0 (by decide) (by decide) (by rw [hml]; rfl) (lenOf pd_11 rfl) (Nat.le_of_eq rfl) (hb hby at_167) (by decide) (by decide) (st := [.null, (.ref T2.heap.size)]) rfl ?_
        intro T97 LT97 vT97 XT97 hQT97
        obtain ⟨rfl, eT97, rfl⟩ := hQT97
        show own_Go p e below _ T97 (mkF m 170 #[oI i0, oI i1, oI i2, oI i3, oI i4, oI i5, oI kk, oI (0 : Int32), oI (3 : Int32), oI ch0, oI ch1, oI dh0, oI dh1, oR h0.size, .val .null, oR T2.heap.size, oI (0 : Int32)] [(.int (own_isN T2.heap.size kd w3 h0.size))])
        have N98 := own_Fr.app N95 own_Fr.nil
        refine own_by (fun t_ k_ => XS.iload XT97.here hx rfl (hb hby at_170) rfl  k_) ?_
        show own_Go p e below _ T97 (mkF m 172 #[oI i0, oI i1, oI i2, oI i3, oI i4, oI i5, oI kk, oI (0 : Int32), oI (3 : Int32), oI ch0, oI ch1, oI dh0, oI dh1, oR h0.size, .val .null, oR T2.heap.size, oI (0 : Int32)] [(.int (0 : Int32)), (.int (own_isN T2.heap.size kd w3 h0.size))])
        have hW : kd = w3 := hkd.symm.trans (by rw [own_pick, c120_95, if_neg (by decide), if_neg (by decide), if_neg (by decide), if_pos (by decide)])
        have hfin : (own_isN T2.heap.size kd w3 h0.size) = (0 : Int32) := by rw [show (own_isN T2.heap.size kd w3 h0.size) = (0 : Int32) by rw [own_isN, if_pos hW]]
        refine own_by (fun t_ k_ => XS.icmpNo XT97.here hx rfl (hb hby at_172) rfl (XT.ii_ne_f hfin) k_) ?_
        show own_Go p e below _ T97 (mkF m 175 #[oI i0, oI i1, oI i2, oI i3, oI i4, oI i5, oI kk, oI (0 : Int32), oI (3 : Int32), oI ch0, oI ch1, oI dh0, oI dh1, oR h0.size, .val .null, oR T2.heap.size, oI (0 : Int32)] [])
        refine own_by (fun t_ k_ => XT.iconstV XT97.here hx rfl (1 : Int32) (hb hby at_175) (by decide) k_) ?_
        show own_Go p e below _ T97 (mkF m 176 #[oI i0, oI i1, oI i2, oI i3, oI i4, oI i5, oI kk, oI (0 : Int32), oI (3 : Int32), oI ch0, oI ch1, oI dh0, oI dh1, oR h0.size, .val .null, oR T2.heap.size, oI (0 : Int32)] [(.int (1 : Int32))])
        refine own_by (fun t_ k_ => XS.goto XT97.here hx rfl (pc0 := 176) (pc' := 180) rfl (hb hby at_176) (by decide) (by decide) k_) ?_
        show own_Go p e below _ T97 (mkF m 180 #[oI i0, oI i1, oI i2, oI i3, oI i4, oI i5, oI kk, oI (0 : Int32), oI (3 : Int32), oI ch0, oI ch1, oI dh0, oI dh1, oR h0.size, .val .null, oR T2.heap.size, oI (0 : Int32)] [(.int (1 : Int32))])
        exact own_retNW XT97 hx hlk hZ hEL hS eT97 hk0 hC hret (by simp) (w := (1 : Int32)) (hb hby at_180) (by decide) (by decide) (by decide) (⟨rfl, (N98).to (Nat.le_refl _)⟩)
      · refine own_by (fun t_ k_ => XS.icmpYes XT93.here hx rfl (pc0 := 120) (pc' := 160) rfl (hb hby at_120) rfl (XT.ii_ne_t c120_95) (by decide) (by decide) k_) ?_
        show own_Go p e below _ T93 (mkF m 160 #[oI i0, oI i1, oI i2, oI i3, oI i4, oI i5, oI kk, oI (0 : Int32), oI (3 : Int32), oI ch0, oI ch1, oI dh0, oI dh1, oR h0.size, .val .null, oR T2.heap.size, .unset] [])
        refine own_by (fun t_ k_ => XT.iconstV XT93.here hx rfl (0 : Int32) (hb hby at_160) (by decide) k_) ?_
        show own_Go p e below _ T93 (mkF m 161 #[oI i0, oI i1, oI i2, oI i3, oI i4, oI i5, oI kk, oI (0 : Int32), oI (3 : Int32), oI ch0, oI ch1, oI dh0, oI dh1, oR h0.size, .val .null, oR T2.heap.size, .unset] [(.int (0 : Int32))])
        refine own_by (fun t_ k_ => XS.istore XT93.here hx rfl (hb hby at_161) rfl (l' := #[oI i0, oI i1, oI i2, oI i3, oI i4, oI i5, oI kk, oI (0 : Int32), oI (3 : Int32), oI ch0, oI ch1, oI dh0, oI dh1, oR h0.size, .val .null, oR T2.heap.size, oI (0 : Int32)]) rfl k_) ?_
        show own_Go p e below _ T93 (mkF m 163 #[oI i0, oI i1, oI i2, oI i3, oI i4, oI i5, oI kk, oI (0 : Int32), oI (3 : Int32), oI ch0, oI ch1, oI dh0, oI dh1, oR h0.size, .val .null, oR T2.heap.size, oI (0 : Int32)] [])
        refine own_by (fun t_ k_ => XS.aload XT93.here hx rfl (hb hby at_163) rfl rfl  k_) ?_
        show own_Go p e below _ T93 (mkF m 165 #[oI i0, oI i1, oI i2, oI i3, oI i4, oI i5, oI kk, oI (0 : Int32), oI (3 : Int32), oI ch0, oI ch1, oI dh0, oI dh1, oR h0.size, .val .null, oR T2.heap.size, oI (0 : Int32)] [(.ref T2.heap.size)])
        refine own_by (fun t_ k_ => XS.aload XT93.here hx rfl (hb hby at_165) rfl rfl  k_) ?_
        show own_Go p e below _ T93 (mkF m 167 #[oI i0, oI i1, oI i2, oI i3, oI i4, oI i5, oI kk, oI (0 : Int32), oI (3 : Int32), oI ch0, oI ch1, oI dh0, oI dh1, oR h0.size, .val .null, oR T2.heap.size, oI (0 : Int32)] [.null, (.ref T2.heap.size)])
        refine own_callV XT93 hx hZ hown (hw _ (List.mem_of_getElem? (i := 52) rfl)) (hw _ (List.mem_of_getElem? (i := 53) rfl)) (hw _ (List.mem_of_getElem? (i := 55) rfl)) (hw _ (List.mem_of_getElem? (i := 54) rfl)) (hw _ (List.mem_of_getElem? (i := 56) rfl)) (hw _ (List.mem_of_getElem? (i := 28) rfl)) (by decide) (rfl : T93.heap = T93.heap) (b := T2.heap.size) fq94_11 (argsL := [.null]) (rest := []) (own_isN_met l Z a0 hw T2.heap.size kd w3 h0.size T93.heap fq94_5 FkT93 FtT93 fq94_7) 0 (by decide) (by decide) (by rw [hml]; rfl) (lenOf pd_11 rfl) (Nat.le_of_eq rfl) (hb hby at_167) (by decide) (by decide) (st := [.null, (.ref T2.heap.size)]) rfl ?_
        intro T99 LT99 vT99 XT99 hQT99
        obtain ⟨rfl, eT99, rfl⟩ := hQT99
        show own_Go p e below _ T99 (mkF m 170 #[oI i0, oI i1, oI i2, oI i3, oI i4, oI i5, oI kk, oI (0 : Int32), oI (3 : Int32), oI ch0, oI ch1, oI dh0, oI dh1, oR h0.size, .val .null, oR T2.heap.size, oI (0 : Int32)] [(.int (own_isN T2.heap.size kd w3 h0.size))])
        have N100 := own_Fr.app N95 own_Fr.nil
        refine own_by (fun t_ k_ => XS.iload XT99.here hx rfl (hb hby at_170) rfl  k_) ?_
        show own_Go p e below _ T99 (mkF m 172 #[oI i0, oI i1, oI i2, oI i3, oI i4, oI i5, oI kk, oI (0 : Int32), oI (3 : Int32), oI ch0, oI ch1, oI dh0, oI dh1, oR h0.size, .val .null, oR T2.heap.size, oI (0 : Int32)] [(.int (0 : Int32)), (.int (own_isN T2.heap.size kd w3 h0.size))])
        have hW : ¬ kd = w3 := fun q => own_pick_ne kk w0 w1 w2 w3 w4 c120_95 (F0.ne F3 (by decide)) (F1.ne F3 (by decide)) (F2.ne F3 (by decide)) (F4.ne F3 (by decide)) (hkd.trans q)
        have hfin : (own_isN T2.heap.size kd w3 h0.size) = (0 : Int32) := by rw [show (own_isN T2.heap.size kd w3 h0.size) = (0 : Int32) by rw [own_isN, if_neg hW]]
        refine own_by (fun t_ k_ => XS.icmpNo XT99.here hx rfl (hb hby at_172) rfl (XT.ii_ne_f hfin) k_) ?_
        show own_Go p e below _ T99 (mkF m 175 #[oI i0, oI i1, oI i2, oI i3, oI i4, oI i5, oI kk, oI (0 : Int32), oI (3 : Int32), oI ch0, oI ch1, oI dh0, oI dh1, oR h0.size, .val .null, oR T2.heap.size, oI (0 : Int32)] [])
        refine own_by (fun t_ k_ => XT.iconstV XT99.here hx rfl (1 : Int32) (hb hby at_175) (by decide) k_) ?_
        show own_Go p e below _ T99 (mkF m 176 #[oI i0, oI i1, oI i2, oI i3, oI i4, oI i5, oI kk, oI (0 : Int32), oI (3 : Int32), oI ch0, oI ch1, oI dh0, oI dh1, oR h0.size, .val .null, oR T2.heap.size, oI (0 : Int32)] [(.int (1 : Int32))])
        refine own_by (fun t_ k_ => XS.goto XT99.here hx rfl (pc0 := 176) (pc' := 180) rfl (hb hby at_176) (by decide) (by decide) k_) ?_
        show own_Go p e below _ T99 (mkF m 180 #[oI i0, oI i1, oI i2, oI i3, oI i4, oI i5, oI kk, oI (0 : Int32), oI (3 : Int32), oI ch0, oI ch1, oI dh0, oI dh1, oR h0.size, .val .null, oR T2.heap.size, oI (0 : Int32)] [(.int (1 : Int32))])
        exact own_retNW XT99 hx hlk hZ hEL hS eT99 hk0 hC hret (by simp) (w := (1 : Int32)) (hb hby at_180) (by decide) (by decide) (by decide) (⟨rfl, (N100).to (Nat.le_refl _)⟩)
  · subst hk
    show own_Go p e below _ T0 (mkF m 66 #[oI i0, oI i1, oI i2, oI i3, oI i4, oI i5, oI kk, oI (1 : Int32), oI wn, oI ch0, oI ch1, oI dh0, oI dh1, .unset, .unset, .unset, .unset] [])
    refine own_by (fun t_ k_ => XS.iload X0.here hx rfl (hb hby at_66) rfl  k_) ?_
    show own_Go p e below _ T0 (mkF m 68 #[oI i0, oI i1, oI i2, oI i3, oI i4, oI i5, oI kk, oI (1 : Int32), oI wn, oI ch0, oI ch1, oI dh0, oI dh1, .unset, .unset, .unset, .unset] [(.int (1 : Int32))])
    refine own_by (fun t_ k_ => XS.iload X0.here hx rfl (hb hby at_68) rfl  k_) ?_
    show own_Go p e below _ T0 (mkF m 70 #[oI i0, oI i1, oI i2, oI i3, oI i4, oI i5, oI kk, oI (1 : Int32), oI wn, oI ch0, oI ch1, oI dh0, oI dh1, .unset, .unset, .unset, .unset] [(.int ch0), (.int (1 : Int32))])
    refine own_by (fun t_ k_ => XS.iload X0.here hx rfl (hb hby at_70) rfl  k_) ?_
    show own_Go p e below _ T0 (mkF m 72 #[oI i0, oI i1, oI i2, oI i3, oI i4, oI i5, oI kk, oI (1 : Int32), oI wn, oI ch0, oI ch1, oI dh0, oI dh1, .unset, .unset, .unset, .unset] [(.int ch1), (.int ch0), (.int (1 : Int32))])
    have g101 : h0.size ≤ h0.size := K0.1
    refine own_callSW X0 hx hZ hEL hS e0 hk0 hC hown (hw _ (List.mem_of_getElem? (i := 0) rfl)) (hw _ (List.mem_of_getElem? (i := 1) rfl)) (hw _ (List.mem_of_getElem? (i := 2) rfl)) (hw _ (List.mem_of_getElem? (i := 3) rfl)) (by decide) (argsL := [(.int (1 : Int32)), (.int ch0), (.int ch1)]) (rest := []) (own_str_1 l Z a0 hw EL hEL ch0 ch1 h0 cs Cs hcs Bch0 Bch1 hmem) 0 (by decide) (by decide) (by rw [hml]; rfl) (lenOf pd_8 rfl) (Nat.le_of_eq rfl) (hb hby at_72) (by decide) (by decide) (st := [(.int ch1), (.int ch0), (.int (1 : Int32))]) rfl ?_
    rintro T102 LT102 vT102 ⟨XT102, hQT102, hS, hgT102, hZ, hown, hCT102⟩
    obtain ⟨rfl, KT102, NT102, ST102⟩ := hQT102
    show own_Go p e below _ T102 (mkF m 75 #[oI i0, oI i1, oI i2, oI i3, oI i4, oI i5, oI kk, oI (1 : Int32), oI wn, oI ch0, oI ch1, oI dh0, oI dh1, .unset, .unset, .unset, .unset] [(.ref h0.size)])
    have fq103_1 := own_stak Cs KT102
    have fq103_2 := own_stak S0 KT102
    have fq103_3 := own_stak S1 KT102
    have fq103_4 := own_stak S2 KT102
    have fq103_5 := own_stak S3 KT102
    have fq103_6 := own_stak S4 KT102
    have Kq103 := own_trans0 K0 KT102
    have hC := hCT102
    have hk0 := Nat.le_refl T102.heap.size
    obtain ⟨bT102, kbT102, EsT102, FvT102, FcT102, VT102⟩ := ST102
    have lt104 := EsT102.lt
    have lt105 := VT102.lt
    have N106 := own_Fr.app N0 (own_Fr.of NT102 (K0).1)
    refine own_by (fun t_ k_ => XS.astore XT102.here hx rfl (hb hby at_75) rfl rfl (l' := #[oI i0, oI i1, oI i2, oI i3, oI i4, oI i5, oI kk, oI (1 : Int32), oI wn, oI ch0, oI ch1, oI dh0, oI dh1, oR h0.size, .unset, .unset, .unset]) rfl k_) ?_
    show own_Go p e below _ T102 (mkF m 77 #[oI i0, oI i1, oI i2, oI i3, oI i4, oI i5, oI kk, oI (1 : Int32), oI wn, oI ch0, oI ch1, oI dh0, oI dh1, oR h0.size, .unset, .unset, .unset] [])
    rcases hwn with hk | hk | hk | hk
    · subst hk
      show own_Go p e below _ T102 (mkF m 77 #[oI i0, oI i1, oI i2, oI i3, oI i4, oI i5, oI kk, oI (1 : Int32), oI (0 : Int32), oI ch0, oI ch1, oI dh0, oI dh1, oR h0.size, .unset, .unset, .unset] [])
      refine own_by (fun t_ k_ => XS.iload XT102.here hx rfl (hb hby at_77) rfl  k_) ?_
      show own_Go p e below _ T102 (mkF m 79 #[oI i0, oI i1, oI i2, oI i3, oI i4, oI i5, oI kk, oI (1 : Int32), oI (0 : Int32), oI ch0, oI ch1, oI dh0, oI dh1, oR h0.size, .unset, .unset, .unset] [(.int (0 : Int32))])
      refine own_by (fun t_ k_ => XT.iconstV XT102.here hx rfl (3 : Int32) (hb hby at_79) (by decide) k_) ?_
      show own_Go p e below _ T102 (mkF m 80 #[oI i0, oI i1, oI i2, oI i3, oI i4, oI i5, oI kk, oI (1 : Int32), oI (0 : Int32), oI ch0, oI ch1, oI dh0, oI dh1, oR h0.size, .unset, .unset, .unset] [(.int (3 : Int32)), (.int (0 : Int32))])
      refine own_by (fun t_ k_ => XS.icmpYes XT102.here hx rfl (pc0 := 80) (pc' := 87) rfl (hb hby at_80) rfl (XT.ii_ne_t (by decide)) (by decide) (by decide) k_) ?_
      show own_Go p e below _ T102 (mkF m 87 #[oI i0, oI i1, oI i2, oI i3, oI i4, oI i5, oI kk, oI (1 : Int32), oI (0 : Int32), oI ch0, oI ch1, oI dh0, oI dh1, oR h0.size, .unset, .unset, .unset] [])
      refine own_by (fun t_ k_ => XS.iload XT102.here hx rfl (hb hby at_87) rfl  k_) ?_
      show own_Go p e below _ T102 (mkF m 89 #[oI i0, oI i1, oI i2, oI i3, oI i4, oI i5, oI kk, oI (1 : Int32), oI (0 : Int32), oI ch0, oI ch1, oI dh0, oI dh1, oR h0.size, .unset, .unset, .unset] [(.int (0 : Int32))])
      refine own_by (fun t_ k_ => XS.iload XT102.here hx rfl (hb hby at_89) rfl  k_) ?_
      show own_Go p e below _ T102 (mkF m 91 #[oI i0, oI i1, oI i2, oI i3, oI i4, oI i5, oI kk, oI (1 : Int32), oI (0 : Int32), oI ch0, oI ch1, oI dh0, oI dh1, oR h0.size, .unset, .unset, .unset] [(.int dh0), (.int (0 : Int32))])
      refine own_by (fun t_ k_ => XS.iload XT102.here hx rfl (hb hby at_91) rfl  k_) ?_
      show own_Go p e below _ T102 (mkF m 93 #[oI i0, oI i1, oI i2, oI i3, oI i4, oI i5, oI kk, oI (1 : Int32), oI (0 : Int32), oI ch0, oI ch1, oI dh0, oI dh1, oR h0.size, .unset, .unset, .unset] [(.int dh1), (.int dh0), (.int (0 : Int32))])
      have g107 : h0.size ≤ T102.heap.size := Kq103.1
      refine own_callSW XT102 hx hZ hEL hS (rfl : T102.heap = T102.heap) hk0 hC hown (hw _ (List.mem_of_getElem? (i := 0) rfl)) (hw _ (List.mem_of_getElem? (i := 1) rfl)) (hw _ (List.mem_of_getElem? (i := 2) rfl)) (hw _ (List.mem_of_getElem? (i := 3) rfl)) (by decide) (argsL := [(.int (0 : Int32)), (.int dh0), (.int dh1)]) (rest := []) (own_str_0 l Z a0 hw EL hEL dh0 dh1 T102.heap cs fq103_1 hcs Bdh0 Bdh1 hmem) 0 (by decide) (by decide) (by rw [hml]; rfl) (lenOf pd_8 rfl) (Nat.le_of_eq rfl) (hb hby at_93) (by decide) (by decide) (st := [(.int dh1), (.int dh0), (.int (0 : Int32))]) rfl ?_
      rintro T108 LT108 vT108 ⟨XT108, hQT108, hS, hgT108, hZ, hown, hCT108⟩
      obtain ⟨rfl, KT108, NT108, ST108⟩ := hQT108
      show own_Go p e below _ T108 (mkF m 96 #[oI i0, oI i1, oI i2, oI i3, oI i4, oI i5, oI kk, oI (1 : Int32), oI (0 : Int32), oI ch0, oI ch1, oI dh0, oI dh1, oR h0.size, .unset, .unset, .unset] [(.ref T102.heap.size)])
      have fq109_1 := own_stak fq103_1 KT108
      have fq109_2 := own_stak fq103_2 KT108
      have fq109_3 := own_stak fq103_3 KT108
      have fq109_4 := own_stak fq103_4 KT108
      have fq109_5 := own_stak fq103_5 KT108
      have fq109_6 := own_stak fq103_6 KT108
      have fq109_7 := EsT102.keep KT108
      have fq109_8 := FvT102.keep KT108 nin0
      have fq109_9 := FcT102.keep KT108 nin0
      have fq109_10 := VT102.keep KT108 nin0
      have lq109_0 := Nat.lt_of_lt_of_le lt104 KT108.1
      have lq109_1 := Nat.lt_of_lt_of_le lt105 KT108.1
      have Kq109 := own_trans0 Kq103 KT108
      have hC := hCT108
      have hk0 := Nat.le_refl T108.heap.size
      obtain ⟨bT108, kbT108, EsT108, FvT108, FcT108, VT108⟩ := ST108
      have lt110 := EsT108.lt
      have lt111 := VT108.lt
      have z112 : h0.size ≠ T102.heap.size := Nat.ne_of_lt lt104
      have z113 : bT102 ≠ T102.heap.size := Nat.ne_of_lt lt105
      have N114 := own_Fr.app N106 (own_Fr.of NT108 (Kq103).1)
      refine own_by (fun t_ k_ => XS.astore XT108.here hx rfl (hb hby at_96) rfl rfl (l' := #[oI i0, oI i1, oI i2, oI i3, oI i4, oI i5, oI kk, oI (1 : Int32), oI (0 : Int32), oI ch0, oI ch1, oI dh0, oI dh1, oR h0.size, oR T102.heap.size, .unset, .unset]) rfl k_) ?_
      show own_Go p e below _ T108 (mkF m 98 #[oI i0, oI i1, oI i2, oI i3, oI i4, oI i5, oI kk, oI (1 : Int32), oI (0 : Int32), oI ch0, oI ch1, oI dh0, oI dh1, oR h0.size, oR T102.heap.size, .unset, .unset] [])
      have g116 : h0.size ≤ T108.heap.size := Kq109.1
      refine own_new XT108 hx hZ hown (hw _ (List.mem_of_getElem? (i := 26) rfl)) (hw _ (List.mem_of_getElem? (i := 27) rfl)) (hw _ (List.mem_of_getElem? (i := 28) rfl)) (rfl : T108.heap = T108.heap) (hb hby at_98) (by decide) (by decide) ?_
      intro T115 hT115 XT115 eT115 ET115 AT115 DT115
      have fq117_1 := own_stak fq109_1 (own_ek ET115)
      have fq117_2 := own_stak fq109_2 (own_ek ET115)
      have fq117_3 := own_stak fq109_3 (own_ek ET115)
      have fq117_4 := own_stak fq109_4 (own_ek ET115)
      have fq117_5 := own_stak fq109_5 (own_ek ET115)
      have fq117_6 := own_stak fq109_6 (own_ek ET115)
      have fq117_7 := fq109_7.keep (own_ek ET115)
      have fq117_8 := fq109_8.keep (own_ek ET115) nin0
      have fq117_9 := fq109_9.keep (own_ek ET115) nin0
      have fq117_10 := fq109_10.keep (own_ek ET115) nin0
      have fq117_11 := EsT108.keep (own_ek ET115)
      have fq117_12 := FvT108.keep (own_ek ET115) nin0
      have fq117_13 := FcT108.keep (own_ek ET115) nin0
      have fq117_14 := VT108.keep (own_ek ET115) nin0
      have lq117_0 := Nat.lt_of_lt_of_le lq109_0 (own_ek ET115).1
      have lq117_1 := Nat.lt_of_lt_of_le lq109_1 (own_ek ET115).1
      have lq117_2 := Nat.lt_of_lt_of_le lt110 (own_ek ET115).1
      have lq117_3 := Nat.lt_of_lt_of_le lt111 (own_ek ET115).1
      have hC := hC.trans (CHr.keep (own_ek ET115) (fun _ q => by cases q) hC.1)
      have hk0 := Nat.le_trans hk0 (own_ek ET115).1
      have Kq117 := own_trans0 Kq109 (own_ek ET115)
      have z118 : h0.size ≠ T108.heap.size := Nat.ne_of_lt lq109_0
      have z119 : bT102 ≠ T108.heap.size := Nat.ne_of_lt lq109_1
      have z120 : T102.heap.size ≠ T108.heap.size := Nat.ne_of_lt lt110
      have z121 : bT108 ≠ T108.heap.size := Nat.ne_of_lt lt111
      have FT115_kind : Fld Z hT115 T108.heap.size "com/example/nimble_gate/nimblegate/policy/Token" "kind" "Lcom/example/nimble_gate/nimblegate/policy/Token$Kind;" .null := DT115 (ty := (.object "com/example/nimble_gate/nimblegate/policy/Token$Kind")) (Or.inr (hw _ (List.mem_of_getElem? (i := 45) rfl))) (by decide +kernel)
      have FT115_text : Fld Z hT115 T108.heap.size "com/example/nimble_gate/nimblegate/policy/Token" "text" "Ljava/lang/String;" .null := DT115 (ty := (.object "java/lang/String")) (Or.inr (hw _ (List.mem_of_getElem? (i := 47) rfl))) (by decide +kernel)
      have FT115_line : Fld Z hT115 T108.heap.size "com/example/nimble_gate/nimblegate/policy/Token" "line" "I" (.int 0) := DT115 (ty := .int) (Or.inr (hw _ (List.mem_of_getElem? (i := 49) rfl))) (by decide +kernel)
      have FT115_column : Fld Z hT115 T108.heap.size "com/example/nimble_gate/nimblegate/policy/Token" "column" "I" (.int 0) := DT115 (ty := .int) (Or.inr (hw _ (List.mem_of_getElem? (i := 51) rfl))) (by decide +kernel)
      clear DT115
      have lt122 := AT115.lt
      show own_Go p e below _ T115 (mkF m 101 #[oI i0, oI i1, oI i2, oI i3, oI i4, oI i5, oI kk, oI (1 : Int32), oI (0 : Int32), oI ch0, oI ch1, oI dh0, oI dh1, oR h0.size, oR T102.heap.size, .unset, .unset] [(.ref T108.heap.size)])
      refine own_by (fun t_ k_ => XS.dup XT115.here hx rfl (hb hby at_101) rfl rfl k_) ?_
      show own_Go p e below _ T115 (mkF m 102 #[oI i0, oI i1, oI i2, oI i3, oI i4, oI i5, oI kk, oI (1 : Int32), oI (0 : Int32), oI ch0, oI ch1, oI dh0, oI dh1, oR h0.size, oR T102.heap.size, .unset, .unset] [(.ref T108.heap.size), (.ref T108.heap.size)])
      refine own_by (fun t_ k_ => XS.iload XT115.here hx rfl (hb hby at_102) rfl  k_) ?_
      show own_Go p e below _ T115 (mkF m 104 #[oI i0, oI i1, oI i2, oI i3, oI i4, oI i5, oI kk, oI (1 : Int32), oI (0 : Int32), oI ch0, oI ch1, oI dh0, oI dh1, oR h0.size, oR T102.heap.size, .unset, .unset] [(.int kk), (.ref T108.heap.size), (.ref T108.heap.size)])
      refine own_callS XT115 hx hZ hown (hw _ (List.mem_of_getElem? (i := 29) rfl)) (hw _ (List.mem_of_getElem? (i := 30) rfl)) (hw _ (List.mem_of_getElem? (i := 2) rfl)) (hw _ (List.mem_of_getElem? (i := 31) rfl)) (by decide) eT115 (argsL := [(.int kk)]) (rest := [(.ref T108.heap.size), (.ref T108.heap.size)]) (own_pick_met l Z a0 hw kk w0 w1 w2 w3 w4 hT115 ⟨fq117_2, fq117_3, fq117_4, fq117_5, fq117_6⟩) 2 (by decide) (by decide) (by rw [hml]; rfl) (lenOf pd_9 rfl) (Nat.le_of_eq rfl) (hb hby at_104) (by decide) (by decide) (st := [(.int kk), (.ref T108.heap.size), (.ref T108.heap.size)]) rfl ?_
      intro T123 LT123 vT123 XT123 hQT123
      obtain ⟨rfl, eT123, rfl⟩ := hQT123
      show own_Go p e below _ T123 (mkF m 107 #[oI i0, oI i1, oI i2, oI i3, oI i4, oI i5, oI kk, oI (1 : Int32), oI (0 : Int32), oI ch0, oI ch1, oI dh0, oI dh1, oR h0.size, oR T102.heap.size, .unset, .unset] [(.ref (own_pick kk w0 w1 w2 w3 w4)), (.ref T108.heap.size), (.ref T108.heap.size)])
      have N124 := own_Fr.app N114 own_Fr.nil
      generalize hkd : (own_pick kk w0 w1 w2 w3 w4) = kd
      show own_Go p e below _ T123 (mkF m 107 #[oI i0, oI i1, oI i2, oI i3, oI i4, oI i5, oI kk, oI (1 : Int32), oI (0 : Int32), oI ch0, oI ch1, oI dh0, oI dh1, oR h0.size, oR T102.heap.size, .unset, .unset] [(.ref kd), (.ref T108.heap.size), (.ref T108.heap.size)])
      refine own_by (fun t_ k_ => XS.aload XT123.here hx rfl (hb hby at_107) rfl rfl  k_) ?_
      show own_Go p e below _ T123 (mkF m 109 #[oI i0, oI i1, oI i2, oI i3, oI i4, oI i5, oI kk, oI (1 : Int32), oI (0 : Int32), oI ch0, oI ch1, oI dh0, oI dh1, oR h0.size, oR T102.heap.size, .unset, .unset] [(.ref h0.size), (.ref kd), (.ref T108.heap.size), (.ref T108.heap.size)])
      refine own_by (fun t_ k_ => XS.iload XT123.here hx rfl (hb hby at_109) rfl  k_) ?_
      show own_Go p e below _ T123 (mkF m 111 #[oI i0, oI i1, oI i2, oI i3, oI i4, oI i5, oI kk, oI (1 : Int32), oI (0 : Int32), oI ch0, oI ch1, oI dh0, oI dh1, oR h0.size, oR T102.heap.size, .unset, .unset] [(.int i5), (.ref h0.size), (.ref kd), (.ref T108.heap.size), (.ref T108.heap.size)])
      refine own_by (fun t_ k_ => XS.iloadN XT123.here hx rfl (hb hby at_111) rfl  k_) ?_
      show own_Go p e below _ T123 (mkF m 112 #[oI i0, oI i1, oI i2, oI i3, oI i4, oI i5, oI kk, oI (1 : Int32), oI (0 : Int32), oI ch0, oI ch1, oI dh0, oI dh1, oR h0.size, oR T102.heap.size, .unset, .unset] [(.int i0), (.int i5), (.ref h0.size), (.ref kd), (.ref T108.heap.size), (.ref T108.heap.size)])
      refine own_callN XT123 hx hZ rfl hown (hw _ (List.mem_of_getElem? (i := 35) rfl)) (hw _ (List.mem_of_getElem? (i := 36) rfl)) (hw _ (List.mem_of_getElem? (i := 37) rfl)) (hw _ (List.mem_of_getElem? (i := 28) rfl)) (by decide) eT123 (b := T108.heap.size) (argsL := [(.ref kd), (.ref h0.size), (.int i5), (.int i0)]) (rest := [(.ref T108.heap.size)]) (own_tok l Z a0 hw T108.heap.size kd h0.size i5 i0 hT115 AT115 FT115_kind FT115_text FT115_line FT115_column) 1 (by decide) (by decide) (by rw [hml]; rfl) (lenOf pd_10 rfl) (Nat.le_of_eq rfl) (hb hby at_112) (by decide) (by decide) (st := [(.int i0), (.int i5), (.ref h0.size), (.ref kd), (.ref T108.heap.size), (.ref T108.heap.size)]) rfl ?_
      intro T125 LT125 vT125 XT125 hQT125
      obtain ⟨rfl, KT125, NT125, FkT125, FtT125⟩ := hQT125
      show own_Go p e below _ T125 (mkF m 115 #[oI i0, oI i1, oI i2, oI i3, oI i4, oI i5, oI kk, oI (1 : Int32), oI (0 : Int32), oI ch0, oI ch1, oI dh0, oI dh1, oR h0.size, oR T102.heap.size, .unset, .unset] [(.ref T108.heap.size)])
      have fq126_1 := own_stak1 fq117_1 KT125 AT115
      have fq126_2 := own_stak1 fq117_2 KT125 AT115
      have fq126_3 := own_stak1 fq117_3 KT125 AT115
      have fq126_4 := own_stak1 fq117_4 KT125 AT115
      have fq126_5 := own_stak1 fq117_5 KT125 AT115
      have fq126_6 := own_stak1 fq117_6 KT125 AT115
      have fq126_7 := fq117_7.keep KT125
      have fq126_8 := fq117_8.keep KT125 (own_nin z118)
      have fq126_9 := fq117_9.keep KT125 (own_nin z118)
      have fq126_10 := fq117_10.keep KT125 (own_nin z119)
      have fq126_11 := fq117_11.keep KT125
      have fq126_12 := fq117_12.keep KT125 (own_nin z120)
      have fq126_13 := fq117_13.keep KT125 (own_nin z120)
      have fq126_14 := fq117_14.keep KT125 (own_nin z121)
      have fq126_15 := AT115.keep KT125
      have lq126_0 := Nat.lt_of_lt_of_le lq117_0 KT125.1
      have lq126_1 := Nat.lt_of_lt_of_le lq117_1 KT125.1
      have lq126_2 := Nat.lt_of_lt_of_le lq117_2 KT125.1
      have lq126_3 := Nat.lt_of_lt_of_le lq117_3 KT125.1
      have lq126_4 := Nat.lt_of_lt_of_le lt122 KT125.1
      have hC := hC.trans (CHr.keep KT125 (fun _ q => by cases List.mem_singleton.mp q; exact (Safe.exa hZ.alike AT115 (by decide) (by decide))) hC.1)
      have hk0 := Nat.le_trans hk0 KT125.1
      have Kq126 := own_trans1 Kq117 KT125 (Or.inr g116)
      have N127 := own_Fr.app N124 (own_Fr.of (own_Fr.new NT125 g116 (Kq117).1) (Nat.le_refl _))
      refine own_by (fun t_ k_ => XS.astore XT125.here hx rfl (hb hby at_115) rfl rfl (l' := #[oI i0, oI i1, oI i2, oI i3, oI i4, oI i5, oI kk, oI (1 : Int32), oI (0 : Int32), oI ch0, oI ch1, oI dh0, oI dh1, oR h0.size, oR T102.heap.size, oR T108.heap.size, .unset]) rfl k_) ?_
      show own_Go p e below _ T125 (mkF m 117 #[oI i0, oI i1, oI i2, oI i3, oI i4, oI i5, oI kk, oI (1 : Int32), oI (0 : Int32), oI ch0, oI ch1, oI dh0, oI dh1, oR h0.size, oR T102.heap.size, oR T108.heap.size, .unset] [])
      refine own_by (fun t_ k_ => XS.iload XT125.here hx rfl (hb hby at_117) rfl  k_) ?_
      show own_Go p e below _ T125 (mkF m 119 #[oI i0, oI i1, oI i2, oI i3, oI i4, oI i5, oI kk, oI (1 : Int32), oI (0 : Int32), oI ch0, oI ch1, oI dh0, oI dh1, oR h0.size, oR T102.heap.size, oR T108.heap.size, .unset] [(.int kk)])
      refine own_by (fun t_ k_ => XT.iconstV XT125.here hx rfl (3 : Int32) (hb hby at_119) (by decide) k_) ?_
      show own_Go p e below _ T125 (mkF m 120 #[oI i0, oI i1, oI i2, oI i3, oI i4, oI i5, oI kk, oI (1 : Int32), oI (0 : Int32), oI ch0, oI ch1, oI dh0, oI dh1, oR h0.size, oR T102.heap.size, oR T108.heap.size, .unset] [(.int (3 : Int32)), (.int kk)])
      by_cases c120_127 : kk = (3 : Int32)
      · refine own_by (fun t_ k_ => XS.icmpNo XT125.here hx rfl (hb hby at_120) rfl (XT.ii_ne_f c120_127) k_) ?_
        show own_Go p e below _ T125 (mkF m 123 #[oI i0, oI i1, oI i2, oI i3, oI i4, oI i5, oI kk, oI (1 : Int32), oI (0 : Int32), oI ch0, oI ch1, oI dh0, oI dh1, oR h0.size, oR T102.heap.size, oR T108.heap.size, .unset] [])
        refine own_by (fun t_ k_ => XS.iload XT125.here hx rfl (hb hby at_123) rfl  k_) ?_
        show own_Go p e below _ T125 (mkF m 125 #[oI i0, oI i1, oI i2, oI i3, oI i4, oI i5, oI kk, oI (1 : Int32), oI (0 : Int32), oI ch0, oI ch1, oI dh0, oI dh1, oR h0.size, oR T102.heap.size, oR T108.heap.size, .unset] [(.int (0 : Int32))])
        refine own_by (fun t_ k_ => XS.iload XT125.here hx rfl (hb hby at_125) rfl  k_) ?_
        show own_Go p e below _ T125 (mkF m 127 #[oI i0, oI i1, oI i2, oI i3, oI i4, oI i5, oI kk, oI (1 : Int32), oI (0 : Int32), oI ch0, oI ch1, oI dh0, oI dh1, oR h0.size, oR T102.heap.size, oR T108.heap.size, .unset] [(.int (1 : Int32)), (.int (0 : Int32))])
        refine own_by (fun t_ k_ => XS.icmpYes XT125.here hx rfl (pc0 := 127) (pc' := 160) rfl (hb hby at_127) rfl (XT.ii_ne_t (by decide)) (by decide) (by decide) k_) ?_
        show own_Go p e below _ T125 (mkF m 160 #[oI i0, oI i1, oI i2, oI i3, oI i4, oI i5, oI kk, oI (1 : Int32), oI (0 : Int32), oI ch0, oI ch1, oI dh0, oI dh1, oR h0.size, oR T102.heap.size, oR T108.heap.size, .unset] [])
        refine own_by (fun t_ k_ => XT.iconstV XT125.here hx rfl (0 : Int32) (hb hby at_160) (by decide) k_) ?_
        show own_Go p e below _ T125 (mkF m 161 #[oI i0, oI i1, oI i2, oI i3, oI i4, oI i5, oI kk, oI (1 : Int32), oI (0 : Int32), oI ch0, oI ch1, oI dh0, oI dh1, oR h0.size, oR T102.heap.size, oR T108.heap.size, .unset] [(.int (0 : Int32))])
        refine own_by (fun t_ k_ => XS.istore XT125.here hx rfl (hb hby at_161) rfl (l' := #[oI i0, oI i1, oI i2, oI i3, oI i4, oI i5, oI kk, oI (1 : Int32), oI (0 : Int32), oI ch0, oI ch1, oI dh0, oI dh1, oR h0.size, oR T102.heap.size, oR T108.heap.size, oI (0 : Int32)]) rfl k_) ?_
        show own_Go p e below _ T125 (mkF m 163 #[oI i0, oI i1, oI i2, oI i3, oI i4, oI i5, oI kk, oI (1 : Int32), oI (0 : Int32), oI ch0, oI ch1, oI dh0, oI dh1, oR h0.size, oR T102.heap.size, oR T108.heap.size, oI (0 : Int32)] [])
        refine own_by (fun t_ k_ => XS.aload XT125.here hx rfl (hb hby at_163) rfl rfl  k_) ?_
        show own_Go p e below _ T125 (mkF m 165 #[oI i0, oI i1, oI i2, oI i3, oI i4, oI i5, oI kk, oI (1 : Int32), oI (0 : Int32), oI ch0, oI ch1, oI dh0, oI dh1, oR h0.size, oR T102.heap.size, oR T108.heap.size, oI (0 : Int32)] [(.ref T108.heap.size)])
        refine own_by (fun t_ k_ => XS.aload XT125.here hx rfl (hb hby at_165) rfl rfl  k_) ?_
        show own_Go p e below _ T125 (mkF m 167 #[oI i0, oI i1, oI i2, oI i3, oI i4, oI i5, oI kk, oI (1 : Int32), oI (0 : Int32), oI ch0, oI ch1, oI dh0, oI dh1, oR h0.size, oR T102.heap.size, oR T108.heap.size, oI (0 : Int32)] [(.ref T102.heap.size), (.ref T108.heap.size)])
        refine own_callV XT125 hx hZ hown (hw _ (List.mem_of_getElem? (i := 52) rfl)) (hw _ (List.mem_of_getElem? (i := 53) rfl)) (hw _ (List.mem_of_getElem? (i := 55) rfl)) (hw _ (List.mem_of_getElem? (i := 54) rfl)) (hw _ (List.mem_of_getElem? (i := 56) rfl)) (hw _ (List.mem_of_getElem? (i := 28) rfl)) (by decide) (rfl : T125.heap = T125.heap) (b := T108.heap.size) fq126_15 (argsL := [(.ref T102.heap.size)]) (rest := []) (own_is_1_0_met l Z a0 hw T108.heap.size T102.heap.size kd w3 h0.size bT102 bT108 kbT102 kbT108 (ch0.toInt8.toInt32) T125.heap cs fq126_1 hcs z112 fq126_5 FkT125 FtT125 fq126_7 fq126_8 fq126_9 fq126_10 fq126_11 fq126_12 fq126_13 fq126_14) 0 (by decide) (by decide) (by rw [hml]; rfl) (lenOf pd_11 rfl) (Nat.le_of_eq rfl) (hb hby at_167) (by decide) (by decide) (st := [(.ref T102.heap.size), (.ref T108.heap.size)]) rfl ?_
        intro T129 LT129 vT129 XT129 hQT129
        obtain ⟨rfl, eT129, rfl⟩ := hQT129
        show own_Go p e below _ T129 (mkF m 170 #[oI i0, oI i1, oI i2, oI i3, oI i4, oI i5, oI kk, oI (1 : Int32), oI (0 : Int32), oI ch0, oI ch1, oI dh0, oI dh1, oR h0.size, oR T102.heap.size, oR T108.heap.size, oI (0 : Int32)] [(.int (own_is_1_0 T108.heap.size T102.heap.size kd w3 h0.size bT102 bT108 kbT102 kbT108 (ch0.toInt8.toInt32)))])
        have N130 := own_Fr.app N127 own_Fr.nil
        refine own_by (fun t_ k_ => XS.iload XT129.here hx rfl (hb hby at_170) rfl  k_) ?_
        show own_Go p e below _ T129 (mkF m 172 #[oI i0, oI i1, oI i2, oI i3, oI i4, oI i5, oI kk, oI (1 : Int32), oI (0 : Int32), oI ch0, oI ch1, oI dh0, oI dh1, oR h0.size, oR T102.heap.size, oR T108.heap.size, oI (0 : Int32)] [(.int (0 : Int32)), (.int (own_is_1_0 T108.heap.size T102.heap.size kd w3 h0.size bT102 bT108 kbT102 kbT108 (ch0.toInt8.toInt32)))])
        have hW : kd = w3 := hkd.symm.trans (by rw [own_pick, c120_127, if_neg (by decide), if_neg (by decide), if_neg (by decide), if_pos (by decide)])
        have hfin : (own_is_1_0 T108.heap.size T102.heap.size kd w3 h0.size bT102 bT108 kbT102 kbT108 (ch0.toInt8.toInt32)) = (0 : Int32) := by rw [show (own_is_1_0 T108.heap.size T102.heap.size kd w3 h0.size bT102 bT108 kbT102 kbT108 (ch0.toInt8.toInt32)) = (0 : Int32) by rw [own_is_1_0, if_pos hW, if_pos (by rw [show (own_eq_1_0 h0.size T102.heap.size bT102 bT108 kbT102 kbT108 (ch0.toInt8.toInt32)) = (0 : Int32) by rw [own_eq_1_0, if_pos (by rw [show (own_le_1_0 bT102 bT108 kbT102 kbT108 (ch0.toInt8.toInt32)) = (0 : Int32) by rw [own_le_1_0]])]])]]
        refine own_by (fun t_ k_ => XS.icmpNo XT129.here hx rfl (hb hby at_172) rfl (XT.ii_ne_f hfin) k_) ?_
        show own_Go p e below _ T129 (mkF m 175 #[oI i0, oI i1, oI i2, oI i3, oI i4, oI i5, oI kk, oI (1 : Int32), oI (0 : Int32), oI ch0, oI ch1, oI dh0, oI dh1, oR h0.size, oR T102.heap.size, oR T108.heap.size, oI (0 : Int32)] [])
        refine own_by (fun t_ k_ => XT.iconstV XT129.here hx rfl (1 : Int32) (hb hby at_175) (by decide) k_) ?_
        show own_Go p e below _ T129 (mkF m 176 #[oI i0, oI i1, oI i2, oI i3, oI i4, oI i5, oI kk, oI (1 : Int32), oI (0 : Int32), oI ch0, oI ch1, oI dh0, oI dh1, oR h0.size, oR T102.heap.size, oR T108.heap.size, oI (0 : Int32)] [(.int (1 : Int32))])
        refine own_by (fun t_ k_ => XS.goto XT129.here hx rfl (pc0 := 176) (pc' := 180) rfl (hb hby at_176) (by decide) (by decide) k_) ?_
        show own_Go p e below _ T129 (mkF m 180 #[oI i0, oI i1, oI i2, oI i3, oI i4, oI i5, oI kk, oI (1 : Int32), oI (0 : Int32), oI ch0, oI ch1, oI dh0, oI dh1, oR h0.size, oR T102.heap.size, oR T108.heap.size, oI (0 : Int32)] [(.int (1 : Int32))])
        exact own_retNW XT129 hx hlk hZ hEL hS eT129 hk0 hC hret (by simp) (w := (1 : Int32)) (hb hby at_180) (by decide) (by decide) (by decide) (⟨rfl, (N130).to (Nat.le_refl _)⟩)
      · refine own_by (fun t_ k_ => XS.icmpYes XT125.here hx rfl (pc0 := 120) (pc' := 160) rfl (hb hby at_120) rfl (XT.ii_ne_t c120_127) (by decide) (by decide) k_) ?_
        show own_Go p e below _ T125 (mkF m 160 #[oI i0, oI i1, oI i2, oI i3, oI i4, oI i5, oI kk, oI (1 : Int32), oI (0 : Int32), oI ch0, oI ch1, oI dh0, oI dh1, oR h0.size, oR T102.heap.size, oR T108.heap.size, .unset] [])
        refine own_by (fun t_ k_ => XT.iconstV XT125.here hx rfl (0 : Int32) (hb hby at_160) (by decide) k_) ?_
        show own_Go p e below _ T125 (mkF m 161 #[oI i0, oI i1, oI i2, oI i3, oI i4, oI i5, oI kk, oI (1 : Int32), oI (0 : Int32), oI ch0, oI ch1, oI dh0, oI dh1, oR h0.size, oR T102.heap.size, oR T108.heap.size, .unset] [(.int (0 : Int32))])
        refine own_by (fun t_ k_ => XS.istore XT125.here hx rfl (hb hby at_161) rfl (l' := #[oI i0, oI i1, oI i2, oI i3, oI i4, oI i5, oI kk, oI (1 : Int32), oI (0 : Int32), oI ch0, oI ch1, oI dh0, oI dh1, oR h0.size, oR T102.heap.size, oR T108.heap.size, oI (0 : Int32)]) rfl k_) ?_
        show own_Go p e below _ T125 (mkF m 163 #[oI i0, oI i1, oI i2, oI i3, oI i4, oI i5, oI kk, oI (1 : Int32), oI (0 : Int32), oI ch0, oI ch1, oI dh0, oI dh1, oR h0.size, oR T102.heap.size, oR T108.heap.size, oI (0 : Int32)] [])
        refine own_by (fun t_ k_ => XS.aload XT125.here hx rfl (hb hby at_163) rfl rfl  k_) ?_
        show own_Go p e below _ T125 (mkF m 165 #[oI i0, oI i1, oI i2, oI i3, oI i4, oI i5, oI kk, oI (1 : Int32), oI (0 : Int32), oI ch0, oI ch1, oI dh0, oI dh1, oR h0.size, oR T102.heap.size, oR T108.heap.size, oI (0 : Int32)] [(.ref T108.heap.size)])
        refine own_by (fun t_ k_ => XS.aload XT125.here hx rfl (hb hby at_165) rfl rfl  k_) ?_
        show own_Go p e below _ T125 (mkF m 167 #[oI i0, oI i1, oI i2, oI i3, oI i4, oI i5, oI kk, oI (1 : Int32), oI (0 : Int32), oI ch0, oI ch1, oI dh0, oI dh1, oR h0.size, oR T102.heap.size, oR T108.heap.size, oI (0 : Int32)] [(.ref T102.heap.size), (.ref T108.heap.size)])
        refine own_callV XT125 hx hZ hown (hw _ (List.mem_of_getElem? (i := 52) rfl)) (hw _ (List.mem_of_getElem? (i := 53) rfl)) (hw _ (List.mem_of_getElem? (i := 55) rfl)) (hw _ (List.mem_of_getElem? (i := 54) rfl)) (hw _ (List.mem_of_getElem? (i := 56) rfl)) (hw _ (List.mem_of_getElem? (i := 28) rfl)) (by decide) (rfl : T125.heap = T125.heap) (b := T108.heap.size) fq126_15 (argsL := [(.ref T102.heap.size)]) (rest := []) (own_is_1_0_met l Z a0 hw T108.heap.size T102.heap.size kd w3 h0.size bT102 bT108 kbT102 kbT108 (ch0.toInt8.toInt32) T125.heap cs fq126_1 hcs z112 fq126_5 FkT125 FtT125 fq126_7 fq126_8 fq126_9 fq126_10 fq126_11 fq126_12 fq126_13 fq126_14) 0 (by decide) (by decide) (by rw [hml]; rfl) (lenOf pd_11 rfl) (Nat.le_of_eq rfl) (hb hby at_167) (by decide) (by decide) (st := [(.ref T102.heap.size), (.ref T108.heap.size)]) rfl ?_
        intro T131 LT131 vT131 XT131 hQT131
        obtain ⟨rfl, eT131, rfl⟩ := hQT131
        show own_Go p e below _ T131 (mkF m 170 #[oI i0, oI i1, oI i2, oI i3, oI i4, oI i5, oI kk, oI (1 : Int32), oI (0 : Int32), oI ch0, oI ch1, oI dh0, oI dh1, oR h0.size, oR T102.heap.size, oR T108.heap.size, oI (0 : Int32)] [(.int (own_is_1_0 T108.heap.size T102.heap.size kd w3 h0.size bT102 bT108 kbT102 kbT108 (ch0.toInt8.toInt32)))])
        have N132 := own_Fr.app N127 own_Fr.nil
        refine own_by (fun t_ k_ => XS.iload XT131.here hx rfl (hb hby at_170) rfl  k_) ?_
        show own_Go p e below _ T131 (mkF m 172 #[oI i0, oI i1, oI i2, oI i3, oI i4, oI i5, oI kk, oI (1 : Int32), oI (0 : Int32), oI ch0, oI ch1, oI dh0, oI dh1, oR h0.size, oR T102.heap.size, oR T108.heap.size, oI (0 : Int32)] [(.int (0 : Int32)), (.int (own_is_1_0 T108.heap.size T102.heap.size kd w3 h0.size bT102 bT108 kbT102 kbT108 (ch0.toInt8.toInt32)))])
        have hW : ¬ kd = w3 := fun q => own_pick_ne kk w0 w1 w2 w3 w4 c120_127 (F0.ne F3 (by decide)) (F1.ne F3 (by decide)) (F2.ne F3 (by decide)) (F4.ne F3 (by decide)) (hkd.trans q)
        have hfin : (own_is_1_0 T108.heap.size T102.heap.size kd w3 h0.size bT102 bT108 kbT102 kbT108 (ch0.toInt8.toInt32)) = (0 : Int32) := by rw [show (own_is_1_0 T108.heap.size T102.heap.size kd w3 h0.size bT102 bT108 kbT102 kbT108 (ch0.toInt8.toInt32)) = (0 : Int32) by rw [own_is_1_0, if_neg hW]]
        refine own_by (fun t_ k_ => XS.icmpNo XT131.here hx rfl (hb hby at_172) rfl (XT.ii_ne_f hfin) k_) ?_
        show own_Go p e below _ T131 (mkF m 175 #[oI i0, oI i1, oI i2, oI i3, oI i4, oI i5, oI kk, oI (1 : Int32), oI (0 : Int32), oI ch0, oI ch1, oI dh0, oI dh1, oR h0.size, oR T102.heap.size, oR T108.heap.size, oI (0 : Int32)] [])
        refine own_by (fun t_ k_ => XT.iconstV XT131.here hx rfl (1 : Int32) (hb hby at_175) (by decide) k_) ?_
        show own_Go p e below _ T131 (mkF m 176 #[oI i0, oI i1, oI i2, oI i3, oI i4, oI i5, oI kk, oI (1 : Int32), oI (0 : Int32), oI ch0, oI ch1, oI dh0, oI dh1, oR h0.size, oR T102.heap.size, oR T108.heap.size, oI (0 : Int32)] [(.int (1 : Int32))])
        refine own_by (fun t_ k_ => XS.goto XT131.here hx rfl (pc0 := 176) (pc' := 180) rfl (hb hby at_176) (by decide) (by decide) k_) ?_
        show own_Go p e below _ T131 (mkF m 180 #[oI i0, oI i1, oI i2, oI i3, oI i4, oI i5, oI kk, oI (1 : Int32), oI (0 : Int32), oI ch0, oI ch1, oI dh0, oI dh1, oR h0.size, oR T102.heap.size, oR T108.heap.size, oI (0 : Int32)] [(.int (1 : Int32))])
        exact own_retNW XT131 hx hlk hZ hEL hS eT131 hk0 hC hret (by simp) (w := (1 : Int32)) (hb hby at_180) (by decide) (by decide) (by decide) (⟨rfl, (N132).to (Nat.le_refl _)⟩)
    · subst hk
      show own_Go p e below _ T102 (mkF m 77 #[oI i0, oI i1, oI i2, oI i3, oI i4, oI i5, oI kk, oI (1 : Int32), oI (1 : Int32), oI ch0, oI ch1, oI dh0, oI dh1, oR h0.size, .unset, .unset, .unset] [])
      refine own_by (fun t_ k_ => XS.iload XT102.here hx rfl (hb hby at_77) rfl  k_) ?_
      show own_Go p e below _ T102 (mkF m 79 #[oI i0, oI i1, oI i2, oI i3, oI i4, oI i5, oI kk, oI (1 : Int32), oI (1 : Int32), oI ch0, oI ch1, oI dh0, oI dh1, oR h0.size, .unset, .unset, .unset] [(.int (1 : Int32))])
      refine own_by (fun t_ k_ => XT.iconstV XT102.here hx rfl (3 : Int32) (hb hby at_79) (by decide) k_) ?_
      show own_Go p e below _ T102 (mkF m 80 #[oI i0, oI i1, oI i2, oI i3, oI i4, oI i5, oI kk, oI (1 : Int32), oI (1 : Int32), oI ch0, oI ch1, oI dh0, oI dh1, oR h0.size, .unset, .unset, .unset] [(.int (3 : Int32)), (.int (1 : Int32))])
      refine own_by (fun t_ k_ => XS.icmpYes XT102.here hx rfl (pc0 := 80) (pc' := 87) rfl (hb hby at_80) rfl (XT.ii_ne_t (by decide)) (by decide) (by decide) k_) ?_
      show own_Go p e below _ T102 (mkF m 87 #[oI i0, oI i1, oI i2, oI i3, oI i4, oI i5, oI kk, oI (1 : Int32), oI (1 : Int32), oI ch0, oI ch1, oI dh0, oI dh1, oR h0.size, .unset, .unset, .unset] [])
      refine own_by (fun t_ k_ => XS.iload XT102.here hx rfl (hb hby at_87) rfl  k_) ?_
      show own_Go p e below _ T102 (mkF m 89 #[oI i0, oI i1, oI i2, oI i3, oI i4, oI i5, oI kk, oI (1 : Int32), oI (1 : Int32), oI ch0, oI ch1, oI dh0, oI dh1, oR h0.size, .unset, .unset, .unset] [(.int (1 : Int32))])
      refine own_by (fun t_ k_ => XS.iload XT102.here hx rfl (hb hby at_89) rfl  k_) ?_
      show own_Go p e below _ T102 (mkF m 91 #[oI i0, oI i1, oI i2, oI i3, oI i4, oI i5, oI kk, oI (1 : Int32), oI (1 : Int32), oI ch0, oI ch1, oI dh0, oI dh1, oR h0.size, .unset, .unset, .unset] [(.int dh0), (.int (1 : Int32))])
      refine own_by (fun t_ k_ => XS.iload XT102.here hx rfl (hb hby at_91) rfl  k_) ?_
      show own_Go p e below _ T102 (mkF m 93 #[oI i0, oI i1, oI i2, oI i3, oI i4, oI i5, oI kk, oI (1 : Int32), oI (1 : Int32), oI ch0, oI ch1, oI dh0, oI dh1, oR h0.size, .unset, .unset, .unset] [(.int dh1), (.int dh0), (.int (1 : Int32))])
      have g133 : h0.size ≤ T102.heap.size := Kq103.1
      refine own_callSW XT102 hx hZ hEL hS (rfl : T102.heap = T102.heap) hk0 hC hown (hw _ (List.mem_of_getElem? (i := 0) rfl)) (hw _ (List.mem_of_getElem? (i := 1) rfl)) (hw _ (List.mem_of_getElem? (i := 2) rfl)) (hw _ (List.mem_of_getElem? (i := 3) rfl)) (by decide) (argsL := [(.int (1 : Int32)), (.int dh0), (.int dh1)]) (rest := []) (own_str_1 l Z a0 hw EL hEL dh0 dh1 T102.heap cs fq103_1 hcs Bdh0 Bdh1 hmem) 0 (by decide) (by decide) (by rw [hml]; rfl) (lenOf pd_8 rfl) (Nat.le_of_eq rfl) (hb hby at_93) (by decide) (by decide) (st := [(.int dh1), (.int dh0), (.int (1 : Int32))]) rfl ?_
      rintro T134 LT134 vT134 ⟨XT134, hQT134, hS, hgT134, hZ, hown, hCT134⟩
      obtain ⟨rfl, KT134, NT134, ST134⟩ := hQT134
      show own_Go p e below _ T134 (mkF m 96 #[oI i0, oI i1, oI i2, oI i3, oI i4, oI i5, oI kk, oI (1 : Int32), oI (1 : Int32), oI ch0, oI ch1, oI dh0, oI dh1, oR h0.size, .unset, .unset, .unset] [(.ref T102.heap.size)])
      have fq135_1 := own_stak fq103_1 KT134
      have fq135_2 := own_stak fq103_2 KT134
      have fq135_3 := own_stak fq103_3 KT134
      have fq135_4 := own_stak fq103_4 KT134
      have fq135_5 := own_stak fq103_5 KT134
      have fq135_6 := own_stak fq103_6 KT134
      have fq135_7 := EsT102.keep KT134
      have fq135_8 := FvT102.keep KT134 nin0
      have fq135_9 := FcT102.keep KT134 nin0
      have fq135_10 := VT102.keep KT134 nin0
      have lq135_0 := Nat.lt_of_lt_of_le lt104 KT134.1
      have lq135_1 := Nat.lt_of_lt_of_le lt105 KT134.1
      have Kq135 := own_trans0 Kq103 KT134
      have hC := hCT134
      have hk0 := Nat.le_refl T134.heap.size
      obtain ⟨bT134, kbT134, EsT134, FvT134, FcT134, VT134⟩ := ST134
      have lt136 := EsT134.lt
      have lt137 := VT134.lt
      have z138 : h0.size ≠ T102.heap.size := Nat.ne_of_lt lt104
      have z139 : bT102 ≠ T102.heap.size := Nat.ne_of_lt lt105
      have N140 := own_Fr.app N106 (own_Fr.of NT134 (Kq103).1)
      refine own_by (fun t_ k_ => XS.astore XT134.here hx rfl (hb hby at_96) rfl rfl (l' := #[oI i0, oI i1, oI i2, oI i3, oI i4, oI i5, oI kk, oI (1 : Int32), oI (1 : Int32), oI ch0, oI ch1, oI dh0, oI dh1, oR h0.size, oR T102.heap.size, .unset, .unset]) rfl k_) ?_
      show own_Go p e below _ T134 (mkF m 98 #[oI i0, oI i1, oI i2, oI i3, oI i4, oI i5, oI kk, oI (1 : Int32), oI (1 : Int32), oI ch0, oI ch1, oI dh0, oI dh1, oR h0.size, oR T102.heap.size, .unset, .unset] [])
      have g142 : h0.size ≤ T134.heap.size := Kq135.1
      refine own_new XT134 hx hZ hown (hw _ (List.mem_of_getElem? (i := 26) rfl)) (hw _ (List.mem_of_getElem? (i := 27) rfl)) (hw _ (List.mem_of_getElem? (i := 28) rfl)) (rfl : T134.heap = T134.heap) (hb hby at_98) (by decide) (by decide) ?_
      intro T141 hT141 XT141 eT141 ET141 AT141 DT141
      have fq143_1 := own_stak fq135_1 (own_ek ET141)
      have fq143_2 := own_stak fq135_2 (own_ek ET141)
      have fq143_3 := own_stak fq135_3 (own_ek ET141)
      have fq143_4 := own_stak fq135_4 (own_ek ET141)
      have fq143_5 := own_stak fq135_5 (own_ek ET141)
      have fq143_6 := own_stak fq135_6 (own_ek ET141)
      have fq143_7 := fq135_7.keep (own_ek ET141)
      have fq143_8 := fq135_8.keep (own_ek ET141) nin0
      have fq143_9 := fq135_9.keep (own_ek ET141) nin0
      have fq143_10 := fq135_10.keep (own_ek ET141) nin0
      have fq143_11 := EsT134.keep (own_ek ET141)
      have fq143_12 := FvT134.keep (own_ek ET141) nin0
      have fq143_13 := FcT134.keep (own_ek ET141) nin0
      have fq143_14 := VT134.keep (own_ek ET141) nin0
      have lq143_0 := Nat.lt_of_lt_of_le lq135_0 (own_ek ET141).1
      have lq143_1 := Nat.lt_of_lt_of_le lq135_1 (own_ek ET141).1
      have lq143_2 := Nat.lt_of_lt_of_le lt136 (own_ek ET141).1
      have lq143_3 := Nat.lt_of_lt_of_le lt137 (own_ek ET141).1
      have hC := hC.trans (CHr.keep (own_ek ET141) (fun _ q => by cases q) hC.1)
      have hk0 := Nat.le_trans hk0 (own_ek ET141).1
      have Kq143 := own_trans0 Kq135 (own_ek ET141)
      have z144 : h0.size ≠ T134.heap.size := Nat.ne_of_lt lq135_0
      have z145 : bT102 ≠ T134.heap.size := Nat.ne_of_lt lq135_1
      have z146 : T102.heap.size ≠ T134.heap.size := Nat.ne_of_lt lt136
      have z147 : bT134 ≠ T134.heap.size := Nat.ne_of_lt lt137
      have FT141_kind : Fld Z hT141 T134.heap.size "com/example/nimble_gate/nimblegate/policy/Token" "kind" "Lcom/example/nimble_gate/nimblegate/policy/Token$Kind;" .null := DT141 (ty := (.object "com/example/nimble_gate/nimblegate/policy/Token$Kind")) (Or.inr (hw _ (List.mem_of_getElem? (i := 45) rfl))) (by decide +kernel)
      have FT141_text : Fld Z hT141 T134.heap.size "com/example/nimble_gate/nimblegate/policy/Token" "text" "Ljava/lang/String;" .null := DT141 (ty := (.object "java/lang/String")) (Or.inr (hw _ (List.mem_of_getElem? (i := 47) rfl))) (by decide +kernel)
      have FT141_line : Fld Z hT141 T134.heap.size "com/example/nimble_gate/nimblegate/policy/Token" "line" "I" (.int 0) := DT141 (ty := .int) (Or.inr (hw _ (List.mem_of_getElem? (i := 49) rfl))) (by decide +kernel)
      have FT141_column : Fld Z hT141 T134.heap.size "com/example/nimble_gate/nimblegate/policy/Token" "column" "I" (.int 0) := DT141 (ty := .int) (Or.inr (hw _ (List.mem_of_getElem? (i := 51) rfl))) (by decide +kernel)
      clear DT141
      have lt148 := AT141.lt
      show own_Go p e below _ T141 (mkF m 101 #[oI i0, oI i1, oI i2, oI i3, oI i4, oI i5, oI kk, oI (1 : Int32), oI (1 : Int32), oI ch0, oI ch1, oI dh0, oI dh1, oR h0.size, oR T102.heap.size, .unset, .unset] [(.ref T134.heap.size)])
      refine own_by (fun t_ k_ => XS.dup XT141.here hx rfl (hb hby at_101) rfl rfl k_) ?_
      show own_Go p e below _ T141 (mkF m 102 #[oI i0, oI i1, oI i2, oI i3, oI i4, oI i5, oI kk, oI (1 : Int32), oI (1 : Int32), oI ch0, oI ch1, oI dh0, oI dh1, oR h0.size, oR T102.heap.size, .unset, .unset] [(.ref T134.heap.size), (.ref T134.heap.size)])
      refine own_by (fun t_ k_ => XS.iload XT141.here hx rfl (hb hby at_102) rfl  k_) ?_
      show own_Go p e below _ T141 (mkF m 104 #[oI i0, oI i1, oI i2, oI i3, oI i4, oI i5, oI kk, oI (1 : Int32), oI (1 : Int32), oI ch0, oI ch1, oI dh0, oI dh1, oR h0.size, oR T102.heap.size, .unset, .unset] [(.int kk), (.ref T134.heap.size), (.ref T134.heap.size)])
      refine own_callS XT141 hx hZ hown (hw _ (List.mem_of_getElem? (i := 29) rfl)) (hw _ (List.mem_of_getElem? (i := 30) rfl)) (hw _ (List.mem_of_getElem? (i := 2) rfl)) (hw _ (List.mem_of_getElem? (i := 31) rfl)) (by decide) eT141 (argsL := [(.int kk)]) (rest := [(.ref T134.heap.size), (.ref T134.heap.size)]) (own_pick_met l Z a0 hw kk w0 w1 w2 w3 w4 hT141 ⟨fq143_2, fq143_3, fq143_4, fq143_5, fq143_6⟩) 2 (by decide) (by decide) (by rw [hml]; rfl) (lenOf pd_9 rfl) (Nat.le_of_eq rfl) (hb hby at_104) (by decide) (by decide) (st := [(.int kk), (.ref T134.heap.size), (.ref T134.heap.size)]) rfl ?_
      intro T149 LT149 vT149 XT149 hQT149
      obtain ⟨rfl, eT149, rfl⟩ := hQT149
      show own_Go p e below _ T149 (mkF m 107 #[oI i0, oI i1, oI i2, oI i3, oI i4, oI i5, oI kk, oI (1 : Int32), oI (1 : Int32), oI ch0, oI ch1, oI dh0, oI dh1, oR h0.size, oR T102.heap.size, .unset, .unset] [(.ref (own_pick kk w0 w1 w2 w3 w4)), (.ref T134.heap.size), (.ref T134.heap.size)])
      have N150 := own_Fr.app N140 own_Fr.nil
      generalize hkd : (own_pick kk w0 w1 w2 w3 w4) = kd
      show own_Go p e below _ T149 (mkF m 107 #[oI i0, oI i1, oI i2, oI i3, oI i4, oI i5, oI kk, oI (1 : Int32), oI (1 : Int32), oI ch0, oI ch1, oI dh0, oI dh1, oR h0.size, oR T102.heap.size, .unset, .unset] [(.ref kd), (.ref T134.heap.size), (.ref T134.heap.size)])
      refine own_by (fun t_ k_ => XS.aload XT149.here hx rfl (hb hby at_107) rfl rfl  k_) ?_
      show own_Go p e below _ T149 (mkF m 109 #[oI i0, oI i1, oI i2, oI i3, oI i4, oI i5, oI kk, oI (1 : Int32), oI (1 : Int32), oI ch0, oI ch1, oI dh0, oI dh1, oR h0.size, oR T102.heap.size, .unset, .unset] [(.ref h0.size), (.ref kd), (.ref T134.heap.size), (.ref T134.heap.size)])
      refine own_by (fun t_ k_ => XS.iload XT149.here hx rfl (hb hby at_109) rfl  k_) ?_
      show own_Go p e below _ T149 (mkF m 111 #[oI i0, oI i1, oI i2, oI i3, oI i4, oI i5, oI kk, oI (1 : Int32), oI (1 : Int32), oI ch0, oI ch1, oI dh0, oI dh1, oR h0.size, oR T102.heap.size, .unset, .unset] [(.int i5), (.ref h0.size), (.ref kd), (.ref T134.heap.size), (.ref T134.heap.size)])
      refine own_by (fun t_ k_ => XS.iloadN XT149.here hx rfl (hb hby at_111) rfl  k_) ?_
      show own_Go p e below _ T149 (mkF m 112 #[oI i0, oI i1, oI i2, oI i3, oI i4, oI i5, oI kk, oI (1 : Int32), oI (1 : Int32), oI ch0, oI ch1, oI dh0, oI dh1, oR h0.size, oR T102.heap.size, .unset, .unset] [(.int i0), (.int i5), (.ref h0.size), (.ref kd), (.ref T134.heap.size), (.ref T134.heap.size)])
      refine own_callN XT149 hx hZ rfl hown (hw _ (List.mem_of_getElem? (i := 35) rfl)) (hw _ (List.mem_of_getElem? (i := 36) rfl)) (hw _ (List.mem_of_getElem? (i := 37) rfl)) (hw _ (List.mem_of_getElem? (i := 28) rfl)) (by decide) eT149 (b := T134.heap.size) (argsL := [(.ref kd), (.ref h0.size), (.int i5), (.int i0)]) (rest := [(.ref T134.heap.size)]) (own_tok l Z a0 hw T134.heap.size kd h0.size i5 i0 hT141 AT141 FT141_kind FT141_text FT141_line FT141_column) 1 (by decide) (by decide) (by rw [hml]; rfl) (lenOf pd_10 rfl) (Nat.le_of_eq rfl) (hb hby at_112) (by decide) (by decide) (st := [(.int i0), (.int i5), (.ref h0.size), (.ref kd), (.ref T134.heap.size), (.ref T134.heap.size)]) rfl ?_
      intro T151 LT151 vT151 XT151 hQT151
      obtain ⟨rfl, KT151, NT151, FkT151, FtT151⟩ := hQT151
      show own_Go p e below _ T151 (mkF m 115 #[oI i0, oI i1, oI i2, oI i3, oI i4, oI i5, oI kk, oI (1 : Int32), oI (1 : Int32), oI ch0, oI ch1, oI dh0, oI dh1, oR h0.size, oR T102.heap.size, .unset, .unset] [(.ref T134.heap.size)])
      have fq152_1 := own_stak1 fq143_1 KT151 AT141
      have fq152_2 := own_stak1 fq143_2 KT151 AT141
      have fq152_3 := own_stak1 fq143_3 KT151 AT141
      have fq152_4 := own_stak1 fq143_4 KT151 AT141
      have fq152_5 := own_stak1 fq143_5 KT151 AT141
      have fq152_6 := own_stak1 fq143_6 KT151 AT141
      have fq152_7 := fq143_7.keep KT151
      have fq152_8 := fq143_8.keep KT151 (own_nin z144)
      have fq152_9 := fq143_9.keep KT151 (own_nin z144)
      have fq152_10 := fq143_10.keep KT151 (own_nin z145)
      have fq152_11 := fq143_11.keep KT151
      have fq152_12 := fq143_12.keep KT151 (own_nin z146)
      have fq152_13 := fq143_13.keep KT151 (own_nin z146)
      have fq152_14 := fq143_14.keep KT151 (own_nin z147)
      have fq152_15 := AT141.keep KT151
      have lq152_0 := Nat.lt_of_lt_of_le lq143_0 KT151.1
      have lq152_1 := Nat.lt_of_lt_of_le lq143_1 KT151.1
      have lq152_2 := Nat.lt_of_lt_of_le lq143_2 KT151.1
      have lq152_3 := Nat.lt_of_lt_of_le lq143_3 KT151.1
      have lq152_4 := Nat.lt_of_lt_of_le lt148 KT151.1
      have hC := hC.trans (CHr.keep KT151 (fun _ q => by cases List.mem_singleton.mp q; exact (Safe.exa hZ.alike AT141 (by decide) (by decide))) hC.1)
      have hk0 := Nat.le_trans hk0 KT151.1
      have Kq152 := own_trans1 Kq143 KT151 (Or.inr g142)
      have N153 := own_Fr.app N150 (own_Fr.of (own_Fr.new NT151 g142 (Kq143).1) (Nat.le_refl _))
      refine own_by (fun t_ k_ => XS.astore XT151.here hx rfl (hb hby at_115) rfl rfl (l' := #[oI i0, oI i1, oI i2, oI i3, oI i4, oI i5, oI kk, oI (1 : Int32), oI (1 : Int32), oI ch0, oI ch1, oI dh0, oI dh1, oR h0.size, oR T102.heap.size, oR T134.heap.size, .unset]) rfl k_) ?_
      show own_Go p e below _ T151 (mkF m 117 #[oI i0, oI i1, oI i2, oI i3, oI i4, oI i5, oI kk, oI (1 : Int32), oI (1 : Int32), oI ch0, oI ch1, oI dh0, oI dh1, oR h0.size, oR T102.heap.size, oR T134.heap.size, .unset] [])
      refine own_by (fun t_ k_ => XS.iload XT151.here hx rfl (hb hby at_117) rfl  k_) ?_
      show own_Go p e below _ T151 (mkF m 119 #[oI i0, oI i1, oI i2, oI i3, oI i4, oI i5, oI kk, oI (1 : Int32), oI (1 : Int32), oI ch0, oI ch1, oI dh0, oI dh1, oR h0.size, oR T102.heap.size, oR T134.heap.size, .unset] [(.int kk)])
      refine own_by (fun t_ k_ => XT.iconstV XT151.here hx rfl (3 : Int32) (hb hby at_119) (by decide) k_) ?_
      show own_Go p e below _ T151 (mkF m 120 #[oI i0, oI i1, oI i2, oI i3, oI i4, oI i5, oI kk, oI (1 : Int32), oI (1 : Int32), oI ch0, oI ch1, oI dh0, oI dh1, oR h0.size, oR T102.heap.size, oR T134.heap.size, .unset] [(.int (3 : Int32)), (.int kk)])
      by_cases c120_153 : kk = (3 : Int32)
      · refine own_by (fun t_ k_ => XS.icmpNo XT151.here hx rfl (hb hby at_120) rfl (XT.ii_ne_f c120_153) k_) ?_
        show own_Go p e below _ T151 (mkF m 123 #[oI i0, oI i1, oI i2, oI i3, oI i4, oI i5, oI kk, oI (1 : Int32), oI (1 : Int32), oI ch0, oI ch1, oI dh0, oI dh1, oR h0.size, oR T102.heap.size, oR T134.heap.size, .unset] [])
        refine own_by (fun t_ k_ => XS.iload XT151.here hx rfl (hb hby at_123) rfl  k_) ?_
        show own_Go p e below _ T151 (mkF m 125 #[oI i0, oI i1, oI i2, oI i3, oI i4, oI i5, oI kk, oI (1 : Int32), oI (1 : Int32), oI ch0, oI ch1, oI dh0, oI dh1, oR h0.size, oR T102.heap.size, oR T134.heap.size, .unset] [(.int (1 : Int32))])
        refine own_by (fun t_ k_ => XS.iload XT151.here hx rfl (hb hby at_125) rfl  k_) ?_
        show own_Go p e below _ T151 (mkF m 127 #[oI i0, oI i1, oI i2, oI i3, oI i4, oI i5, oI kk, oI (1 : Int32), oI (1 : Int32), oI ch0, oI ch1, oI dh0, oI dh1, oR h0.size, oR T102.heap.size, oR T134.heap.size, .unset] [(.int (1 : Int32)), (.int (1 : Int32))])
        refine own_by (fun t_ k_ => XS.icmpNo XT151.here hx rfl (hb hby at_127) rfl (XT.ii_ne_f (by decide)) k_) ?_
        show own_Go p e below _ T151 (mkF m 130 #[oI i0, oI i1, oI i2, oI i3, oI i4, oI i5, oI kk, oI (1 : Int32), oI (1 : Int32), oI ch0, oI ch1, oI dh0, oI dh1, oR h0.size, oR T102.heap.size, oR T134.heap.size, .unset] [])
        refine own_by (fun t_ k_ => XS.iload XT151.here hx rfl (hb hby at_130) rfl  k_) ?_
        show own_Go p e below _ T151 (mkF m 132 #[oI i0, oI i1, oI i2, oI i3, oI i4, oI i5, oI kk, oI (1 : Int32), oI (1 : Int32), oI ch0, oI ch1, oI dh0, oI dh1, oR h0.size, oR T102.heap.size, oR T134.heap.size, .unset] [(.int (1 : Int32))])
        refine own_by (fun t_ k_ => XT.iconstV XT151.here hx rfl (1 : Int32) (hb hby at_132) (by decide) k_) ?_
        show own_Go p e below _ T151 (mkF m 133 #[oI i0, oI i1, oI i2, oI i3, oI i4, oI i5, oI kk, oI (1 : Int32), oI (1 : Int32), oI ch0, oI ch1, oI dh0, oI dh1, oR h0.size, oR T102.heap.size, oR T134.heap.size, .unset] [(.int (1 : Int32)), (.int (1 : Int32))])
        refine own_by (fun t_ k_ => XS.icmpNo XT151.here hx rfl (hb hby at_133) rfl (XT.ii_lt_f (by decide)) k_) ?_
        show own_Go p e below _ T151 (mkF m 136 #[oI i0, oI i1, oI i2, oI i3, oI i4, oI i5, oI kk, oI (1 : Int32), oI (1 : Int32), oI ch0, oI ch1, oI dh0, oI dh1, oR h0.size, oR T102.heap.size, oR T134.heap.size, .unset] [])
        refine own_by (fun t_ k_ => XS.iload XT151.here hx rfl (hb hby at_136) rfl  k_) ?_
        show own_Go p e below _ T151 (mkF m 138 #[oI i0, oI i1, oI i2, oI i3, oI i4, oI i5, oI kk, oI (1 : Int32), oI (1 : Int32), oI ch0, oI ch1, oI dh0, oI dh1, oR h0.size, oR T102.heap.size, oR T134.heap.size, .unset] [(.int ch0)])
        refine own_by (fun t_ k_ => XS.iload XT151.here hx rfl (hb hby at_138) rfl  k_) ?_
        show own_Go p e below _ T151 (mkF m 140 #[oI i0, oI i1, oI i2, oI i3, oI i4, oI i5, oI kk, oI (1 : Int32), oI (1 : Int32), oI ch0, oI ch1, oI dh0, oI dh1, oR h0.size, oR T102.heap.size, oR T134.heap.size, .unset] [(.int dh0), (.int ch0)])
        by_cases c140_154 : ch0 = dh0
        · refine own_by (fun t_ k_ => XS.icmpNo XT151.here hx rfl (hb hby at_140) rfl (XT.ii_ne_f c140_154) k_) ?_
          show own_Go p e below _ T151 (mkF m 143 #[oI i0, oI i1, oI i2, oI i3, oI i4, oI i5, oI kk, oI (1 : Int32), oI (1 : Int32), oI ch0, oI ch1, oI dh0, oI dh1, oR h0.size, oR T102.heap.size, oR T134.heap.size, .unset] [])
          refine own_by (fun t_ k_ => XS.iload XT151.here hx rfl (hb hby at_143) rfl  k_) ?_
          show own_Go p e below _ T151 (mkF m 145 #[oI i0, oI i1, oI i2, oI i3, oI i4, oI i5, oI kk, oI (1 : Int32), oI (1 : Int32), oI ch0, oI ch1, oI dh0, oI dh1, oR h0.size, oR T102.heap.size, oR T134.heap.size, .unset] [(.int (1 : Int32))])
          refine own_by (fun t_ k_ => XT.iconstV XT151.here hx rfl (2 : Int32) (hb hby at_145) (by decide) k_) ?_
          show own_Go p e below _ T151 (mkF m 146 #[oI i0, oI i1, oI i2, oI i3, oI i4, oI i5, oI kk, oI (1 : Int32), oI (1 : Int32), oI ch0, oI ch1, oI dh0, oI dh1, oR h0.size, oR T102.heap.size, oR T134.heap.size, .unset] [(.int (2 : Int32)), (.int (1 : Int32))])
          refine own_by (fun t_ k_ => XS.icmpYes XT151.here hx rfl (pc0 := 146) (pc' := 156) rfl (hb hby at_146) rfl (XT.ii_lt_t (by decide)) (by decide) (by decide) k_) ?_
          show own_Go p e below _ T151 (mkF m 156 #[oI i0, oI i1, oI i2, oI i3, oI i4, oI i5, oI kk, oI (1 : Int32), oI (1 : Int32), oI ch0, oI ch1, oI dh0, oI dh1, oR h0.size, oR T102.heap.size, oR T134.heap.size, .unset] [])
          refine own_by (fun t_ k_ => XT.iconstV XT151.here hx rfl (1 : Int32) (hb hby at_156) (by decide) k_) ?_
          show own_Go p e below _ T151 (mkF m 157 #[oI i0, oI i1, oI i2, oI i3, oI i4, oI i5, oI kk, oI (1 : Int32), oI (1 : Int32), oI ch0, oI ch1, oI dh0, oI dh1, oR h0.size, oR T102.heap.size, oR T134.heap.size, .unset] [(.int (1 : Int32))])
          refine own_by (fun t_ k_ => XS.goto XT151.here hx rfl (pc0 := 157) (pc' := 161) rfl (hb hby at_157) (by decide) (by decide) k_) ?_
          show own_Go p e below _ T151 (mkF m 161 #[oI i0, oI i1, oI i2, oI i3, oI i4, oI i5, oI kk, oI (1 : Int32), oI (1 : Int32), oI ch0, oI ch1, oI dh0, oI dh1, oR h0.size, oR T102.heap.size, oR T134.heap.size, .unset] [(.int (1 : Int32))])
          refine own_by (fun t_ k_ => XS.istore XT151.here hx rfl (hb hby at_161) rfl (l' := #[oI i0, oI i1, oI i2, oI i3, oI i4, oI i5, oI kk, oI (1 : Int32), oI (1 : Int32), oI ch0, oI ch1, oI dh0, oI dh1, oR h0.size, oR T102.heap.size, oR T134.heap.size, oI (1 : Int32)]) rfl k_) ?_
          show own_Go p e below _ T151 (mkF m 163 #[oI i0, oI i1, oI i2, oI i3, oI i4, oI i5, oI kk, oI (1 : Int32), oI (1 : Int32), oI ch0, oI ch1, oI dh0, oI dh1, oR h0.size, oR T102.heap.size, oR T134.heap.size, oI (1 : Int32)] [])
          refine own_by (fun t_ k_ => XS.aload XT151.here hx rfl (hb hby at_163) rfl rfl  k_) ?_
          show own_Go p e below _ T151 (mkF m 165 #[oI i0, oI i1, oI i2, oI i3, oI i4, oI i5, oI kk, oI (1 : Int32), oI (1 : Int32), oI ch0, oI ch1, oI dh0, oI dh1, oR h0.size, oR T102.heap.size, oR T134.heap.size, oI (1 : Int32)] [(.ref T134.heap.size)])
          refine own_by (fun t_ k_ => XS.aload XT151.here hx rfl (hb hby at_165) rfl rfl  k_) ?_
          show own_Go p e below _ T151 (mkF m 167 #[oI i0, oI i1, oI i2, oI i3, oI i4, oI i5, oI kk, oI (1 : Int32), oI (1 : Int32), oI ch0, oI ch1, oI dh0, oI dh1, oR h0.size, oR T102.heap.size, oR T134.heap.size, oI (1 : Int32)] [(.ref T102.heap.size), (.ref T134.heap.size)])
          refine own_callV XT151 hx hZ hown (hw _ (List.mem_of_getElem? (i := 52) rfl)) (hw _ (List.mem_of_getElem? (i := 53) rfl)) (hw _ (List.mem_of_getElem? (i := 55) rfl)) (hw _ (List.mem_of_getElem? (i := 54) rfl)) (hw _ (List.mem_of_getElem? (i := 56) rfl)) (hw _ (List.mem_of_getElem? (i := 28) rfl)) (by decide) (rfl : T151.heap = T151.heap) (b := T134.heap.size) fq152_15 (argsL := [(.ref T102.heap.size)]) (rest := []) (own_is_1_1_met l Z a0 hw T134.heap.size T102.heap.size kd w3 h0.size bT102 bT134 kbT102 kbT134 (ch0.toInt8.toInt32) (dh0.toInt8.toInt32) T151.heap cs fq152_1 hcs z138 fq152_5 FkT151 FtT151 fq152_7 fq152_8 fq152_9 fq152_10 fq152_11 fq152_12 fq152_13 fq152_14) 0 (by decide) (by decide) (by rw [hml]; rfl) (lenOf pd_11 rfl) (Nat.le_of_eq rfl) (hb hby at_167) (by decide) (by decide) (st := [(.ref T102.heap.size), (.ref T134.heap.size)]) rfl ?_
          intro T156 LT156 vT156 XT156 hQT156
          obtain ⟨rfl, eT156, rfl⟩ := hQT156
          show own_Go p e below _ T156 (mkF m 170 #[oI i0, oI i1, oI i2, oI i3, oI i4, oI i5, oI kk, oI (1 : Int32), oI (1 : Int32), oI ch0, oI ch1, oI dh0, oI dh1, oR h0.size, oR T102.heap.size, oR T134.heap.size, oI (1 : Int32)] [(.int (own_is_1_1 T134.heap.size T102.heap.size kd w3 h0.size bT102 bT134 kbT102 kbT134 (ch0.toInt8.toInt32) (dh0.toInt8.toInt32)))])
          have N157 := own_Fr.app N153 own_Fr.nil
          refine own_by (fun t_ k_ => XS.iload XT156.here hx rfl (hb hby at_170) rfl  k_) ?_
          show own_Go p e below _ T156 (mkF m 172 #[oI i0, oI i1, oI i2, oI i3, oI i4, oI i5, oI kk, oI (1 : Int32), oI (1 : Int32), oI ch0, oI ch1, oI dh0, oI dh1, oR h0.size, oR T102.heap.size, oR T134.heap.size, oI (1 : Int32)] [(.int (1 : Int32)), (.int (own_is_1_1 T134.heap.size T102.heap.size kd w3 h0.size bT102 bT134 kbT102 kbT134 (ch0.toInt8.toInt32) (dh0.toInt8.toInt32)))])
          have hW : kd = w3 := hkd.symm.trans (by rw [own_pick, c120_153, if_neg (by decide), if_neg (by decide), if_neg (by decide), if_pos (by decide)])
          have hfin : (own_is_1_1 T134.heap.size T102.heap.size kd w3 h0.size bT102 bT134 kbT102 kbT134 (ch0.toInt8.toInt32) (dh0.toInt8.toInt32)) = (1 : Int32) := by rw [show (own_is_1_1 T134.heap.size T102.heap.size kd w3 h0.size bT102 bT134 kbT102 kbT134 (ch0.toInt8.toInt32) (dh0.toInt8.toInt32)) = (1 : Int32) by rw [own_is_1_1, if_pos hW, if_neg (by rw [show (own_eq_1_1 h0.size T102.heap.size bT102 bT134 kbT102 kbT134 (ch0.toInt8.toInt32) (dh0.toInt8.toInt32)) = (1 : Int32) by rw [own_eq_1_1, if_neg (by rw [show (own_le_1_1 bT102 bT134 kbT102 kbT134 (ch0.toInt8.toInt32) (dh0.toInt8.toInt32)) = (1 : Int32) by rw [own_le_1_1, if_pos (by rw [c140_154])]]; decide)]]; decide)]]
          refine own_by (fun t_ k_ => XS.icmpNo XT156.here hx rfl (hb hby at_172) rfl (XT.ii_ne_f hfin) k_) ?_
          show own_Go p e below _ T156 (mkF m 175 #[oI i0, oI i1, oI i2, oI i3, oI i4, oI i5, oI kk, oI (1 : Int32), oI (1 : Int32), oI ch0, oI ch1, oI dh0, oI dh1, oR h0.size, oR T102.heap.size, oR T134.heap.size, oI (1 : Int32)] [])
          refine own_by (fun t_ k_ => XT.iconstV XT156.here hx rfl (1 : Int32) (hb hby at_175) (by decide) k_) ?_
          show own_Go p e below _ T156 (mkF m 176 #[oI i0, oI i1, oI i2, oI i3, oI i4, oI i5, oI kk, oI (1 : Int32), oI (1 : Int32), oI ch0, oI ch1, oI dh0, oI dh1, oR h0.size, oR T102.heap.size, oR T134.heap.size, oI (1 : Int32)] [(.int (1 : Int32))])
          refine own_by (fun t_ k_ => XS.goto XT156.here hx rfl (pc0 := 176) (pc' := 180) rfl (hb hby at_176) (by decide) (by decide) k_) ?_
          show own_Go p e below _ T156 (mkF m 180 #[oI i0, oI i1, oI i2, oI i3, oI i4, oI i5, oI kk, oI (1 : Int32), oI (1 : Int32), oI ch0, oI ch1, oI dh0, oI dh1, oR h0.size, oR T102.heap.size, oR T134.heap.size, oI (1 : Int32)] [(.int (1 : Int32))])
          exact own_retNW XT156 hx hlk hZ hEL hS eT156 hk0 hC hret (by simp) (w := (1 : Int32)) (hb hby at_180) (by decide) (by decide) (by decide) (⟨rfl, (N157).to (Nat.le_refl _)⟩)
        · refine own_by (fun t_ k_ => XS.icmpYes XT151.here hx rfl (pc0 := 140) (pc' := 160) rfl (hb hby at_140) rfl (XT.ii_ne_t c140_154) (by decide) (by decide) k_) ?_
          show own_Go p e below _ T151 (mkF m 160 #[oI i0, oI i1, oI i2, oI i3, oI i4, oI i5, oI kk, oI (1 : Int32), oI (1 : Int32), oI ch0, oI ch1, oI dh0, oI dh1, oR h0.size, oR T102.heap.size, oR T134.heap.size, .unset] [])
          refine own_by (fun t_ k_ => XT.iconstV XT151.here hx rfl (0 : Int32) (hb hby at_160) (by decide) k_) ?_
          show own_Go p e below _ T151 (mkF m 161 #[oI i0, oI i1, oI i2, oI i3, oI i4, oI i5, oI kk, oI (1 : Int32), oI (1 : Int32), oI ch0, oI ch1, oI dh0, oI dh1, oR h0.size, oR T102.heap.size, oR T134.heap.size, .unset] [(.int (0 : Int32))])
          refine own_by (fun t_ k_ => XS.istore XT151.here hx rfl (hb hby at_161) rfl (l' := #[oI i0, oI i1, oI i2, oI i3, oI i4, oI i5, oI kk, oI (1 : Int32), oI (1 : Int32), oI ch0, oI ch1, oI dh0, oI dh1, oR h0.size, oR T102.heap.size, oR T134.heap.size, oI (0 : Int32)]) rfl k_) ?_
          show own_Go p e below _ T151 (mkF m 163 #[oI i0, oI i1, oI i2, oI i3, oI i4, oI i5, oI kk, oI (1 : Int32), oI (1 : Int32), oI ch0, oI ch1, oI dh0, oI dh1, oR h0.size, oR T102.heap.size, oR T134.heap.size, oI (0 : Int32)] [])
          refine own_by (fun t_ k_ => XS.aload XT151.here hx rfl (hb hby at_163) rfl rfl  k_) ?_
          show own_Go p e below _ T151 (mkF m 165 #[oI i0, oI i1, oI i2, oI i3, oI i4, oI i5, oI kk, oI (1 : Int32), oI (1 : Int32), oI ch0, oI ch1, oI dh0, oI dh1, oR h0.size, oR T102.heap.size, oR T134.heap.size, oI (0 : Int32)] [(.ref T134.heap.size)])
          refine own_by (fun t_ k_ => XS.aload XT151.here hx rfl (hb hby at_165) rfl rfl  k_) ?_
          show own_Go p e below _ T151 (mkF m 167 #[oI i0, oI i1, oI i2, oI i3, oI i4, oI i5, oI kk, oI (1 : Int32), oI (1 : Int32), oI ch0, oI ch1, oI dh0, oI dh1, oR h0.size, oR T102.heap.size, oR T134.heap.size, oI (0 : Int32)] [(.ref T102.heap.size), (.ref T134.heap.size)])
          refine own_callV XT151 hx hZ hown (hw _ (List.mem_of_getElem? (i := 52) rfl)) (hw _ (List.mem_of_getElem? (i := 53) rfl)) (hw _ (List.mem_of_getElem? (i := 55) rfl)) (hw _ (List.mem_of_getElem? (i := 54) rfl)) (hw _ (List.mem_of_getElem? (i := 56) rfl)) (hw _ (List.mem_of_getElem? (i := 28) rfl)) (by decide) (rfl : T151.heap = T151.heap) (b := T134.heap.size) fq152_15 (argsL := [(.ref T102.heap.size)]) (rest := []) (own_is_1_1_met l Z a0 hw T134.heap.size T102.heap.size kd w3 h0.size bT102 bT134 kbT102 kbT134 (ch0.toInt8.toInt32) (dh0.toInt8.toInt32) T151.heap cs fq152_1 hcs z138 fq152_5 FkT151 FtT151 fq152_7 fq152_8 fq152_9 fq152_10 fq152_11 fq152_12 fq152_13 fq152_14) 0 (by decide) (by decide) (by rw [hml]; rfl) (lenOf pd_11 rfl) (Nat.le_of_eq rfl) (hb hby at_167) (by decide) (by decide) (st := [(.ref T102.heap.size), (.ref T134.heap.size)]) rfl ?_
          intro T158 LT158 vT158 XT158 hQT158
          obtain ⟨rfl, eT158, rfl⟩ := hQT158
          show own_Go p e below _ T158 (mkF m 170 #[oI i0, oI i1, oI i2, oI i3, oI i4, oI i5, oI kk, oI (1 : Int32), oI (1 : Int32), oI ch0, oI ch1, oI dh0, oI dh1, oR h0.size, oR T102.heap.size, oR T134.heap.size, oI (0 : Int32)] [(.int (own_is_1_1 T134.heap.size T102.heap.size kd w3 h0.size bT102 bT134 kbT102 kbT134 (ch0.toInt8.toInt32) (dh0.toInt8.toInt32)))])
          have N159 := own_Fr.app N153 own_Fr.nil
          refine own_by (fun t_ k_ => XS.iload XT158.here hx rfl (hb hby at_170) rfl  k_) ?_
          show own_Go p e below _ T158 (mkF m 172 #[oI i0, oI i1, oI i2, oI i3, oI i4, oI i5, oI kk, oI (1 : Int32), oI (1 : Int32), oI ch0, oI ch1, oI dh0, oI dh1, oR h0.size, oR T102.heap.size, oR T134.heap.size, oI (0 : Int32)] [(.int (0 : Int32)), (.int (own_is_1_1 T134.heap.size T102.heap.size kd w3 h0.size bT102 bT134 kbT102 kbT134 (ch0.toInt8.toInt32) (dh0.toInt8.toInt32)))])
          have hW : kd = w3 := hkd.symm.trans (by rw [own_pick, c120_153, if_neg (by decide), if_neg (by decide), if_neg (by decide), if_pos (by decide)])
          have hfin : (own_is_1_1 T134.heap.size T102.heap.size kd w3 h0.size bT102 bT134 kbT102 kbT134 (ch0.toInt8.toInt32) (dh0.toInt8.toInt32)) = (0 : Int32) := by rw [show (own_is_1_1 T134.heap.size T102.heap.size kd w3 h0.size bT102 bT134 kbT102 kbT134 (ch0.toInt8.toInt32) (dh0.toInt8.toInt32)) = (0 : Int32) by rw [own_is_1_1, if_pos hW, if_pos (by rw [show (own_eq_1_1 h0.size T102.heap.size bT102 bT134 kbT102 kbT134 (ch0.toInt8.toInt32) (dh0.toInt8.toInt32)) = (0 : Int32) by rw [own_eq_1_1, if_pos (by rw [show (own_le_1_1 bT102 bT134 kbT102 kbT134 (ch0.toInt8.toInt32) (dh0.toInt8.toInt32)) = (0 : Int32) by rw [own_le_1_1, if_neg (fun q => c140_154 (own_ch_i2b Bch0 Bdh0 q))]])]])]]
          refine own_by (fun t_ k_ => XS.icmpNo XT158.here hx rfl (hb hby at_172) rfl (XT.ii_ne_f hfin) k_) ?_
          show own_Go p e below _ T158 (mkF m 175 #[oI i0, oI i1, oI i2, oI i3, oI i4, oI i5, oI kk, oI (1 : Int32), oI (1 : Int32), oI ch0, oI ch1, oI dh0, oI dh1, oR h0.size, oR T102.heap.size, oR T134.heap.size, oI (0 : Int32)] [])
          refine own_by (fun t_ k_ => XT.iconstV XT158.here hx rfl (1 : Int32) (hb hby at_175) (by decide) k_) ?_
          show own_Go p e below _ T158 (mkF m 176 #[oI i0, oI i1, oI i2, oI i3, oI i4, oI i5, oI kk, oI (1 : Int32), oI (1 : Int32), oI ch0, oI ch1, oI dh0, oI dh1, oR h0.size, oR T102.heap.size, oR T134.heap.size, oI (0 : Int32)] [(.int (1 : Int32))])
          refine own_by (fun t_ k_ => XS.goto XT158.here hx rfl (pc0 := 176) (pc' := 180) rfl (hb hby at_176) (by decide) (by decide) k_) ?_
          show own_Go p e below _ T158 (mkF m 180 #[oI i0, oI i1, oI i2, oI i3, oI i4, oI i5, oI kk, oI (1 : Int32), oI (1 : Int32), oI ch0, oI ch1, oI dh0, oI dh1, oR h0.size, oR T102.heap.size, oR T134.heap.size, oI (0 : Int32)] [(.int (1 : Int32))])
          exact own_retNW XT158 hx hlk hZ hEL hS eT158 hk0 hC hret (by simp) (w := (1 : Int32)) (hb hby at_180) (by decide) (by decide) (by decide) (⟨rfl, (N159).to (Nat.le_refl _)⟩)
      · refine own_by (fun t_ k_ => XS.icmpYes XT151.here hx rfl (pc0 := 120) (pc' := 160) rfl (hb hby at_120) rfl (XT.ii_ne_t c120_153) (by decide) (by decide) k_) ?_
        show own_Go p e below _ T151 (mkF m 160 #[oI i0, oI i1, oI i2, oI i3, oI i4, oI i5, oI kk, oI (1 : Int32), oI (1 : Int32), oI ch0, oI ch1, oI dh0, oI dh1, oR h0.size, oR T102.heap.size, oR T134.heap.size, .unset] [])
        refine own_by (fun t_ k_ => XT.iconstV XT151.here hx rfl (0 : Int32) (hb hby at_160) (by decide) k_) ?_
        show own_Go p e below _ T151 (mkF m 161 #[oI i0, oI i1, oI i2, oI i3, oI i4, oI i5, oI kk, oI (1 : Int32), oI (1 : Int32), oI ch0, oI ch1, oI dh0, oI dh1, oR h0.size, oR T102.heap.size, oR T134.heap.size, .unset] [(.int (0 : Int32))])
        refine own_by (fun t_ k_ => XS.istore XT151.here hx rfl (hb hby at_161) rfl (l' := #[oI i0, oI i1, oI i2, oI i3, oI i4, oI i5, oI kk, oI (1 : Int32), oI (1 : Int32), oI ch0, oI ch1, oI dh0, oI dh1, oR h0.size, oR T102.heap.size, oR T134.heap.size, oI (0 : Int32)]) rfl k_) ?_
        show own_Go p e below _ T151 (mkF m 163 #[oI i0, oI i1, oI i2, oI i3, oI i4, oI i5, oI kk, oI (1 : Int32), oI (1 : Int32), oI ch0, oI ch1, oI dh0, oI dh1, oR h0.size, oR T102.heap.size, oR T134.heap.size, oI (0 : Int32)] [])
        refine own_by (fun t_ k_ => XS.aload XT151.here hx rfl (hb hby at_163) rfl rfl  k_) ?_
        show own_Go p e below _ T151 (mkF m 165 #[oI i0, oI i1, oI i2, oI i3, oI i4, oI i5, oI kk, oI (1 : Int32), oI (1 : Int32), oI ch0, oI ch1, oI dh0, oI dh1, oR h0.size, oR T102.heap.size, oR T134.heap.size, oI (0 : Int32)] [(.ref T134.heap.size)])
        refine own_by (fun t_ k_ => XS.aload XT151.here hx rfl (hb hby at_165) rfl rfl  k_) ?_
        show own_Go p e below _ T151 (mkF m 167 #[oI i0, oI i1, oI i2, oI i3, oI i4, oI i5, oI kk, oI (1 : Int32), oI (1 : Int32), oI ch0, oI ch1, oI dh0, oI dh1, oR h0.size, oR T102.heap.size, oR T134.heap.size, oI (0 : Int32)] [(.ref T102.heap.size), (.ref T134.heap.size)])
        refine own_callV XT151 hx hZ hown (hw _ (List.mem_of_getElem? (i := 52) rfl)) (hw _ (List.mem_of_getElem? (i := 53) rfl)) (hw _ (List.mem_of_getElem? (i := 55) rfl)) (hw _ (List.mem_of_getElem? (i := 54) rfl)) (hw _ (List.mem_of_getElem? (i := 56) rfl)) (hw _ (List.mem_of_getElem? (i := 28) rfl)) (by decide) (rfl : T151.heap = T151.heap) (b := T134.heap.size) fq152_15 (argsL := [(.ref T102.heap.size)]) (rest := []) (own_is_1_1_met l Z a0 hw T134.heap.size T102.heap.size kd w3 h0.size bT102 bT134 kbT102 kbT134 (ch0.toInt8.toInt32) (dh0.toInt8.toInt32) T151.heap cs fq152_1 hcs z138 fq152_5 FkT151 FtT151 fq152_7 fq152_8 fq152_9 fq152_10 fq152_11 fq152_12 fq152_13 fq152_14) 0 (by decide) (by decide) (by rw [hml]; rfl) (lenOf pd_11 rfl) (Nat.le_of_eq rfl) (hb hby at_167) (by decide) (by decide) (st := [(.ref T102.heap.size), (.ref T134.heap.size)]) rfl ?_
        intro T160 LT160 vT160 XT160 hQT160
        obtain ⟨rfl, eT160, rfl⟩ := hQT160
        show own_Go p e below _ T160 (mkF m 170 #[oI i0, oI i1, oI i2, oI i3, oI i4, oI i5, oI kk, oI (1 : Int32), oI (1 : Int32), oI ch0, oI ch1, oI dh0, oI dh1, oR h0.size, oR T102.heap.size, oR T134.heap.size, oI (0 : Int32)] [(.int (own_is_1_1 T134.heap.size T102.heap.size kd w3 h0.size bT102 bT134 kbT102 kbT134 (ch0.toInt8.toInt32) (dh0.toInt8.toInt32)))])
        have N161 := own_Fr.app N153 own_Fr.nil
        refine own_by (fun t_ k_ => XS.iload XT160.here hx rfl (hb hby at_170) rfl  k_) ?_
        show own_Go p e below _ T160 (mkF m 172 #[oI i0, oI i1, oI i2, oI i3, oI i4, oI i5, oI kk, oI (1 : Int32), oI (1 : Int32), oI ch0, oI ch1, oI dh0, oI dh1, oR h0.size, oR T102.heap.size, oR T134.heap.size, oI (0 : Int32)] [(.int (0 : Int32)), (.int (own_is_1_1 T134.heap.size T102.heap.size kd w3 h0.size bT102 bT134 kbT102 kbT134 (ch0.toInt8.toInt32) (dh0.toInt8.toInt32)))])
        have hW : ¬ kd = w3 := fun q => own_pick_ne kk w0 w1 w2 w3 w4 c120_153 (F0.ne F3 (by decide)) (F1.ne F3 (by decide)) (F2.ne F3 (by decide)) (F4.ne F3 (by decide)) (hkd.trans q)
        have hfin : (own_is_1_1 T134.heap.size T102.heap.size kd w3 h0.size bT102 bT134 kbT102 kbT134 (ch0.toInt8.toInt32) (dh0.toInt8.toInt32)) = (0 : Int32) := by rw [show (own_is_1_1 T134.heap.size T102.heap.size kd w3 h0.size bT102 bT134 kbT102 kbT134 (ch0.toInt8.toInt32) (dh0.toInt8.toInt32)) = (0 : Int32) by rw [own_is_1_1, if_neg hW]]
        refine own_by (fun t_ k_ => XS.icmpNo XT160.here hx rfl (hb hby at_172) rfl (XT.ii_ne_f hfin) k_) ?_
        show own_Go p e below _ T160 (mkF m 175 #[oI i0, oI i1, oI i2, oI i3, oI i4, oI i5, oI kk, oI (1 : Int32), oI (1 : Int32), oI ch0, oI ch1, oI dh0, oI dh1, oR h0.size, oR T102.heap.size, oR T134.heap.size, oI (0 : Int32)] [])
        refine own_by (fun t_ k_ => XT.iconstV XT160.here hx rfl (1 : Int32) (hb hby at_175) (by decide) k_) ?_
        show own_Go p e below _ T160 (mkF m 176 #[oI i0, oI i1, oI i2, oI i3, oI i4, oI i5, oI kk, oI (1 : Int32), oI (1 : Int32), oI ch0, oI ch1, oI dh0, oI dh1, oR h0.size, oR T102.heap.size, oR T134.heap.size, oI (0 : Int32)] [(.int (1 : Int32))])
        refine own_by (fun t_ k_ => XS.goto XT160.here hx rfl (pc0 := 176) (pc' := 180) rfl (hb hby at_176) (by decide) (by decide) k_) ?_
        show own_Go p e below _ T160 (mkF m 180 #[oI i0, oI i1, oI i2, oI i3, oI i4, oI i5, oI kk, oI (1 : Int32), oI (1 : Int32), oI ch0, oI ch1, oI dh0, oI dh1, oR h0.size, oR T102.heap.size, oR T134.heap.size, oI (0 : Int32)] [(.int (1 : Int32))])
        exact own_retNW XT160 hx hlk hZ hEL hS eT160 hk0 hC hret (by simp) (w := (1 : Int32)) (hb hby at_180) (by decide) (by decide) (by decide) (⟨rfl, (N161).to (Nat.le_refl _)⟩)
    · subst hk
      show own_Go p e below _ T102 (mkF m 77 #[oI i0, oI i1, oI i2, oI i3, oI i4, oI i5, oI kk, oI (1 : Int32), oI (2 : Int32), oI ch0, oI ch1, oI dh0, oI dh1, oR h0.size, .unset, .unset, .unset] [])
      refine own_by (fun t_ k_ => XS.iload XT102.here hx rfl (hb hby at_77) rfl  k_) ?_
      show own_Go p e below _ T102 (mkF m 79 #[oI i0, oI i1, oI i2, oI i3, oI i4, oI i5, oI kk, oI (1 : Int32), oI (2 : Int32), oI ch0, oI ch1, oI dh0, oI dh1, oR h0.size, .unset, .unset, .unset] [(.int (2 : Int32))])
      refine own_by (fun t_ k_ => XT.iconstV XT102.here hx rfl (3 : Int32) (hb hby at_79) (by decide) k_) ?_
      show own_Go p e below _ T102 (mkF m 80 #[oI i0, oI i1, oI i2, oI i3, oI i4, oI i5, oI kk, oI (1 : Int32), oI (2 : Int32), oI ch0, oI ch1, oI dh0, oI dh1, oR h0.size, .unset, .unset, .unset] [(.int (3 : Int32)), (.int (2 : Int32))])
      refine own_by (fun t_ k_ => XS.icmpYes XT102.here hx rfl (pc0 := 80) (pc' := 87) rfl (hb hby at_80) rfl (XT.ii_ne_t (by decide)) (by decide) (by decide) k_) ?_
      show own_Go p e below _ T102 (mkF m 87 #[oI i0, oI i1, oI i2, oI i3, oI i4, oI i5, oI kk, oI (1 : Int32), oI (2 : Int32), oI ch0, oI ch1, oI dh0, oI dh1, oR h0.size, .unset, .unset, .unset] [])
      refine own_by (fun t_ k_ => XS.iload XT102.here hx rfl (hb hby at_87) rfl  k_) ?_
      show own_Go p e below _ T102 (mkF m 89 #[oI i0, oI i1, oI i2, oI i3, oI i4, oI i5, oI kk, oI (1 : Int32), oI (2 : Int32), oI ch0, oI ch1, oI dh0, oI dh1, oR h0.size, .unset, .unset, .unset] [(.int (2 : Int32))])
      refine own_by (fun t_ k_ => XS.iload XT102.here hx rfl (hb hby at_89) rfl  k_) ?_
      show own_Go p e below _ T102 (mkF m 91 #[oI i0, oI i1, oI i2, oI i3, oI i4, oI i5, oI kk, oI (1 : Int32), oI (2 : Int32), oI ch0, oI ch1, oI dh0, oI dh1, oR h0.size, .unset, .unset, .unset] [(.int dh0), (.int (2 : Int32))])
      refine own_by (fun t_ k_ => XS.iload XT102.here hx rfl (hb hby at_91) rfl  k_) ?_
      show own_Go p e below _ T102 (mkF m 93 #[oI i0, oI i1, oI i2, oI i3, oI i4, oI i5, oI kk, oI (1 : Int32), oI (2 : Int32), oI ch0, oI ch1, oI dh0, oI dh1, oR h0.size, .unset, .unset, .unset] [(.int dh1), (.int dh0), (.int (2 : Int32))])
      have g162 : h0.size ≤ T102.heap.size := Kq103.1
      refine own_callSW XT102 hx hZ hEL hS (rfl : T102.heap = T102.heap) hk0 hC hown (hw _ (List.mem_of_getElem? (i := 0) rfl)) (hw _ (List.mem_of_getElem? (i := 1) rfl)) (hw _ (List.mem_of_getElem? (i := 2) rfl)) (hw _ (List.mem_of_getElem? (i := 3) rfl)) (by decide) (argsL := [(.int (2 : Int32)), (.int dh0), (.int dh1)]) (rest := []) (own_str_2 l Z a0 hw EL hEL dh0 dh1 T102.heap cs fq103_1 hcs Bdh0 Bdh1 hmem) 0 (by decide) (by decide) (by rw [hml]; rfl) (lenOf pd_8 rfl) (Nat.le_of_eq rfl) (hb hby at_93) (by decide) (by decide) (st := [(.int dh1), (.int dh0), (.int (2 : Int32))]) rfl ?_
      rintro T163 LT163 vT163 ⟨XT163, hQT163, hS, hgT163, hZ, hown, hCT163⟩
      obtain ⟨rfl, KT163, NT163, ST163⟩ := hQT163
      show own_Go p e below _ T163 (mkF m 96 #[oI i0, oI i1, oI i2, oI i3, oI i4, oI i5, oI kk, oI (1 : Int32), oI (2 : Int32), oI ch0, oI ch1, oI dh0, oI dh1, oR h0.size, .unset, .unset, .unset] [(.ref T102.heap.size)])
      have fq164_1 := own_stak fq103_1 KT163
      have fq164_2 := own_stak fq103_2 KT163
      have fq164_3 := own_stak fq103_3 KT163
      have fq164_4 := own_stak fq103_4 KT163
      have fq164_5 := own_stak fq103_5 KT163
      have fq164_6 := own_stak fq103_6 KT163
      have fq164_7 := EsT102.keep KT163
      have fq164_8 := FvT102.keep KT163 nin0
      have fq164_9 := FcT102.keep KT163 nin0
      have fq164_10 := VT102.keep KT163 nin0
      have lq164_0 := Nat.lt_of_lt_of_le lt104 KT163.1
      have lq164_1 := Nat.lt_of_lt_of_le lt105 KT163.1
      have Kq164 := own_trans0 Kq103 KT163
      have hC := hCT163
      have hk0 := Nat.le_refl T163.heap.size
      obtain ⟨bT163, kbT163, EsT163, FvT163, FcT163, VT163⟩ := ST163
      have lt165 := EsT163.lt
      have lt166 := VT163.lt
      have z167 : h0.size ≠ T102.heap.size := Nat.ne_of_lt lt104
      have z168 : bT102 ≠ T102.heap.size := Nat.ne_of_lt lt105
      have N169 := own_Fr.app N106 (own_Fr.of NT163 (Kq103).1)
      refine own_by (fun t_ k_ => XS.astore XT163.here hx rfl (hb hby at_96) rfl rfl (l' := #[oI i0, oI i1, oI i2, oI i3, oI i4, oI i5, oI kk, oI (1 : Int32), oI (2 : Int32), oI ch0, oI ch1, oI dh0, oI dh1, oR h0.size, oR T102.heap.size, .unset, .unset]) rfl k_) ?_
      show own_Go p e below _ T163 (mkF m 98 #[oI i0, oI i1, oI i2, oI i3, oI i4, oI i5, oI kk, oI (1 : Int32), oI (2 : Int32), oI ch0, oI ch1, oI dh0, oI dh1, oR h0.size, oR T102.heap.size, .unset, .unset] [])
      have g171 : h0.size ≤ T163.heap.size := Kq164.1
      refine own_new XT163 hx hZ hown (hw _ (List.mem_of_getElem? (i := 26) rfl)) (hw _ (List.mem_of_getElem? (i := 27) rfl)) (hw _ (List.mem_of_getElem? (i := 28) rfl)) (rfl : T163.heap = T163.heap) (hb hby at_98) (by decide) (by decide) ?_
      intro T170 hT170 XT170 eT170 ET170 AT170 DT170
      have fq172_1 := own_stak fq164_1 (own_ek ET170)
      have fq172_2 := own_stak fq164_2 (own_ek ET170)
      have fq172_3 := own_stak fq164_3 (own_ek ET170)
      have fq172_4 := own_stak fq164_4 (own_ek ET170)
      have fq172_5 := own_stak fq164_5 (own_ek ET170)
      have fq172_6 := own_stak fq164_6 (own_ek ET170)
      have fq172_7 := fq164_7.keep (own_ek ET170)
      have fq172_8 := fq164_8.keep (own_ek ET170) nin0
      have fq172_9 := fq164_9.keep (own_ek ET170) nin0
      have fq172_10 := fq164_10.keep (own_ek ET170) nin0
      have fq172_11 := EsT163.keep (own_ek ET170)
      have fq172_12 := FvT163.keep (own_ek ET170) nin0
      have fq172_13 := FcT163.keep (own_ek ET170) nin0
      have fq172_14 := VT163.keep (own_ek ET170) nin0
      have lq172_0 := Nat.lt_of_lt_of_le lq164_0 (own_ek ET170).1
      have lq172_1 := Nat.lt_of_lt_of_le lq164_1 (own_ek ET170).1
      have lq172_2 := Nat.lt_of_lt_of_le lt165 (own_ek ET170).1
      have lq172_3 := Nat.lt_of_lt_of_le lt166 (own_ek ET170).1
      have hC := hC.trans (CHr.keep (own_ek ET170) (fun _ q => by cases q) hC.1)
      have hk0 := Nat.le_trans hk0 (own_ek ET170).1
      have Kq172 := own_trans0 Kq164 (own_ek ET170)
      have z173 : h0.size ≠ T163.heap.size := Nat.ne_of_lt lq164_0
      have z174 : bT102 ≠ T163.heap.size := Nat.ne_of_lt lq164_1
      have z175 : T102.heap.size ≠ T163.heap.size := Nat.ne_of_lt lt165
      have z176 : bT163 ≠ T163.heap.size := Nat.ne_of_lt lt166
      have FT170_kind : Fld Z hT170 T163.heap.size "com/example/nimble_gate/nimblegate/policy/Token" "kind" "Lcom/example/nimble_gate/nimblegate/policy/Token$Kind;" .null := DT170 (ty := (.object "com/example/nimble_gate/nimblegate/policy/Token$Kind")) (Or.inr (hw _ (List.mem_of_getElem? (i := 45) rfl))) (by decide +kernel)
      have FT170_text : Fld Z hT170 T163.heap.size "com/example/nimble_gate/nimblegate/policy/Token" "text" "Ljava/lang/String;" .null := DT170 (ty := (.object "java/lang/String")) (Or.inr (hw _ (List.mem_of_getElem? (i := 47) rfl))) (by decide +kernel)
      have FT170_line : Fld Z hT170 T163.heap.size "com/example/nimble_gate/nimblegate/policy/Token" "line" "I" (.int 0) := DT170 (ty := .int) (Or.inr (hw _ (List.mem_of_getElem? (i := 49) rfl))) (by decide +kernel)
      have FT170_column : Fld Z hT170 T163.heap.size "com/example/nimble_gate/nimblegate/policy/Token" "column" "I" (.int 0) := DT170 (ty := .int) (Or.inr (hw _ (List.mem_of_getElem? (i := 51) rfl))) (by decide +kernel)
      clear DT170
      have lt177 := AT170.lt
      show own_Go p e below _ T170 (mkF m 101 #[oI i0, oI i1, oI i2, oI i3, oI i4, oI i5, oI kk, oI (1 : Int32), oI (2 : Int32), oI ch0, oI ch1, oI dh0, oI dh1, oR h0.size, oR T102.heap.size, .unset, .unset] [(.ref T163.heap.size)])
      refine own_by (fun t_ k_ => XS.dup XT170.here hx rfl (hb hby at_101) rfl rfl k_) ?_
      show own_Go p e below _ T170 (mkF m 102 #[oI i0, oI i1, oI i2, oI i3, oI i4, oI i5, oI kk, oI (1 : Int32), oI (2 : Int32), oI ch0, oI ch1, oI dh0, oI dh1, oR h0.size, oR T102.heap.size, .unset, .unset] [(.ref T163.heap.size), (.ref T163.heap.size)])
      refine own_by (fun t_ k_ => XS.iload XT170.here hx rfl (hb hby at_102) rfl  k_) ?_
      show own_Go p e below _ T170 (mkF m 104 #[oI i0, oI i1, oI i2, oI i3, oI i4, oI i5, oI kk, oI (1 : Int32), oI (2 : Int32), oI ch0, oI ch1, oI dh0, oI dh1, oR h0.size, oR T102.heap.size, .unset, .unset] [(.int kk), (.ref T163.heap.size), (.ref T163.heap.size)])
      refine own_callS XT170 hx hZ hown (hw _ (List.mem_of_getElem? (i := 29) rfl)) (hw _ (List.mem_of_getElem? (i := 30) rfl)) (hw _ (List.mem_of_getElem? (i := 2) rfl)) (hw _ (List.mem_of_getElem? (i := 31) rfl)) (by decide) eT170 (argsL := [(.int kk)]) (rest := [(.ref T163.heap.size), (.ref T163.heap.size)]) (own_pick_met l Z a0 hw kk w0 w1 w2 w3 w4 hT170 ⟨fq172_2, fq172_3, fq172_4, fq172_5, fq172_6⟩) 2 (by decide) (by decide) (by rw [hml]; rfl) (lenOf pd_9 rfl) (Nat.le_of_eq rfl) (hb hby at_104) (by decide) (by decide) (st := [(.int kk), (.ref T163.heap.size), (.ref T163.heap.size)]) rfl ?_
      intro T178 LT178 vT178 XT178 hQT178
      obtain ⟨rfl, eT178, rfl⟩ := hQT178
      show own_Go p e below _ T178 (mkF m 107 #[oI i0, oI i1, oI i2, oI i3, oI i4, oI i5, oI kk, oI (1 : Int32), oI (2 : Int32), oI ch0, oI ch1, oI dh0, oI dh1, oR h0.size, oR T102.heap.size, .unset, .unset] [(.ref (own_pick kk w0 w1 w2 w3 w4)), (.ref T163.heap.size), (.ref T163.heap.size)])
      have N179 := own_Fr.app N169 own_Fr.nil
      generalize hkd : (own_pick kk w0 w1 w2 w3 w4) = kd
      show own_Go p e below _ T178 (mkF m 107 #[oI i0, oI i1, oI i2, oI i3, oI i4, oI i5, oI kk, oI (1 : Int32), oI (2 : Int32), oI ch0, oI ch1, oI dh0, oI dh1, oR h0.size, oR T102.heap.size, .unset, .unset] [(.ref kd), (.ref T163.heap.size), (.ref T163.heap.size)])
      refine own_by (fun t_ k_ => XS.aload XT178.here hx rfl (hb hby at_107) rfl rfl  k_) ?_
      show own_Go p e below _ T178 (mkF m 109 #[oI i0, oI i1, oI i2, oI i3, oI i4, oI i5, oI kk, oI (1 : Int32), oI (2 : Int32), oI ch0, oI ch1, oI dh0, oI dh1, oR h0.size, oR T102.heap.size, .unset, .unset] [(.ref h0.size), (.ref kd), (.ref T163.heap.size), (.ref T163.heap.size)])
      refine own_by (fun t_ k_ => XS.iload XT178.here hx rfl (hb hby at_109) rfl  k_) ?_
      show own_Go p e below _ T178 (mkF m 111 #[oI i0, oI i1, oI i2, oI i3, oI i4, oI i5, oI kk, oI (1 : Int32), oI (2 : Int32), oI ch0, oI ch1, oI dh0, oI dh1, oR h0.size, oR T102.heap.size, .unset, .unset] [(.int i5), (.ref h0.size), (.ref kd), (.ref T163.heap.size), (.ref T163.heap.size)])
      refine own_by (fun t_ k_ => XS.iloadN XT178.here hx rfl (hb hby at_111) rfl  k_) ?_
      show own_Go p e below _ T178 (mkF m 112 #[oI i0, oI i1, oI i2, oI i3, oI i4, oI i5, oI kk, oI (1 : Int32), oI (2 : Int32), oI ch0, oI ch1, oI dh0, oI dh1, oR h0.size, oR T102.heap.size, .unset, .unset] [(.int i0), (.int i5), (.ref h0.size), (.ref kd), (.ref T163.heap.size), (.ref T163.heap.size)])
      refine own_callN XT178 hx hZ rfl hown (hw _ (List.mem_of_getElem? (i := 35) rfl)) (hw _ (List.mem_of_getElem? (i := 36) rfl)) (hw _ (List.mem_of_getElem? (i := 37) rfl)) (hw _ (List.mem_of_getElem? (i := 28) rfl)) (by decide) eT178 (b := T163.heap.size) (argsL := [(.ref kd), (.ref h0.size), (.int i5), (.int i0)]) (rest := [(.ref T163.heap.size)]) (own_tok l Z a0 hw T163.heap.size kd h0.size i5 i0 hT170 AT170 FT170_kind FT170_text FT170_line FT170_column) 1 (by decide) (by decide) (by rw [hml]; rfl) (lenOf pd_10 rfl) (Nat.le_of_eq rfl) (hb hby at_112) (by decide) (by decide) (st := [(.int i0), (.int i5), (.ref h0.size), (.ref kd), (.ref T163.heap.size), (.ref T163.heap.size)]) rfl ?_
      intro T180 LT180 vT180 XT180 hQT180
      obtain ⟨rfl, KT180, NT180, FkT180, FtT180⟩ := hQT180
      show own_Go p e below _ T180 (mkF m 115 #[oI i0, oI i1, oI i2, oI i3, oI i4, oI i5, oI kk, oI (1 : Int32), oI (2 : Int32), oI ch0, oI ch1, oI dh0, oI dh1, oR h0.size, oR T102.heap.size, .unset, .unset] [(.ref T163.heap.size)])
      have fq181_1 := own_stak1 fq172_1 KT180 AT170
      have fq181_2 := own_stak1 fq172_2 KT180 AT170
      have fq181_3 := own_stak1 fq172_3 KT180 AT170
      have fq181_4 := own_stak1 fq172_4 KT180 AT170
      have fq181_5 := own_stak1 fq172_5 KT180 AT170
      have fq181_6 := own_stak1 fq172_6 KT180 AT170
      have fq181_7 := fq172_7.keep KT180
      have fq181_8 := fq172_8.keep KT180 (own_nin z173)
      have fq181_9 := fq172_9.keep KT180 (own_nin z173)
      have fq181_10 := fq172_10.keep KT180 (own_nin z174)
      have fq181_11 := fq172_11.keep KT180
      have fq181_12 := fq172_12.keep KT180 (own_nin z175)
      have fq181_13 := fq172_13.keep KT180 (own_nin z175)
      have fq181_14 := fq172_14.keep KT180 (own_nin z176)
      have fq181_15 := AT170.keep KT180
      have lq181_0 := Nat.lt_of_lt_of_le lq172_0 KT180.1
      have lq181_1 := Nat.lt_of_lt_of_le lq172_1 KT180.1
      have lq181_2 := Nat.lt_of_lt_of_le lq172_2 KT180.1
      have lq181_3 := Nat.lt_of_lt_of_le lq172_3 KT180.1
      have lq181_4 := Nat.lt_of_lt_of_le lt177 KT180.1
      have hC := hC.trans (CHr.keep KT180 (fun _ q => by cases List.mem_singleton.mp q; exact (Safe.exa hZ.alike AT170 (by decide) (by decide))) hC.1)
      have hk0 := Nat.le_trans hk0 KT180.1
      have Kq181 := own_trans1 Kq172 KT180 (Or.inr g171)
      have N182 := own_Fr.app N179 (own_Fr.of (own_Fr.new NT180 g171 (Kq172).1) (Nat.le_refl _))
      refine own_by (fun t_ k_ => XS.astore XT180.here hx rfl (hb hby at_115) rfl rfl (l' := #[oI i0, oI i1, oI i2, oI i3, oI i4, oI i5, oI kk, oI (1 : Int32), oI (2 : Int32), oI ch0, oI ch1, oI dh0, oI dh1, oR h0.size, oR T102.heap.size, oR T163.heap.size, .unset]) rfl k_) ?_
      show own_Go p e below _ T180 (mkF m 117 #[oI i0, oI i1, oI i2, oI i3, oI i4, oI i5, oI kk, oI (1 : Int32), oI (2 : Int32), oI ch0, oI ch1, oI dh0, oI dh1, oR h0.size, oR T102.heap.size, oR T163.heap.size, .unset] [])
      refine own_by (fun t_ k_ => XS.iload XT180.here hx rfl (hb hby at_117) rfl  k_) ?_
      show own_Go p e below _ T180 (mkF m 119 #[oI i0, oI i1, oI i2, oI i3, oI i4, oI i5, oI kk, oI (1 : Int32), oI (2 : Int32), oI ch0, oI ch1, oI dh0, oI dh1, oR h0.size, oR T102.heap.size, oR T163.heap.size, .unset] [(.int kk)])
      refine own_by (fun t_ k_ => XT.iconstV XT180.here hx rfl (3 : Int32) (hb hby at_119) (by decide) k_) ?_
      show own_Go p e below _ T180 (mkF m 120 #[oI i0, oI i1, oI i2, oI i3, oI i4, oI i5, oI kk, oI (1 : Int32), oI (2 : Int32), oI ch0, oI ch1, oI dh0, oI dh1, oR h0.size, oR T102.heap.size, oR T163.heap.size, .unset] [(.int (3 : Int32)), (.int kk)])
      by_cases c120_182 : kk = (3 : Int32)
      · refine own_by (fun t_ k_ => XS.icmpNo XT180.here hx rfl (hb hby at_120) rfl (XT.ii_ne_f c120_182) k_) ?_
        show own_Go p e below _ T180 (mkF m 123 #[oI i0, oI i1, oI i2, oI i3, oI i4, oI i5, oI kk, oI (1 : Int32), oI (2 : Int32), oI ch0, oI ch1, oI dh0, oI dh1, oR h0.size, oR T102.heap.size, oR T163.heap.size, .unset] [])
        refine own_by (fun t_ k_ => XS.iload XT180.here hx rfl (hb hby at_123) rfl  k_) ?_
        show own_Go p e below _ T180 (mkF m 125 #[oI i0, oI i1, oI i2, oI i3, oI i4, oI i5, oI kk, oI (1 : Int32), oI (2 : Int32), oI ch0, oI ch1, oI dh0, oI dh1, oR h0.size, oR T102.heap.size, oR T163.heap.size, .unset] [(.int (2 : Int32))])
        refine own_by (fun t_ k_ => XS.iload XT180.here hx rfl (hb hby at_125) rfl  k_) ?_
        show own_Go p e below _ T180 (mkF m 127 #[oI i0, oI i1, oI i2, oI i3, oI i4, oI i5, oI kk, oI (1 : Int32), oI (2 : Int32), oI ch0, oI ch1, oI dh0, oI dh1, oR h0.size, oR T102.heap.size, oR T163.heap.size, .unset] [(.int (1 : Int32)), (.int (2 : Int32))])
        refine own_by (fun t_ k_ => XS.icmpYes XT180.here hx rfl (pc0 := 127) (pc' := 160) rfl (hb hby at_127) rfl (XT.ii_ne_t (by decide)) (by decide) (by decide) k_) ?_
        show own_Go p e below _ T180 (mkF m 160 #[oI i0, oI i1, oI i2, oI i3, oI i4, oI i5, oI kk, oI (1 : Int32), oI (2 : Int32), oI ch0, oI ch1, oI dh0, oI dh1, oR h0.size, oR T102.heap.size, oR T163.heap.size, .unset] [])
        refine own_by (fun t_ k_ => XT.iconstV XT180.here hx rfl (0 : Int32) (hb hby at_160) (by decide) k_) ?_
        show own_Go p e below _ T180 (mkF m 161 #[oI i0, oI i1, oI i2, oI i3, oI i4, oI i5, oI kk, oI (1 : Int32), oI (2 : Int32), oI ch0, oI ch1, oI dh0, oI dh1, oR h0.size, oR T102.heap.size, oR T163.heap.size, .unset] [(.int (0 : Int32))])
        refine own_by (fun t_ k_ => XS.istore XT180.here hx rfl (hb hby at_161) rfl (l' := #[oI i0, oI i1, oI i2, oI i3, oI i4, oI i5, oI kk, oI (1 : Int32), oI (2 : Int32), oI ch0, oI ch1, oI dh0, oI dh1, oR h0.size, oR T102.heap.size, oR T163.heap.size, oI (0 : Int32)]) rfl k_) ?_
        show own_Go p e below _ T180 (mkF m 163 #[oI i0, oI i1, oI i2, oI i3, oI i4, oI i5, oI kk, oI (1 : Int32), oI (2 : Int32), oI ch0, oI ch1, oI dh0, oI dh1, oR h0.size, oR T102.heap.size, oR T163.heap.size, oI (0 : Int32)] [])
        refine own_by (fun t_ k_ => XS.aload XT180.here hx rfl (hb hby at_163) rfl rfl  k_) ?_
        show own_Go p e below _ T180 (mkF m 165 #[oI i0, oI i1, oI i2, oI i3, oI i4, oI i5, oI kk, oI (1 : Int32), oI (2 : Int32), oI ch0, oI ch1, oI dh0, oI dh1, oR h0.size, oR T102.heap.size, oR T163.heap.size, oI (0 : Int32)] [(.ref T163.heap.size)])
        refine own_by (fun t_ k_ => XS.aload XT180.here hx rfl (hb hby at_165) rfl rfl  k_) ?_
        show own_Go p e below _ T180 (mkF m 167 #[oI i0, oI i1, oI i2, oI i3, oI i4, oI i5, oI kk, oI (1 : Int32), oI (2 : Int32), oI ch0, oI ch1, oI dh0, oI dh1, oR h0.size, oR T102.heap.size, oR T163.heap.size, oI (0 : Int32)] [(.ref T102.heap.size), (.ref T163.heap.size)])
        refine own_callV XT180 hx hZ hown (hw _ (List.mem_of_getElem? (i := 52) rfl)) (hw _ (List.mem_of_getElem? (i := 53) rfl)) (hw _ (List.mem_of_getElem? (i := 55) rfl)) (hw _ (List.mem_of_getElem? (i := 54) rfl)) (hw _ (List.mem_of_getElem? (i := 56) rfl)) (hw _ (List.mem_of_getElem? (i := 28) rfl)) (by decide) (rfl : T180.heap = T180.heap) (b := T163.heap.size) fq181_15 (argsL := [(.ref T102.heap.size)]) (rest := []) (own_is_1_2_met l Z a0 hw T163.heap.size T102.heap.size kd w3 h0.size bT102 bT163 kbT102 kbT163 (ch0.toInt8.toInt32) (dh0.toInt8.toInt32) (dh1.toInt8.toInt32) T180.heap cs fq181_1 hcs z167 fq181_5 FkT180 FtT180 fq181_7 fq181_8 fq181_9 fq181_10 fq181_11 fq181_12 fq181_13 fq181_14) 0 (by decide) (by decide) (by rw [hml]; rfl) (lenOf pd_11 rfl) (Nat.le_of_eq rfl) (hb hby at_167) (by decide) (by decide) (st := [(.ref T102.heap.size), (.ref T163.heap.size)]) rfl ?_
        intro T184 LT184 vT184 XT184 hQT184
        obtain ⟨rfl, eT184, rfl⟩ := hQT184
        show own_Go p e below _ T184 (mkF m 170 #[oI i0, oI i1, oI i2, oI i3, oI i4, oI i5, oI kk, oI (1 : Int32), oI (2 : Int32), oI ch0, oI ch1, oI dh0, oI dh1, oR h0.size, oR T102.heap.size, oR T163.heap.size, oI (0 : Int32)] [(.int (own_is_1_2 T163.heap.size T102.heap.size kd w3 h0.size bT102 bT163 kbT102 kbT163 (ch0.toInt8.toInt32) (dh0.toInt8.toInt32) (dh1.toInt8.toInt32)))])
        have N185 := own_Fr.app N182 own_Fr.nil
        refine own_by (fun t_ k_ => XS.iload XT184.here hx rfl (hb hby at_170) rfl  k_) ?_
        show own_Go p e below _ T184 (mkF m 172 #[oI i0, oI i1, oI i2, oI i3, oI i4, oI i5, oI kk, oI (1 : Int32), oI (2 : Int32), oI ch0, oI ch1, oI dh0, oI dh1, oR h0.size, oR T102.heap.size, oR T163.heap.size, oI (0 : Int32)] [(.int (0 : Int32)), (.int (own_is_1_2 T163.heap.size T102.heap.size kd w3 h0.size bT102 bT163 kbT102 kbT163 (ch0.toInt8.toInt32) (dh0.toInt8.toInt32) (dh1.toInt8.toInt32)))])
        have hW : kd = w3 := hkd.symm.trans (by rw [own_pick, c120_182, if_neg (by decide), if_neg (by decide), if_neg (by decide), if_pos (by decide)])
        have hfin : (own_is_1_2 T163.heap.size T102.heap.size kd w3 h0.size bT102 bT163 kbT102 kbT163 (ch0.toInt8.toInt32) (dh0.toInt8.toInt32) (dh1.toInt8.toInt32)) = (0 : Int32) := by rw [show (own_is_1_2 T163.heap.size T102.heap.size kd w3 h0.size bT102 bT163 kbT102 kbT163 (ch0.toInt8.toInt32) (dh0.toInt8.toInt32) (dh1.toInt8.toInt32)) = (0 : Int32) by rw [own_is_1_2, if_pos hW, if_pos (by rw [show (own_eq_1_2 h0.size T102.heap.size bT102 bT163 kbT102 kbT163 (ch0.toInt8.toInt32) (dh0.toInt8.toInt32) (dh1.toInt8.toInt32)) = (0 : Int32) by rw [own_eq_1_2, if_pos (by rw [show (own_le_1_2 bT102 bT163 kbT102 kbT163 (ch0.toInt8.toInt32) (dh0.toInt8.toInt32) (dh1.toInt8.toInt32)) = (0 : Int32) by rw [own_le_1_2]])]])]]
        refine own_by (fun t_ k_ => XS.icmpNo XT184.here hx rfl (hb hby at_172) rfl (XT.ii_ne_f hfin) k_) ?_
        show own_Go p e below _ T184 (mkF m 175 #[oI i0, oI i1, oI i2, oI i3, oI i4, oI i5, oI kk, oI (1 : Int32), oI (2 : Int32), oI ch0, oI ch1, oI dh0, oI dh1, oR h0.size, oR T102.heap.size, oR T163.heap.size, oI (0 : Int32)] [])
        refine own_by (fun t_ k_ => XT.iconstV XT184.here hx rfl (1 : Int32) (hb hby at_175) (by decide) k_) ?_
        show own_Go p e below _ T184 (mkF m 176 #[oI i0, oI i1, oI i2, oI i3, oI i4, oI i5, oI kk, oI (1 : Int32), oI (2 : Int32), oI ch0, oI ch1, oI dh0, oI dh1, oR h0.size, oR T102.heap.size, oR T163.heap.size, oI (0 : Int32)] [(.int (1 : Int32))])
        refine own_by (fun t_ k_ => XS.goto XT184.here hx rfl (pc0 := 176) (pc' := 180) rfl (hb hby at_176) (by decide) (by decide) k_) ?_
        show own_Go p e below _ T184 (mkF m 180 #[oI i0, oI i1, oI i2, oI i3, oI i4, oI i5, oI kk, oI (1 : Int32), oI (2 : Int32), oI ch0, oI ch1, oI dh0, oI dh1, oR h0.size, oR T102.heap.size, oR T163.heap.size, oI (0 : Int32)] [(.int (1 : Int32))])
        exact own_retNW XT184 hx hlk hZ hEL hS eT184 hk0 hC hret (by simp) (w := (1 : Int32)) (hb hby at_180) (by decide) (by decide) (by decide) (⟨rfl, (N185).to (Nat.le_refl _)⟩)
      · refine own_by (fun t_ k_ => XS.icmpYes XT180.here hx rfl (pc0 := 120) (pc' := 160) rfl (hb hby at_120) rfl (XT.ii_ne_t c120_182) (by decide) (by decide) k_) ?_
        show own_Go p e below _ T180 (mkF m 160 #[oI i0, oI i1, oI i2, oI i3, oI i4, oI i5, oI kk, oI (1 : Int32), oI (2 : Int32), oI ch0, oI ch1, oI dh0, oI dh1, oR h0.size, oR T102.heap.size, oR T163.heap.size, .unset] [])
        refine own_by (fun t_ k_ => XT.iconstV XT180.here hx rfl (0 : Int32) (hb hby at_160) (by decide) k_) ?_
        show own_Go p e below _ T180 (mkF m 161 #[oI i0, oI i1, oI i2, oI i3, oI i4, oI i5, oI kk, oI (1 : Int32), oI (2 : Int32), oI ch0, oI ch1, oI dh0, oI dh1, oR h0.size, oR T102.heap.size, oR T163.heap.size, .unset] [(.int (0 : Int32))])
        refine own_by (fun t_ k_ => XS.istore XT180.here hx rfl (hb hby at_161) rfl (l' := #[oI i0, oI i1, oI i2, oI i3, oI i4, oI i5, oI kk, oI (1 : Int32), oI (2 : Int32), oI ch0, oI ch1, oI dh0, oI dh1, oR h0.size, oR T102.heap.size, oR T163.heap.size, oI (0 : Int32)]) rfl k_) ?_
        show own_Go p e below _ T180 (mkF m 163 #[oI i0, oI i1, oI i2, oI i3, oI i4, oI i5, oI kk, oI (1 : Int32), oI (2 : Int32), oI ch0, oI ch1, oI dh0, oI dh1, oR h0.size, oR T102.heap.size, oR T163.heap.size, oI (0 : Int32)] [])
        refine own_by (fun t_ k_ => XS.aload XT180.here hx rfl (hb hby at_163) rfl rfl  k_) ?_
        show own_Go p e below _ T180 (mkF m 165 #[oI i0, oI i1, oI i2, oI i3, oI i4, oI i5, oI kk, oI (1 : Int32), oI (2 : Int32), oI ch0, oI ch1, oI dh0, oI dh1, oR h0.size, oR T102.heap.size, oR T163.heap.size, oI (0 : Int32)] [(.ref T163.heap.size)])
        refine own_by (fun t_ k_ => XS.aload XT180.here hx rfl (hb hby at_165) rfl rfl  k_) ?_
        show own_Go p e below _ T180 (mkF m 167 #[oI i0, oI i1, oI i2, oI i3, oI i4, oI i5, oI kk, oI (1 : Int32), oI (2 : Int32), oI ch0, oI ch1, oI dh0, oI dh1, oR h0.size, oR T102.heap.size, oR T163.heap.size, oI (0 : Int32)] [(.ref T102.heap.size), (.ref T163.heap.size)])
        refine own_callV XT180 hx hZ hown (hw _ (List.mem_of_getElem? (i := 52) rfl)) (hw _ (List.mem_of_getElem? (i := 53) rfl)) (hw _ (List.mem_of_getElem? (i := 55) rfl)) (hw _ (List.mem_of_getElem? (i := 54) rfl)) (hw _ (List.mem_of_getElem? (i := 56) rfl)) (hw _ (List.mem_of_getElem? (i := 28) rfl)) (by decide) (rfl : T180.heap = T180.heap) (b := T163.heap.size) fq181_15 (argsL := [(.ref T102.heap.size)]) (rest := []) (own_is_1_2_met l Z a0 hw T163.heap.size T102.heap.size kd w3 h0.size bT102 bT163 kbT102 kbT163 (ch0.toInt8.toInt32) (dh0.toInt8.toInt32) (dh1.toInt8.toInt32) T180.heap cs fq181_1 hcs z167 fq181_5 FkT180 FtT180 fq181_7 fq181_8 fq181_9 fq181_10 fq181_11 fq181_12 fq181_13 fq181_14) 0 (by decide) (by decide) (by rw [hml]; rfl) (lenOf pd_11 rfl) (Nat.le_of_eq rfl) (hb hby at_167) (by decide) (by decide) (st := [(.ref T102.heap.size), (.ref T163.heap.size)]) rfl ?_
        intro T186 LT186 vT186 XT186 hQT186
        obtain ⟨rfl, eT186, rfl⟩ := hQT186
        show own_Go p e below _ T186 (mkF m 170 #[oI i0, oI i1, oI i2, oI i3, oI i4, oI i5, oI kk, oI (1 : Int32), oI (2 : Int32), oI ch0, oI ch1, oI dh0, oI dh1, oR h0.size, oR T102.heap.size, oR T163.heap.size, oI (0 : Int32)] [(.int (own_is_1_2 T163.heap.size T102.heap.size kd w3 h0.size bT102 bT163 kbT102 kbT163 (ch0.toInt8.toInt32) (dh0.toInt8.toInt32) (dh1.toInt8.toInt32)))])
        have N187 := own_Fr.app N182 own_Fr.nil
        refine own_by (fun t_ k_ => XS.iload XT186.here hx rfl (hb hby at_170) rfl  k_) ?_
        show own_Go p e below _ T186 (mkF m 172 #[oI i0, oI i1, oI i2, oI i3, oI i4, oI i5, oI kk, oI (1 : Int32), oI (2 : Int32), oI ch0, oI ch1, oI dh0, oI dh1, oR h0.size, oR T102.heap.size, oR T163.heap.size, oI (0 : Int32)] [(.int (0 : Int32)), (.int (own_is_1_2 T163.heap.size T102.heap.size kd w3 h0.size bT102 bT163 kbT102 kbT163 (ch0.toInt8.toInt32) (dh0.toInt8.toInt32) (dh1.toInt8.toInt32)))])
        have hW : ¬ kd = w3 := fun q => own_pick_ne kk w0 w1 w2 w3 w4 c120_182 (F0.ne F3 (by decide)) (F1.ne F3 (by decide)) (F2.ne F3 (by decide)) (F4.ne F3 (by decide)) (hkd.trans q)
        have hfin : (own_is_1_2 T163.heap.size T102.heap.size kd w3 h0.size bT102 bT163 kbT102 kbT163 (ch0.toInt8.toInt32) (dh0.toInt8.toInt32) (dh1.toInt8.toInt32)) = (0 : Int32) := by rw [show (own_is_1_2 T163.heap.size T102.heap.size kd w3 h0.size bT102 bT163 kbT102 kbT163 (ch0.toInt8.toInt32) (dh0.toInt8.toInt32) (dh1.toInt8.toInt32)) = (0 : Int32) by rw [own_is_1_2, if_neg hW]]
        refine own_by (fun t_ k_ => XS.icmpNo XT186.here hx rfl (hb hby at_172) rfl (XT.ii_ne_f hfin) k_) ?_
        show own_Go p e below _ T186 (mkF m 175 #[oI i0, oI i1, oI i2, oI i3, oI i4, oI i5, oI kk, oI (1 : Int32), oI (2 : Int32), oI ch0, oI ch1, oI dh0, oI dh1, oR h0.size, oR T102.heap.size, oR T163.heap.size, oI (0 : Int32)] [])
        refine own_by (fun t_ k_ => XT.iconstV XT186.here hx rfl (1 : Int32) (hb hby at_175) (by decide) k_) ?_
        show own_Go p e below _ T186 (mkF m 176 #[oI i0, oI i1, oI i2, oI i3, oI i4, oI i5, oI kk, oI (1 : Int32), oI (2 : Int32), oI ch0, oI ch1, oI dh0, oI dh1, oR h0.size, oR T102.heap.size, oR T163.heap.size, oI (0 : Int32)] [(.int (1 : Int32))])
        refine own_by (fun t_ k_ => XS.goto XT186.here hx rfl (pc0 := 176) (pc' := 180) rfl (hb hby at_176) (by decide) (by decide) k_) ?_
        show own_Go p e below _ T186 (mkF m 180 #[oI i0, oI i1, oI i2, oI i3, oI i4, oI i5, oI kk, oI (1 : Int32), oI (2 : Int32), oI ch0, oI ch1, oI dh0, oI dh1, oR h0.size, oR T102.heap.size, oR T163.heap.size, oI (0 : Int32)] [(.int (1 : Int32))])
        exact own_retNW XT186 hx hlk hZ hEL hS eT186 hk0 hC hret (by simp) (w := (1 : Int32)) (hb hby at_180) (by decide) (by decide) (by decide) (⟨rfl, (N187).to (Nat.le_refl _)⟩)
    · subst hk
      show own_Go p e below _ T102 (mkF m 77 #[oI i0, oI i1, oI i2, oI i3, oI i4, oI i5, oI kk, oI (1 : Int32), oI (3 : Int32), oI ch0, oI ch1, oI dh0, oI dh1, oR h0.size, .unset, .unset, .unset] [])
      refine own_by (fun t_ k_ => XS.iload XT102.here hx rfl (hb hby at_77) rfl  k_) ?_
      show own_Go p e below _ T102 (mkF m 79 #[oI i0, oI i1, oI i2, oI i3, oI i4, oI i5, oI kk, oI (1 : Int32), oI (3 : Int32), oI ch0, oI ch1, oI dh0, oI dh1, oR h0.size, .unset, .unset, .unset] [(.int (3 : Int32))])
      refine own_by (fun t_ k_ => XT.iconstV XT102.here hx rfl (3 : Int32) (hb hby at_79) (by decide) k_) ?_
      show own_Go p e below _ T102 (mkF m 80 #[oI i0, oI i1, oI i2, oI i3, oI i4, oI i5, oI kk, oI (1 : Int32), oI (3 : Int32), oI ch0, oI ch1, oI dh0, oI dh1, oR h0.size, .unset, .unset, .unset] [(.int (3 : Int32)), (.int (3 : Int32))])
      refine own_by (fun t_ k_ => XS.icmpNo XT102.here hx rfl (hb hby at_80) rfl (XT.ii_ne_f (by decide)) k_) ?_
      show own_Go p e below _ T102 (mkF m 83 #[oI i0, oI i1, oI i2, oI i3, oI i4, oI i5, oI kk, oI (1 : Int32), oI (3 : Int32), oI ch0, oI ch1, oI dh0, oI dh1, oR h0.size, .unset, .unset, .unset] [])
      refine own_by (fun t_ k_ => XS.aconstNull XT102.here hx rfl (hb hby at_83) k_) ?_
      show own_Go p e below _ T102 (mkF m 84 #[oI i0, oI i1, oI i2, oI i3, oI i4, oI i5, oI kk, oI (1 : Int32), oI (3 : Int32), oI ch0, oI ch1, oI dh0, oI dh1, oR h0.size, .unset, .unset, .unset] [.null])
      refine own_by (fun t_ k_ => XS.goto XT102.here hx rfl (pc0 := 84) (pc' := 96) rfl (hb hby at_84) (by decide) (by decide) k_) ?_
      show own_Go p e below _ T102 (mkF m 96 #[oI i0, oI i1, oI i2, oI i3, oI i4, oI i5, oI kk, oI (1 : Int32), oI (3 : Int32), oI ch0, oI ch1, oI dh0, oI dh1, oR h0.size, .unset, .unset, .unset] [.null])
      refine own_by (fun t_ k_ => XS.astore XT102.here hx rfl (hb hby at_96) rfl rfl (l' := #[oI i0, oI i1, oI i2, oI i3, oI i4, oI i5, oI kk, oI (1 : Int32), oI (3 : Int32), oI ch0, oI ch1, oI dh0, oI dh1, oR h0.size, .val .null, .unset, .unset]) rfl k_) ?_
      show own_Go p e below _ T102 (mkF m 98 #[oI i0, oI i1, oI i2, oI i3, oI i4, oI i5, oI kk, oI (1 : Int32), oI (3 : Int32), oI ch0, oI ch1, oI dh0, oI dh1, oR h0.size, .val .null, .unset, .unset] [])
      have g189 : h0.size ≤ T102.heap.size := Kq103.1
      refine own_new XT102 hx hZ hown (hw _ (List.mem_of_getElem? (i := 26) rfl)) (hw _ (List.mem_of_getElem? (i := 27) rfl)) (hw _ (List.mem_of_getElem? (i := 28) rfl)) (rfl : T102.heap = T102.heap) (hb hby at_98) (by decide) (by decide) ?_
      intro T188 hT188 XT188 eT188 ET188 AT188 DT188
      have fq190_1 := own_stak fq103_1 (own_ek ET188)
      have fq190_2 := own_stak fq103_2 (own_ek ET188)
      have fq190_3 := own_stak fq103_3 (own_ek ET188)
      have fq190_4 := own_stak fq103_4 (own_ek ET188)
      have fq190_5 := own_stak fq103_5 (own_ek ET188)
      have fq190_6 := own_stak fq103_6 (own_ek ET188)
      have fq190_7 := EsT102.keep (own_ek ET188)
      have fq190_8 := FvT102.keep (own_ek ET188) nin0
      have fq190_9 := FcT102.keep (own_ek ET188) nin0
      have fq190_10 := VT102.keep (own_ek ET188) nin0
      have lq190_0 := Nat.lt_of_lt_of_le lt104 (own_ek ET188).1
      have lq190_1 := Nat.lt_of_lt_of_le lt105 (own_ek ET188).1
      have hC := hC.trans (CHr.keep (own_ek ET188) (fun _ q => by cases q) hC.1)
      have hk0 := Nat.le_trans hk0 (own_ek ET188).1
      have Kq190 := own_trans0 Kq103 (own_ek ET188)
      have z191 : h0.size ≠ T102.heap.size := Nat.ne_of_lt lt104
      have z192 : bT102 ≠ T102.heap.size := Nat.ne_of_lt lt105
      have FT188_kind : Fld Z hT188 T102.heap.size "com/example/nimble_gate/nimblegate/policy/Token" "kind" "Lcom/example/nimble_gate/nimblegate/policy/Token$Kind;" .null := DT188 (ty := (.object "com/example/nimble_gate/nimblegate/policy/Token$Kind")) (Or.inr (hw _ (List.mem_of_getElem? (i := 45) rfl))) (by decide +kernel)
      have FT188_text : Fld Z hT188 T102.heap.size "com/example/nimble_gate/nimblegate/policy/Token" "text" "Ljava/lang/String;" .null := DT188 (ty := (.object "java/lang/String")) (Or.inr (hw _ (List.mem_of_getElem? (i := 47) rfl))) (by decide +kernel)
      have FT188_line : Fld Z hT188 T102.heap.size "com/example/nimble_gate/nimblegate/policy/Token" "line" "I" (.int 0) := DT188 (ty := .int) (Or.inr (hw _ (List.mem_of_getElem? (i := 49) rfl))) (by decide +kernel)
      have FT188_column : Fld Z hT188 T102.heap.size "com/example/nimble_gate/nimblegate/policy/Token" "column" "I" (.int 0) := DT188 (ty := .int) (Or.inr (hw _ (List.mem_of_getElem? (i := 51) rfl))) (by decide +kernel)
      clear DT188
      have lt193 := AT188.lt
      show own_Go p e below _ T188 (mkF m 101 #[oI i0, oI i1, oI i2, oI i3, oI i4, oI i5, oI kk, oI (1 : Int32), oI (3 : Int32), oI ch0, oI ch1, oI dh0, oI dh1, oR h0.size, .val .null, .unset, .unset] [(.ref T102.heap.size)])
      refine own_by (fun t_ k_ => XS.dup XT188.here hx rfl (hb hby at_101) rfl rfl k_) ?_
      show own_Go p e below _ T188 (mkF m 102 #[oI i0, oI i1, oI i2, oI i3, oI i4, oI i5, oI kk, oI (1 : Int32), oI (3 : Int32), oI ch0, oI ch1, oI dh0, oI dh1, oR h0.size, .val .null, .unset, .unset] [(.ref T102.heap.size), (.ref T102.heap.size)])
      refine own_by (fun t_ k_ => XS.iload XT188.here hx rfl (hb hby at_102) rfl  k_) ?_
      show own_Go p e below _ T188 (mkF m 104 #[oI i0, oI i1, oI i2, oI i3, oI i4, oI i5, oI kk, oI (1 : Int32), oI (3 : Int32), oI ch0, oI ch1, oI dh0, oI dh1, oR h0.size, .val .null, .unset, .unset] [(.int kk), (.ref T102.heap.size), (.ref T102.heap.size)])
      refine own_callS XT188 hx hZ hown (hw _ (List.mem_of_getElem? (i := 29) rfl)) (hw _ (List.mem_of_getElem? (i := 30) rfl)) (hw _ (List.mem_of_getElem? (i := 2) rfl)) (hw _ (List.mem_of_getElem? (i := 31) rfl)) (by decide) eT188 (argsL := [(.int kk)]) (rest := [(.ref T102.heap.size), (.ref T102.heap.size)]) (own_pick_met l Z a0 hw kk w0 w1 w2 w3 w4 hT188 ⟨fq190_2, fq190_3, fq190_4, fq190_5, fq190_6⟩) 2 (by decide) (by decide) (by rw [hml]; rfl) (lenOf pd_9 rfl) (Nat.le_of_eq rfl) (hb hby at_104) (by decide) (by decide) (st := [(.int kk), (.ref T102.heap.size), (.ref T102.heap.size)]) rfl ?_
      intro T194 LT194 vT194 XT194 hQT194
      obtain ⟨rfl, eT194, rfl⟩ := hQT194
      show own_Go p e below _ T194 (mkF m 107 #[oI i0, oI i1, oI i2, oI i3, oI i4, oI i5, oI kk, oI (1 : Int32), oI (3 : Int32), oI ch0, oI ch1, oI dh0, oI dh1, oR h0.size, .val .null, .unset, .unset] [(.ref (own_pick kk w0 w1 w2 w3 w4)), (.ref T102.heap.size), (.ref T102.heap.size)])
      have N195 := own_Fr.app N106 own_Fr.nil
      generalize hkd : (own_pick kk w0 w1 w2 w3 w4) = kd
      show own_Go p e below _ T194 (mkF m 107 #[oI i0, oI i1, oI i2, oI i3, oI i4, oI i5, oI kk, oI (1 : Int32), oI (3 : Int32), oI ch0, oI ch1, oI dh0, oI dh1, oR h0.size, .val .null, .unset, .unset] [(.ref kd), (.ref T102.heap.size), (.ref T102.heap.size)])
      refine own_by (fun t_ k_ => XS.aload XT194.here hx rfl (hb hby at_107) rfl rfl  k_) ?_
      show own_Go p e below _ T194 (mkF m 109 #[oI i0, oI i1, oI i2, oI i3, oI i4, oI i5, oI kk, oI (1 : Int32), oI (3 : Int32), oI ch0, oI ch1, oI dh0, oI dh1, oR h0.size, .val .null, .unset, .unset] [(.ref h0.size), (.ref kd), (.ref T102.heap.size), (.ref T102.heap.size)])
      refine own_by (fun t_ k_ => XS.iload XT194.here hx rfl (hb hby at_109) rfl  k_) ?_
      show own_Go p e below _ T194 (mkF m 111 #[oI i0, oI i1, oI i2, oI i3, oI i4, oI i5, oI kk, oI (1 : Int32), oI (3 : Int32), oI ch0, oI ch1, oI dh0, oI dh1, oR h0.size, .val .null, .unset, .unset] [(.int i5), (.ref h0.size), (.ref kd), (.ref T102.heap.size), (.ref T102.heap.size)])
      refine own_by (fun t_ k_ => XS.iloadN XT194.here hx rfl (hb hby at_111) rfl  k_) ?_
      show own_Go p e below _ T194 (mkF m 112 #[oI i0, oI i1, oI i2, oI i3, oI i4, oI i5, oI kk, oI (1 : Int32), oI (3 : Int32), oI ch0, oI ch1, oI dh0, oI dh1, oR h0.size, .val .null, .unset, .unset] [(.int i0), (.int i5), (.ref h0.size), (.ref kd), (.ref T102.heap.size), (.ref T102.heap.size)])
      refine own_callN XT194 hx hZ rfl hown (hw _ (List.mem_of_getElem? (i := 35) rfl)) (hw _ (List.mem_of_getElem? (i := 36) rfl)) (hw _ (List.mem_of_getElem? (i := 37) rfl)) (hw _ (List.mem_of_getElem? (i := 28) rfl)) (by decide) eT194 (b := T102.heap.size) (argsL := [(.ref kd), (.ref h0.size), (.int i5), (.int i0)]) (rest := [(.ref T102.heap.size)]) (own_tok l Z a0 hw T102.heap.size kd h0.size i5 i0 hT188 AT188 FT188_kind FT188_text FT188_line FT188_column) 1 (by decide) (by decide) (by rw [hml]; rfl) (lenOf pd_10 rfl) (Nat.le_of_eq rfl) (hb hby at_112) (by decide) (by decide) (st := [(.int i0), (.int i5), (.ref h0.size), (.ref kd), (.ref T102.heap.size), (.ref T102.heap.size)]) rfl ?_
      intro T196 LT196 vT196 XT196 hQT196
      obtain ⟨rfl, KT196, NT196, FkT196, FtT196⟩ := hQT196
      show own_Go p e below _ T196 (mkF m 115 #[oI i0, oI i1, oI i2, oI i3, oI i4, oI i5, oI kk, oI (1 : Int32), oI (3 : Int32), oI ch0, oI ch1, oI dh0, oI dh1, oR h0.size, .val .null, .unset, .unset] [(.ref T102.heap.size)])
      have fq197_1 := own_stak1 fq190_1 KT196 AT188
      have fq197_2 := own_stak1 fq190_2 KT196 AT188
      have fq197_3 := own_stak1 fq190_3 KT196 AT188
      have fq197_4 := own_stak1 fq190_4 KT196 AT188
      have fq197_5 := own_stak1 fq190_5 KT196 AT188
      have fq197_6 := own_stak1 fq190_6 KT196 AT188
      have fq197_7 := fq190_7.keep KT196
      have fq197_8 := fq190_8.keep KT196 (own_nin z191)
      have fq197_9 := fq190_9.keep KT196 (own_nin z191)
      have fq197_10 := fq190_10.keep KT196 (own_nin z192)
      have fq197_11 := AT188.keep KT196
      have lq197_0 := Nat.lt_of_lt_of_le lq190_0 KT196.1
      have lq197_1 := Nat.lt_of_lt_of_le lq190_1 KT196.1
      have lq197_2 := Nat.lt_of_lt_of_le lt193 KT196.1
      have hC := hC.trans (CHr.keep KT196 (fun _ q => by cases List.mem_singleton.mp q; exact (Safe.exa hZ.alike AT188 (by decide) (by decide))) hC.1)
      have hk0 := Nat.le_trans hk0 KT196.1
      have Kq197 := own_trans1 Kq190 KT196 (Or.inr g189)
      have N198 := own_Fr.app N195 (own_Fr.of (own_Fr.new NT196 g189 (Kq190).1) (Nat.le_refl _))
      refine own_by (fun t_ k_ => XS.astore XT196.here hx rfl (hb hby at_115) rfl rfl (l' := #[oI i0, oI i1, oI i2, oI i3, oI i4, oI i5, oI kk, oI (1 : Int32), oI (3 : Int32), oI ch0, oI ch1, oI dh0, oI dh1, oR h0.size, .val .null, oR T102.heap.size, .unset]) rfl k_) ?_
      show own_Go p e below _ T196 (mkF m 117 #[oI i0, oI i1, oI i2, oI i3, oI i4, oI i5, oI kk, oI (1 : Int32), oI (3 : Int32), oI ch0, oI ch1, oI dh0, oI dh1, oR h0.size, .val .null, oR T102.heap.size, .unset] [])
      refine own_by (fun t_ k_ => XS.iload XT196.here hx rfl (hb hby at_117) rfl  k_) ?_
      show own_Go p e below _ T196 (mkF m 119 #[oI i0, oI i1, oI i2, oI i3, oI i4, oI i5, oI kk, oI (1 : Int32), oI (3 : Int32), oI ch0, oI ch1, oI dh0, oI dh1, oR h0.size, .val .null, oR T102.heap.size, .unset] [(.int kk)])
      refine own_by (fun t_ k_ => XT.iconstV XT196.here hx rfl (3 : Int32) (hb hby at_119) (by decide) k_) ?_
      show own_Go p e below _ T196 (mkF m 120 #[oI i0, oI i1, oI i2, oI i3, oI i4, oI i5, oI kk, oI (1 : Int32), oI (3 : Int32), oI ch0, oI ch1, oI dh0, oI dh1, oR h0.size, .val .null, oR T102.heap.size, .unset] [(.int (3 : Int32)), (.int kk)])
      by_cases c120_198 : kk = (3 : Int32)
      · refine own_by (fun t_ k_ => XS.icmpNo XT196.here hx rfl (hb hby at_120) rfl (XT.ii_ne_f c120_198) k_) ?_
        show own_Go p e below _ T196 (mkF m 123 #[oI i0, oI i1, oI i2, oI i3, oI i4, oI i5, oI kk, oI (1 : Int32), oI (3 : Int32), oI ch0, oI ch1, oI dh0, oI dh1, oR h0.size, .val .null, oR T102.heap.size, .unset] [])
        refine own_by (fun t_ k_ => XS.iload XT196.here hx rfl (hb hby at_123) rfl  k_) ?_
        show own_Go p e below _ T196 (mkF m 125 #[oI i0, oI i1, oI i2, oI i3, oI i4, oI i5, oI kk, oI (1 : Int32), oI (3 : Int32), oI ch0, oI ch1, oI dh0, oI dh1, oR h0.size, .val .null, oR T102.heap.size, .unset] [(.int (3 : Int32))])
        refine own_by (fun t_ k_ => XS.iload XT196.here hx rfl (hb hby at_125) rfl  k_) ?_
        show own_Go p e below _ T196 (mkF m 127 #[oI i0, oI i1, oI i2, oI i3, oI i4, oI i5, oI kk, oI (1 : Int32), oI (3 : Int32), oI ch0, oI ch1, oI dh0, oI dh1, oR h0.size, .val .null, oR T102.heap.size, .unset] [(.int (1 : Int32)), (.int (3 : Int32))])
        refine own_by (fun t_ k_ => XS.icmpYes XT196.here hx rfl (pc0 := 127) (pc' := 160) rfl (hb hby at_127) rfl (XT.ii_ne_t (by decide)) (by decide) (by decide) k_) ?_
        show own_Go p e below _ T196 (mkF m 160 #[oI i0, oI i1, oI i2, oI i3, oI i4, oI i5, oI kk, oI (1 : Int32), oI (3 : Int32), oI ch0, oI ch1, oI dh0, oI dh1, oR h0.size, .val .null, oR T102.heap.size, .unset] [])
        refine own_by (fun t_ k_ => XT.iconstV XT196.here hx rfl (0 : Int32) (hb hby at_160) (by decide) k_) ?_
        show own_Go p e below _ T196 (mkF m 161 #[oI i0, oI i1, oI i2, oI i3, oI i4, oI i5, oI kk, oI (1 : Int32), oI (3 : Int32), oI ch0, oI ch1, oI dh0, oI dh1, oR h0.size, .val .null, oR T102.heap.size, .unset] [(.int (0 : Int32))])
        refine own_by (fun t_ k_ => XS.istore XT196.here hx rfl (hb hby at_161) rfl (l' := #[oI i0, oI i1, oI i2, oI i3, oI i4, oI i5, oI kk, oI (1 : Int32), oI (3 : Int32), oI ch0, oI ch1, oI dh0, oI dh1, oR h0.size, .val .null, oR T102.heap.size, oI (0 : Int32)]) rfl k_) ?_
        show own_Go p e below _ T196 (mkF m 163 #[oI i0, oI i1, oI i2, oI i3, oI i4, oI i5, oI kk, oI (1 : Int32), oI (3 : Int32), oI ch0, oI ch1, oI dh0, oI dh1, oR h0.size, .val .null, oR T102.heap.size, oI (0 : Int32)] [])
        refine own_by (fun t_ k_ => XS.aload XT196.here hx rfl (hb hby at_163) rfl rfl  k_) ?_
        show own_Go p e below _ T196 (mkF m 165 #[oI i0, oI i1, oI i2, oI i3, oI i4, oI i5, oI kk, oI (1 : Int32), oI (3 : Int32), oI ch0, oI ch1, oI dh0, oI dh1, oR h0.size, .val .null, oR T102.heap.size, oI (0 : Int32)] [(.ref T102.heap.size)])
        refine own_by (fun t_ k_ => XS.aload XT196.here hx rfl (hb hby at_165) rfl rfl  k_) ?_
        show own_Go p e below _ T196 (mkF m 167 #[oI i0, oI i1, oI i2, oI i3, oI i4, oI i5, oI kk, oI (1 : Int32), oI (3 : Int32), oI ch0, oI ch1, oI dh0, oI dh1, oR h0.size, .val .null, oR T102.heap.size, oI (0 : Int32)] [.null, (.ref T102.heap.size)])
        refine own_callV XT196 hx hZ hown (hw _ (List.mem_of_getElem? (i := 52) rfl)) (hw _ (List.mem_of_getElem? (i := 53) rfl)) (hw _ (List.mem_of_getElem? (i := 55) rfl)) (hw _ (List.mem_of_getElem? (i := 54) rfl)) (hw _ (List.mem_of_getElem? (i := 56) rfl)) (hw _ (List.mem_of_getElem? (i := 28) rfl)) (by decide) (rfl : T196.heap = T196.heap) (b := T102.heap.size) fq197_11 (argsL := [.null]) (rest := []) (own_isN_met l Z a0 hw T102.heap.size kd w3 h0.size T196.heap fq197_5 FkT196 FtT196 fq197_7) 0 (by decide) (by decide) (by rw [hml]; rfl) (lenOf pd_11 rfl) (Nat.le_of_eq rfl) (hb hby at_167) (by decide) (by decide) (st := [.null, (.ref T102.heap.size)]) rfl ?_
        intro T200 LT200 vT200 XT200 hQT200
        obtain ⟨rfl, eT200, rfl⟩ := hQT200
        show own_Go p e below _ T200 (mkF m 170 #[oI i0, oI i1, oI i2, oI i3, oI i4, oI i5, oI kk, oI (1 : Int32), oI (3 : Int32), oI ch0, oI ch1, oI dh0, oI dh1, oR h0.size, .val .null, oR T102.heap.size, oI (0 : Int32)] [(.int (own_isN T102.heap.size kd w3 h0.size))])
        have N201 := own_Fr.app N198 own_Fr.nil
        refine own_by (fun t_ k_ => XS.iload XT200.here hx rfl (hb hby at_170) rfl  k_) ?_
        show own_Go p e below _ T200 (mkF m 172 #[oI i0, oI i1, oI i2, oI i3, oI i4, oI i5, oI kk, oI (1 : Int32), oI (3 : Int32), oI ch0, oI ch1, oI dh0, oI dh1, oR h0.size, .val .null, oR T102.heap.size, oI (0 : Int32)] [(.int (0 : Int32)), (.int (own_isN T102.heap.size kd w3 h0.size))])
        have hW : kd = w3 := hkd.symm.trans (by rw [own_pick, c120_198, if_neg (by decide), if_neg (by decide), if_neg (by decide), if_pos (by decide)])
        have hfin : (own_isN T102.heap.size kd w3 h0.size) = (0 : Int32) := by rw [show (own_isN T102.heap.size kd w3 h0.size) = (0 : Int32) by rw [own_isN, if_pos hW]]
        refine own_by (fun t_ k_ => XS.icmpNo XT200.here hx rfl (hb hby at_172) rfl (XT.ii_ne_f hfin) k_) ?_
        show own_Go p e below _ T200 (mkF m 175 #[oI i0, oI i1, oI i2, oI i3, oI i4, oI i5, oI kk, oI (1 : Int32), oI (3 : Int32), oI ch0, oI ch1, oI dh0, oI dh1, oR h0.size, .val .null, oR T102.heap.size, oI (0 : Int32)] [])
        refine own_by (fun t_ k_ => XT.iconstV XT200.here hx rfl (1 : Int32) (hb hby at_175) (by decide) k_) ?_
        show own_Go p e below _ T200 (mkF m 176 #[oI i0, oI i1, oI i2, oI i3, oI i4, oI i5, oI kk, oI (1 : Int32), oI (3 : Int32), oI ch0, oI ch1, oI dh0, oI dh1, oR h0.size, .val .null, oR T102.heap.size, oI (0 : Int32)] [(.int (1 : Int32))])
        refine own_by (fun t_ k_ => XS.goto XT200.here hx rfl (pc0 := 176) (pc' := 180) rfl (hb hby at_176) (by decide) (by decide) k_) ?_
        show own_Go p e below _ T200 (mkF m 180 #[oI i0, oI i1, oI i2, oI i3, oI i4, oI i5, oI kk, oI (1 : Int32), oI (3 : Int32), oI ch0, oI ch1, oI dh0, oI dh1, oR h0.size, .val .null, oR T102.heap.size, oI (0 : Int32)] [(.int (1 : Int32))])
        exact own_retNW XT200 hx hlk hZ hEL hS eT200 hk0 hC hret (by simp) (w := (1 : Int32)) (hb hby at_180) (by decide) (by decide) (by decide) (⟨rfl, (N201).to (Nat.le_refl _)⟩)
      · refine own_by (fun t_ k_ => XS.icmpYes XT196.here hx rfl (pc0 := 120) (pc' := 160) rfl (hb hby at_120) rfl (XT.ii_ne_t c120_198) (by decide) (by decide) k_) ?_
        show own_Go p e below _ T196 (mkF m 160 #[oI i0, oI i1, oI i2, oI i3, oI i4, oI i5, oI kk, oI (1 : Int32), oI (3 : Int32), oI ch0, oI ch1, oI dh0, oI dh1, oR h0.size, .val .null, oR T102.heap.size, .unset] [])
        refine own_by (fun t_ k_ => XT.iconstV XT196.here hx rfl (0 : Int32) (hb hby at_160) (by decide) k_) ?_
        show own_Go p e below _ T196 (mkF m 161 #[oI i0, oI i1, oI i2, oI i3, oI i4, oI i5, oI kk, oI (1 : Int32), oI (3 : Int32), oI ch0, oI ch1, oI dh0, oI dh1, oR h0.size, .val .null, oR T102.heap.size, .unset] [(.int (0 : Int32))])
        refine own_by (fun t_ k_ => XS.istore XT196.here hx rfl (hb hby at_161) rfl (l' := #[oI i0, oI i1, oI i2, oI i3, oI i4, oI i5, oI kk, oI (1 : Int32), oI (3 : Int32), oI ch0, oI ch1, oI dh0, oI dh1, oR h0.size, .val .null, oR T102.heap.size, oI (0 : Int32)]) rfl k_) ?_
        show own_Go p e below _ T196 (mkF m 163 #[oI i0, oI i1, oI i2, oI i3, oI i4, oI i5, oI kk, oI (1 : Int32), oI (3 : Int32), oI ch0, oI ch1, oI dh0, oI dh1, oR h0.size, .val .null, oR T102.heap.size, oI (0 : Int32)] [])
        refine own_by (fun t_ k_ => XS.aload XT196.here hx rfl (hb hby at_163) rfl rfl  k_) ?_
        show own_Go p e below _ T196 (mkF m 165 #[oI i0, oI i1, oI i2, oI i3, oI i4, oI i5, oI kk, oI (1 : Int32), oI (3 : Int32), oI ch0, oI ch1, oI dh0, oI dh1, oR h0.size, .val .null, oR T102.heap.size, oI (0 : Int32)] [(.ref T102.heap.size)])
        refine own_by (fun t_ k_ => XS.aload XT196.here hx rfl (hb hby at_165) rfl rfl  k_) ?_
        show own_Go p e below _ T196 (mkF m 167 #[oI i0, oI i1, oI i2, oI i3, oI i4, oI i5, oI kk, oI (1 : Int32), oI (3 : Int32), oI ch0, oI ch1, oI dh0, oI dh1, oR h0.size, .val .null, oR T102.heap.size, oI (0 : Int32)] [.null, (.ref T102.heap.size)])
        refine own_callV XT196 hx hZ hown (hw _ (List.mem_of_getElem? (i := 52) rfl)) (hw _ (List.mem_of_getElem? (i := 53) rfl)) (hw _ (List.mem_of_getElem? (i := 55) rfl)) (hw _ (List.mem_of_getElem? (i := 54) rfl)) (hw _ (List.mem_of_getElem? (i := 56) rfl)) (hw _ (List.mem_of_getElem? (i := 28) rfl)) (by decide) (rfl : T196.heap = T196.heap) (b := T102.heap.size) fq197_11 (argsL := [.null]) (rest := []) (own_isN_met l Z a0 hw T102.heap.size kd w3 h0.size T196.heap fq197_5 FkT196 FtT196 fq197_7) 0 (by decide) (by decide) (by rw [hml]; rfl) (lenOf pd_11 rfl) (Nat.le_of_eq rfl) (hb hby at_167) (by decide) (by decide) (st := [.null, (.ref T102.heap.size)]) rfl ?_
        intro T202 LT202 vT202 XT202 hQT202
        obtain ⟨rfl, eT202, rfl⟩ := hQT202
        show own_Go p e below _ T202 (mkF m 170 #[oI i0, oI i1, oI i2, oI i3, oI i4, oI i5, oI kk, oI (1 : Int32), oI (3 : Int32), oI ch0, oI ch1, oI dh0, oI dh1, oR h0.size, .val .null, oR T102.heap.size, oI (0 : Int32)] [(.int (own_isN T102.heap.size kd w3 h0.size))])
        have N203 := own_Fr.app N198 own_Fr.nil
        refine own_by (fun t_ k_ => XS.iload XT202.here hx rfl (hb hby at_170) rfl  k_) ?_
        show own_Go p e below _ T202 (mkF m 172 #[oI i0, oI i1, oI i2, oI i3, oI i4, oI i5, oI kk, oI (1 : Int32), oI (3 : Int32), oI ch0, oI ch1, oI dh0, oI dh1, oR h0.size, .val .null, oR T102.heap.size, oI (0 : Int32)] [(.int (0 : Int32)), (.int (own_isN T102.heap.size kd w3 h0.size))])
        have hW : ¬ kd = w3 := fun q => own_pick_ne kk w0 w1 w2 w3 w4 c120_198 (F0.ne F3 (by decide)) (F1.ne F3 (by decide)) (F2.ne F3 (by decide)) (F4.ne F3 (by decide)) (hkd.trans q)
        have hfin : (own_isN T102.heap.size kd w3 h0.size) = (0 : Int32) := by rw [show (own_isN T102.heap.size kd w3 h0.size) = (0 : Int32) by rw [own_isN, if_neg hW]]
        refine own_by (fun t_ k_ => XS.icmpNo XT202.here hx rfl (hb hby at_172) rfl (XT.ii_ne_f hfin) k_) ?_
        show own_Go p e below _ T202 (mkF m 175 #[oI i0, oI i1, oI i2, oI i3, oI i4, oI i5, oI kk, oI (1 : Int32), oI (3 : Int32), oI ch0, oI ch1, oI dh0, oI dh1, oR h0.size, .val .null, oR T102.heap.size, oI (0 : Int32)] [])
        refine own_by (fun t_ k_ => XT.iconstV XT202.here hx rfl (1 : Int32) (hb hby at_175) (by decide) k_) ?_
        show own_Go p e below _ T202 (mkF m 176 #[oI i0, oI i1, oI i2, oI i3, oI i4, oI i5, oI kk, oI (1 : Int32), oI (3 : Int32), oI ch0, oI ch1, oI dh0, oI dh1, oR h0.size, .val .null, oR T102.heap.size, oI (0 : Int32)] [(.int (1 : Int32))])
        refine own_by (fun t_ k_ => XS.goto XT202.here hx rfl (pc0 := 176) (pc' := 180) rfl (hb hby at_176) (by decide) (by decide) k_) ?_
        show own_Go p e below _ T202 (mkF m 180 #[oI i0, oI i1, oI i2, oI i3, oI i4, oI i5, oI kk, oI (1 : Int32), oI (3 : Int32), oI ch0, oI ch1, oI dh0, oI dh1, oR h0.size, .val .null, oR T102.heap.size, oI (0 : Int32)] [(.int (1 : Int32))])
        exact own_retNW XT202 hx hlk hZ hEL hS eT202 hk0 hC hret (by simp) (w := (1 : Int32)) (hb hby at_180) (by decide) (by decide) (by decide) (⟨rfl, (N203).to (Nat.le_refl _)⟩)
  · subst hk
    show own_Go p e below _ T0 (mkF m 66 #[oI i0, oI i1, oI i2, oI i3, oI i4, oI i5, oI kk, oI (2 : Int32), oI wn, oI ch0, oI ch1, oI dh0, oI dh1, .unset, .unset, .unset, .unset] [])
    refine own_by (fun t_ k_ => XS.iload X0.here hx rfl (hb hby at_66) rfl  k_) ?_
    show own_Go p e below _ T0 (mkF m 68 #[oI i0, oI i1, oI i2, oI i3, oI i4, oI i5, oI kk, oI (2 : Int32), oI wn, oI ch0, oI ch1, oI dh0, oI dh1, .unset, .unset, .unset, .unset] [(.int (2 : Int32))])
    refine own_by (fun t_ k_ => XS.iload X0.here hx rfl (hb hby at_68) rfl  k_) ?_
    show own_Go p e below _ T0 (mkF m 70 #[oI i0, oI i1, oI i2, oI i3, oI i4, oI i5, oI kk, oI (2 : Int32), oI wn, oI ch0, oI ch1, oI dh0, oI dh1, .unset, .unset, .unset, .unset] [(.int ch0), (.int (2 : Int32))])
    refine own_by (fun t_ k_ => XS.iload X0.here hx rfl (hb hby at_70) rfl  k_) ?_
    show own_Go p e below _ T0 (mkF m 72 #[oI i0, oI i1, oI i2, oI i3, oI i4, oI i5, oI kk, oI (2 : Int32), oI wn, oI ch0, oI ch1, oI dh0, oI dh1, .unset, .unset, .unset, .unset] [(.int ch1), (.int ch0), (.int (2 : Int32))])
    have g204 : h0.size ≤ h0.size := K0.1
    refine own_callSW X0 hx hZ hEL hS e0 hk0 hC hown (hw _ (List.mem_of_getElem? (i := 0) rfl)) (hw _ (List.mem_of_getElem? (i := 1) rfl)) (hw _ (List.mem_of_getElem? (i := 2) rfl)) (hw _ (List.mem_of_getElem? (i := 3) rfl)) (by decide) (argsL := [(.int (2 : Int32)), (.int ch0), (.int ch1)]) (rest := []) (own_str_2 l Z a0 hw EL hEL ch0 ch1 h0 cs Cs hcs Bch0 Bch1 hmem) 0 (by decide) (by decide) (by rw [hml]; rfl) (lenOf pd_8 rfl) (Nat.le_of_eq rfl) (hb hby at_72) (by decide) (by decide) (st := [(.int ch1), (.int ch0), (.int (2 : Int32))]) rfl ?_
    rintro T205 LT205 vT205 ⟨XT205, hQT205, hS, hgT205, hZ, hown, hCT205⟩
    obtain ⟨rfl, KT205, NT205, ST205⟩ := hQT205
    show own_Go p e below _ T205 (mkF m 75 #[oI i0, oI i1, oI i2, oI i3, oI i4, oI i5, oI kk, oI (2 : Int32), oI wn, oI ch0, oI ch1, oI dh0, oI dh1, .unset, .unset, .unset, .unset] [(.ref h0.size)])
    have fq206_1 := own_stak Cs KT205
    have fq206_2 := own_stak S0 KT205
    have fq206_3 := own_stak S1 KT205
    have fq206_4 := own_stak S2 KT205
    have fq206_5 := own_stak S3 KT205
    have fq206_6 := own_stak S4 KT205
    have Kq206 := own_trans0 K0 KT205
    have hC := hCT205
    have hk0 := Nat.le_refl T205.heap.size
    obtain ⟨bT205, kbT205, EsT205, FvT205, FcT205, VT205⟩ := ST205
    have lt207 := EsT205.lt
    have lt208 := VT205.lt
    have N209 := own_Fr.app N0 (own_Fr.of NT205 (K0).1)
    refine own_by (fun t_ k_ => XS.astore XT205.here hx rfl (hb hby at_75) rfl rfl (l' := #[oI i0, oI i1, oI i2, oI i3, oI i4, oI i5, oI kk, oI (2 : Int32), oI wn, oI ch0, oI ch1, oI dh0, oI dh1, oR h0.size, .unset, .unset, .unset]) rfl k_) ?_
    show own_Go p e below _ T205 (mkF m 77 #[oI i0, oI i1, oI i2, oI i3, oI i4, oI i5, oI kk, oI (2 : Int32), oI wn, oI ch0, oI ch1, oI dh0, oI dh1, oR h0.size, .unset, .unset, .unset] [])
    rcases hwn with hk | hk | hk | hk
    · subst hk
      show own_Go p e below _ T205 (mkF m 77 #[oI i0, oI i1, oI i2, oI i3, oI i4, oI i5, oI kk, oI (2 : Int32), oI (0 : Int32), oI ch0, oI ch1, oI dh0, oI dh1, oR h0.size, .unset, .unset, .unset] [])
      refine own_by (fun t_ k_ => XS.iload XT205.here hx rfl (hb hby at_77) rfl  k_) ?_
      show own_Go p e below _ T205 (mkF m 79 #[oI i0, oI i1, oI i2, oI i3, oI i4, oI i5, oI kk, oI (2 : Int32), oI (0 : Int32), oI ch0, oI ch1, oI dh0, oI dh1, oR h0.size, .unset, .unset, .unset] [(.int (0 : Int32))])
      refine own_by (fun t_ k_ => XT.iconstV XT205.here hx rfl (3 : Int32) (hb hby at_79) (by decide) k_) ?_
      show own_Go p e below _ T205 (mkF m 80 #[oI i0, oI i1, oI i2, oI i3, oI i4, oI i5, oI kk, oI (2 : Int32), oI (0 : Int32), oI ch0, oI ch1, oI dh0, oI dh1, oR h0.size, .unset, .unset, .unset] [(.int (3 : Int32)), (.int (0 : Int32))])
      refine own_by (fun t_ k_ => XS.icmpYes XT205.here hx rfl (pc0 := 80) (pc' := 87) rfl (hb hby at_80) rfl (XT.ii_ne_t (by decide)) (by decide) (by decide) k_) ?_
      show own_Go p e below _ T205 (mkF m 87 #[oI i0, oI i1, oI i2, oI i3, oI i4, oI i5, oI kk, oI (2 : Int32), oI (0 : Int32), oI ch0, oI ch1, oI dh0, oI dh1, oR h0.size, .unset, .unset, .unset] [])
      refine own_by (fun t_ k_ => XS.iload XT205.here hx rfl (hb hby at_87) rfl  k_) ?_
      show own_Go p e below _ T205 (mkF m 89 #[oI i0, oI i1, oI i2, oI i3, oI i4, oI i5, oI kk, oI (2 : Int32), oI (0 : Int32), oI ch0, oI ch1, oI dh0, oI dh1, oR h0.size, .unset, .unset, .unset] [(.int (0 : Int32))])
      refine own_by (fun t_ k_ => XS.iload XT205.here hx rfl (hb hby at_89) rfl  k_) ?_
      show own_Go p e below _ T205 (mkF m 91 #[oI i0, oI i1, oI i2, oI i3, oI i4, oI i5, oI kk, oI (2 : Int32), oI (0 : Int32), oI ch0, oI ch1, oI dh0, oI dh1, oR h0.size, .unset, .unset, .unset] [(.int dh0), (.int (0 : Int32))])
      refine own_by (fun t_ k_ => XS.iload XT205.here hx rfl (hb hby at_91) rfl  k_) ?_
      show own_Go p e below _ T205 (mkF m 93 #[oI i0, oI i1, oI i2, oI i3, oI i4, oI i5, oI kk, oI (2 : Int32), oI (0 : Int32), oI ch0, oI ch1, oI dh0, oI dh1, oR h0.size, .unset, .unset, .unset] [(.int dh1), (.int dh0), (.int (0 : Int32))])
      have g210 : h0.size ≤ T205.heap.size := Kq206.1
      refine own_callSW XT205 hx hZ hEL hS (rfl : T205.heap = T205.heap) hk0 hC hown (hw _ (List.mem_of_getElem? (i := 0) rfl)) (hw _ (List.mem_of_getElem? (i := 1) rfl)) (hw _ (List.mem_of_getElem? (i := 2) rfl)) (hw _ (List.mem_of_getElem? (i := 3) rfl)) (by decide) (argsL := [(.int (0 : Int32)), (.int dh0), (.int dh1)]) (rest := []) (own_str_0 l Z a0 hw EL hEL dh0 dh1 T205.heap cs fq206_1 hcs Bdh0 Bdh1 hmem) 0 (by decide) (by decide) (by rw [hml]; rfl) (lenOf pd_8 rfl) (Nat.le_of_eq rfl) (hb hby at_93) (by decide) (by decide) (st := [(.int dh1), (.int dh0), (.int (0 : Int32))]) rfl ?_
      rintro T211 LT211 vT211 ⟨XT211, hQT211, hS, hgT211, hZ, hown, hCT211⟩
      obtain ⟨rfl, KT211, NT211, ST211⟩ := hQT211
      show own_Go p e below _ T211 (mkF m 96 #[oI i0, oI i1, oI i2, oI i3, oI i4, oI i5, oI kk, oI (2 : Int32), oI (0 : Int32), oI ch0, oI ch1, oI dh0, oI dh1, oR h0.size, .unset, .unset, .unset] [(.ref T205.heap.size)])
      have fq212_1 := own_stak fq206_1 KT211
      have fq212_2 := own_stak fq206_2 KT211
      have fq212_3 := own_stak fq206_3 KT211
      have fq212_4 := own_stak fq206_4 KT211
      have fq212_5 := own_stak fq206_5 KT211
      have fq212_6 := own_stak fq206_6 KT211
      have fq212_7 := EsT205.keep KT211
      have fq212_8 := FvT205.keep KT211 nin0
      have fq212_9 := FcT205.keep KT211 nin0
      have fq212_10 := VT205.keep KT211 nin0
      have lq212_0 := Nat.lt_of_lt_of_le lt207 KT211.1
      have lq212_1 := Nat.lt_of_lt_of_le lt208 KT211.1
      have Kq212 := own_trans0 Kq206 KT211
      have hC := hCT211
      have hk0 := Nat.le_refl T211.heap.size
      obtain ⟨bT211, kbT211, EsT211, FvT211, FcT211, VT211⟩ := ST211
      have lt213 := EsT211.lt
      have lt214 := VT211.lt
      have z215 : h0.size ≠ T205.heap.size := Nat.ne_of_lt lt207
      have z216 : bT205 ≠ T205.heap.size := Nat.ne_of_lt lt208
      have N217 := own_Fr.app N209 (own_Fr.of NT211 (Kq206).1)
      refine own_by (fun t_ k_ => XS.astore XT211.here hx rfl (hb hby at_96) rfl rfl (l' := #[oI i0, oI i1, oI i2, oI i3, oI i4, oI i5, oI kk, oI (2 : Int32), oI (0 : Int32), oI ch0, oI ch1, oI dh0, oI dh1, oR h0.size, oR T205.heap.size, .unset, .unset]) rfl k_) ?_
      show own_Go p e below _ T211 (mkF m 98 #[oI i0, oI i1, oI i2, oI i3, oI i4, oI i5, oI kk, oI (2 : Int32), oI (0 : Int32), oI ch0, oI ch1, oI dh0, oI dh1, oR h0.size, oR T205.heap.size, .unset, .unset] [])
      have g219 : h0.size ≤ T211.heap.size := Kq212.1
      refine own_new XT211 hx hZ hown (hw _ (List.mem_of_getElem? (i := 26) rfl)) (hw _ (List.mem_of_getElem? (i := 27) rfl)) (hw _ (List.mem_of_getElem? (i := 28) rfl)) (rfl : T211.heap = T211.heap) (hb hby at_98) (by decide) (by decide) ?_
      intro T218 hT218 XT218 eT218 ET218 AT218 DT218
      have fq220_1 := own_stak fq212_1 (own_ek ET218)
      have fq220_2 := own_stak fq212_2 (own_ek ET218)
      have fq220_3 := own_stak fq212_3 (own_ek ET218)
      have fq220_4 := own_stak fq212_4 (own_ek ET218)
      have fq220_5 := own_stak fq212_5 (own_ek ET218)
      have fq220_6 := own_stak fq212_6 (own_ek ET218)
      have fq220_7 := fq212_7.keep (own_ek ET218)
      have fq220_8 := fq212_8.keep (own_ek ET218) nin0
      have fq220_9 := fq212_9.keep (own_ek ET218) nin0
      have fq220_10 := fq212_10.keep (own_ek ET218) nin0
      have fq220_11 := EsT211.keep (own_ek ET218)
      have fq220_12 := FvT211.keep (own_ek ET218) nin0
      have fq220_13 := FcT211.keep (own_ek ET218) nin0
      have fq220_14 := VT211.keep (own_ek ET218) nin0
      have lq220_0 := Nat.lt_of_lt_of_le lq212_0 (own_ek ET218).1
      have lq220_1 := Nat.lt_of_lt_of_le lq212_1 (own_ek ET218).1
      have lq220_2 := Nat.lt_of_lt_of_le lt213 (own_ek ET218).1
      have lq220_3 := Nat.lt_of_lt_of_le lt214 (own_ek ET218).1
      have hC := hC.trans (CHr.keep (own_ek ET218) (fun _ q => by cases q) hC.1)
      have hk0 := Nat.le_trans hk0 (own_ek ET218).1
      have Kq220 := own_trans0 Kq212 (own_ek ET218)
      have z221 : h0.size ≠ T211.heap.size := Nat.ne_of_lt lq212_0
      have z222 : bT205 ≠ T211.heap.size := Nat.ne_of_lt lq212_1
      have z223 : T205.heap.size ≠ T211.heap.size := Nat.ne_of_lt lt213
      have z224 : bT211 ≠ T211.heap.size := Nat.ne_of_lt lt214
      have FT218_kind : Fld Z hT218 T211.heap.size "com/example/nimble_gate/nimblegate/policy/Token" "kind" "Lcom/example/nimble_gate/nimblegate/policy/Token$Kind;" .null := DT218 (ty := (.object "com/example/nimble_gate/nimblegate/policy/Token$Kind")) (Or.inr (hw _ (List.mem_of_getElem? (i := 45) rfl))) (by decide +kernel)
      have FT218_text : Fld Z hT218 T211.heap.size "com/example/nimble_gate/nimblegate/policy/Token" "text" "Ljava/lang/String;" .null := DT218 (ty := (.object "java/lang/String")) (Or.inr (hw _ (List.mem_of_getElem? (i := 47) rfl))) (by decide +kernel)
      have FT218_line : Fld Z hT218 T211.heap.size "com/example/nimble_gate/nimblegate/policy/Token" "line" "I" (.int 0) := DT218 (ty := .int) (Or.inr (hw _ (List.mem_of_getElem? (i := 49) rfl))) (by decide +kernel)
      have FT218_column : Fld Z hT218 T211.heap.size "com/example/nimble_gate/nimblegate/policy/Token" "column" "I" (.int 0) := DT218 (ty := .int) (Or.inr (hw _ (List.mem_of_getElem? (i := 51) rfl))) (by decide +kernel)
      clear DT218
      have lt225 := AT218.lt
      show own_Go p e below _ T218 (mkF m 101 #[oI i0, oI i1, oI i2, oI i3, oI i4, oI i5, oI kk, oI (2 : Int32), oI (0 : Int32), oI ch0, oI ch1, oI dh0, oI dh1, oR h0.size, oR T205.heap.size, .unset, .unset] [(.ref T211.heap.size)])
      refine own_by (fun t_ k_ => XS.dup XT218.here hx rfl (hb hby at_101) rfl rfl k_) ?_
      show own_Go p e below _ T218 (mkF m 102 #[oI i0, oI i1, oI i2, oI i3, oI i4, oI i5, oI kk, oI (2 : Int32), oI (0 : Int32), oI ch0, oI ch1, oI dh0, oI dh1, oR h0.size, oR T205.heap.size, .unset, .unset] [(.ref T211.heap.size), (.ref T211.heap.size)])
      refine own_by (fun t_ k_ => XS.iload XT218.here hx rfl (hb hby at_102) rfl  k_) ?_
      show own_Go p e below _ T218 (mkF m 104 #[oI i0, oI i1, oI i2, oI i3, oI i4, oI i5, oI kk, oI (2 : Int32), oI (0 : Int32), oI ch0, oI ch1, oI dh0, oI dh1, oR h0.size, oR T205.heap.size, .unset, .unset] [(.int kk), (.ref T211.heap.size), (.ref T211.heap.size)])
      refine own_callS XT218 hx hZ hown (hw _ (List.mem_of_getElem? (i := 29) rfl)) (hw _ (List.mem_of_getElem? (i := 30) rfl)) (hw _ (List.mem_of_getElem? (i := 2) rfl)) (hw _ (List.mem_of_getElem? (i := 31) rfl)) (by decide) eT218 (argsL := [(.int kk)]) (rest := [(.ref T211.heap.size), (.ref T211.heap.size)]) (own_pick_met l Z a0 hw kk w0 w1 w2 w3 w4 hT218 ⟨fq220_2, fq220_3, fq220_4, fq220_5, fq220_6⟩) 2 (by decide) (by decide) (by rw [hml]; rfl) (lenOf pd_9 rfl) (Nat.le_of_eq rfl) (hb hby at_104) (by decide) (by decide) (st := [(.int kk), (.ref T211.heap.size), (.ref T211.heap.size)]) rfl ?_
      intro T226 LT226 vT226 XT226 hQT226
      obtain ⟨rfl, eT226, rfl⟩ := hQT226
      show own_Go p e below _ T226 (mkF m 107 #[oI i0, oI i1, oI i2, oI i3, oI i4, oI i5, oI kk, oI (2 : Int32), oI (0 : Int32), oI ch0, oI ch1, oI dh0, oI dh1, oR h0.size, oR T205.heap.size, .unset, .unset] [(.ref (own_pick kk w0 w1 w2 w3 w4)), (.ref T211.heap.size), (.ref T211.heap.size)])
      have N227 := own_Fr.app N217 own_Fr.nil
      generalize hkd : (own_pick kk w0 w1 w2 w3 w4) = kd
      show own_Go p e below _ T226 (mkF m 107 #[oI i0, oI i1, oI i2, oI i3, oI i4, oI i5, oI kk, oI (2 : Int32), oI (0 : Int32), oI ch0, oI ch1, oI dh0, oI dh1, oR h0.size, oR T205.heap.size, .unset, .unset] [(.ref kd), (.ref T211.heap.size), (.ref T211.heap.size)])
      refine own_by (fun t_ k_ => XS.aload XT226.here hx rfl (hb hby at_107) rfl rfl  k_) ?_
      show own_Go p e below _ T226 (mkF m 109 #[oI i0, oI i1, oI i2, oI i3, oI i4, oI i5, oI kk, oI (2 : Int32), oI (0 : Int32), oI ch0, oI ch1, oI dh0, oI dh1, oR h0.size, oR T205.heap.size, .unset, .unset] [(.ref h0.size), (.ref kd), (.ref T211.heap.size), (.ref T211.heap.size)])
      refine own_by (fun t_ k_ => XS.iload XT226.here hx rfl (hb hby at_109) rfl  k_) ?_
      show own_Go p e below _ T226 (mkF m 111 #[oI i0, oI i1, oI i2, oI i3, oI i4, oI i5, oI kk, oI (2 : Int32), oI (0 : Int32), oI ch0, oI ch1, oI dh0, oI dh1, oR h0.size, oR T205.heap.size, .unset, .unset] [(.int i5), (.ref h0.size), (.ref kd), (.ref T211.heap.size), (.ref T211.heap.size)])
      refine own_by (fun t_ k_ => XS.iloadN XT226.here hx rfl (hb hby at_111) rfl  k_) ?_
      show own_Go p e below _ T226 (mkF m 112 #[oI i0, oI i1, oI i2, oI i3, oI i4, oI i5, oI kk, oI (2 : Int32), oI (0 : Int32), oI ch0, oI ch1, oI dh0, oI dh1, oR h0.size, oR T205.heap.size, .unset, .unset] [(.int i0), (.int i5), (.ref h0.size), (.ref kd), (.ref T211.heap.size), (.ref T211.heap.size)])
      refine own_callN XT226 hx hZ rfl hown (hw _ (List.mem_of_getElem? (i := 35) rfl)) (hw _ (List.mem_of_getElem? (i := 36) rfl)) (hw _ (List.mem_of_getElem? (i := 37) rfl)) (hw _ (List.mem_of_getElem? (i := 28) rfl)) (by decide) eT226 (b := T211.heap.size) (argsL := [(.ref kd), (.ref h0.size), (.int i5), (.int i0)]) (rest := [(.ref T211.heap.size)]) (own_tok l Z a0 hw T211.heap.size kd h0.size i5 i0 hT218 AT218 FT218_kind FT218_text FT218_line FT218_column) 1 (by decide) (by decide) (by rw [hml]; rfl) (lenOf pd_10 rfl) (Nat.le_of_eq rfl) (hb hby at_112) (by decide) (by decide) (st := [(.int i0), (.int i5), (.ref h0.size), (.ref kd), (.ref T211.heap.size), (.ref T211.heap.size)]) rfl ?_
      intro T228 LT228 vT228 XT228 hQT228
      obtain ⟨rfl, KT228, NT228, FkT228, FtT228⟩ := hQT228
      show own_Go p e below _ T228 (mkF m 115 #[oI i0, oI i1, oI i2, oI i3, oI i4, oI i5, oI kk, oI (2 : Int32), oI (0 : Int32), oI ch0, oI ch1, oI dh0, oI dh1, oR h0.size, oR T205.heap.size, .unset, .unset] [(.ref T211.heap.size)])
      have fq229_1 := own_stak1 fq220_1 KT228 AT218
      have fq229_2 := own_stak1 fq220_2 KT228 AT218
      have fq229_3 := own_stak1 fq220_3 KT228 AT218
      have fq229_4 := own_stak1 fq220_4 KT228 AT218
      have fq229_5 := own_stak1 fq220_5 KT228 AT218
      have fq229_6 := own_stak1 fq220_6 KT228 AT218
      have fq229_7 := fq220_7.keep KT228
      have fq229_8 := fq220_8.keep KT228 (own_nin z221)
      have fq229_9 := fq220_9.keep KT228 (own_nin z221)
      have fq229_10 := fq220_10.keep KT228 (own_nin z222)
      have fq229_11 := fq220_11.keep KT228
      have fq229_12 := fq220_12.keep KT228 (own_nin z223)
      have fq229_13 := fq220_13.keep KT228 (own_nin z223)
      have fq229_14 := fq220_14.keep KT228 (own_nin z224)
      have fq229_15 := AT218.keep KT228
      have lq229_0 := Nat.lt_of_lt_of_le lq220_0 KT228.1
      have lq229_1 := Nat.lt_of_lt_of_le lq220_1 KT228.1
      have lq229_2 := Nat.lt_of_lt_of_le lq220_2 KT228.1
      have lq229_3 := Nat.lt_of_lt_of_le lq220_3 KT228.1
      have lq229_4 := Nat.lt_of_lt_of_le lt225 KT228.1
      have hC := hC.trans (CHr.keep KT228 (fun _ q => by cases List.mem_singleton.mp q; exact (Safe.exa hZ.alike AT218 (by decide) (by decide))) hC.1)
      have hk0 := Nat.le_trans hk0 KT228.1
      have Kq229 := own_trans1 Kq220 KT228 (Or.inr g219)
      have N230 := own_Fr.app N227 (own_Fr.of (own_Fr.new NT228 g219 (Kq220).1) (Nat.le_refl _))
      refine own_by (fun t_ k_ => XS.astore XT228.here hx rfl (hb hby at_115) rfl rfl (l' := #[oI i0, oI i1, oI i2, oI i3, oI i4, oI i5, oI kk, oI (2 : Int32), oI (0 : Int32), oI ch0, oI ch1, oI dh0, oI dh1, oR h0.size, oR T205.heap.size, oR T211.heap.size, .unset]) rfl k_) ?_
      show own_Go p e below _ T228 (mkF m 117 #[oI i0, oI i1, oI i2, oI i3, oI i4, oI i5, oI kk, oI (2 : Int32), oI (0 : Int32), oI ch0, oI ch1, oI dh0, oI dh1, oR h0.size, oR T205.heap.size, oR T211.heap.size, .unset] [])
      refine own_by (fun t_ k_ => XS.iload XT228.here hx rfl (hb hby at_117) rfl  k_) ?_
      show own_Go p e below _ T228 (mkF m 119 #[oI i0, oI i1, oI i2, oI i3, oI i4, oI i5, oI kk, oI (2 : Int32), oI (0 : Int32), oI ch0, oI ch1, oI dh0, oI dh1, oR h0.size, oR T205.heap.size, oR T211.heap.size, .unset] [(.int kk)])
      refine own_by (fun t_ k_ => XT.iconstV XT228.here hx rfl (3 : Int32) (hb hby at_119) (by decide) k_) ?_
      show own_Go p e below _ T228 (mkF m 120 #[oI i0, oI i1, oI i2, oI i3, oI i4, oI i5, oI kk, oI (2 : Int32), oI (0 : Int32), oI ch0, oI ch1, oI dh0, oI dh1, oR h0.size, oR T205.heap.size, oR T211.heap.size, .unset] [(.int (3 : Int32)), (.int kk)])
      by_cases c120_230 : kk = (3 : Int32)
      · refine own_by (fun t_ k_ => XS.icmpNo XT228.here hx rfl (hb hby at_120) rfl (XT.ii_ne_f c120_230) k_) ?_
        show own_Go p e below _ T228 (mkF m 123 #[oI i0, oI i1, oI i2, oI i3, oI i4, oI i5, oI kk, oI (2 : Int32), oI (0 : Int32), oI ch0, oI ch1, oI dh0, oI dh1, oR h0.size, oR T205.heap.size, oR T211.heap.size, .unset] [])
        refine own_by (fun t_ k_ => XS.iload XT228.here hx rfl (hb hby at_123) rfl  k_) ?_
        show own_Go p e below _ T228 (mkF m 125 #[oI i0, oI i1, oI i2, oI i3, oI i4, oI i5, oI kk, oI (2 : Int32), oI (0 : Int32), oI ch0, oI ch1, oI dh0, oI dh1, oR h0.size, oR T205.heap.size, oR T211.heap.size, .unset] [(.int (0 : Int32))])
        refine own_by (fun t_ k_ => XS.iload XT228.here hx rfl (hb hby at_125) rfl  k_) ?_
        show own_Go p e below _ T228 (mkF m 127 #[oI i0, oI i1, oI i2, oI i3, oI i4, oI i5, oI kk, oI (2 : Int32), oI (0 : Int32), oI ch0, oI ch1, oI dh0, oI dh1, oR h0.size, oR T205.heap.size, oR T211.heap.size, .unset] [(.int (2 : Int32)), (.int (0 : Int32))])
        refine own_by (fun t_ k_ => XS.icmpYes XT228.here hx rfl (pc0 := 127) (pc' := 160) rfl (hb hby at_127) rfl (XT.ii_ne_t (by decide)) (by decide) (by decide) k_) ?_
        show own_Go p e below _ T228 (mkF m 160 #[oI i0, oI i1, oI i2, oI i3, oI i4, oI i5, oI kk, oI (2 : Int32), oI (0 : Int32), oI ch0, oI ch1, oI dh0, oI dh1, oR h0.size, oR T205.heap.size, oR T211.heap.size, .unset] [])
        refine own_by (fun t_ k_ => XT.iconstV XT228.here hx rfl (0 : Int32) (hb hby at_160) (by decide) k_) ?_
        show own_Go p e below _ T228 (mkF m 161 #[oI i0, oI i1, oI i2, oI i3, oI i4, oI i5, oI kk, oI (2 : Int32), oI (0 : Int32), oI ch0, oI ch1, oI dh0, oI dh1, oR h0.size, oR T205.heap.size, oR T211.heap.size, .unset] [(.int (0 : Int32))])
        refine own_by (fun t_ k_ => XS.istore XT228.here hx rfl (hb hby at_161) rfl (l' := #[oI i0, oI i1, oI i2, oI i3, oI i4, oI i5, oI kk, oI (2 : Int32), oI (0 : Int32), oI ch0, oI ch1, oI dh0, oI dh1, oR h0.size, oR T205.heap.size, oR T211.heap.size, oI (0 : Int32)]) rfl k_) ?_
        show own_Go p e below _ T228 (mkF m 163 #[oI i0, oI i1, oI i2, oI i3, oI i4, oI i5, oI kk, oI (2 : Int32), oI (0 : Int32), oI ch0, oI ch1, oI dh0, oI dh1, oR h0.size, oR T205.heap.size, oR T211.heap.size, oI (0 : Int32)] [])
        refine own_by (fun t_ k_ => XS.aload XT228.here hx rfl (hb hby at_163) rfl rfl  k_) ?_
        show own_Go p e below _ T228 (mkF m 165 #[oI i0, oI i1, oI i2, oI i3, oI i4, oI i5, oI kk, oI (2 : Int32), oI (0 : Int32), oI ch0, oI ch1, oI dh0, oI dh1, oR h0.size, oR T205.heap.size, oR T211.heap.size, oI (0 : Int32)] [(.ref T211.heap.size)])
        refine own_by (fun t_ k_ => XS.aload XT228.here hx rfl (hb hby at_165) rfl rfl  k_) ?_
        show own_Go p e below _ T228 (mkF m 167 #[oI i0, oI i1, oI i2, oI i3, oI i4, oI i5, oI kk, oI (2 : Int32), oI (0 : Int32), oI ch0, oI ch1, oI dh0, oI dh1, oR h0.size, oR T205.heap.size, oR T211.heap.size, oI (0 : Int32)] [(.ref T205.heap.size), (.ref T211.heap.size)])
        refine own_callV XT228 hx hZ hown (hw _ (List.mem_of_getElem? (i := 52) rfl)) (hw _ (List.mem_of_getElem? (i := 53) rfl)) (hw _ (List.mem_of_getElem? (i := 55) rfl)) (hw _ (List.mem_of_getElem? (i := 54) rfl)) (hw _ (List.mem_of_getElem? (i := 56) rfl)) (hw _ (List.mem_of_getElem? (i := 28) rfl)) (by decide) (rfl : T228.heap = T228.heap) (b := T211.heap.size) fq229_15 (argsL := [(.ref T205.heap.size)]) (rest := []) (own_is_2_0_met l Z a0 hw T211.heap.size T205.heap.size kd w3 h0.size bT205 bT211 kbT205 kbT211 (ch0.toInt8.toInt32) (ch1.toInt8.toInt32) T228.heap cs fq229_1 hcs z215 fq229_5 FkT228 FtT228 fq229_7 fq229_8 fq229_9 fq229_10 fq229_11 fq229_12 fq229_13 fq229_14) 0 (by decide) (by decide) (by rw [hml]; rfl) (lenOf pd_11 rfl) (Nat.le_of_eq rfl) (hb hby at_167) (by decide) (by decide) (st := [(.ref T205.heap.size), (.ref T211.heap.size)]) rfl ?_
        intro T232 LT232 vT232 XT232 hQT232
        obtain ⟨rfl, eT232, rfl⟩ := hQT232
        show own_Go p e below _ T232 (mkF m 170 #[oI i0, oI i1, oI i2, oI i3, oI i4, oI i5, oI kk, oI (2 : Int32), oI (0 : Int32), oI ch0, oI ch1, oI dh0, oI dh1, oR h0.size, oR T205.heap.size, oR T211.heap.size, oI (0 : Int32)] [(.int (own_is_2_0 T211.heap.size T205.heap.size kd w3 h0.size bT205 bT211 kbT205 kbT211 (ch0.toInt8.toInt32) (ch1.toInt8.toInt32)))])
        have N233 := own_Fr.app N230 own_Fr.nil
        refine own_by (fun t_ k_ => XS.iload XT232.here hx rfl (hb hby at_170) rfl  k_) ?_
        show own_Go p e below _ T232 (mkF m 172 #[oI i0, oI i1, oI i2, oI i3, oI i4, oI i5, oI kk, oI (2 : Int32), oI (0 : Int32), oI ch0, oI ch1, oI dh0, oI dh1, oR h0.size, oR T205.heap.size, oR T211.heap.size, oI (0 : Int32)] [(.int (0 : Int32)), (.int (own_is_2_0 T211.heap.size T205.heap.size kd w3 h0.size bT205 bT211 kbT205 kbT211 (ch0.toInt8.toInt32) (ch1.toInt8.toInt32)))])
        have hW : kd = w3 := hkd.symm.trans (by rw [own_pick, c120_230, if_neg (by decide), if_neg (by decide), if_neg (by decide), if_pos (by decide)])
        have hfin : (own_is_2_0 T211.heap.size T205.heap.size kd w3 h0.size bT205 bT211 kbT205 kbT211 (ch0.toInt8.toInt32) (ch1.toInt8.toInt32)) = (0 : Int32) := by rw [show (own_is_2_0 T211.heap.size T205.heap.size kd w3 h0.size bT205 bT211 kbT205 kbT211 (ch0.toInt8.toInt32) (ch1.toInt8.toInt32)) = (0 : Int32) by rw [own_is_2_0, if_pos hW, if_pos (by rw [show (own_eq_2_0 h0.size T205.heap.size bT205 bT211 kbT205 kbT211 (ch0.toInt8.toInt32) (ch1.toInt8.toInt32)) = (0 : Int32) by rw [own_eq_2_0, if_pos (by rw [show (own_le_2_0 bT205 bT211 kbT205 kbT211 (ch0.toInt8.toInt32) (ch1.toInt8.toInt32)) = (0 : Int32) by rw [own_le_2_0]])]])]]
        refine own_by (fun t_ k_ => XS.icmpNo XT232.here hx rfl (hb hby at_172) rfl (XT.ii_ne_f hfin) k_) ?_
        show own_Go p e below _ T232 (mkF m 175 #[oI i0, oI i1, oI i2, oI i3, oI i4, oI i5, oI kk, oI (2 : Int32), oI (0 : Int32), oI ch0, oI ch1, oI dh0, oI dh1, oR h0.size, oR T205.heap.size, oR T211.heap.size, oI (0 : Int32)] [])
        refine own_by (fun t_ k_ => XT.iconstV XT232.here hx rfl (1 : Int32) (hb hby at_175) (by decide) k_) ?_
        show own_Go p e below _ T232 (mkF m 176 #[oI i0, oI i1, oI i2, oI i3, oI i4, oI i5, oI kk, oI (2 : Int32), oI (0 : Int32), oI ch0, oI ch1, oI dh0, oI dh1, oR h0.size, oR T205.heap.size, oR T211.heap.size, oI (0 : Int32)] [(.int (1 : Int32))])
        refine own_by (fun t_ k_ => XS.goto XT232.here hx rfl (pc0 := 176) (pc' := 180) rfl (hb hby at_176) (by decide) (by decide) k_) ?_
        show own_Go p e below _ T232 (mkF m 180 #[oI i0, oI i1, oI i2, oI i3, oI i4, oI i5, oI kk, oI (2 : Int32), oI (0 : Int32), oI ch0, oI ch1, oI dh0, oI dh1, oR h0.size, oR T205.heap.size, oR T211.heap.size, oI (0 : Int32)] [(.int (1 : Int32))])
        exact own_retNW XT232 hx hlk hZ hEL hS eT232 hk0 hC hret (by simp) (w := (1 : Int32)) (hb hby at_180) (by decide) (by decide) (by decide) (⟨rfl, (N233).to (Nat.le_refl _)⟩)
      · refine own_by (fun t_ k_ => XS.icmpYes XT228.here hx rfl (pc0 := 120) (pc' := 160) rfl (hb hby at_120) rfl (XT.ii_ne_t c120_230) (by decide) (by decide) k_) ?_
        show own_Go p e below _ T228 (mkF m 160 #[oI i0, oI i1, oI i2, oI i3, oI i4, oI i5, oI kk, oI (2 : Int32), oI (0 : Int32), oI ch0, oI ch1, oI dh0, oI dh1, oR h0.size, oR T205.heap.size, oR T211.heap.size, .unset] [])
        refine own_by (fun t_ k_ => XT.iconstV XT228.here hx rfl (0 : Int32) (hb hby at_160) (by decide) k_) ?_
        show own_Go p e below _ T228 (mkF m 161 #[oI i0, oI i1, oI i2, oI i3, oI i4, oI i5, oI kk, oI (2 : Int32), oI (0 : Int32), oI ch0, oI ch1, oI dh0, oI dh1, oR h0.size, oR T205.heap.size, oR T211.heap.size, .unset] [(.int (0 : Int32))])
        refine own_by (fun t_ k_ => XS.istore XT228.here hx rfl (hb hby at_161) rfl (l' := #[oI i0, oI i1, oI i2, oI i3, oI i4, oI i5, oI kk, oI (2 : Int32), oI (0 : Int32), oI ch0, oI ch1, oI dh0, oI dh1, oR h0.size, oR T205.heap.size, oR T211.heap.size, oI (0 : Int32)]) rfl k_) ?_
        show own_Go p e below _ T228 (mkF m 163 #[oI i0, oI i1, oI i2, oI i3, oI i4, oI i5, oI kk, oI (2 : Int32), oI (0 : Int32), oI ch0, oI ch1, oI dh0, oI dh1, oR h0.size, oR T205.heap.size, oR T211.heap.size, oI (0 : Int32)] [])
        refine own_by (fun t_ k_ => XS.aload XT228.here hx rfl (hb hby at_163) rfl rfl  k_) ?_
        show own_Go p e below _ T228 (mkF m 165 #[oI i0, oI i1, oI i2, oI i3, oI i4, oI i5, oI kk, oI (2 : Int32), oI (0 : Int32), oI ch0, oI ch1, oI dh0, oI dh1, oR h0.size, oR T205.heap.size, oR T211.heap.size, oI (0 : Int32)] [(.ref T211.heap.size)])
        refine own_by (fun t_ k_ => XS.aload XT228.here hx rfl (hb hby at_165) rfl rfl  k_) ?_
        show own_Go p e below _ T228 (mkF m 167 #[oI i0, oI i1, oI i2, oI i3, oI i4, oI i5, oI kk, oI (2 : Int32), oI (0 : Int32), oI ch0, oI ch1, oI dh0, oI dh1, oR h0.size, oR T205.heap.size, oR T211.heap.size, oI (0 : Int32)] [(.ref T205.heap.size), (.ref T211.heap.size)])
        refine own_callV XT228 hx hZ hown (hw _ (List.mem_of_getElem? (i := 52) rfl)) (hw _ (List.mem_of_getElem? (i := 53) rfl)) (hw _ (List.mem_of_getElem? (i := 55) rfl)) (hw _ (List.mem_of_getElem? (i := 54) rfl)) (hw _ (List.mem_of_getElem? (i := 56) rfl)) (hw _ (List.mem_of_getElem? (i := 28) rfl)) (by decide) (rfl : T228.heap = T228.heap) (b := T211.heap.size) fq229_15 (argsL := [(.ref T205.heap.size)]) (rest := []) (own_is_2_0_met l Z a0 hw T211.heap.size T205.heap.size kd w3 h0.size bT205 bT211 kbT205 kbT211 (ch0.toInt8.toInt32) (ch1.toInt8.toInt32) T228.heap cs fq229_1 hcs z215 fq229_5 FkT228 FtT228 fq229_7 fq229_8 fq229_9 fq229_10 fq229_11 fq229_12 fq229_13 fq229_14) 0 (by decide) (by decide) (by rw [hml]; rfl) (lenOf pd_11 rfl) (Nat.le_of_eq rfl) (hb hby at_167) (by decide) (by decide) (st := [(.ref T205.heap.size), (.ref T211.heap.size)]) rfl ?_
        intro T234 LT234 vT234 XT234 hQT234
        obtain ⟨rfl, eT234, rfl⟩ := hQT234
        show own_Go p e below _ T234 (mkF m 170 #[oI i0, oI i1, oI i2, oI i3, oI i4, oI i5, oI kk, oI (2 : Int32), oI (0 : Int32), oI ch0, oI ch1, oI dh0, oI dh1, oR h0.size, oR T205.heap.size, oR T211.heap.size, oI (0 : Int32)] [(.int (own_is_2_0 T211.heap.size T205.heap.size kd w3 h0.size bT205 bT211 kbT205 kbT211 (ch0.toInt8.toInt32) (ch1.toInt8.toInt32)))])
        have N235 := own_Fr.app N230 own_Fr.nil
        refine own_by (fun t_ k_ => XS.iload XT234.here hx rfl (hb hby at_170) rfl  k_) ?_
        show own_Go p e below _ T234 (mkF m 172 #[oI i0, oI i1, oI i2, oI i3, oI i4, oI i5, oI kk, oI (2 : Int32), oI (0 : Int32), oI ch0, oI ch1, oI dh0, oI dh1, oR h0.size, oR T205.heap.size, oR T211.heap.size, oI (0 : Int32)] [(.int (0 : Int32)), (.int (own_is_2_0 T211.heap.size T205.heap.size kd w3 h0.size bT205 bT211 kbT205 kbT211 (ch0.toInt8.toInt32) (ch1.toInt8.toInt32)))])
        have hW : ¬ kd = w3 := fun q => own_pick_ne kk w0 w1 w2 w3 w4 c120_230 (F0.ne F3 (by decide)) (F1.ne F3 (by decide)) (F2.ne F3 (by decide)) (F4.ne F3 (by decide)) (hkd.trans q)
        have hfin : (own_is_2_0 T211.heap.size T205.heap.size kd w3 h0.size bT205 bT211 kbT205 kbT211 (ch0.toInt8.toInt32) (ch1.toInt8.toInt32)) = (0 : Int32) := by rw [show (own_is_2_0 T211.heap.size T205.heap.size kd w3 h0.size bT205 bT211 kbT205 kbT211 (ch0.toInt8.toInt32) (ch1.toInt8.toInt32)) = (0 : Int32) by rw [own_is_2_0, if_neg hW]]
        refine own_by (fun t_ k_ => XS.icmpNo XT234.here hx rfl (hb hby at_172) rfl (XT.ii_ne_f hfin) k_) ?_
        show own_Go p e below _ T234 (mkF m 175 #[oI i0, oI i1, oI i2, oI i3, oI i4, oI i5, oI kk, oI (2 : Int32), oI (0 : Int32), oI ch0, oI ch1, oI dh0, oI dh1, oR h0.size, oR T205.heap.size, oR T211.heap.size, oI (0 : Int32)] [])
        refine own_by (fun t_ k_ => XT.iconstV XT234.here hx rfl (1 : Int32) (hb hby at_175) (by decide) k_) ?_
        show own_Go p e below _ T234 (mkF m 176 #[oI i0, oI i1, oI i2, oI i3, oI i4, oI i5, oI kk, oI (2 : Int32), oI (0 : Int32), oI ch0, oI ch1, oI dh0, oI dh1, oR h0.size, oR T205.heap.size, oR T211.heap.size, oI (0 : Int32)] [(.int (1 : Int32))])
        refine own_by (fun t_ k_ => XS.goto XT234.here hx rfl (pc0 := 176) (pc' := 180) rfl (hb hby at_176) (by decide) (by decide) k_) ?_
        show own_Go p e below _ T234 (mkF m 180 #[oI i0, oI i1, oI i2, oI i3, oI i4, oI i5, oI kk, oI (2 : Int32), oI (0 : Int32), oI ch0, oI ch1, oI dh0, oI dh1, oR h0.size, oR T205.heap.size, oR T211.heap.size, oI (0 : Int32)] [(.int (1 : Int32))])
        exact own_retNW XT234 hx hlk hZ hEL hS eT234 hk0 hC hret (by simp) (w := (1 : Int32)) (hb hby at_180) (by decide) (by decide) (by decide) (⟨rfl, (N235).to (Nat.le_refl _)⟩)
    · subst hk
      show own_Go p e below _ T205 (mkF m 77 #[oI i0, oI i1, oI i2, oI i3, oI i4, oI i5, oI kk, oI (2 : Int32), oI (1 : Int32), oI ch0, oI ch1, oI dh0, oI dh1, oR h0.size, .unset, .unset, .unset] [])
      refine own_by (fun t_ k_ => XS.iload XT205.here hx rfl (hb hby at_77) rfl  k_) ?_
      show own_Go p e below _ T205 (mkF m 79 #[oI i0, oI i1, oI i2, oI i3, oI i4, oI i5, oI kk, oI (2 : Int32), oI (1 : Int32), oI ch0, oI ch1, oI dh0, oI dh1, oR h0.size, .unset, .unset, .unset] [(.int (1 : Int32))])
      refine own_by (fun t_ k_ => XT.iconstV XT205.here hx rfl (3 : Int32) (hb hby at_79) (by decide) k_) ?_
      show own_Go p e below _ T205 (mkF m 80 #[oI i0, oI i1, oI i2, oI i3, oI i4, oI i5, oI kk, oI (2 : Int32), oI (1 : Int32), oI ch0, oI ch1, oI dh0, oI dh1, oR h0.size, .unset, .unset, .unset] [(.int (3 : Int32)), (.int (1 : Int32))])
      refine own_by (fun t_ k_ => XS.icmpYes XT205.here hx rfl (pc0 := 80) (pc' := 87) rfl (hb hby at_80) rfl (XT.ii_ne_t (by decide)) (by decide) (by decide) k_) ?_
      show own_Go p e below _ T205 (mkF m 87 #[oI i0, oI i1, oI i2, oI i3, oI i4, oI i5, oI kk, oI (2 : Int32), oI (1 : Int32), oI ch0, oI ch1, oI dh0, oI dh1, oR h0.size, .unset, .unset, .unset] [])
      refine own_by (fun t_ k_ => XS.iload XT205.here hx rfl (hb hby at_87) rfl  k_) ?_
      show own_Go p e below _ T205 (mkF m 89 #[oI i0, oI i1, oI i2, oI i3, oI i4, oI i5, oI kk, oI (2 : Int32), oI (1 : Int32), oI ch0, oI ch1, oI dh0, oI dh1, oR h0.size, .unset, .unset, .unset] [(.int (1 : Int32))])
      refine own_by (fun t_ k_ => XS.iload XT205.here hx rfl (hb hby at_89) rfl  k_) ?_
      show own_Go p e below _ T205 (mkF m 91 #[oI i0, oI i1, oI i2, oI i3, oI i4, oI i5, oI kk, oI (2 : Int32), oI (1 : Int32), oI ch0, oI ch1, oI dh0, oI dh1, oR h0.size, .unset, .unset, .unset] [(.int dh0), (.int (1 : Int32))])
      refine own_by (fun t_ k_ => XS.iload XT205.here hx rfl (hb hby at_91) rfl  k_) ?_
      show own_Go p e below _ T205 (mkF m 93 #[oI i0, oI i1, oI i2, oI i3, oI i4, oI i5, oI kk, oI (2 : Int32), oI (1 : Int32), oI ch0, oI ch1, oI dh0, oI dh1, oR h0.size, .unset, .unset, .unset] [(.int dh1), (.int dh0), (.int (1 : Int32))])
      have g236 : h0.size ≤ T205.heap.size := Kq206.1
      refine own_callSW XT205 hx hZ hEL hS (rfl : T205.heap = T205.heap) hk0 hC hown (hw _ (List.mem_of_getElem? (i := 0) rfl)) (hw _ (List.mem_of_getElem? (i := 1) rfl)) (hw _ (List.mem_of_getElem? (i := 2) rfl)) (hw _ (List.mem_of_getElem? (i := 3) rfl)) (by decide) (argsL := [(.int (1 : Int32)), (.int dh0), (.int dh1)]) (rest := []) (own_str_1 l Z a0 hw EL hEL dh0 dh1 T205.heap cs fq206_1 hcs Bdh0 Bdh1 hmem) 0 (by decide) (by decide) (by rw [hml]; rfl) (lenOf pd_8 rfl) (Nat.le_of_eq rfl) (hb hby at_93) (by decide) (by decide) (st := [(.int dh1), (.int dh0), (.int (1 : Int32))]) rfl ?_
      rintro T237 LT237 vT237 ⟨XT237, hQT237, hS, hgT237, hZ, hown, hCT237⟩
      obtain ⟨rfl, KT237, NT237, ST237⟩ := hQT237
      show own_Go p e below _ T237 (mkF m 96 #[oI i0, oI i1, oI i2, oI i3, oI i4, oI i5, oI kk, oI (2 : Int32), oI (1 : Int32), oI ch0, oI ch1, oI dh0, oI dh1, oR h0.size, .unset, .unset, .unset] [(.ref T205.heap.size)])
      have fq238_1 := own_stak fq206_1 KT237
      have fq238_2 := own_stak fq206_2 KT237
      have fq238_3 := own_stak fq206_3 KT237
      have fq238_4 := own_stak fq206_4 KT237
      have fq238_5 := own_stak fq206_5 KT237
      have fq238_6 := own_stak fq206_6 KT237
      have fq238_7 := EsT205.keep KT237
      have fq238_8 := FvT205.keep KT237 nin0
      have fq238_9 := FcT205.keep KT237 nin0
      have fq238_10 := VT205.keep KT237 nin0
      have lq238_0 := Nat.lt_of_lt_of_le lt207 KT237.1
      have lq238_1 := Nat.lt_of_lt_of_le lt208 KT237.1
      have Kq238 := own_trans0 Kq206 KT237
      have hC := hCT237
      have hk0 := Nat.le_refl T237.heap.size
      obtain ⟨bT237, kbT237, EsT237, FvT237, FcT237, VT237⟩ := ST237
      have lt239 := EsT237.lt
      have lt240 := VT237.lt
      have z241 : h0.size ≠ T205.heap.size := Nat.ne_of_lt lt207
      have z242 : bT205 ≠ T205.heap.size := Nat.ne_of_lt lt208
      have N243 := own_Fr.app N209 (own_Fr.of NT237 (Kq206).1)
      refine own_by (fun t_ k_ => XS.astore XT237.here hx rfl (hb hby at_96) rfl rfl (l' := #[oI i0, oI i1, oI i2, oI i3, oI i4, oI i5, oI kk, oI (2 : Int32), oI (1 : Int32), oI ch0, oI ch1, oI dh0, oI dh1, oR h0.size, oR T205.heap.size, .unset, .unset]) rfl k_) ?_
      show own_Go p e below _ T237 (mkF m 98 #[oI i0, oI i1, oI i2, oI i3, oI i4, oI i5, oI kk, oI (2 : Int32), oI (1 : Int32), oI ch0, oI ch1, oI dh0, oI dh1, oR h0.size, oR T205.heap.size, .unset, .unset] [])
      have g245 : h0.size ≤ T237.heap.size := Kq238.1
      refine own_new XT237 hx hZ hown (hw _ (List.mem_of_getElem? (i := 26) rfl)) (hw _ (List.mem_of_getElem? (i := 27) rfl)) (hw _ (List.mem_of_getElem? (i := 28) rfl)) (rfl : T237.heap = T237.heap) (hb hby at_98) (by decide) (by decide) ?_
      intro T244 hT244 XT244 eT244 ET244 AT244 DT244
      have fq246_1 := own_stak fq238_1 (own_ek ET244)
      have fq246_2 := own_stak fq238_2 (own_ek ET244)
      have fq246_3 := own_stak fq238_3 (own_ek ET244)
      have fq246_4 := own_stak fq238_4 (own_ek ET244)
      have fq246_5 := own_stak fq238_5 (own_ek ET244)
      have fq246_6 := own_stak fq238_6 (own_ek ET244)
      have fq246_7 := fq238_7.keep (own_ek ET244)
      have fq246_8 := fq238_8.keep (own_ek ET244) nin0
      have fq246_9 := fq238_9.keep (own_ek ET244) nin0
      have fq246_10 := fq238_10.keep (own_ek ET244) nin0
      have fq246_11 := EsT237.keep (own_ek ET244)
      have fq246_12 := FvT237.keep (own_ek ET244) nin0
      have fq246_13 := FcT237.keep (own_ek ET244) nin0
      have fq246_14 := VT237.keep (own_ek ET244) nin0
      have lq246_0 := Nat.lt_of_lt_of_le lq238_0 (own_ek ET244).1
      have lq246_1 := Nat.lt_of_lt_of_le lq238_1 (own_ek ET244).1
      have lq246_2 := Nat.lt_of_lt_of_le lt239 (own_ek ET244).1
      have lq246_3 := Nat.lt_of_lt_of_le lt240 (own_ek ET244).1
      have hC := hC.trans (CHr.keep (own_ek ET244) (fun _ q => by cases q) hC.1)
      have hk0 := Nat.le_trans hk0 (own_ek ET244).1
      have Kq246 := own_trans0 Kq238 (own_ek ET244)
      have z247 : h0.size ≠ T237.heap.size := Nat.ne_of_lt lq238_0
      have z248 : bT205 ≠ T237.heap.size := Nat.ne_of_lt lq238_1
      have z249 : T205.heap.size ≠ T237.heap.size := Nat.ne_of_lt lt239
      have z250 : bT237 ≠ T237.heap.size := Nat.ne_of_lt lt240
      have FT244_kind : Fld Z hT244 T237.heap.size "com/example/nimble_gate/nimblegate/policy/Token" "kind" "Lcom/example/nimble_gate/nimblegate/policy/Token$Kind;" .null := DT244 (ty := (.object "com/example/nimble_gate/nimblegate/policy/Token$Kind")) (Or.inr (hw _ (List.mem_of_getElem? (i := 45) rfl))) (by decide +kernel)
      have FT244_text : Fld Z hT244 T237.heap.size "com/example/nimble_gate/nimblegate/policy/Token" "text" "Ljava/lang/String;" .null := DT244 (ty := (.object "java/lang/String")) (Or.inr (hw _ (List.mem_of_getElem? (i := 47) rfl))) (by decide +kernel)
      have FT244_line : Fld Z hT244 T237.heap.size "com/example/nimble_gate/nimblegate/policy/Token" "line" "I" (.int 0) := DT244 (ty := .int) (Or.inr (hw _ (List.mem_of_getElem? (i := 49) rfl))) (by decide +kernel)
      have FT244_column : Fld Z hT244 T237.heap.size "com/example/nimble_gate/nimblegate/policy/Token" "column" "I" (.int 0) := DT244 (ty := .int) (Or.inr (hw _ (List.mem_of_getElem? (i := 51) rfl))) (by decide +kernel)
      clear DT244
      have lt251 := AT244.lt
      show own_Go p e below _ T244 (mkF m 101 #[oI i0, oI i1, oI i2, oI i3, oI i4, oI i5, oI kk, oI (2 : Int32), oI (1 : Int32), oI ch0, oI ch1, oI dh0, oI dh1, oR h0.size, oR T205.heap.size, .unset, .unset] [(.ref T237.heap.size)])
      refine own_by (fun t_ k_ => XS.dup XT244.here hx rfl (hb hby at_101) rfl rfl k_) ?_
      show own_Go p e below _ T244 (mkF m 102 #[oI i0, oI i1, oI i2, oI i3, oI i4, oI i5, oI kk, oI (2 : Int32), oI (1 : Int32), oI ch0, oI ch1, oI dh0, oI dh1, oR h0.size, oR T205.heap.size, .unset, .unset] [(.ref T237.heap.size), (.ref T237.heap.size)])
      refine own_by (fun t_ k_ => XS.iload XT244.here hx rfl (hb hby at_102) rfl  k_) ?_
      show own_Go p e below _ T244 (mkF m 104 #[oI i0, oI i1, oI i2, oI i3, oI i4, oI i5, oI kk, oI (2 : Int32), oI (1 : Int32), oI ch0, oI ch1, oI dh0, oI dh1, oR h0.size, oR T205.heap.size, .unset, .unset] [(.int kk), (.ref T237.heap.size), (.ref T237.heap.size)])
      refine own_callS XT244 hx hZ hown (hw _ (List.mem_of_getElem? (i := 29) rfl)) (hw _ (List.mem_of_getElem? (i := 30) rfl)) (hw _ (List.mem_of_getElem? (i := 2) rfl)) (hw _ (List.mem_of_getElem? (i := 31) rfl)) (by decide) eT244 (argsL := [(.int kk)]) (rest := [(.ref T237.heap.size), (.ref T237.heap.size)]) (own_pick_met l Z a0 hw kk w0 w1 w2 w3 w4 hT244 ⟨fq246_2, fq246_3, fq246_4, fq246_5, fq246_6⟩) 2 (by decide) (by decide) (by rw [hml]; rfl) (lenOf pd_9 rfl) (Nat.le_of_eq rfl) (hb hby at_104) (by decide) (by decide) (st := [(.int kk), (.ref T237.heap.size), (.ref T237.heap.size)]) rfl ?_
      intro T252 LT252 vT252 XT252 hQT252
      obtain ⟨rfl, eT252, rfl⟩ := hQT252
      show own_Go p e below _ T252 (mkF m 107 #[oI i0, oI i1, oI i2, oI i3, oI i4, oI i5, oI kk, oI (2 : Int32), oI (1 : Int32), oI ch0, oI ch1, oI dh0, oI dh1, oR h0.size, oR T205.heap.size, .unset, .unset] [(.ref (own_pick kk w0 w1 w2 w3 w4)), (.ref T237.heap.size), (.ref T237.heap.size)])
      have N253 := own_Fr.app N243 own_Fr.nil
      generalize hkd : (own_pick kk w0 w1 w2 w3 w4) = kd
      show own_Go p e below _ T252 (mkF m 107 #[oI i0, oI i1, oI i2, oI i3, oI i4, oI i5, oI kk, oI (2 : Int32), oI (1 : Int32), oI ch0, oI ch1, oI dh0, oI dh1, oR h0.size, oR T205.heap.size, .unset, .unset] [(.ref kd), (.ref T237.heap.size), (.ref T237.heap.size)])
      refine own_by (fun t_ k_ => XS.aload XT252.here hx rfl (hb hby at_107) rfl rfl  k_) ?_
      show own_Go p e below _ T252 (mkF m 109 #[oI i0, oI i1, oI i2, oI i3, oI i4, oI i5, oI kk, oI (2 : Int32), oI (1 : Int32), oI ch0, oI ch1, oI dh0, oI dh1, oR h0.size, oR T205.heap.size, .unset, .unset] [(.ref h0.size), (.ref kd), (.ref T237.heap.size), (.ref T237.heap.size)])
      refine own_by (fun t_ k_ => XS.iload XT252.here hx rfl (hb hby at_109) rfl  k_) ?_
      show own_Go p e below _ T252 (mkF m 111 #[oI i0, oI i1, oI i2, oI i3, oI i4, oI i5, oI kk, oI (2 : Int32), oI (1 : Int32), oI ch0, oI ch1, oI dh0, oI dh1, oR h0.size, oR T205.heap.size, .unset, .unset] [(.int i5), (.ref h0.size), (.ref kd), (.ref T237.heap.size), (.ref T237.heap.size)])
      refine own_by (fun t_ k_ => XS.iloadN XT252.here hx rfl (hb hby at_111) rfl  k_) ?_
      show own_Go p e below _ T252 (mkF m 112 #[oI i0, oI i1, oI i2, oI i3, oI i4, oI i5, oI kk, oI (2 : Int32), oI (1 : Int32), oI ch0, oI ch1, oI dh0, oI dh1, oR h0.size, oR T205.heap.size, .unset, .unset] [(.int i0), (.int i5), (.ref h0.size), (.ref kd), (.ref T237.heap.size), (.ref T237.heap.size)])
      refine own_callN XT252 hx hZ rfl hown (hw _ (List.mem_of_getElem? (i := 35) rfl)) (hw _ (List.mem_of_getElem? (i := 36) rfl)) (hw _ (List.mem_of_getElem? (i := 37) rfl)) (hw _ (List.mem_of_getElem? (i := 28) rfl)) (by decide) eT252 (b := T237.heap.size) (argsL := [(.ref kd), (.ref h0.size), (.int i5), (.int i0)]) (rest := [(.ref T237.heap.size)]) (own_tok l Z a0 hw T237.heap.size kd h0.size i5 i0 hT244 AT244 FT244_kind FT244_text FT244_line FT244_column) 1 (by decide) (by decide) (by rw [hml]; rfl) (lenOf pd_10 rfl) (Nat.le_of_eq rfl) (hb hby at_112) (by decide) (by decide) (st := [(.int i0), (.int i5), (.ref h0.size), (.ref kd), (.ref T237.heap.size), (.ref T237.heap.size)]) rfl ?_
      intro T254 LT254 vT254 XT254 hQT254
      obtain ⟨rfl, KT254, NT254, FkT254, FtT254⟩ := hQT254
      show own_Go p e below _ T254 (mkF m 115 #[oI i0, oI i1, oI i2, oI i3, oI i4, oI i5, oI kk, oI (2 : Int32), oI (1 : Int32), oI ch0, oI ch1, oI dh0, oI dh1, oR h0.size, oR T205.heap.size, .unset, .unset] [(.ref T237.heap.size)])
      have fq255_1 := own_stak1 fq246_1 KT254 AT244
      have fq255_2 := own_stak1 fq246_2 KT254 AT244
      have fq255_3 := own_stak1 fq246_3 KT254 AT244
      have fq255_4 := own_stak1 fq246_4 KT254 AT244
      have fq255_5 := own_stak1 fq246_5 KT254 AT244
      have fq255_6 := own_stak1 fq246_6 KT254 AT244
      have fq255_7 := fq246_7.keep KT254
      have fq255_8 := fq246_8.keep KT254 (own_nin z247)
      have fq255_9 := fq246_9.keep KT254 (own_nin z247)
      have fq255_10 := fq246_10.keep KT254 (own_nin z248)
      have fq255_11 := fq246_11.keep KT254
      have fq255_12 := fq246_12.keep KT254 (own_nin z249)
      have fq255_13 := fq246_13.keep KT254 (own_nin z249)
      have fq255_14 := fq246_14.keep KT254 (own_nin z250)
      have fq255_15 := AT244.keep KT254
      have lq255_0 := Nat.lt_of_lt_of_le lq246_0 KT254.1
      have lq255_1 := Nat.lt_of_lt_of_le lq246_1 KT254.1
      have lq255_2 := Nat.lt_of_lt_of_le lq246_2 KT254.1
      have lq255_3 := Nat.lt_of_lt_of_le lq246_3 KT254.1
      have lq255_4 := Nat.lt_of_lt_of_le lt251 KT254.1
      have hC := hC.trans (CHr.keep KT254 (fun _ q => by cases List.mem_singleton.mp q; exact (Safe.exa hZ.alike AT244 (by decide) (by decide))) hC.1)
      have hk0 := Nat.le_trans hk0 KT254.1
      have Kq255 := own_trans1 Kq246 KT254 (Or.inr g245)
      have N256 := own_Fr.app N253 (own_Fr.of (own_Fr.new NT254 g245 (Kq246).1) (Nat.le_refl _))
      refine own_by (fun t_ k_ => XS.astore XT254.here hx rfl (hb hby at_115) rfl rfl (l' := #[oI i0, oI i1, oI i2, oI i3, oI i4, oI i5, oI kk, oI (2 : Int32), oI (1 : Int32), oI ch0, oI ch1, oI dh0, oI dh1, oR h0.size, oR T205.heap.size, oR T237.heap.size, .unset]) rfl k_) ?_
      show own_Go p e below _ T254 (mkF m 117 #[oI i0, oI i1, oI i2, oI i3, oI i4, oI i5, oI kk, oI (2 : Int32), oI (1 : Int32), oI ch0, oI ch1, oI dh0, oI dh1, oR h0.size, oR T205.heap.size, oR T237.heap.size, .unset] [])
      refine own_by (fun t_ k_ => XS.iload XT254.here hx rfl (hb hby at_117) rfl  k_) ?_
      show own_Go p e below _ T254 (mkF m 119 #[oI i0, oI i1, oI i2, oI i3, oI i4, oI i5, oI kk, oI (2 : Int32), oI (1 : Int32), oI ch0, oI ch1, oI dh0, oI dh1, oR h0.size, oR T205.heap.size, oR T237.heap.size, .unset] [(.int kk)])
      refine own_by (fun t_ k_ => XT.iconstV XT254.here hx rfl (3 : Int32) (hb hby at_119) (by decide) k_) ?_
      show own_Go p e below _ T254 (mkF m 120 #[oI i0, oI i1, oI i2, oI i3, oI i4, oI i5, oI kk, oI (2 : Int32), oI (1 : Int32), oI ch0, oI ch1, oI dh0, oI dh1, oR h0.size, oR T205.heap.size, oR T237.heap.size, .unset] [(.int (3 : Int32)), (.int kk)])
      by_cases c120_256 : kk = (3 : Int32)
      · refine own_by (fun t_ k_ => XS.icmpNo XT254.here hx rfl (hb hby at_120) rfl (XT.ii_ne_f c120_256) k_) ?_
        show own_Go p e below _ T254 (mkF m 123 #[oI i0, oI i1, oI i2, oI i3, oI i4, oI i5, oI kk, oI (2 : Int32), oI (1 : Int32), oI ch0, oI ch1, oI dh0, oI dh1, oR h0.size, oR T205.heap.size, oR T237.heap.size, .unset] [])
        refine own_by (fun t_ k_ => XS.iload XT254.here hx rfl (hb hby at_123) rfl  k_) ?_
        show own_Go p e below _ T254 (mkF m 125 #[oI i0, oI i1, oI i2, oI i3, oI i4, oI i5, oI kk, oI (2 : Int32), oI (1 : Int32), oI ch0, oI ch1, oI dh0, oI dh1, oR h0.size, oR T205.heap.size, oR T237.heap.size, .unset] [(.int (1 : Int32))])
        refine own_by (fun t_ k_ => XS.iload XT254.here hx rfl (hb hby at_125) rfl  k_) ?_
        show own_Go p e below _ T254 (mkF m 127 #[oI i0, oI i1, oI i2, oI i3, oI i4, oI i5, oI kk, oI (2 : Int32), oI (1 : Int32), oI ch0, oI ch1, oI dh0, oI dh1, oR h0.size, oR T205.heap.size, oR T237.heap.size, .unset] [(.int (2 : Int32)), (.int (1 : Int32))])
        refine own_by (fun t_ k_ => XS.icmpYes XT254.here hx rfl (pc0 := 127) (pc' := 160) rfl (hb hby at_127) rfl (XT.ii_ne_t (by decide)) (by decide) (by decide) k_) ?_
        show own_Go p e below _ T254 (mkF m 160 #[oI i0, oI i1, oI i2, oI i3, oI i4, oI i5, oI kk, oI (2 : Int32), oI (1 : Int32), oI ch0, oI ch1, oI dh0, oI dh1, oR h0.size, oR T205.heap.size, oR T237.heap.size, .unset] [])
        refine own_by (fun t_ k_ => XT.iconstV XT254.here hx rfl (0 : Int32) (hb hby at_160) (by decide) k_) ?_
        show own_Go p e below _ T254 (mkF m 161 #[oI i0, oI i1, oI i2, oI i3, oI i4, oI i5, oI kk, oI (2 : Int32), oI (1 : Int32), oI ch0, oI ch1, oI dh0, oI dh1, oR h0.size, oR T205.heap.size, oR T237.heap.size, .unset] [(.int (0 : Int32))])
        refine own_by (fun t_ k_ => XS.istore XT254.here hx rfl (hb hby at_161) rfl (l' := #[oI i0, oI i1, oI i2, oI i3, oI i4, oI i5, oI kk, oI (2 : Int32), oI (1 : Int32), oI ch0, oI ch1, oI dh0, oI dh1, oR h0.size, oR T205.heap.size, oR T237.heap.size, oI (0 : Int32)]) rfl k_) ?_
        show own_Go p e below _ T254 (mkF m 163 #[oI i0, oI i1, oI i2, oI i3, oI i4, oI i5, oI kk, oI (2 : Int32), oI (1 : Int32), oI ch0, oI ch1, oI dh0, oI dh1, oR h0.size, oR T205.heap.size, oR T237.heap.size, oI (0 : Int32)] [])
        refine own_by (fun t_ k_ => XS.aload XT254.here hx rfl (hb hby at_163) rfl rfl  k_) ?_
        show own_Go p e below _ T254 (mkF m 165 #[oI i0, oI i1, oI i2, oI i3, oI i4, oI i5, oI kk, oI (2 : Int32), oI (1 : Int32), oI ch0, oI ch1, oI dh0, oI dh1, oR h0.size, oR T205.heap.size, oR T237.heap.size, oI (0 : Int32)] [(.ref T237.heap.size)])
        refine own_by (fun t_ k_ => XS.aload XT254.here hx rfl (hb hby at_165) rfl rfl  k_) ?_
        show own_Go p e below _ T254 (mkF m 167 #[oI i0, oI i1, oI i2, oI i3, oI i4, oI i5, oI kk, oI (2 : Int32), oI (1 : Int32), oI ch0, oI ch1, oI dh0, oI dh1, oR h0.size, oR T205.heap.size, oR T237.heap.size, oI (0 : Int32)] [(.ref T205.heap.size), (.ref T237.heap.size)])
        refine own_callV XT254 hx hZ hown (hw _ (List.mem_of_getElem? (i := 52) rfl)) (hw _ (List.mem_of_getElem? (i := 53) rfl)) (hw _ (List.mem_of_getElem? (i := 55) rfl)) (hw _ (List.mem_of_getElem? (i := 54) rfl)) (hw _ (List.mem_of_getElem? (i := 56) rfl)) (hw _ (List.mem_of_getElem? (i := 28) rfl)) (by decide) (rfl : T254.heap = T254.heap) (b := T237.heap.size) fq255_15 (argsL := [(.ref T205.heap.size)]) (rest := []) (own_is_2_1_met l Z a0 hw T237.heap.size T205.heap.size kd w3 h0.size bT205 bT237 kbT205 kbT237 (ch0.toInt8.toInt32) (ch1.toInt8.toInt32) (dh0.toInt8.toInt32) T254.heap cs fq255_1 hcs z241 fq255_5 FkT254 FtT254 fq255_7 fq255_8 fq255_9 fq255_10 fq255_11 fq255_12 fq255_13 fq255_14) 0 (by decide) (by decide) (by rw [hml]; rfl) (lenOf pd_11 rfl) (Nat.le_of_eq rfl) (hb hby at_167) (by decide) (by decide) (st := [(.ref T205.heap.size), (.ref T237.heap.size)]) rfl ?_
        intro T258 LT258 vT258 XT258 hQT258
        obtain ⟨rfl, eT258, rfl⟩ := hQT258
        show own_Go p e below _ T258 (mkF m 170 #[oI i0, oI i1, oI i2, oI i3, oI i4, oI i5, oI kk, oI (2 : Int32), oI (1 : Int32), oI ch0, oI ch1, oI dh0, oI dh1, oR h0.size, oR T205.heap.size, oR T237.heap.size, oI (0 : Int32)] [(.int (own_is_2_1 T237.heap.size T205.heap.size kd w3 h0.size bT205 bT237 kbT205 kbT237 (ch0.toInt8.toInt32) (ch1.toInt8.toInt32) (dh0.toInt8.toInt32)))])
        have N259 := own_Fr.app N256 own_Fr.nil
        refine own_by (fun t_ k_ => XS.iload XT258.here hx rfl (hb hby at_170) rfl  k_) ?_
        show own_Go p e below _ T258 (mkF m 172 #[oI i0, oI i1, oI i2, oI i3, oI i4, oI i5, oI kk, oI (2 : Int32), oI (1 : Int32), oI ch0, oI ch1, oI dh0, oI dh1, oR h0.size, oR T205.heap.size, oR T237.heap.size, oI (0 : Int32)] [(.int (0 : Int32)), (.int (own_is_2_1 T237.heap.size T205.heap.size kd w3 h0.size bT205 bT237 kbT205 kbT237 (ch0.toInt8.toInt32) (ch1.toInt8.toInt32) (dh0.toInt8.toInt32)))])
        have hW : kd = w3 := hkd.symm.trans (by rw [own_pick, c120_256, if_neg (by decide), if_neg (by decide), if_neg (by decide), if_pos (by decide)])
        have hfin : (own_is_2_1 T237.heap.size T205.heap.size kd w3 h0.size bT205 bT237 kbT205 kbT237 (ch0.toInt8.toInt32) (ch1.toInt8.toInt32) (dh0.toInt8.toInt32)) = (0 : Int32) := by rw [show (own_is_2_1 T237.heap.size T205.heap.size kd w3 h0.size bT205 bT237 kbT205 kbT237 (ch0.toInt8.toInt32) (ch1.toInt8.toInt32) (dh0.toInt8.toInt32)) = (0 : Int32) by rw [own_is_2_1, if_pos hW, if_pos (by rw [show (own_eq_2_1 h0.size T205.heap.size bT205 bT237 kbT205 kbT237 (ch0.toInt8.toInt32) (ch1.toInt8.toInt32) (dh0.toInt8.toInt32)) = (0 : Int32) by rw [own_eq_2_1, if_pos (by rw [show (own_le_2_1 bT205 bT237 kbT205 kbT237 (ch0.toInt8.toInt32) (ch1.toInt8.toInt32) (dh0.toInt8.toInt32)) = (0 : Int32) by rw [own_le_2_1]])]])]]
        refine own_by (fun t_ k_ => XS.icmpNo XT258.here hx rfl (hb hby at_172) rfl (XT.ii_ne_f hfin) k_) ?_
        show own_Go p e below _ T258 (mkF m 175 #[oI i0, oI i1, oI i2, oI i3, oI i4, oI i5, oI kk, oI (2 : Int32), oI (1 : Int32), oI ch0, oI ch1, oI dh0, oI dh1, oR h0.size, oR T205.heap.size, oR T237.heap.size, oI (0 : Int32)] [])
        refine own_by (fun t_ k_ => XT.iconstV XT258.here hx rfl (1 : Int32) (hb hby at_175) (by decide) k_) ?_
        show own_Go p e below _ T258 (mkF m 176 #[oI i0, oI i1, oI i2, oI i3, oI i4, oI i5, oI kk, oI (2 : Int32), oI (1 : Int32), oI ch0, oI ch1, oI dh0, oI dh1, oR h0.size, oR T205.heap.size, oR T237.heap.size, oI (0 : Int32)] [(.int (1 : Int32))])
        refine own_by (fun t_ k_ => XS.goto XT258.here hx rfl (pc0 := 176) (pc' := 180) rfl (hb hby at_176) (by decide) (by decide) k_) ?_
        show own_Go p e below _ T258 (mkF m 180 #[oI i0, oI i1, oI i2, oI i3, oI i4, oI i5, oI kk, oI (2 : Int32), oI (1 : Int32), oI ch0, oI ch1, oI dh0, oI dh1, oR h0.size, oR T205.heap.size, oR T237.heap.size, oI (0 : Int32)] [(.int (1 : Int32))])
        exact own_retNW XT258 hx hlk hZ hEL hS eT258 hk0 hC hret (by simp) (w := (1 : Int32)) (hb hby at_180) (by decide) (by decide) (by decide) (⟨rfl, (N259).to (Nat.le_refl _)⟩)
      · refine own_by (fun t_ k_ => XS.icmpYes XT254.here hx rfl (pc0 := 120) (pc' := 160) rfl (hb hby at_120) rfl (XT.ii_ne_t c120_256) (by decide) (by decide) k_) ?_
        show own_Go p e below _ T254 (mkF m 160 #[oI i0, oI i1, oI i2, oI i3, oI i4, oI i5, oI kk, oI (2 : Int32), oI (1 : Int32), oI ch0, oI ch1, oI dh0, oI dh1, oR h0.size, oR T205.heap.size, oR T237.heap.size, .unset] [])
        refine own_by (fun t_ k_ => XT.iconstV XT254.here hx rfl (0 : Int32) (hb hby at_160) (by decide) k_) ?_
        show own_Go p e below _ T254 (mkF m 161 #[oI i0, oI i1, oI i2, oI i3, oI i4, oI i5, oI kk, oI (2 : Int32), oI (1 : Int32), oI ch0, oI ch1, oI dh0, oI dh1, oR h0.size, oR T205.heap.size, oR T237.heap.size, .unset] [(.int (0 : Int32))])
        refine own_by (fun t_ k_ => XS.istore XT254.here hx rfl (hb hby at_161) rfl (l' := #[oI i0, oI i1, oI i2, oI i3, oI i4, oI i5, oI kk, oI (2 : Int32), oI (1 : Int32), oI ch0, oI ch1, oI dh0, oI dh1, oR h0.size, oR T205.heap.size, oR T237.heap.size, oI (0 : Int32)]) rfl k_) ?_
        show own_Go p e below _ T254 (mkF m 163 #[oI i0, oI i1, oI i2, oI i3, oI i4, oI i5, oI kk, oI (2 : Int32), oI (1 : Int32), oI ch0, oI ch1, oI dh0, oI dh1, oR h0.size, oR T205.heap.size, oR T237.heap.size, oI (0 : Int32)] [])
        refine own_by (fun t_ k_ => XS.aload XT254.here hx rfl (hb hby at_163) rfl rfl  k_) ?_
        show own_Go p e below _ T254 (mkF m 165 #[oI i0, oI i1, oI i2, oI i3, oI i4, oI i5, oI kk, oI (2 : Int32), oI (1 : Int32), oI ch0, oI ch1, oI dh0, oI dh1, oR h0.size, oR T205.heap.size, oR T237.heap.size, oI (0 : Int32)] [(.ref T237.heap.size)])
        refine own_by (fun t_ k_ => XS.aload XT254.here hx rfl (hb hby at_165) rfl rfl  k_) ?_
        show own_Go p e below _ T254 (mkF m 167 #[oI i0, oI i1, oI i2, oI i3, oI i4, oI i5, oI kk, oI (2 : Int32), oI (1 : Int32), oI ch0, oI ch1, oI dh0, oI dh1, oR h0.size, oR T205.heap.size, oR T237.heap.size, oI (0 : Int32)] [(.ref T205.heap.size), (.ref T237.heap.size)])
        refine own_callV XT254 hx hZ hown (hw _ (List.mem_of_getElem? (i := 52) rfl)) (hw _ (List.mem_of_getElem? (i := 53) rfl)) (hw _ (List.mem_of_getElem? (i := 55) rfl)) (hw _ (List.mem_of_getElem? (i := 54) rfl)) (hw _ (List.mem_of_getElem? (i := 56) rfl)) (hw _ (List.mem_of_getElem? (i := 28) rfl)) (by decide) (rfl : T254.heap = T254.heap) (b := T237.heap.size) fq255_15 (argsL := [(.ref T205.heap.size)]) (rest := []) (own_is_2_1_met l Z a0 hw T237.heap.size T205.heap.size kd w3 h0.size bT205 bT237 kbT205 kbT237 (ch0.toInt8.toInt32) (ch1.toInt8.toInt32) (dh0.toInt8.toInt32) T254.heap cs fq255_1 hcs z241 fq255_5 FkT254 FtT254 fq255_7 fq255_8 fq255_9 fq255_10 fq255_11 fq255_12 fq255_13 fq255_14) 0 (by decide) (by decide) (by rw [hml]; rfl) (lenOf pd_11 rfl) (Nat.le_of_eq rfl) (hb hby at_167) (by decide) (by decide) (st := [(.ref T205.heap.size), (.ref T237.heap.size)]) rfl ?_
        intro T260 LT260 vT260 XT260 hQT260
        obtain ⟨rfl, eT260, rfl⟩ := hQT260
        show own_Go p e below _ T260 (mkF m 170 #[oI i0, oI i1, oI i2, oI i3, oI i4, oI i5, oI kk, oI (2 : Int32), oI (1 : Int32), oI ch0, oI ch1, oI dh0, oI dh1, oR h0.size, oR T205.heap.size, oR T237.heap.size, oI (0 : Int32)] [(.int (own_is_2_1 T237.heap.size T205.heap.size kd w3 h0.size bT205 bT237 kbT205 kbT237 (ch0.toInt8.toInt32) (ch1.toInt8.toInt32) (dh0.toInt8.toInt32)))])
        have N261 := own_Fr.app N256 own_Fr.nil
        refine own_by (fun t_ k_ => XS.iload XT260.here hx rfl (hb hby at_170) rfl  k_) ?_
        show own_Go p e below _ T260 (mkF m 172 #[oI i0, oI i1, oI i2, oI i3, oI i4, oI i5, oI kk, oI (2 : Int32), oI (1 : Int32), oI ch0, oI ch1, oI dh0, oI dh1, oR h0.size, oR T205.heap.size, oR T237.heap.size, oI (0 : Int32)] [(.int (0 : Int32)), (.int (own_is_2_1 T237.heap.size T205.heap.size kd w3 h0.size bT205 bT237 kbT205 kbT237 (ch0.toInt8.toInt32) (ch1.toInt8.toInt32) (dh0.toInt8.toInt32)))])
        have hW : ¬ kd = w3 := fun q => own_pick_ne kk w0 w1 w2 w3 w4 c120_256 (F0.ne F3 (by decide)) (F1.ne F3 (by decide)) (F2.ne F3 (by decide)) (F4.ne F3 (by decide)) (hkd.trans q)
        have hfin : (own_is_2_1 T237.heap.size T205.heap.size kd w3 h0.size bT205 bT237 kbT205 kbT237 (ch0.toInt8.toInt32) (ch1.toInt8.toInt32) (dh0.toInt8.toInt32)) = (0 : Int32) := by rw [show (own_is_2_1 T237.heap.size T205.heap.size kd w3 h0.size bT205 bT237 kbT205 kbT237 (ch0.toInt8.toInt32) (ch1.toInt8.toInt32) (dh0.toInt8.toInt32)) = (0 : Int32) by rw [own_is_2_1, if_neg hW]]
        refine own_by (fun t_ k_ => XS.icmpNo XT260.here hx rfl (hb hby at_172) rfl (XT.ii_ne_f hfin) k_) ?_
        show own_Go p e below _ T260 (mkF m 175 #[oI i0, oI i1, oI i2, oI i3, oI i4, oI i5, oI kk, oI (2 : Int32), oI (1 : Int32), oI ch0, oI ch1, oI dh0, oI dh1, oR h0.size, oR T205.heap.size, oR T237.heap.size, oI (0 : Int32)] [])
        refine own_by (fun t_ k_ => XT.iconstV XT260.here hx rfl (1 : Int32) (hb hby at_175) (by decide) k_) ?_
        show own_Go p e below _ T260 (mkF m 176 #[oI i0, oI i1, oI i2, oI i3, oI i4, oI i5, oI kk, oI (2 : Int32), oI (1 : Int32), oI ch0, oI ch1, oI dh0, oI dh1, oR h0.size, oR T205.heap.size, oR T237.heap.size, oI (0 : Int32)] [(.int (1 : Int32))])
        refine own_by (fun t_ k_ => XS.goto XT260.here hx rfl (pc0 := 176) (pc' := 180) rfl (hb hby at_176) (by decide) (by decide) k_) ?_
        show own_Go p e below _ T260 (mkF m 180 #[oI i0, oI i1, oI i2, oI i3, oI i4, oI i5, oI kk, oI (2 : Int32), oI (1 : Int32), oI ch0, oI ch1, oI dh0, oI dh1, oR h0.size, oR T205.heap.size, oR T237.heap.size, oI (0 : Int32)] [(.int (1 : Int32))])
        exact own_retNW XT260 hx hlk hZ hEL hS eT260 hk0 hC hret (by simp) (w := (1 : Int32)) (hb hby at_180) (by decide) (by decide) (by decide) (⟨rfl, (N261).to (Nat.le_refl _)⟩)
    · subst hk
      show own_Go p e below _ T205 (mkF m 77 #[oI i0, oI i1, oI i2, oI i3, oI i4, oI i5, oI kk, oI (2 : Int32), oI (2 : Int32), oI ch0, oI ch1, oI dh0, oI dh1, oR h0.size, .unset, .unset, .unset] [])
      refine own_by (fun t_ k_ => XS.iload XT205.here hx rfl (hb hby at_77) rfl  k_) ?_
      show own_Go p e below _ T205 (mkF m 79 #[oI i0, oI i1, oI i2, oI i3, oI i4, oI i5, oI kk, oI (2 : Int32), oI (2 : Int32), oI ch0, oI ch1, oI dh0, oI dh1, oR h0.size, .unset, .unset, .unset] [(.int (2 : Int32))])
      refine own_by (fun t_ k_ => XT.iconstV XT205.here hx rfl (3 : Int32) (hb hby at_79) (by decide) k_) ?_
      show own_Go p e below _ T205 (mkF m 80 #[oI i0, oI i1, oI i2, oI i3, oI i4, oI i5, oI kk, oI (2 : Int32), oI (2 : Int32), oI ch0, oI ch1, oI dh0, oI dh1, oR h0.size, .unset, .unset, .unset] [(.int (3 : Int32)), (.int (2 : Int32))])
      refine own_by (fun t_ k_ => XS.icmpYes XT205.here hx rfl (pc0 := 80) (pc' := 87) rfl (hb hby at_80) rfl (XT.ii_ne_t (by decide)) (by decide) (by decide) k_) ?_
      show own_Go p e below _ T205 (mkF m 87 #[oI i0, oI i1, oI i2, oI i3, oI i4, oI i5, oI kk, oI (2 : Int32), oI (2 : Int32), oI ch0, oI ch1, oI dh0, oI dh1, oR h0.size, .unset, .unset, .unset] [])
      refine own_by (fun t_ k_ => XS.iload XT205.here hx rfl (hb hby at_87) rfl  k_) ?_
      show own_Go p e below _ T205 (mkF m 89 #[oI i0, oI i1, oI i2, oI i3, oI i4, oI i5, oI kk, oI (2 : Int32), oI (2 : Int32), oI ch0, oI ch1, oI dh0, oI dh1, oR h0.size, .unset, .unset, .unset] [(.int (2 : Int32))])
      refine own_by (fun t_ k_ => XS.iload XT205.here hx rfl (hb hby at_89) rfl  k_) ?_
      show own_Go p e below _ T205 (mkF m 91 #[oI i0, oI i1, oI i2, oI i3, oI i4, oI i5, oI kk, oI (2 : Int32), oI (2 : Int32), oI ch0, oI ch1, oI dh0, oI dh1, oR h0.size, .unset, .unset, .unset] [(.int dh0), (.int (2 : Int32))])
      refine own_by (fun t_ k_ => XS.iload XT205.here hx rfl (hb hby at_91) rfl  k_) ?_
      show own_Go p e below _ T205 (mkF m 93 #[oI i0, oI i1, oI i2, oI i3, oI i4, oI i5, oI kk, oI (2 : Int32), oI (2 : Int32), oI ch0, oI ch1, oI dh0, oI dh1, oR h0.size, .unset, .unset, .unset] [(.int dh1), (.int dh0), (.int (2 : Int32))])
      have g262 : h0.size ≤ T205.heap.size := Kq206.1
      refine own_callSW XT205 hx hZ hEL hS (rfl : T205.heap = T205.heap) hk0 hC hown (hw _ (List.mem_of_getElem? (i := 0) rfl)) (hw _ (List.mem_of_getElem? (i := 1) rfl)) (hw _ (List.mem_of_getElem? (i := 2) rfl)) (hw _ (List.mem_of_getElem? (i := 3) rfl)) (by decide) (argsL := [(.int (2 : Int32)), (.int dh0), (.int dh1)]) (rest := []) (own_str_2 l Z a0 hw EL hEL dh0 dh1 T205.heap cs fq206_1 hcs Bdh0 Bdh1 hmem) 0 (by decide) (by decide) (by rw [hml]; rfl) (lenOf pd_8 rfl) (Nat.le_of_eq rfl) (hb hby at_93) (by decide) (by decide) (st := [(.int dh1), (.int dh0), (.int (2 : Int32))]) rfl ?_
      rintro T263 LT263 vT263 ⟨XT263, hQT263, hS, hgT263, hZ, hown, hCT263⟩
      obtain ⟨rfl, KT263, NT263, ST263⟩ := hQT263
      show own_Go p e below _ T263 (mkF m 96 #[oI i0, oI i1, oI i2, oI i3, oI i4, oI i5, oI kk, oI (2 : Int32), oI (2 : Int32), oI ch0, oI ch1, oI dh0, oI dh1, oR h0.size, .unset, .unset, .unset] [(.ref T205.heap.size)])
      have fq264_1 := own_stak fq206_1 KT263
      have fq264_2 := own_stak fq206_2 KT263
      have fq264_3 := own_stak fq206_3 KT263
      have fq264_4 := own_stak fq206_4 KT263
      have fq264_5 := own_stak fq206_5 KT263
      have fq264_6 := own_stak fq206_6 KT263
      have fq264_7 := EsT205.keep KT263
      have fq264_8 := FvT205.keep KT263 nin0
      have fq264_9 := FcT205.keep KT263 nin0
      have fq264_10 := VT205.keep KT263 nin0
      have lq264_0 := Nat.lt_of_lt_of_le lt207 KT263.1
      have lq264_1 := Nat.lt_of_lt_of_le lt208 KT263.1
      have Kq264 := own_trans0 Kq206 KT263
      have hC := hCT263
      have hk0 := Nat.le_refl T263.heap.size
      obtain ⟨bT263, kbT263, EsT263, FvT263, FcT263, VT263⟩ := ST263
      have lt265 := EsT263.lt
      have lt266 := VT263.lt
      have z267 : h0.size ≠ T205.heap.size := Nat.ne_of_lt lt207
      have z268 : bT205 ≠ T205.heap.size := Nat.ne_of_lt lt208
      have N269 := own_Fr.app N209 (own_Fr.of NT263 (Kq206).1)
      refine own_by (fun t_ k_ => XS.astore XT263.here hx rfl (hb hby at_96) rfl rfl (l' := #[oI i0, oI i1, oI i2, oI i3, oI i4, oI i5, oI kk, oI (2 : Int32), oI (2 : Int32), oI ch0, oI ch1, oI dh0, oI dh1, oR h0.size, oR T205.heap.size, .unset, .unset]) rfl k_) ?_
      show own_Go p e below _ T263 (mkF m 98 #[oI i0, oI i1, oI i2, oI i3, oI i4, oI i5, oI kk, oI (2 : Int32), oI (2 : Int32), oI ch0, oI ch1, oI dh0, oI dh1, oR h0.size, oR T205.heap.size, .unset, .unset] [])
      have g271 : h0.size ≤ T263.heap.size := Kq264.1
      refine own_new XT263 hx hZ hown (hw _ (List.mem_of_getElem? (i := 26) rfl)) (hw _ (List.mem_of_getElem? (i := 27) rfl)) (hw _ (List.mem_of_getElem? (i := 28) rfl)) (rfl : T263.heap = T263.heap) (hb hby at_98) (by decide) (by decide) ?_
      intro T270 hT270 XT270 eT270 ET270 AT270 DT270
      have fq272_1 := own_stak fq264_1 (own_ek ET270)
      have fq272_2 := own_stak fq264_2 (own_ek ET270)
      have fq272_3 := own_stak fq264_3 (own_ek ET270)
      have fq272_4 := own_stak fq264_4 (own_ek ET270)
      have fq272_5 := own_stak fq264_5 (own_ek ET270)
      have fq272_6 := own_stak fq264_6 (own_ek ET270)
      have fq272_7 := fq264_7.keep (own_ek ET270)
      have fq272_8 := fq264_8.keep (own_ek ET270) nin0
      have fq272_9 := fq264_9.keep (own_ek ET270) nin0
      have fq272_10 := fq264_10.keep (own_ek ET270) nin0
      have fq272_11 := EsT263.keep (own_ek ET270)
      have fq272_12 := FvT263.keep (own_ek ET270) nin0
      have fq272_13 := FcT263.keep (own_ek ET270) nin0
      have fq272_14 := VT263.keep (own_ek ET270) nin0
      have lq272_0 := Nat.lt_of_lt_of_le lq264_0 (own_ek ET270).1
      have lq272_1 := Nat.lt_of_lt_of_le lq264_1 (own_ek ET270).1
      have lq272_2 := Nat.lt_of_lt_of_le lt265 (own_ek ET270).1
      have lq272_3 := Nat.lt_of_lt_of_le lt266 (own_ek ET270).1
      have hC := hC.trans (CHr.keep (own_ek ET270) (fun _ q => by cases q) hC.1)
      have hk0 := Nat.le_trans hk0 (own_ek ET270).1
      have Kq272 := own_trans0 Kq264 (own_ek ET270)
      have z273 : h0.size ≠ T263.heap.size := Nat.ne_of_lt lq264_0
      have z274 : bT205 ≠ T263.heap.size := Nat.ne_of_lt lq264_1
      have z275 : T205.heap.size ≠ T263.heap.size := Nat.ne_of_lt lt265
      have z276 : bT263 ≠ T263.heap.size := Nat.ne_of_lt lt266
      have FT270_kind : Fld Z hT270 T263.heap.size "com/example/nimble_gate/nimblegate/policy/Token" "kind" "Lcom/example/nimble_gate/nimblegate/policy/Token$Kind;" .null := DT270 (ty := (.object "com/example/nimble_gate/nimblegate/policy/Token$Kind")) (Or.inr (hw _ (List.mem_of_getElem? (i := 45) rfl))) (by decide +kernel)
      have FT270_text : Fld Z hT270 T263.heap.size "com/example/nimble_gate/nimblegate/policy/Token" "text" "Ljava/lang/String;" .null := DT270 (ty := (.object "java/lang/String")) (Or.inr (hw _ (List.mem_of_getElem? (i := 47) rfl))) (by decide +kernel)
      have FT270_line : Fld Z hT270 T263.heap.size "com/example/nimble_gate/nimblegate/policy/Token" "line" "I" (.int 0) := DT270 (ty := .int) (Or.inr (hw _ (List.mem_of_getElem? (i := 49) rfl))) (by decide +kernel)
      have FT270_column : Fld Z hT270 T263.heap.size "com/example/nimble_gate/nimblegate/policy/Token" "column" "I" (.int 0) := DT270 (ty := .int) (Or.inr (hw _ (List.mem_of_getElem? (i := 51) rfl))) (by decide +kernel)
      clear DT270
      have lt277 := AT270.lt
      show own_Go p e below _ T270 (mkF m 101 #[oI i0, oI i1, oI i2, oI i3, oI i4, oI i5, oI kk, oI (2 : Int32), oI (2 : Int32), oI ch0, oI ch1, oI dh0, oI dh1, oR h0.size, oR T205.heap.size, .unset, .unset] [(.ref T263.heap.size)])
      refine own_by (fun t_ k_ => XS.dup XT270.here hx rfl (hb hby at_101) rfl rfl k_) ?_
      show own_Go p e below _ T270 (mkF m 102 #[oI i0, oI i1, oI i2, oI i3, oI i4, oI i5, oI kk, oI (2 : Int32), oI (2 : Int32), oI ch0, oI ch1, oI dh0, oI dh1, oR h0.size, oR T205.heap.size, .unset, .unset] [(.ref T263.heap.size), (.ref T263.heap.size)])
      refine own_by (fun t_ k_ => XS.iload XT270.here hx rfl (hb hby at_102) rfl  k_) ?_
      show own_Go p e below _ T270 (mkF m 104 #[oI i0, oI i1, oI i2, oI i3, oI i4, oI i5, oI kk, oI (2 : Int32), oI (2 : Int32), oI ch0, oI ch1, oI dh0, oI dh1, oR h0.size, oR T205.heap.size, .unset, .unset] [(.int kk), (.ref T263.heap.size), (.ref T263.heap.size)])
      refine own_callS XT270 hx hZ hown (hw _ (List.mem_of_getElem? (i := 29) rfl)) (hw _ (List.mem_of_getElem? (i := 30) rfl)) (hw _ (List.mem_of_getElem? (i := 2) rfl)) (hw _ (List.mem_of_getElem? (i := 31) rfl)) (by decide) eT270 (argsL := [(.int kk)]) (rest := [(.ref T263.heap.size), (.ref T263.heap.size)]) (own_pick_met l Z a0 hw kk w0 w1 w2 w3 w4 hT270 ⟨fq272_2, fq272_3, fq272_4, fq272_5, fq272_6⟩) 2 (by decide) (by decide) (by rw [hml]; rfl) (lenOf pd_9 rfl) (Nat.le_of_eq rfl) (hb hby at_104) (by decide) (by decide) (st := [(.int kk), (.ref T263.heap.size), (.ref T263.heap.size)]) rfl ?_
      intro T278 LT278 vT278 XT278 hQT278
      obtain ⟨rfl, eT278, rfl⟩ := hQT278
      show own_Go p e below _ T278 (mkF m 107 #[oI i0, oI i1, oI i2, oI i3, oI i4, oI i5, oI kk, oI (2 : Int32), oI (2 : Int32), oI ch0, oI ch1, oI dh0, oI dh1, oR h0.size, oR T205.heap.size, .unset, .unset] [(.ref (own_pick kk w0 w1 w2 w3 w4)), (.ref T263.heap.size), (.ref T263.heap.size)])
      have N279 := own_Fr.app N269 own_Fr.nil
      generalize hkd : (own_pick kk w0 w1 w2 w3 w4) = kd
      show own_Go p e below _ T278 (mkF m 107 #[oI i0, oI i1, oI i2, oI i3, oI i4, oI i5, oI kk, oI (2 : Int32), oI (2 : Int32), oI ch0, oI ch1, oI dh0, oI dh1, oR h0.size, oR T205.heap.size, .unset, .unset] [(.ref kd), (.ref T263.heap.size), (.ref T263.heap.size)])
      refine own_by (fun t_ k_ => XS.aload XT278.here hx rfl (hb hby at_107) rfl rfl  k_) ?_
      show own_Go p e below _ T278 (mkF m 109 #[oI i0, oI i1, oI i2, oI i3, oI i4, oI i5, oI kk, oI (2 : Int32), oI (2 : Int32), oI ch0, oI ch1, oI dh0, oI dh1, oR h0.size, oR T205.heap.size, .unset, .unset] [(.ref h0.size), (.ref kd), (.ref T263.heap.size), (.ref T263.heap.size)])
      refine own_by (fun t_ k_ => XS.iload XT278.here hx rfl (hb hby at_109) rfl  k_) ?_
      show own_Go p e below _ T278 (mkF m 111 #[oI i0, oI i1, oI i2, oI i3, oI i4, oI i5, oI kk, oI (2 : Int32), oI (2 : Int32), oI ch0, oI ch1, oI dh0, oI dh1, oR h0.size, oR T205.heap.size, .unset, .unset] [(.int i5), (.ref h0.size), (.ref kd), (.ref T263.heap.size), (.ref T263.heap.size)])
      refine own_by (fun t_ k_ => XS.iloadN XT278.here hx rfl (hb hby at_111) rfl  k_) ?_
      show own_Go p e below _ T278 (mkF m 112 #[oI i0, oI i1, oI i2, oI i3, oI i4, oI i5, oI kk, oI (2 : Int32), oI (2 : Int32), oI ch0, oI ch1, oI dh0, oI dh1, oR h0.size, oR T205.heap.size, .unset, .unset] [(.int i0), (.int i5), (.ref h0.size), (.ref kd), (.ref T263.heap.size), (.ref T263.heap.size)])
      refine own_callN XT278 hx hZ rfl hown (hw _ (List.mem_of_getElem? (i := 35) rfl)) (hw _ (List.mem_of_getElem? (i := 36) rfl)) (hw _ (List.mem_of_getElem? (i := 37) rfl)) (hw _ (List.mem_of_getElem? (i := 28) rfl)) (by decide) eT278 (b := T263.heap.size) (argsL := [(.ref kd), (.ref h0.size), (.int i5), (.int i0)]) (rest := [(.ref T263.heap.size)]) (own_tok l Z a0 hw T263.heap.size kd h0.size i5 i0 hT270 AT270 FT270_kind FT270_text FT270_line FT270_column) 1 (by decide) (by decide) (by rw [hml]; rfl) (lenOf pd_10 rfl) (Nat.le_of_eq rfl) (hb hby at_112) (by decide) (by decide) (st := [(.int i0), (.int i5), (.ref h0.size), (.ref kd), (.ref T263.heap.size), (.ref T263.heap.size)]) rfl ?_
      intro T280 LT280 vT280 XT280 hQT280
      obtain ⟨rfl, KT280, NT280, FkT280, FtT280⟩ := hQT280
      show own_Go p e below _ T280 (mkF m 115 #[oI i0, oI i1, oI i2, oI i3, oI i4, oI i5, oI kk, oI (2 : Int32), oI (2 : Int32), oI ch0, oI ch1, oI dh0, oI dh1, oR h0.size, oR T205.heap.size, .unset, .unset] [(.ref T263.heap.size)])
      have fq281_1 := own_stak1 fq272_1 KT280 AT270
      have fq281_2 := own_stak1 fq272_2 KT280 AT270
      have fq281_3 := own_stak1 fq272_3 KT280 AT270
      have fq281_4 := own_stak1 fq272_4 KT280 AT270
      have fq281_5 := own_stak1 fq272_5 KT280 AT270
      have fq281_6 := own_stak1 fq272_6 KT280 AT270
      have fq281_7 := fq272_7.keep KT280
      have fq281_8 := fq272_8.keep KT280 (own_nin z273)
      have fq281_9 := fq272_9.keep KT280 (own_nin z273)
      have fq281_10 := fq272_10.keep KT280 (own_nin z274)
      have fq281_11 := fq272_11.keep KT280
      have fq281_12 := fq272_12.keep KT280 (own_nin z275)
      have fq281_13 := fq272_13.keep KT280 (own_nin z275)
      have fq281_14 := fq272_14.keep KT280 (own_nin z276)
      have fq281_15 := AT270.keep KT280
      have lq281_0 := Nat.lt_of_lt_of_le lq272_0 KT280.1
      have lq281_1 := Nat.lt_of_lt_of_le lq272_1 KT280.1
      have lq281_2 := Nat.lt_of_lt_of_le lq272_2 KT280.1
      have lq281_3 := Nat.lt_of_lt_of_le lq272_3 KT280.1
      have lq281_4 := Nat.lt_of_lt_of_le lt277 KT280.1
      have hC := hC.trans (CHr.keep KT280 (fun _ q => by cases List.mem_singleton.mp q; exact (Safe.exa hZ.alike AT270 (by decide) (by decide))) hC.1)
      have hk0 := Nat.le_trans hk0 KT280.1
      have Kq281 := own_trans1 Kq272 KT280 (Or.inr g271)
      have N282 := own_Fr.app N279 (own_Fr.of (own_Fr.new NT280 g271 (Kq272).1) (Nat.le_refl _))
      refine own_by (fun t_ k_ => XS.astore XT280.here hx rfl (hb hby at_115) rfl rfl (l' := #[oI i0, oI i1, oI i2, oI i3, oI i4, oI i5, oI kk, oI (2 : Int32), oI (2 : Int32), oI ch0, oI ch1, oI dh0, oI dh1, oR h0.size, oR T205.heap.size, oR T263.heap.size, .unset]) rfl k_) ?_
      show own_Go p e below _ T280 (mkF m 117 #[oI i0, oI i1, oI i2, oI i3, oI i4, oI i5, oI kk, oI (2 : Int32), oI (2 : Int32), oI ch0, oI ch1, oI dh0, oI dh1, oR h0.size, oR T205.heap.size, oR T263.heap.size, .unset] [])
      refine own_by (fun t_ k_ => XS.iload XT280.here hx rfl (hb hby at_117) rfl  k_) ?_
      show own_Go p e below _ T280 (mkF m 119 #[oI i0, oI i1, oI i2, oI i3, oI i4, oI i5, oI kk, oI (2 : Int32), oI (2 : Int32), oI ch0, oI ch1, oI dh0, oI dh1, oR h0.size, oR T205.heap.size, oR T263.heap.size, .unset] [(.int kk)])
      refine own_by (fun t_ k_ => XT.iconstV XT280.here hx rfl (3 : Int32) (hb hby at_119) (by decide) k_) ?_
      show own_Go p e below _ T280 (mkF m 120 #[oI i0, oI i1, oI i2, oI i3, oI i4, oI i5, oI kk, oI (2 : Int32), oI (2 : Int32), oI ch0, oI ch1, oI dh0, oI dh1, oR h0.size, oR T205.heap.size, oR T263.heap.size, .unset] [(.int (3 : Int32)), (.int kk)])
      by_cases c120_282 : kk = (3 : Int32)
      · refine own_by (fun t_ k_ => XS.icmpNo XT280.here hx rfl (hb hby at_120) rfl (XT.ii_ne_f c120_282) k_) ?_
        show own_Go p e below _ T280 (mkF m 123 #[oI i0, oI i1, oI i2, oI i3, oI i4, oI i5, oI kk, oI (2 : Int32), oI (2 : Int32), oI ch0, oI ch1, oI dh0, oI dh1, oR h0.size, oR T205.heap.size, oR T263.heap.size, .unset] [])
        refine own_by (fun t_ k_ => XS.iload XT280.here hx rfl (hb hby at_123) rfl  k_) ?_
        show own_Go p e below _ T280 (mkF m 125 #[oI i0, oI i1, oI i2, oI i3, oI i4, oI i5, oI kk, oI (2 : Int32), oI (2 : Int32), oI ch0, oI ch1, oI dh0, oI dh1, oR h0.size, oR T205.heap.size, oR T263.heap.size, .unset] [(.int (2 : Int32))])
        refine own_by (fun t_ k_ => XS.iload XT280.here hx rfl (hb hby at_125) rfl  k_) ?_
        show own_Go p e below _ T280 (mkF m 127 #[oI i0, oI i1, oI i2, oI i3, oI i4, oI i5, oI kk, oI (2 : Int32), oI (2 : Int32), oI ch0, oI ch1, oI dh0, oI dh1, oR h0.size, oR T205.heap.size, oR T263.heap.size, .unset] [(.int (2 : Int32)), (.int (2 : Int32))])
        refine own_by (fun t_ k_ => XS.icmpNo XT280.here hx rfl (hb hby at_127) rfl (XT.ii_ne_f (by decide)) k_) ?_
        show own_Go p e below _ T280 (mkF m 130 #[oI i0, oI i1, oI i2, oI i3, oI i4, oI i5, oI kk, oI (2 : Int32), oI (2 : Int32), oI ch0, oI ch1, oI dh0, oI dh1, oR h0.size, oR T205.heap.size, oR T263.heap.size, .unset] [])
        refine own_by (fun t_ k_ => XS.iload XT280.here hx rfl (hb hby at_130) rfl  k_) ?_
        show own_Go p e below _ T280 (mkF m 132 #[oI i0, oI i1, oI i2, oI i3, oI i4, oI i5, oI kk, oI (2 : Int32), oI (2 : Int32), oI ch0, oI ch1, oI dh0, oI dh1, oR h0.size, oR T205.heap.size, oR T263.heap.size, .unset] [(.int (2 : Int32))])
        refine own_by (fun t_ k_ => XT.iconstV XT280.here hx rfl (1 : Int32) (hb hby at_132) (by decide) k_) ?_
        show own_Go p e below _ T280 (mkF m 133 #[oI i0, oI i1, oI i2, oI i3, oI i4, oI i5, oI kk, oI (2 : Int32), oI (2 : Int32), oI ch0, oI ch1, oI dh0, oI dh1, oR h0.size, oR T205.heap.size, oR T263.heap.size, .unset] [(.int (1 : Int32)), (.int (2 : Int32))])
        refine own_by (fun t_ k_ => XS.icmpNo XT280.here hx rfl (hb hby at_133) rfl (XT.ii_lt_f (by decide)) k_) ?_
        show own_Go p e below _ T280 (mkF m 136 #[oI i0, oI i1, oI i2, oI i3, oI i4, oI i5, oI kk, oI (2 : Int32), oI (2 : Int32), oI ch0, oI ch1, oI dh0, oI dh1, oR h0.size, oR T205.heap.size, oR T263.heap.size, .unset] [])
        refine own_by (fun t_ k_ => XS.iload XT280.here hx rfl (hb hby at_136) rfl  k_) ?_
        show own_Go p e below _ T280 (mkF m 138 #[oI i0, oI i1, oI i2, oI i3, oI i4, oI i5, oI kk, oI (2 : Int32), oI (2 : Int32), oI ch0, oI ch1, oI dh0, oI dh1, oR h0.size, oR T205.heap.size, oR T263.heap.size, .unset] [(.int ch0)])
        refine own_by (fun t_ k_ => XS.iload XT280.here hx rfl (hb hby at_138) rfl  k_) ?_
        show own_Go p e below _ T280 (mkF m 140 #[oI i0, oI i1, oI i2, oI i3, oI i4, oI i5, oI kk, oI (2 : Int32), oI (2 : Int32), oI ch0, oI ch1, oI dh0, oI dh1, oR h0.size, oR T205.heap.size, oR T263.heap.size, .unset] [(.int dh0), (.int ch0)])
        by_cases c140_283 : ch0 = dh0
        · refine own_by (fun t_ k_ => XS.icmpNo XT280.here hx rfl (hb hby at_140) rfl (XT.ii_ne_f c140_283) k_) ?_
          show own_Go p e below _ T280 (mkF m 143 #[oI i0, oI i1, oI i2, oI i3, oI i4, oI i5, oI kk, oI (2 : Int32), oI (2 : Int32), oI ch0, oI ch1, oI dh0, oI dh1, oR h0.size, oR T205.heap.size, oR T263.heap.size, .unset] [])
          refine own_by (fun t_ k_ => XS.iload XT280.here hx rfl (hb hby at_143) rfl  k_) ?_
          show own_Go p e below _ T280 (mkF m 145 #[oI i0, oI i1, oI i2, oI i3, oI i4, oI i5, oI kk, oI (2 : Int32), oI (2 : Int32), oI ch0, oI ch1, oI dh0, oI dh1, oR h0.size, oR T205.heap.size, oR T263.heap.size, .unset] [(.int (2 : Int32))])
          refine own_by (fun t_ k_ => XT.iconstV XT280.here hx rfl (2 : Int32) (hb hby at_145) (by decide) k_) ?_
          show own_Go p e below _ T280 (mkF m 146 #[oI i0, oI i1, oI i2, oI i3, oI i4, oI i5, oI kk, oI (2 : Int32), oI (2 : Int32), oI ch0, oI ch1, oI dh0, oI dh1, oR h0.size, oR T205.heap.size, oR T263.heap.size, .unset] [(.int (2 : Int32)), (.int (2 : Int32))])
          refine own_by (fun t_ k_ => XS.icmpNo XT280.here hx rfl (hb hby at_146) rfl (XT.ii_lt_f (by decide)) k_) ?_
          show own_Go p e below _ T280 (mkF m 149 #[oI i0, oI i1, oI i2, oI i3, oI i4, oI i5, oI kk, oI (2 : Int32), oI (2 : Int32), oI ch0, oI ch1, oI dh0, oI dh1, oR h0.size, oR T205.heap.size, oR T263.heap.size, .unset] [])
          refine own_by (fun t_ k_ => XS.iload XT280.here hx rfl (hb hby at_149) rfl  k_) ?_
          show own_Go p e below _ T280 (mkF m 151 #[oI i0, oI i1, oI i2, oI i3, oI i4, oI i5, oI kk, oI (2 : Int32), oI (2 : Int32), oI ch0, oI ch1, oI dh0, oI dh1, oR h0.size, oR T205.heap.size, oR T263.heap.size, .unset] [(.int ch1)])
          refine own_by (fun t_ k_ => XS.iload XT280.here hx rfl (hb hby at_151) rfl  k_) ?_
          show own_Go p e below _ T280 (mkF m 153 #[oI i0, oI i1, oI i2, oI i3, oI i4, oI i5, oI kk, oI (2 : Int32), oI (2 : Int32), oI ch0, oI ch1, oI dh0, oI dh1, oR h0.size, oR T205.heap.size, oR T263.heap.size, .unset] [(.int dh1), (.int ch1)])
          by_cases c153_284 : ch1 = dh1
          · refine own_by (fun t_ k_ => XS.icmpNo XT280.here hx rfl (hb hby at_153) rfl (XT.ii_ne_f c153_284) k_) ?_
            show own_Go p e below _ T280 (mkF m 156 #[oI i0, oI i1, oI i2, oI i3, oI i4, oI i5, oI kk, oI (2 : Int32), oI (2 : Int32), oI ch0, oI ch1, oI dh0, oI dh1, oR h0.size, oR T205.heap.size, oR T263.heap.size, .unset] [])
            refine own_by (fun t_ k_ => XT.iconstV XT280.here hx rfl (1 : Int32) (hb hby at_156) (by decide) k_) ?_
            show own_Go p e below _ T280 (mkF m 157 #[oI i0, oI i1, oI i2, oI i3, oI i4, oI i5, oI kk, oI (2 : Int32), oI (2 : Int32), oI ch0, oI ch1, oI dh0, oI dh1, oR h0.size, oR T205.heap.size, oR T263.heap.size, .unset] [(.int (1 : Int32))])
            refine own_by (fun t_ k_ => XS.goto XT280.here hx rfl (pc0 := 157) (pc' := 161) rfl (hb hby at_157) (by decide) (by decide) k_) ?_
            show own_Go p e below _ T280 (mkF m 161 #[oI i0, oI i1, oI i2, oI i3, oI i4, oI i5, oI kk, oI (2 : Int32), oI (2 : Int32), oI ch0, oI ch1, oI dh0, oI dh1, oR h0.size, oR T205.heap.size, oR T263.heap.size, .unset] [(.int (1 : Int32))])
            refine own_by (fun t_ k_ => XS.istore XT280.here hx rfl (hb hby at_161) rfl (l' := #[oI i0, oI i1, oI i2, oI i3, oI i4, oI i5, oI kk, oI (2 : Int32), oI (2 : Int32), oI ch0, oI ch1, oI dh0, oI dh1, oR h0.size, oR T205.heap.size, oR T263.heap.size, oI (1 : Int32)]) rfl k_) ?_
            show own_Go p e below _ T280 (mkF m 163 #[oI i0, oI i1, oI i2, oI i3, oI i4, oI i5, oI kk, oI (2 : Int32), oI (2 : Int32), oI ch0, oI ch1, oI dh0, oI dh1, oR h0.size, oR T205.heap.size, oR T263.heap.size, oI (1 : Int32)] [])
            refine own_by (fun t_ k_ => XS.aload XT280.here hx rfl (hb hby at_163) rfl rfl  k_) ?_
            show own_Go p e below _ T280 (mkF m 165 #[oI i0, oI i1, oI i2, oI i3, oI i4, oI i5, oI kk, oI (2 : Int32), oI (2 : Int32), oI ch0, oI ch1, oI dh0, oI dh1, oR h0.size, oR T205.heap.size, oR T263.heap.size, oI (1 : Int32)] [(.ref T263.heap.size)])
            refine own_by (fun t_ k_ => XS.aload XT280.here hx rfl (hb hby at_165) rfl rfl  k_) ?_
            show own_Go p e below _ T280 (mkF m 167 #[oI i0, oI i1, oI i2, oI i3, oI i4, oI i5, oI kk, oI (2 : Int32), oI (2 : Int32), oI ch0, oI ch1, oI dh0, oI dh1, oR h0.size, oR T205.heap.size, oR T263.heap.size, oI (1 : Int32)] [(.ref T205.heap.size), (.ref T263.heap.size)])
            refine own_callV XT280 hx hZ hown (hw _ (List.mem_of_getElem? (i := 52) rfl)) (hw _ (List.mem_of_getElem? (i := 53) rfl)) (hw _ (List.mem_of_getElem? (i := 55) rfl)) (hw _ (List.mem_of_getElem? (i := 54) rfl)) (hw _ (List.mem_of_getElem? (i := 56) rfl)) (hw _ (List.mem_of_getElem? (i := 28) rfl)) (by decide) (rfl : T280.heap = T280.heap) (b := T263.heap.size) fq281_15 (argsL := [(.ref T205.heap.size)]) (rest := []) (own_is_2_2_met l Z a0 hw T263.heap.size T205.heap.size kd w3 h0.size bT205 bT263 kbT205 kbT263 (ch0.toInt8.toInt32) (ch1.toInt8.toInt32) (dh0.toInt8.toInt32) (dh1.toInt8.toInt32) T280.heap cs fq281_1 hcs z267 fq281_5 FkT280 FtT280 fq281_7 fq281_8 fq281_9 fq281_10 fq281_11 fq281_12 fq281_13 fq281_14) 0 (by decide) (by decide) (by rw [hml]; rfl) (lenOf pd_11 rfl) (Nat.le_of_eq rfl) (hb hby at_167) (by decide) (by decide) (st := [(.ref T205.heap.size), (.ref T263.heap.size)]) rfl ?_
            intro T286 LT286 vT286 XT286 hQT286
            obtain ⟨rfl, eT286, rfl⟩ := hQT286
            show own_Go p e below _ T286 (mkF m 170 #[oI i0, oI i1, oI i2, oI i3, oI i4, oI i5, oI kk, oI (2 : Int32), oI (2 : Int32), oI ch0, oI ch1, oI dh0, oI dh1, oR h0.size, oR T205.heap.size, oR T263.heap.size, oI (1 : Int32)] [(.int (own_is_2_2 T263.heap.size T205.heap.size kd w3 h0.size bT205 bT263 kbT205 kbT263 (ch0.toInt8.toInt32) (ch1.toInt8.toInt32) (dh0.toInt8.toInt32) (dh1.toInt8.toInt32)))])
            have N287 := own_Fr.app N282 own_Fr.nil
            refine own_by (fun t_ k_ => XS.iload XT286.here hx rfl (hb hby at_170) rfl  k_) ?_
            show own_Go p e below _ T286 (mkF m 172 #[oI i0, oI i1, oI i2, oI i3, oI i4, oI i5, oI kk, oI (2 : Int32), oI (2 : Int32), oI ch0, oI ch1, oI dh0, oI dh1, oR h0.size, oR T205.heap.size, oR T263.heap.size, oI (1 : Int32)] [(.int (1 : Int32)), (.int (own_is_2_2 T263.heap.size T205.heap.size kd w3 h0.size bT205 bT263 kbT205 kbT263 (ch0.toInt8.toInt32) (ch1.toInt8.toInt32) (dh0.toInt8.toInt32) (dh1.toInt8.toInt32)))])
            have hW : kd = w3 := hkd.symm.trans (by rw [own_pick, c120_282, if_neg (by decide), if_neg (by decide), if_neg (by decide), if_pos (by decide)])
            have hfin : (own_is_2_2 T263.heap.size T205.heap.size kd w3 h0.size bT205 bT263 kbT205 kbT263 (ch0.toInt8.toInt32) (ch1.toInt8.toInt32) (dh0.toInt8.toInt32) (dh1.toInt8.toInt32)) = (1 : Int32) := by rw [show (own_is_2_2 T263.heap.size T205.heap.size kd w3 h0.size bT205 bT263 kbT205 kbT263 (ch0.toInt8.toInt32) (ch1.toInt8.toInt32) (dh0.toInt8.toInt32) (dh1.toInt8.toInt32)) = (1 : Int32) by rw [own_is_2_2, if_pos hW, if_neg (by rw [show (own_eq_2_2 h0.size T205.heap.size bT205 bT263 kbT205 kbT263 (ch0.toInt8.toInt32) (ch1.toInt8.toInt32) (dh0.toInt8.toInt32) (dh1.toInt8.toInt32)) = (1 : Int32) by rw [own_eq_2_2, if_neg (by rw [show (own_le_2_2 bT205 bT263 kbT205 kbT263 (ch0.toInt8.toInt32) (ch1.toInt8.toInt32) (dh0.toInt8.toInt32) (dh1.toInt8.toInt32)) = (1 : Int32) by rw [own_le_2_2, if_pos (by rw [c140_283]), if_pos (by rw [c153_284])]]; decide)]]; decide)]]
            refine own_by (fun t_ k_ => XS.icmpNo XT286.here hx rfl (hb hby at_172) rfl (XT.ii_ne_f hfin) k_) ?_
            show own_Go p e below _ T286 (mkF m 175 #[oI i0, oI i1, oI i2, oI i3, oI i4, oI i5, oI kk, oI (2 : Int32), oI (2 : Int32), oI ch0, oI ch1, oI dh0, oI dh1, oR h0.size, oR T205.heap.size, oR T263.heap.size, oI (1 : Int32)] [])
            refine own_by (fun t_ k_ => XT.iconstV XT286.here hx rfl (1 : Int32) (hb hby at_175) (by decide) k_) ?_
            show own_Go p e below _ T286 (mkF m 176 #[oI i0, oI i1, oI i2, oI i3, oI i4, oI i5, oI kk, oI (2 : Int32), oI (2 : Int32), oI ch0, oI ch1, oI dh0, oI dh1, oR h0.size, oR T205.heap.size, oR T263.heap.size, oI (1 : Int32)] [(.int (1 : Int32))])
            refine own_by (fun t_ k_ => XS.goto XT286.here hx rfl (pc0 := 176) (pc' := 180) rfl (hb hby at_176) (by decide) (by decide) k_) ?_
            show own_Go p e below _ T286 (mkF m 180 #[oI i0, oI i1, oI i2, oI i3, oI i4, oI i5, oI kk, oI (2 : Int32), oI (2 : Int32), oI ch0, oI ch1, oI dh0, oI dh1, oR h0.size, oR T205.heap.size, oR T263.heap.size, oI (1 : Int32)] [(.int (1 : Int32))])
            exact own_retNW XT286 hx hlk hZ hEL hS eT286 hk0 hC hret (by simp) (w := (1 : Int32)) (hb hby at_180) (by decide) (by decide) (by decide) (⟨rfl, (N287).to (Nat.le_refl _)⟩)
          · refine own_by (fun t_ k_ => XS.icmpYes XT280.here hx rfl (pc0 := 153) (pc' := 160) rfl (hb hby at_153) rfl (XT.ii_ne_t c153_284) (by decide) (by decide) k_) ?_
            show own_Go p e below _ T280 (mkF m 160 #[oI i0, oI i1, oI i2, oI i3, oI i4, oI i5, oI kk, oI (2 : Int32), oI (2 : Int32), oI ch0, oI ch1, oI dh0, oI dh1, oR h0.size, oR T205.heap.size, oR T263.heap.size, .unset] [])
            refine own_by (fun t_ k_ => XT.iconstV XT280.here hx rfl (0 : Int32) (hb hby at_160) (by decide) k_) ?_
            show own_Go p e below _ T280 (mkF m 161 #[oI i0, oI i1, oI i2, oI i3, oI i4, oI i5, oI kk, oI (2 : Int32), oI (2 : Int32), oI ch0, oI ch1, oI dh0, oI dh1, oR h0.size, oR T205.heap.size, oR T263.heap.size, .unset] [(.int (0 : Int32))])
            refine own_by (fun t_ k_ => XS.istore XT280.here hx rfl (hb hby at_161) rfl (l' := #[oI i0, oI i1, oI i2, oI i3, oI i4, oI i5, oI kk, oI (2 : Int32), oI (2 : Int32), oI ch0, oI ch1, oI dh0, oI dh1, oR h0.size, oR T205.heap.size, oR T263.heap.size, oI (0 : Int32)]) rfl k_) ?_
            show own_Go p e below _ T280 (mkF m 163 #[oI i0, oI i1, oI i2, oI i3, oI i4, oI i5, oI kk, oI (2 : Int32), oI (2 : Int32), oI ch0, oI ch1, oI dh0, oI dh1, oR h0.size, oR T205.heap.size, oR T263.heap.size, oI (0 : Int32)] [])
            refine own_by (fun t_ k_ => XS.aload XT280.here hx rfl (hb hby at_163) rfl rfl  k_) ?_
            show own_Go p e below _ T280 (mkF m 165 #[oI i0, oI i1, oI i2, oI i3, oI i4, oI i5, oI kk, oI (2 : Int32), oI (2 : Int32), oI ch0, oI ch1, oI dh0, oI dh1, oR h0.size, oR T205.heap.size, oR T263.heap.size, oI (0 : Int32)] [(.ref T263.heap.size)])
            refine own_by (fun t_ k_ => XS.aload XT280.here hx rfl (hb hby at_165) rfl rfl  k_) ?_
            show own_Go p e below _ T280 (mkF m 167 #[oI i0, oI i1, oI i2, oI i3, oI i4, oI i5, oI kk, oI (2 : Int32), oI (2 : Int32), oI ch0, oI ch1, oI dh0, oI dh1, oR h0.size, oR T205.heap.size, oR T263.heap.size, oI (0 : Int32)] [(.ref T205.heap.size), (.ref T263.heap.size)])
            refine own_callV XT280 hx hZ hown (hw _ (List.mem_of_getElem? (i := 52) rfl)) (hw _ (List.mem_of_getElem? (i := 53) rfl)) (hw _ (List.mem_of_getElem? (i := 55) rfl)) (hw _ (List.mem_of_getElem? (i := 54) rfl)) (hw _ (List.mem_of_getElem? (i := 56) rfl)) (hw _ (List.mem_of_getElem? (i := 28) rfl)) (by decide) (rfl : T280.heap = T280.heap) (b := T263.heap.size) fq281_15 (argsL := [(.ref T205.heap.size)]) (rest := []) (own_is_2_2_met l Z a0 hw T263.heap.size T205.heap.size kd w3 h0.size bT205 bT263 kbT205 kbT263 (ch0.toInt8.toInt32) (ch1.toInt8.toInt32) (dh0.toInt8.toInt32) (dh1.toInt8.toInt32) T280.heap cs fq281_1 hcs z267 fq281_5 FkT280 FtT280 fq281_7 fq281_8 fq281_9 fq281_10 fq281_11 fq281_12 fq281_13 fq281_14) 0 (by decide) (by decide) (by rw [hml]; rfl) (lenOf pd_11 rfl) (Nat.le_of_eq rfl) (hb hby at_167) (by decide) (by decide) (st := [(.ref T205.heap.size), (.ref T263.heap.size)]) rfl ?_
            intro T288 LT288 vT288 XT288 hQT288
            obtain ⟨rfl, eT288, rfl⟩ := hQT288
            show own_Go p e below _ T288 (mkF m 170 #[oI i0, oI i1, oI i2, oI i3, oI i4, oI i5, oI kk, oI (2 : Int32), oI (2 : Int32), oI ch0, oI ch1, oI dh0, oI dh1, oR h0.size, oR T205.heap.size, oR T263.heap.size, oI (0 : Int32)] [(.int (own_is_2_2 T263.heap.size T205.heap.size kd w3 h0.size bT205 bT263 kbT205 kbT263 (ch0.toInt8.toInt32) (ch1.toInt8.toInt32) (dh0.toInt8.toInt32) (dh1.toInt8.toInt32)))])
            have N289 := own_Fr.app N282 own_Fr.nil
            refine own_by (fun t_ k_ => XS.iload XT288.here hx rfl (hb hby at_170) rfl  k_) ?_
            show own_Go p e below _ T288 (mkF m 172 #[oI i0, oI i1, oI i2, oI i3, oI i4, oI i5, oI kk, oI (2 : Int32), oI (2 : Int32), oI ch0, oI ch1, oI dh0, oI dh1, oR h0.size, oR T205.heap.size, oR T263.heap.size, oI (0 : Int32)] [(.int (0 : Int32)), (.int (own_is_2_2 T263.heap.size T205.heap.size kd w3 h0.size bT205 bT263 kbT205 kbT263 (ch0.toInt8.toInt32) (ch1.toInt8.toInt32) (dh0.toInt8.toInt32) (dh1.toInt8.toInt32)))])
            have hW : kd = w3 := hkd.symm.trans (by rw [own_pick, c120_282, if_neg (by decide), if_neg (by decide), if_neg (by decide), if_pos (by decide)])
            have hfin : (own_is_2_2 T263.heap.size T205.heap.size kd w3 h0.size bT205 bT263 kbT205 kbT263 (ch0.toInt8.toInt32) (ch1.toInt8.toInt32) (dh0.toInt8.toInt32) (dh1.toInt8.toInt32)) = (0 : Int32) := by rw [show (own_is_2_2 T263.heap.size T205.heap.size kd w3 h0.size bT205 bT263 kbT205 kbT263 (ch0.toInt8.toInt32) (ch1.toInt8.toInt32) (dh0.toInt8.toInt32) (dh1.toInt8.toInt32)) = (0 : Int32) by rw [own_is_2_2, if_pos hW, if_pos (by rw [show (own_eq_2_2 h0.size T205.heap.size bT205 bT263 kbT205 kbT263 (ch0.toInt8.toInt32) (ch1.toInt8.toInt32) (dh0.toInt8.toInt32) (dh1.toInt8.toInt32)) = (0 : Int32) by rw [own_eq_2_2, if_pos (by rw [show (own_le_2_2 bT205 bT263 kbT205 kbT263 (ch0.toInt8.toInt32) (ch1.toInt8.toInt32) (dh0.toInt8.toInt32) (dh1.toInt8.toInt32)) = (0 : Int32) by rw [own_le_2_2, if_pos (by rw [c140_283]), if_neg (fun q => c153_284 (own_ch_i2b Bch1 Bdh1 q))]])]])]]
            refine own_by (fun t_ k_ => XS.icmpNo XT288.here hx rfl (hb hby at_172) rfl (XT.ii_ne_f hfin) k_) ?_
            show own_Go p e below _ T288 (mkF m 175 #[oI i0, oI i1, oI i2, oI i3, oI i4, oI i5, oI kk, oI (2 : Int32), oI (2 : Int32), oI ch0, oI ch1, oI dh0, oI dh1, oR h0.size, oR T205.heap.size, oR T263.heap.size, oI (0 : Int32)] [])
            refine own_by (fun t_ k_ => XT.iconstV XT288.here hx rfl (1 : Int32) (hb hby at_175) (by decide) k_) ?_
            show own_Go p e below _ T288 (mkF m 176 #[oI i0, oI i1, oI i2, oI i3, oI i4, oI i5, oI kk, oI (2 : Int32), oI (2 : Int32), oI ch0, oI ch1, oI dh0, oI dh1, oR h0.size, oR T205.heap.size, oR T263.heap.size, oI (0 : Int32)] [(.int (1 : Int32))])
            refine own_by (fun t_ k_ => XS.goto XT288.here hx rfl (pc0 := 176) (pc' := 180) rfl (hb hby at_176) (by decide) (by decide) k_) ?_
            show own_Go p e below _ T288 (mkF m 180 #[oI i0, oI i1, oI i2, oI i3, oI i4, oI i5, oI kk, oI (2 : Int32), oI (2 : Int32), oI ch0, oI ch1, oI dh0, oI dh1, oR h0.size, oR T205.heap.size, oR T263.heap.size, oI (0 : Int32)] [(.int (1 : Int32))])
            exact own_retNW XT288 hx hlk hZ hEL hS eT288 hk0 hC hret (by simp) (w := (1 : Int32)) (hb hby at_180) (by decide) (by decide) (by decide) (⟨rfl, (N289).to (Nat.le_refl _)⟩)
        · refine own_by (fun t_ k_ => XS.icmpYes XT280.here hx rfl (pc0 := 140) (pc' := 160) rfl (hb hby at_140) rfl (XT.ii_ne_t c140_283) (by decide) (by decide) k_) ?_
          show own_Go p e below _ T280 (mkF m 160 #[oI i0, oI i1, oI i2, oI i3, oI i4, oI i5, oI kk, oI (2 : Int32), oI (2 : Int32), oI ch0, oI ch1, oI dh0, oI dh1, oR h0.size, oR T205.heap.size, oR T263.heap.size, .unset] [])
          refine own_by (fun t_ k_ => XT.iconstV XT280.here hx rfl (0 : Int32) (hb hby at_160) (by decide) k_) ?_
          show own_Go p e below _ T280 (mkF m 161 #[oI i0, oI i1, oI i2, oI i3, oI i4, oI i5, oI kk, oI (2 : Int32), oI (2 : Int32), oI ch0, oI ch1, oI dh0, oI dh1, oR h0.size, oR T205.heap.size, oR T263.heap.size, .unset] [(.int (0 : Int32))])
          refine own_by (fun t_ k_ => XS.istore XT280.here hx rfl (hb hby at_161) rfl (l' := #[oI i0, oI i1, oI i2, oI i3, oI i4, oI i5, oI kk, oI (2 : Int32), oI (2 : Int32), oI ch0, oI ch1, oI dh0, oI dh1, oR h0.size, oR T205.heap.size, oR T263.heap.size, oI (0 : Int32)]) rfl k_) ?_
          show own_Go p e below _ T280 (mkF m 163 #[oI i0, oI i1, oI i2, oI i3, oI i4, oI i5, oI kk, oI (2 : Int32), oI (2 : Int32), oI ch0, oI ch1, oI dh0, oI dh1, oR h0.size, oR T205.heap.size, oR T263.heap.size, oI (0 : Int32)] [])
          refine own_by (fun t_ k_ => XS.aload XT280.here hx rfl (hb hby at_163) rfl rfl  k_) ?_
          show own_Go p e below _ T280 (mkF m 165 #[oI i0, oI i1, oI i2, oI i3, oI i4, oI i5, oI kk, oI (2 : Int32), oI (2 : Int32), oI ch0, oI ch1, oI dh0, oI dh1, oR h0.size, oR T205.heap.size, oR T263.heap.size, oI (0 : Int32)] [(.ref T263.heap.size)])
          refine own_by (fun t_ k_ => XS.aload XT280.here hx rfl (hb hby at_165) rfl rfl  k_) ?_
          show own_Go p e below _ T280 (mkF m 167 #[oI i0, oI i1, oI i2, oI i3, oI i4, oI i5, oI kk, oI (2 : Int32), oI (2 : Int32), oI ch0, oI ch1, oI dh0, oI dh1, oR h0.size, oR T205.heap.size, oR T263.heap.size, oI (0 : Int32)] [(.ref T205.heap.size), (.ref T263.heap.size)])
          refine own_callV XT280 hx hZ hown (hw _ (List.mem_of_getElem? (i := 52) rfl)) (hw _ (List.mem_of_getElem? (i := 53) rfl)) (hw _ (List.mem_of_getElem? (i := 55) rfl)) (hw _ (List.mem_of_getElem? (i := 54) rfl)) (hw _ (List.mem_of_getElem? (i := 56) rfl)) (hw _ (List.mem_of_getElem? (i := 28) rfl)) (by decide) (rfl : T280.heap = T280.heap) (b := T263.heap.size) fq281_15 (argsL := [(.ref T205.heap.size)]) (rest := []) (own_is_2_2_met l Z a0 hw T263.heap.size T205.heap.size kd w3 h0.size bT205 bT263 kbT205 kbT263 (ch0.toInt8.toInt32) (ch1.toInt8.toInt32) (dh0.toInt8.toInt32) (dh1.toInt8.toInt32) T280.heap cs fq281_1 hcs z267 fq281_5 FkT280 FtT280 fq281_7 fq281_8 fq281_9 fq281_10 fq281_11 fq281_12 fq281_13 fq281_14) 0 (by decide) (by decide) (by rw [hml]; rfl) (lenOf pd_11 rfl) (Nat.le_of_eq rfl) (hb hby at_167) (by decide) (by decide) (st := [(.ref T205.heap.size), (.ref T263.heap.size)]) rfl ?_
          intro T290 LT290 vT290 XT290 hQT290
          obtain ⟨rfl, eT290, rfl⟩ := hQT290
          show own_Go p e below _ T290 (mkF m 170 #[oI i0, oI i1, oI i2, oI i3, oI i4, oI i5, oI kk, oI (2 : Int32), oI (2 : Int32), oI ch0, oI ch1, oI dh0, oI dh1, oR h0.size, oR T205.heap.size, oR T263.heap.size, oI (0 : Int32)] [(.int (own_is_2_2 T263.heap.size T205.heap.size kd w3 h0.size bT205 bT263 kbT205 kbT263 (ch0.toInt8.toInt32) (ch1.toInt8.toInt32) (dh0.toInt8.toInt32) (dh1.toInt8.toInt32)))])
          have N291 := own_Fr.app N282 own_Fr.nil
          refine own_by (fun t_ k_ => XS.iload XT290.here hx rfl (hb hby at_170) rfl  k_) ?_
          show own_Go p e below _ T290 (mkF m 172 #[oI i0, oI i1, oI i2, oI i3, oI i4, oI i5, oI kk, oI (2 : Int32), oI (2 : Int32), oI ch0, oI ch1, oI dh0, oI dh1, oR h0.size, oR T205.heap.size, oR T263.heap.size, oI (0 : Int32)] [(.int (0 : Int32)), (.int (own_is_2_2 T263.heap.size T205.heap.size kd w3 h0.size bT205 bT263 kbT205 kbT263 (ch0.toInt8.toInt32) (ch1.toInt8.toInt32) (dh0.toInt8.toInt32) (dh1.toInt8.toInt32)))])
          have hW : kd = w3 := hkd.symm.trans (by rw [own_pick, c120_282, if_neg (by decide), if_neg (by decide), if_neg (by decide), if_pos (by decide)])
          have hfin : (own_is_2_2 T263.heap.size T205.heap.size kd w3 h0.size bT205 bT263 kbT205 kbT263 (ch0.toInt8.toInt32) (ch1.toInt8.toInt32) (dh0.toInt8.toInt32) (dh1.toInt8.toInt32)) = (0 : Int32) := by rw [show (own_is_2_2 T263.heap.size T205.heap.size kd w3 h0.size bT205 bT263 kbT205 kbT263 (ch0.toInt8.toInt32) (ch1.toInt8.toInt32) (dh0.toInt8.toInt32) (dh1.toInt8.toInt32)) = (0 : Int32) by rw [own_is_2_2, if_pos hW, if_pos (by rw [show (own_eq_2_2 h0.size T205.heap.size bT205 bT263 kbT205 kbT263 (ch0.toInt8.toInt32) (ch1.toInt8.toInt32) (dh0.toInt8.toInt32) (dh1.toInt8.toInt32)) = (0 : Int32) by rw [own_eq_2_2, if_pos (by rw [show (own_le_2_2 bT205 bT263 kbT205 kbT263 (ch0.toInt8.toInt32) (ch1.toInt8.toInt32) (dh0.toInt8.toInt32) (dh1.toInt8.toInt32)) = (0 : Int32) by rw [own_le_2_2, if_neg (fun q => c140_283 (own_ch_i2b Bch0 Bdh0 q))]])]])]]
          refine own_by (fun t_ k_ => XS.icmpNo XT290.here hx rfl (hb hby at_172) rfl (XT.ii_ne_f hfin) k_) ?_
          show own_Go p e below _ T290 (mkF m 175 #[oI i0, oI i1, oI i2, oI i3, oI i4, oI i5, oI kk, oI (2 : Int32), oI (2 : Int32), oI ch0, oI ch1, oI dh0, oI dh1, oR h0.size, oR T205.heap.size, oR T263.heap.size, oI (0 : Int32)] [])
          refine own_by (fun t_ k_ => XT.iconstV XT290.here hx rfl (1 : Int32) (hb hby at_175) (by decide) k_) ?_
          show own_Go p e below _ T290 (mkF m 176 #[oI i0, oI i1, oI i2, oI i3, oI i4, oI i5, oI kk, oI (2 : Int32), oI (2 : Int32), oI ch0, oI ch1, oI dh0, oI dh1, oR h0.size, oR T205.heap.size, oR T263.heap.size, oI (0 : Int32)] [(.int (1 : Int32))])
          refine own_by (fun t_ k_ => XS.goto XT290.here hx rfl (pc0 := 176) (pc' := 180) rfl (hb hby at_176) (by decide) (by decide) k_) ?_
          show own_Go p e below _ T290 (mkF m 180 #[oI i0, oI i1, oI i2, oI i3, oI i4, oI i5, oI kk, oI (2 : Int32), oI (2 : Int32), oI ch0, oI ch1, oI dh0, oI dh1, oR h0.size, oR T205.heap.size, oR T263.heap.size, oI (0 : Int32)] [(.int (1 : Int32))])
          exact own_retNW XT290 hx hlk hZ hEL hS eT290 hk0 hC hret (by simp) (w := (1 : Int32)) (hb hby at_180) (by decide) (by decide) (by decide) (⟨rfl, (N291).to (Nat.le_refl _)⟩)
      · refine own_by (fun t_ k_ => XS.icmpYes XT280.here hx rfl (pc0 := 120) (pc' := 160) rfl (hb hby at_120) rfl (XT.ii_ne_t c120_282) (by decide) (by decide) k_) ?_
        show own_Go p e below _ T280 (mkF m 160 #[oI i0, oI i1, oI i2, oI i3, oI i4, oI i5, oI kk, oI (2 : Int32), oI (2 : Int32), oI ch0, oI ch1, oI dh0, oI dh1, oR h0.size, oR T205.heap.size, oR T263.heap.size, .unset] [])
        refine own_by (fun t_ k_ => XT.iconstV XT280.here hx rfl (0 : Int32) (hb hby at_160) (by decide) k_) ?_
        show own_Go p e below _ T280 (mkF m 161 #[oI i0, oI i1, oI i2, oI i3, oI i4, oI i5, oI kk, oI (2 : Int32), oI (2 : Int32), oI ch0, oI ch1, oI dh0, oI dh1, oR h0.size, oR T205.heap.size, oR T263.heap.size, .unset] [(.int (0 : Int32))])
        refine own_by (fun t_ k_ => XS.istore XT280.here hx rfl (hb hby at_161) rfl (l' := #[oI i0, oI i1, oI i2, oI i3, oI i4, oI i5, oI kk, oI (2 : Int32), oI (2 : Int32), oI ch0, oI ch1, oI dh0, oI dh1, oR h0.size, oR T205.heap.size, oR T263.heap.size, oI (0 : Int32)]) rfl k_) ?_
        show own_Go p e below _ T280 (mkF m 163 #[oI i0, oI i1, oI i2, oI i3, oI i4, oI i5, oI kk, oI (2 : Int32), oI (2 : Int32), oI ch0, oI ch1, oI dh0, oI dh1, oR h0.size, oR T205.heap.size, oR T263.heap.size, oI (0 : Int32)] [])
        refine own_by (fun t_ k_ => XS.aload XT280.here hx rfl (hb hby at_163) rfl rfl  k_) ?_
        show own_Go p e below _ T280 (mkF m 165 #[oI i0, oI i1, oI i2, oI i3, oI i4, oI i5, oI kk, oI (2 : Int32), oI (2 : Int32), oI ch0, oI ch1, oI dh0, oI dh1, oR h0.size, oR T205.heap.size, oR T263.heap.size, oI (0 : Int32)] [(.ref T263.heap.size)])
        refine own_by (fun t_ k_ => XS.aload XT280.here hx rfl (hb hby at_165) rfl rfl  k_) ?_
        show own_Go p e below _ T280 (mkF m 167 #[oI i0, oI i1, oI i2, oI i3, oI i4, oI i5, oI kk, oI (2 : Int32), oI (2 : Int32), oI ch0, oI ch1, oI dh0, oI dh1, oR h0.size, oR T205.heap.size, oR T263.heap.size, oI (0 : Int32)] [(.ref T205.heap.size), (.ref T263.heap.size)])
        refine own_callV XT280 hx hZ hown (hw _ (List.mem_of_getElem? (i := 52) rfl)) (hw _ (List.mem_of_getElem? (i := 53) rfl)) (hw _ (List.mem_of_getElem? (i := 55) rfl)) (hw _ (List.mem_of_getElem? (i := 54) rfl)) (hw _ (List.mem_of_getElem? (i := 56) rfl)) (hw _ (List.mem_of_getElem? (i := 28) rfl)) (by decide) (rfl : T280.heap = T280.heap) (b := T263.heap.size) fq281_15 (argsL := [(.ref T205.heap.size)]) (rest := []) (own_is_2_2_met l Z a0 hw T263.heap.size T205.heap.size kd w3 h0.size bT205 bT263 kbT205 kbT263 (ch0.toInt8.toInt32) (ch1.toInt8.toInt32) (dh0.toInt8.toInt32) (dh1.toInt8.toInt32) T280.heap cs fq281_1 hcs z267 fq281_5 FkT280 FtT280 fq281_7 fq281_8 fq281_9 fq281_10 fq281_11 fq281_12 fq281_13 fq281_14) 0 (by decide) (by decide) (by rw [hml]; rfl) (lenOf pd_11 rfl) (Nat.le_of_eq rfl) (hb hby at_167) (by decide) (by decide) (st := [(.ref T205.heap.size), (.ref T263.heap.size)]) rfl ?_
        intro T292 LT292 vT292 XT292 hQT292
        obtain ⟨rfl, eT292, rfl⟩ := hQT292
        show own_Go p e below _ T292 (mkF m 170 #[oI i0, oI i1, oI i2, oI i3, oI i4, oI i5, oI kk, oI (2 : Int32), oI (2 : Int32), oI ch0, oI ch1, oI dh0, oI dh1, oR h0.size, oR T205.heap.size, oR T263.heap.size, oI (0 : Int32)] [(.int (own_is_2_2 T263.heap.size T205.heap.size kd w3 h0.size bT205 bT263 kbT205 kbT263 (ch0.toInt8.toInt32) (ch1.toInt8.toInt32) (dh0.toInt8.toInt32) (dh1.toInt8.toInt32)))])
        have N293 := own_Fr.app N282 own_Fr.nil
        refine own_by (fun t_ k_ => XS.iload XT292.here hx rfl (hb hby at_170) rfl  k_) ?_
        show own_Go p e below _ T292 (mkF m 172 #[oI i0, oI i1, oI i2, oI i3, oI i4, oI i5, oI kk, oI (2 : Int32), oI (2 : Int32), oI ch0, oI ch1, oI dh0, oI dh1, oR h0.size, oR T205.heap.size, oR T263.heap.size, oI (0 : Int32)] [(.int (0 : Int32)), (.int (own_is_2_2 T263.heap.size T205.heap.size kd w3 h0.size bT205 bT263 kbT205 kbT263 (ch0.toInt8.toInt32) (ch1.toInt8.toInt32) (dh0.toInt8.toInt32) (dh1.toInt8.toInt32)))])
        have hW : ¬ kd = w3 := fun q => own_pick_ne kk w0 w1 w2 w3 w4 c120_282 (F0.ne F3 (by decide)) (F1.ne F3 (by decide)) (F2.ne F3 (by decide)) (F4.ne F3 (by decide)) (hkd.trans q)
        have hfin : (own_is_2_2 T263.heap.size T205.heap.size kd w3 h0.size bT205 bT263 kbT205 kbT263 (ch0.toInt8.toInt32) (ch1.toInt8.toInt32) (dh0.toInt8.toInt32) (dh1.toInt8.toInt32)) = (0 : Int32) := by rw [show (own_is_2_2 T263.heap.size T205.heap.size kd w3 h0.size bT205 bT263 kbT205 kbT263 (ch0.toInt8.toInt32) (ch1.toInt8.toInt32) (dh0.toInt8.toInt32) (dh1.toInt8.toInt32)) = (0 : Int32) by rw [own_is_2_2, if_neg hW]]
        refine own_by (fun t_ k_ => XS.icmpNo XT292.here hx rfl (hb hby at_172) rfl (XT.ii_ne_f hfin) k_) ?_
        show own_Go p e below _ T292 (mkF m 175 #[oI i0, oI i1, oI i2, oI i3, oI i4, oI i5, oI kk, oI (2 : Int32), oI (2 : Int32), oI ch0, oI ch1, oI dh0, oI dh1, oR h0.size, oR T205.heap.size, oR T263.heap.size, oI (0 : Int32)] [])
        refine own_by (fun t_ k_ => XT.iconstV XT292.here hx rfl (1 : Int32) (hb hby at_175) (by decide) k_) ?_
        show own_Go p e below _ T292 (mkF m 176 #[oI i0, oI i1, oI i2, oI i3, oI i4, oI i5, oI kk, oI (2 : Int32), oI (2 : Int32), oI ch0, oI ch1, oI dh0, oI dh1, oR h0.size, oR T205.heap.size, oR T263.heap.size, oI (0 : Int32)] [(.int (1 : Int32))])
        refine own_by (fun t_ k_ => XS.goto XT292.here hx rfl (pc0 := 176) (pc' := 180) rfl (hb hby at_176) (by decide) (by decide) k_) ?_
        show own_Go p e below _ T292 (mkF m 180 #[oI i0, oI i1, oI i2, oI i3, oI i4, oI i5, oI kk, oI (2 : Int32), oI (2 : Int32), oI ch0, oI ch1, oI dh0, oI dh1, oR h0.size, oR T205.heap.size, oR T263.heap.size, oI (0 : Int32)] [(.int (1 : Int32))])
        exact own_retNW XT292 hx hlk hZ hEL hS eT292 hk0 hC hret (by simp) (w := (1 : Int32)) (hb hby at_180) (by decide) (by decide) (by decide) (⟨rfl, (N293).to (Nat.le_refl _)⟩)
    · subst hk
      show own_Go p e below _ T205 (mkF m 77 #[oI i0, oI i1, oI i2, oI i3, oI i4, oI i5, oI kk, oI (2 : Int32), oI (3 : Int32), oI ch0, oI ch1, oI dh0, oI dh1, oR h0.size, .unset, .unset, .unset] [])
      refine own_by (fun t_ k_ => XS.iload XT205.here hx rfl (hb hby at_77) rfl  k_) ?_
      show own_Go p e below _ T205 (mkF m 79 #[oI i0, oI i1, oI i2, oI i3, oI i4, oI i5, oI kk, oI (2 : Int32), oI (3 : Int32), oI ch0, oI ch1, oI dh0, oI dh1, oR h0.size, .unset, .unset, .unset] [(.int (3 : Int32))])
      refine own_by (fun t_ k_ => XT.iconstV XT205.here hx rfl (3 : Int32) (hb hby at_79) (by decide) k_) ?_
      show own_Go p e below _ T205 (mkF m 80 #[oI i0, oI i1, oI i2, oI i3, oI i4, oI i5, oI kk, oI (2 : Int32), oI (3 : Int32), oI ch0, oI ch1, oI dh0, oI dh1, oR h0.size, .unset, .unset, .unset] [(.int (3 : Int32)), (.int (3 : Int32))])
      refine own_by (fun t_ k_ => XS.icmpNo XT205.here hx rfl (hb hby at_80) rfl (XT.ii_ne_f (by decide)) k_) ?_
      show own_Go p e below _ T205 (mkF m 83 #[oI i0, oI i1, oI i2, oI i3, oI i4, oI i5, oI kk, oI (2 : Int32), oI (3 : Int32), oI ch0, oI ch1, oI dh0, oI dh1, oR h0.size, .unset, .unset, .unset] [])
      refine own_by (fun t_ k_ => XS.aconstNull XT205.here hx rfl (hb hby at_83) k_) ?_
      show own_Go p e below _ T205 (mkF m 84 #[oI i0, oI i1, oI i2, oI i3, oI i4, oI i5, oI kk, oI (2 : Int32), oI (3 : Int32), oI ch0, oI ch1, oI dh0, oI dh1, oR h0.size, .unset, .unset, .unset] [.null])
      refine own_by (fun t_ k_ => XS.goto XT205.here hx rfl (pc0 := 84) (pc' := 96) rfl (hb hby at_84) (by decide) (by decide) k_) ?_
      show own_Go p e below _ T205 (mkF m 96 #[oI i0, oI i1, oI i2, oI i3, oI i4, oI i5, oI kk, oI (2 : Int32), oI (3 : Int32), oI ch0, oI ch1, oI dh0, oI dh1, oR h0.size, .unset, .unset, .unset] [.null])
      refine own_by (fun t_ k_ => XS.astore XT205.here hx rfl (hb hby at_96) rfl rfl (l' := #[oI i0, oI i1, oI i2, oI i3, oI i4, oI i5, oI kk, oI (2 : Int32), oI (3 : Int32), oI ch0, oI ch1, oI dh0, oI dh1, oR h0.size, .val .null, .unset, .unset]) rfl k_) ?_
      show own_Go p e below _ T205 (mkF m 98 #[oI i0, oI i1, oI i2, oI i3, oI i4, oI i5, oI kk, oI (2 : Int32), oI (3 : Int32), oI ch0, oI ch1, oI dh0, oI dh1, oR h0.size, .val .null, .unset, .unset] [])
      have g295 : h0.size ≤ T205.heap.size := Kq206.1
      refine own_new XT205 hx hZ hown (hw _ (List.mem_of_getElem? (i := 26) rfl)) (hw _ (List.mem_of_getElem? (i := 27) rfl)) (hw _ (List.mem_of_getElem? (i := 28) rfl)) (rfl : T205.heap = T205.heap) (hb hby at_98) (by decide) (by decide) ?_
      intro T294 hT294 XT294 eT294 ET294 AT294 DT294
      have fq296_1 := own_stak fq206_1 (own_ek ET294)
      have fq296_2 := own_stak fq206_2 (own_ek ET294)
      have fq296_3 := own_stak fq206_3 (own_ek ET294)
      have fq296_4 := own_stak fq206_4 (own_ek ET294)
      have fq296_5 := own_stak fq206_5 (own_ek ET294)
      have fq296_6 := own_stak fq206_6 (own_ek ET294)
      have fq296_7 := EsT205.keep (own_ek ET294)
      have fq296_8 := FvT205.keep (own_ek ET294) nin0
      have fq296_9 := FcT205.keep (own_ek ET294) nin0
      have fq296_10 := VT205.keep (own_ek ET294) nin0
      have lq296_0 := Nat.lt_of_lt_of_le lt207 (own_ek ET294).1
      have lq296_1 := Nat.lt_of_lt_of_le lt208 (own_ek ET294).1
      have hC := hC.trans (CHr.keep (own_ek ET294) (fun _ q => by cases q) hC.1)
      have hk0 := Nat.le_trans hk0 (own_ek ET294).1
      have Kq296 := own_trans0 Kq206 (own_ek ET294)
      have z297 : h0.size ≠ T205.heap.size := Nat.ne_of_lt lt207
      have z298 : bT205 ≠ T205.heap.size := Nat.ne_of_lt lt208
      have FT294_kind : Fld Z hT294 T205.heap.size "com/example/nimble_gate/nimblegate/policy/Token" "kind" "Lcom/example/nimble_gate/nimblegate/policy/Token$Kind;" .null := DT294 (ty := (.object "com/example/nimble_gate/nimblegate/policy/Token$Kind")) (Or.inr (hw _ (List.mem_of_getElem? (i := 45) rfl))) (by decide +kernel)
      have FT294_text : Fld Z hT294 T205.heap.size "com/example/nimble_gate/nimblegate/policy/Token" "text" "Ljava/lang/String;" .null := DT294 (ty := (.object "java/lang/String")) (Or.inr (hw _ (List.mem_of_getElem? (i := 47) rfl))) (by decide +kernel)
      have FT294_line : Fld Z hT294 T205.heap.size "com/example/nimble_gate/nimblegate/policy/Token" "line" "I" (.int 0) := DT294 (ty := .int) (Or.inr (hw _ (List.mem_of_getElem? (i := 49) rfl))) (by decide +kernel)
      have FT294_column : Fld Z hT294 T205.heap.size "com/example/nimble_gate/nimblegate/policy/Token" "column" "I" (.int 0) := DT294 (ty := .int) (Or.inr (hw _ (List.mem_of_getElem? (i := 51) rfl))) (by decide +kernel)
      clear DT294
      have lt299 := AT294.lt
      show own_Go p e below _ T294 (mkF m 101 #[oI i0, oI i1, oI i2, oI i3, oI i4, oI i5, oI kk, oI (2 : Int32), oI (3 : Int32), oI ch0, oI ch1, oI dh0, oI dh1, oR h0.size, .val .null, .unset, .unset] [(.ref T205.heap.size)])
      refine own_by (fun t_ k_ => XS.dup XT294.here hx rfl (hb hby at_101) rfl rfl k_) ?_
      show own_Go p e below _ T294 (mkF m 102 #[oI i0, oI i1, oI i2, oI i3, oI i4, oI i5, oI kk, oI (2 : Int32), oI (3 : Int32), oI ch0, oI ch1, oI dh0, oI dh1, oR h0.size, .val .null, .unset, .unset] [(.ref T205.heap.size), (.ref T205.heap.size)])
      refine own_by (fun t_ k_ => XS.iload XT294.here hx rfl (hb hby at_102) rfl  k_) ?_
      show own_Go p e below _ T294 (mkF m 104 #[oI i0, oI i1, oI i2, oI i3, oI i4, oI i5, oI kk, oI (2 : Int32), oI (3 : Int32), oI ch0, oI ch1, oI dh0, oI dh1, oR h0.size, .val .null, .unset, .unset] [(.int kk), (.ref T205.heap.size), (.ref T205.heap.size)])
      refine own_callS XT294 hx hZ hown (hw _ (List.mem_of_getElem? (i := 29) rfl)) (hw _ (List.mem_of_getElem? (i := 30) rfl)) (hw _ (List.mem_of_getElem? (i := 2) rfl)) (hw _ (List.mem_of_getElem? (i := 31) rfl)) (by decide) eT294 (argsL := [(.int kk)]) (rest := [(.ref T205.heap.size), (.ref T205.heap.size)]) (own_pick_met l Z a0 hw kk w0 w1 w2 w3 w4 hT294 ⟨fq296_2, fq296_3, fq296_4, fq296_5, fq296_6⟩) 2 (by decide) (by decide) (by rw [hml]; rfl) (lenOf pd_9 rfl) (Nat.le_of_eq rfl) (hb hby at_104) (by decide) (by decide) (st := [(.int kk), (.ref T205.heap.size), (.ref T205.heap.size)]) rfl ?_
      intro T300 LT300 vT300 XT300 hQT300
      obtain ⟨rfl, eT300, rfl⟩ := hQT300
      show own_Go p e below _ T300 (mkF m 107 #[oI i0, oI i1, oI i2, oI i3, oI i4, oI i5, oI kk, oI (2 : Int32), oI (3 : Int32), oI ch0, oI ch1, oI dh0, oI dh1, oR h0.size, .val .null, .unset, .unset] [(.ref (own_pick kk w0 w1 w2 w3 w4)), (.ref T205.heap.size), (.ref T205.heap.size)])
      have N301 := own_Fr.app N209 own_Fr.nil
      generalize hkd : (own_pick kk w0 w1 w2 w3 w4) = kd
      show own_Go p e below _ T300 (mkF m 107 #[oI i0, oI i1, oI i2, oI i3, oI i4, oI i5, oI kk, oI (2 : Int32), oI (3 : Int32), oI ch0, oI ch1, oI dh0, oI dh1, oR h0.size, .val .null, .unset, .unset] [(.ref kd), (.ref T205.heap.size), (.ref T205.heap.size)])
      refine own_by (fun t_ k_ => XS.aload XT300.here hx rfl (hb hby at_107) rfl rfl  k_) ?_
      show own_Go p e below _ T300 (mkF m 109 #[oI i0, oI i1, oI i2, oI i3, oI i4, oI i5, oI kk, oI (2 : Int32), oI (3 : Int32), oI ch0, oI ch1, oI dh0, oI dh1, oR h0.size, .val .null, .unset, .unset] [(.ref h0.size), (.ref kd), (.ref T205.heap.size), (.ref T205.heap.size)])
      refine own_by (fun t_ k_ => XS.iload XT300.here hx rfl (hb hby at_109) rfl  k_) ?_
      show own_Go p e below _ T300 (mkF m 111 #[oI i0, oI i1, oI i2, oI i3, oI i4, oI i5, oI kk, oI (2 : Int32), oI (3 : Int32), oI ch0, oI ch1, oI dh0, oI dh1, oR h0.size, .val .null, .unset, .unset] [(.int i5), (.ref h0.size), (.ref kd), (.ref T205.heap.size), (.ref T205.heap.size)])
      refine own_by (fun t_ k_ => XS.iloadN XT300.here hx rfl (hb hby at_111) rfl  k_) ?_
      show own_Go p e below _ T300 (mkF m 112 #[oI i0, oI i1, oI i2, oI i3, oI i4, oI i5, oI kk, oI (2 : Int32), oI (3 : Int32), oI ch0, oI ch1, oI dh0, oI dh1, oR h0.size, .val .null, .unset, .unset] [(.int i0), (.int i5), (.ref h0.size), (.ref kd), (.ref T205.heap.size), (.ref T205.heap.size)])
      refine own_callN XT300 hx hZ rfl hown (hw _ (List.mem_of_getElem? (i := 35) rfl)) (hw _ (List.mem_of_getElem? (i := 36) rfl)) (hw _ (List.mem_of_getElem? (i := 37) rfl)) (hw _ (List.mem_of_getElem? (i := 28) rfl)) (by decide) eT300 (b := T205.heap.size) (argsL := [(.ref kd), (.ref h0.size), (.int i5), (.int i0)]) (rest := [(.ref T205.heap.size)]) (own_tok l Z a0 hw T205.heap.size kd h0.size i5 i0 hT294 AT294 FT294_kind FT294_text FT294_line FT294_column) 1 (by decide) (by decide) (by rw [hml]; rfl) (lenOf pd_10 rfl) (Nat.le_of_eq rfl) (hb hby at_112) (by decide) (by decide) (st := [(.int i0), (.int i5), (.ref h0.size), (.ref kd), (.ref T205.heap.size), (.ref T205.heap.size)]) rfl ?_
      intro T302 LT302 vT302 XT302 hQT302
      obtain ⟨rfl, KT302, NT302, FkT302, FtT302⟩ := hQT302
      show own_Go p e below _ T302 (mkF m 115 #[oI i0, oI i1, oI i2, oI i3, oI i4, oI i5, oI kk, oI (2 : Int32), oI (3 : Int32), oI ch0, oI ch1, oI dh0, oI dh1, oR h0.size, .val .null, .unset, .unset] [(.ref T205.heap.size)])
      have fq303_1 := own_stak1 fq296_1 KT302 AT294
      have fq303_2 := own_stak1 fq296_2 KT302 AT294
      have fq303_3 := own_stak1 fq296_3 KT302 AT294
      have fq303_4 := own_stak1 fq296_4 KT302 AT294
      have fq303_5 := own_stak1 fq296_5 KT302 AT294
      have fq303_6 := own_stak1 fq296_6 KT302 AT294
      have fq303_7 := fq296_7.keep KT302
      have fq303_8 := fq296_8.keep KT302 (own_nin z297)
      have fq303_9 := fq296_9.keep KT302 (own_nin z297)
      have fq303_10 := fq296_10.keep KT302 (own_nin z298)
      have fq303_11 := AT294.keep KT302
      have lq303_0 := Nat.lt_of_lt_of_le lq296_0 KT302.1
      have lq303_1 := Nat.lt_of_lt_of_le lq296_1 KT302.1
      have lq303_2 := Nat.lt_of_lt_of_le lt299 KT302.1
      have hC := hC.trans (CHr.keep KT302 (fun _ q => by cases List.mem_singleton.mp q; exact (Safe.exa hZ.alike AT294 (by decide) (by decide))) hC.1)
      have hk0 := Nat.le_trans hk0 KT302.1
      have Kq303 := own_trans1 Kq296 KT302 (Or.inr g295)
      have N304 := own_Fr.app N301 (own_Fr.of (own_Fr.new NT302 g295 (Kq296).1) (Nat.le_refl _))
      refine own_by (fun t_ k_ => XS.astore XT302.here hx rfl (hb hby at_115) rfl rfl (l' := #[oI i0, oI i1, oI i2, oI i3, oI i4, oI i5, oI kk, oI (2 : Int32), oI (3 : Int32), oI ch0, oI ch1, oI dh0, oI dh1, oR h0.size, .val .null, oR T205.heap.size, .unset]) rfl k_) ?_
      show own_Go p e below _ T302 (mkF m 117 #[oI i0, oI i1, oI i2, oI i3, oI i4, oI i5, oI kk, oI (2 : Int32), oI (3 : Int32), oI ch0, oI ch1, oI dh0, oI dh1, oR h0.size, .val .null, oR T205.heap.size, .unset] [])
      refine own_by (fun t_ k_ => XS.iload XT302.here hx rfl (hb hby at_117) rfl  k_) ?_
      show own_Go p e below _ T302 (mkF m 119 #[oI i0, oI i1, oI i2, oI i3, oI i4, oI i5, oI kk, oI (2 : Int32), oI (3 : Int32), oI ch0, oI ch1, oI dh0, oI dh1, oR h0.size, .val .null, oR T205.heap.size, .unset] [(.int kk)])
      refine own_by (fun t_ k_ => XT.iconstV XT302.here hx rfl (3 : Int32) (hb hby at_119) (by decide) k_) ?_
      show own_Go p e below _ T302 (mkF m 120 #[oI i0, oI i1, oI i2, oI i3, oI i4, oI i5, oI kk, oI (2 : Int32), oI (3 : Int32), oI ch0, oI ch1, oI dh0, oI dh1, oR h0.size, .val .null, oR T205.heap.size, .unset] [(.int (3 : Int32)), (.int kk)])
      by_cases c120_304 : kk = (3 : Int32)
      · refine own_by (fun t_ k_ => XS.icmpNo XT302.here hx rfl (hb hby at_120) rfl (XT.ii_ne_f c120_304) k_) ?_
        show own_Go p e below _ T302 (mkF m 123 #[oI i0, oI i1, oI i2, oI i3, oI i4, oI i5, oI kk, oI (2 : Int32), oI (3 : Int32), oI ch0, oI ch1, oI dh0, oI dh1, oR h0.size, .val .null, oR T205.heap.size, .unset] [])
        refine own_by (fun t_ k_ => XS.iload XT302.here hx rfl (hb hby at_123) rfl  k_) ?_
        show own_Go p e below _ T302 (mkF m 125 #[oI i0, oI i1, oI i2, oI i3, oI i4, oI i5, oI kk, oI (2 : Int32), oI (3 : Int32), oI ch0, oI ch1, oI dh0, oI dh1, oR h0.size, .val .null, oR T205.heap.size, .unset] [(.int (3 : Int32))])
        refine own_by (fun t_ k_ => XS.iload XT302.here hx rfl (hb hby at_125) rfl  k_) ?_
        show own_Go p e below _ T302 (mkF m 127 #[oI i0, oI i1, oI i2, oI i3, oI i4, oI i5, oI kk, oI (2 : Int32), oI (3 : Int32), oI ch0, oI ch1, oI dh0, oI dh1, oR h0.size, .val .null, oR T205.heap.size, .unset] [(.int (2 : Int32)), (.int (3 : Int32))])
        refine own_by (fun t_ k_ => XS.icmpYes XT302.here hx rfl (pc0 := 127) (pc' := 160) rfl (hb hby at_127) rfl (XT.ii_ne_t (by decide)) (by decide) (by decide) k_) ?_
        show own_Go p e below _ T302 (mkF m 160 #[oI i0, oI i1, oI i2, oI i3, oI i4, oI i5, oI kk, oI (2 : Int32), oI (3 : Int32), oI ch0, oI ch1, oI dh0, oI dh1, oR h0.size, .val .null, oR T205.heap.size, .unset] [])
        refine own_by (fun t_ k_ => XT.iconstV XT302.here hx rfl (0 : Int32) (hb hby at_160) (by decide) k_) ?_
        show own_Go p e below _ T302 (mkF m 161 #[oI i0, oI i1, oI i2, oI i3, oI i4, oI i5, oI kk, oI (2 : Int32), oI (3 : Int32), oI ch0, oI ch1, oI dh0, oI dh1, oR h0.size, .val .null, oR T205.heap.size, .unset] [(.int (0 : Int32))])
        refine own_by (fun t_ k_ => XS.istore XT302.here hx rfl (hb hby at_161) rfl (l' := #[oI i0, oI i1, oI i2, oI i3, oI i4, oI i5, oI kk, oI (2 : Int32), oI (3 : Int32), oI ch0, oI ch1, oI dh0, oI dh1, oR h0.size, .val .null, oR T205.heap.size, oI (0 : Int32)]) rfl k_) ?_
        show own_Go p e below _ T302 (mkF m 163 #[oI i0, oI i1, oI i2, oI i3, oI i4, oI i5, oI kk, oI (2 : Int32), oI (3 : Int32), oI ch0, oI ch1, oI dh0, oI dh1, oR h0.size, .val .null, oR T205.heap.size, oI (0 : Int32)] [])
        refine own_by (fun t_ k_ => XS.aload XT302.here hx rfl (hb hby at_163) rfl rfl  k_) ?_
        show own_Go p e below _ T302 (mkF m 165 #[oI i0, oI i1, oI i2, oI i3, oI i4, oI i5, oI kk, oI (2 : Int32), oI (3 : Int32), oI ch0, oI ch1, oI dh0, oI dh1, oR h0.size, .val .null, oR T205.heap.size, oI (0 : Int32)] [(.ref T205.heap.size)])
        refine own_by (fun t_ k_ => XS.aload XT302.here hx rfl (hb hby at_165) rfl rfl  k_) ?_
        show own_Go p e below _ T302 (mkF m 167 #[oI i0, oI i1, oI i2, oI i3, oI i4, oI i5, oI kk, oI (2 : Int32), oI (3 : Int32), oI ch0, oI ch1, oI dh0, oI dh1, oR h0.size, .val .null, oR T205.heap.size, oI (0 : Int32)] [.null, (.ref T205.heap.size)])
        refine own_callV XT302 hx hZ hown (hw _ (List.mem_of_getElem? (i := 52) rfl)) (hw _ (List.mem_of_getElem? (i := 53) rfl)) (hw _ (List.mem_of_getElem? (i := 55) rfl)) (hw _ (List.mem_of_getElem? (i := 54) rfl)) (hw _ (List.mem_of_getElem? (i := 56) rfl)) (hw _ (List.mem_of_getElem? (i := 28) rfl)) (by decide) (rfl : T302.heap = T302.heap) (b := T205.heap.size) fq303_11 (argsL := [.null]) (rest := []) (own_isN_met l Z a0 hw T205.heap.size kd w3 h0.size T302.heap fq303_5 FkT302 FtT302 fq303_7) 0 (by decide) (by decide) (by rw [hml]; rfl) (lenOf pd_11 rfl) (Nat.le_of_eq rfl) (hb hby at_167) (by decide) (by decide) (st := [.null, (.ref T205.heap.size)]) rfl ?_
        intro T306 LT306 vT306 XT306 hQT306
        obtain ⟨rfl, eT306, rfl⟩ := hQT306
        show own_Go p e below _ T306 (mkF m 170 #[oI i0, oI i1, oI i2, oI i3, oI i4, oI i5, oI kk, oI (2 : Int32), oI (3 : Int32), oI ch0, oI ch1, oI dh0, oI dh1, oR h0.size, .val .null, oR T205.heap.size, oI (0 : Int32)] [(.int (own_isN T205.heap.size kd w3 h0.size))])
        have N307 := own_Fr.app N304 own_Fr.nil
        refine own_by (fun t_ k_ => XS.iload XT306.here hx rfl (hb hby at_170) rfl  k_) ?_
        show own_Go p e below _ T306 (mkF m 172 #[oI i0, oI i1, oI i2, oI i3, oI i4, oI i5, oI kk, oI (2 : Int32), oI (3 : Int32), oI ch0, oI ch1, oI dh0, oI dh1, oR h0.size, .val .null, oR T205.heap.size, oI (0 : Int32)] [(.int (0 : Int32)), (.int (own_isN T205.heap.size kd w3 h0.size))])
        have hW : kd = w3 := hkd.symm.trans (by rw [own_pick, c120_304, if_neg (by decide), if_neg (by decide), if_neg (by decide), if_pos (by decide)])
        have hfin : (own_isN T205.heap.size kd w3 h0.size) = (0 : Int32) := by rw [show (own_isN T205.heap.size kd w3 h0.size) = (0 : Int32) by rw [own_isN, if_pos hW]]
        refine own_by (fun t_ k_ => XS.icmpNo XT306.here hx rfl (hb hby at_172) rfl (XT.ii_ne_f hfin) k_) ?_
        show own_Go p e below _ T306 (mkF m 175 #[oI i0, oI i1, oI i2, oI i3, oI i4, oI i5, oI kk, oI (2 : Int32), oI (3 : Int32), oI ch0, oI ch1, oI dh0, oI dh1, oR h0.size, .val .null, oR T205.heap.size, oI (0 : Int32)] [])
        refine own_by (fun t_ k_ => XT.iconstV XT306.here hx rfl (1 : Int32) (hb hby at_175) (by decide) k_) ?_
        show own_Go p e below _ T306 (mkF m 176 #[oI i0, oI i1, oI i2, oI i3, oI i4, oI i5, oI kk, oI (2 : Int32), oI (3 : Int32), oI ch0, oI ch1, oI dh0, oI dh1, oR h0.size, .val .null, oR T205.heap.size, oI (0 : Int32)] [(.int (1 : Int32))])
        refine own_by (fun t_ k_ => XS.goto XT306.here hx rfl (pc0 := 176) (pc' := 180) rfl (hb hby at_176) (by decide) (by decide) k_) ?_
        show own_Go p e below _ T306 (mkF m 180 #[oI i0, oI i1, oI i2, oI i3, oI i4, oI i5, oI kk, oI (2 : Int32), oI (3 : Int32), oI ch0, oI ch1, oI dh0, oI dh1, oR h0.size, .val .null, oR T205.heap.size, oI (0 : Int32)] [(.int (1 : Int32))])
        exact own_retNW XT306 hx hlk hZ hEL hS eT306 hk0 hC hret (by simp) (w := (1 : Int32)) (hb hby at_180) (by decide) (by decide) (by decide) (⟨rfl, (N307).to (Nat.le_refl _)⟩)
      · refine own_by (fun t_ k_ => XS.icmpYes XT302.here hx rfl (pc0 := 120) (pc' := 160) rfl (hb hby at_120) rfl (XT.ii_ne_t c120_304) (by decide) (by decide) k_) ?_
        show own_Go p e below _ T302 (mkF m 160 #[oI i0, oI i1, oI i2, oI i3, oI i4, oI i5, oI kk, oI (2 : Int32), oI (3 : Int32), oI ch0, oI ch1, oI dh0, oI dh1, oR h0.size, .val .null, oR T205.heap.size, .unset] [])
        refine own_by (fun t_ k_ => XT.iconstV XT302.here hx rfl (0 : Int32) (hb hby at_160) (by decide) k_) ?_
        show own_Go p e below _ T302 (mkF m 161 #[oI i0, oI i1, oI i2, oI i3, oI i4, oI i5, oI kk, oI (2 : Int32), oI (3 : Int32), oI ch0, oI ch1, oI dh0, oI dh1, oR h0.size, .val .null, oR T205.heap.size, .unset] [(.int (0 : Int32))])
        refine own_by (fun t_ k_ => XS.istore XT302.here hx rfl (hb hby at_161) rfl (l' := #[oI i0, oI i1, oI i2, oI i3, oI i4, oI i5, oI kk, oI (2 : Int32), oI (3 : Int32), oI ch0, oI ch1, oI dh0, oI dh1, oR h0.size, .val .null, oR T205.heap.size, oI (0 : Int32)]) rfl k_) ?_
        show own_Go p e below _ T302 (mkF m 163 #[oI i0, oI i1, oI i2, oI i3, oI i4, oI i5, oI kk, oI (2 : Int32), oI (3 : Int32), oI ch0, oI ch1, oI dh0, oI dh1, oR h0.size, .val .null, oR T205.heap.size, oI (0 : Int32)] [])
        refine own_by (fun t_ k_ => XS.aload XT302.here hx rfl (hb hby at_163) rfl rfl  k_) ?_
        show own_Go p e below _ T302 (mkF m 165 #[oI i0, oI i1, oI i2, oI i3, oI i4, oI i5, oI kk, oI (2 : Int32), oI (3 : Int32), oI ch0, oI ch1, oI dh0, oI dh1, oR h0.size, .val .null, oR T205.heap.size, oI (0 : Int32)] [(.ref T205.heap.size)])
        refine own_by (fun t_ k_ => XS.aload XT302.here hx rfl (hb hby at_165) rfl rfl  k_) ?_
        show own_Go p e below _ T302 (mkF m 167 #[oI i0, oI i1, oI i2, oI i3, oI i4, oI i5, oI kk, oI (2 : Int32), oI (3 : Int32), oI ch0, oI ch1, oI dh0, oI dh1, oR h0.size, .val .null, oR T205.heap.size, oI (0 : Int32)] [.null, (.ref T205.heap.size)])
        refine own_callV XT302 hx hZ hown (hw _ (List.mem_of_getElem? (i := 52) rfl)) (hw _ (List.mem_of_getElem? (i := 53) rfl)) (hw _ (List.mem_of_getElem? (i := 55) rfl)) (hw _ (List.mem_of_getElem? (i := 54) rfl)) (hw _ (List.mem_of_getElem? (i := 56) rfl)) (hw _ (List.mem_of_getElem? (i := 28) rfl)) (by decide) (rfl : T302.heap = T302.heap) (b := T205.heap.size) fq303_11 (argsL := [.null]) (rest := []) (own_isN_met l Z a0 hw T205.heap.size kd w3 h0.size T302.heap fq303_5 FkT302 FtT302 fq303_7) 0 (by decide) (by decide) (by rw [hml]; rfl) (lenOf pd_11 rfl) (Nat.le_of_eq rfl) (hb hby at_167) (by decide) (by decide) (st := [.null, (.ref T205.heap.size)]) rfl ?_
        intro T308 LT308 vT308 XT308 hQT308
        obtain ⟨rfl, eT308, rfl⟩ := hQT308
        show own_Go p e below _ T308 (mkF m 170 #[oI i0, oI i1, oI i2, oI i3, oI i4, oI i5, oI kk, oI (2 : Int32), oI (3 : Int32), oI ch0, oI ch1, oI dh0, oI dh1, oR h0.size, .val .null, oR T205.heap.size, oI (0 : Int32)] [(.int (own_isN T205.heap.size kd w3 h0.size))])
        have N309 := own_Fr.app N304 own_Fr.nil
        refine own_by (fun t_ k_ => XS.iload XT308.here hx rfl (hb hby at_170) rfl  k_) ?_
        show own_Go p e below _ T308 (mkF m 172 #[oI i0, oI i1, oI i2, oI i3, oI i4, oI i5, oI kk, oI (2 : Int32), oI (3 : Int32), oI ch0, oI ch1, oI dh0, oI dh1, oR h0.size, .val .null, oR T205.heap.size, oI (0 : Int32)] [(.int (0 : Int32)), (.int (own_isN T205.heap.size kd w3 h0.size))])
        have hW : ¬ kd = w3 := fun q => own_pick_ne kk w0 w1 w2 w3 w4 c120_304 (F0.ne F3 (by decide)) (F1.ne F3 (by decide)) (F2.ne F3 (by decide)) (F4.ne F3 (by decide)) (hkd.trans q)
        have hfin : (own_isN T205.heap.size kd w3 h0.size) = (0 : Int32) := by rw [show (own_isN T205.heap.size kd w3 h0.size) = (0 : Int32) by rw [own_isN, if_neg hW]]
        refine own_by (fun t_ k_ => XS.icmpNo XT308.here hx rfl (hb hby at_172) rfl (XT.ii_ne_f hfin) k_) ?_
        show own_Go p e below _ T308 (mkF m 175 #[oI i0, oI i1, oI i2, oI i3, oI i4, oI i5, oI kk, oI (2 : Int32), oI (3 : Int32), oI ch0, oI ch1, oI dh0, oI dh1, oR h0.size, .val .null, oR T205.heap.size, oI (0 : Int32)] [])
        refine own_by (fun t_ k_ => XT.iconstV XT308.here hx rfl (1 : Int32) (hb hby at_175) (by decide) k_) ?_
        show own_Go p e below _ T308 (mkF m 176 #[oI i0, oI i1, oI i2, oI i3, oI i4, oI i5, oI kk, oI (2 : Int32), oI (3 : Int32), oI ch0, oI ch1, oI dh0, oI dh1, oR h0.size, .val .null, oR T205.heap.size, oI (0 : Int32)] [(.int (1 : Int32))])
        refine own_by (fun t_ k_ => XS.goto XT308.here hx rfl (pc0 := 176) (pc' := 180) rfl (hb hby at_176) (by decide) (by decide) k_) ?_
        show own_Go p e below _ T308 (mkF m 180 #[oI i0, oI i1, oI i2, oI i3, oI i4, oI i5, oI kk, oI (2 : Int32), oI (3 : Int32), oI ch0, oI ch1, oI dh0, oI dh1, oR h0.size, .val .null, oR T205.heap.size, oI (0 : Int32)] [(.int (1 : Int32))])
        exact own_retNW XT308 hx hlk hZ hEL hS eT308 hk0 hC hret (by simp) (w := (1 : Int32)) (hb hby at_180) (by decide) (by decide) (by decide) (⟨rfl, (N309).to (Nat.le_refl _)⟩)
set_option maxRecDepth 65536 in
set_option maxHeartbeats 40000000 in
theorem comes_1 {Post : Tables → Env → Array Value → State → Outcome → State → Prop} (hpost : ∀ tb e args s v u, (limb_1_1.after args s (.returned v) u = true ∧ limb_1_2.after args s (.returned v) u = true ∧ True) → FramedW s (.returned v) u (Jvm.fieldLocs frame_1_writes args s ++ Jvm.arrayLocs frame_1_arrays args s ++ Jvm.staticLocs frame_1_statics s) 24 1152 → Post tb e args s (.returned v) u) :
    ArmFor flags0 classFile x code maxLocals ret World_1 tables_1 room_1 Calls_1 rest_1 Pre_1 Post := by
  intro l hfl _ _ p e ha hc hk s m args below hf hA hF happ hP
  obtain ⟨hcalls, hrest, hpre⟩ := hP
  obtain ⟨-, -, -, hnamed, -, -, -, hat⟩ := (Spec.applies_iff hf).mp happ
  obtain ⟨hg, hn⟩ := and_e (Cond.before_iff.mp (show (Jvm.Cond.and given_1 narrow_1).before args s = true from hpre))
  obtain ⟨g0, rg0⟩ := and_e hg
  obtain ⟨g1, rg1⟩ := and_e rg0
  obtain ⟨g2, rg2⟩ := and_e rg1
  obtain ⟨g3, rg3⟩ := and_e rg2
  obtain ⟨g4, rg4⟩ := and_e rg3
  obtain ⟨g5, rg5⟩ := and_e rg4
  have g6 := rg5
  obtain ⟨w0, w1, w2, w3, w4, w5, rfl⟩ : ∃ w0 w1 w2 w3 w4 w5 : Value, args = #[w0, w1, w2, w3, w4, w5] := by
    have hs : args.size = 6 := by simpa [Cond.value] using g0
    obtain ⟨L⟩ := args
    match L, hs with
    | [w0, w1, w2, w3, w4, w5], _ => exact ⟨w0, w1, w2, w3, w4, w5, rfl⟩
  have hw := fun d (hd : d ∈ tables_1) => atoms_spec (ws := Jvm.Cond.code x code maxLocals ret :: tables_1) hat d (List.mem_cons_of_mem _ hd)
  obtain ⟨i0, ei0⟩ := is_v g1
  obtain rfl : w0 = (.int i0) := Option.some.inj ei0
  obtain ⟨i1, ei1⟩ := is_v g2
  obtain rfl : w1 = (.int i1) := Option.some.inj ei1
  obtain ⟨i2, ei2⟩ := is_v g3
  obtain rfl : w2 = (.int i2) := Option.some.inj ei2
  obtain ⟨i3, ei3⟩ := is_v g4
  obtain rfl : w3 = (.int i3) := Option.some.inj ei3
  obtain ⟨i4, ei4⟩ := is_v g5
  obtain rfl : w4 = (.int i4) := Option.some.inj ei4
  obtain ⟨i5, ei5⟩ := is_v g6
  obtain rfl : w5 = (.int i5) := Option.some.inj ei5
  obtain ⟨hsets, hown0⟩ := atoms_of _ (rest_1_c_eq ▸ (show rest_1_c.before _ s = true from hrest))
  obtain ⟨cs0, es0⟩ := is_v (Cond.before_iff.mp (hsets _ (List.mem_of_getElem? (i := 1) rfl)))
  have Cs0 : Sta s s.heap "java/lang/String" "COMPACT_STRINGS" "Z" (.int cs0) := Sta.start es0 (Or.inl (hsets _ (List.mem_of_getElem? (i := 0) rfl)))
  have hcs0 : ¬ (cs0 = (0 : Int32)) := gotF (Cond.eq_ints es0 (Term.int_eval (0))) (not_v (Cond.before_iff.mp (hsets _ (List.mem_of_getElem? (i := 2) rfl))))
  obtain ⟨fm0, ef0, rf0⟩ := isR_v (Cond.before_iff.mp (hsets _ (List.mem_of_getElem? (i := 8) rfl)))
  have Fm0 : Sta s s.heap "jdk/internal/util/Preconditions" "SIOOBE_FORMATTER" "Ljava/util/function/BiFunction;" fm0 := Sta.start ef0 (Or.inl (hsets _ (List.mem_of_getElem? (i := 7) rfl)))
  obtain ⟨n0, rn0⟩ := and_e hn
  obtain ⟨n1, rn1⟩ := and_e rn0
  obtain ⟨n2, rn2⟩ := and_e rn1
  obtain ⟨n3, rn3⟩ := and_e rn2
  obtain ⟨n4, rn4⟩ := and_e rn3
  obtain ⟨n5, rn5⟩ := and_e rn4
  obtain ⟨n6, rn6⟩ := and_e rn5
  obtain ⟨n7, rn7⟩ := and_e rn6
  obtain ⟨n8, rn8⟩ := and_e rn7
  have n9 := rn8
  obtain ⟨u0, v0⟩ := exa_v n0
  have S0 := Sta.start v0 (Or.inr ⟨(hw _ (List.mem_of_getElem? (i := 33) rfl)), (hw _ (List.mem_of_getElem? (i := 34) rfl))⟩)
  have E0 := Exa.start v0 n0
  have F0 := Fld.start ((fld_at v0).symm.trans (own_eqi n2))
  obtain ⟨u1, v1⟩ := exa_v n8
  have S1 := Sta.start v1 (Or.inr ⟨(hw _ (List.mem_of_getElem? (i := 33) rfl)), (hw _ (List.mem_of_getElem? (i := 75) rfl))⟩)
  have E1 := Exa.start v1 n8
  have F1 := Fld.start ((fld_at v1).symm.trans (own_eqi n9))
  obtain ⟨u2, v2⟩ := exa_v n6
  have S2 := Sta.start v2 (Or.inr ⟨(hw _ (List.mem_of_getElem? (i := 33) rfl)), (hw _ (List.mem_of_getElem? (i := 73) rfl))⟩)
  have E2 := Exa.start v2 n6
  have F2 := Fld.start ((fld_at v2).symm.trans (own_eqi n7))
  obtain ⟨u3, v3⟩ := exa_v n1
  have S3 := Sta.start v3 (Or.inr ⟨(hw _ (List.mem_of_getElem? (i := 33) rfl)), (hw _ (List.mem_of_getElem? (i := 58) rfl))⟩)
  have E3 := Exa.start v3 n1
  have F3 := Fld.start ((fld_at v3).symm.trans (own_eqi n3))
  obtain ⟨u4, v4⟩ := exa_v n4
  have S4 := Sta.start v4 (Or.inr ⟨(hw _ (List.mem_of_getElem? (i := 33) rfl)), (hw _ (List.mem_of_getElem? (i := 71) rfl))⟩)
  have E4 := Exa.start v4 n4
  have F4 := Fld.start ((fld_at v4).symm.trans (own_eqi n5))
  have hEL : EW s #[(.int i0), (.int i1), (.int i2), (.int i3), (.int i4), (.int i5)] [("java/lang/String", 7)] := (EW.cons (hw _ (List.mem_of_getElem? (i := 18) rfl)) (by decide) EW.nil)
  have hCH : CHv s [("java/lang/String", 7)] s.vm s.heap := CHv.start hEL (show ∀ p ∈ [("java/lang/String", 7)], Jvm.Lit.constHeld s p.1 p.2 from hcalls.1) (hsets _ (List.mem_of_getElem? (i := 2) rfl)) (hw _ (List.mem_of_getElem? (i := 19) rfl)) (hw _ (List.mem_of_getElem? (i := 5) rfl))
  obtain ⟨n, o, h1, h2, h3, _, L, rfl, ⟨rfl, N⟩, -, hq⟩ := own_law l s _ hw _ hEL u0 u1 u2 u3 u4 i0 i1 i2 i3 i4 i5 s.heap cs0 Cs0 hcs0 (List.mem_singleton.mpr rfl) ⟨S0, S1, S2, S3, S4⟩ E0 E1 E2 E3 E4 F0 F1 F2 F3 F4 p e ha hc hk s m _ below hf ((Spec.applies_iff_loose hf).mp happ).1 ⟨rfl, State.Warmed39.refl s, rfl, hCH⟩ trivial
  refine ⟨n, _, h1, h2, h3, hpost _ _ _ _ _ _ ⟨Cond.after_iff.mpr rfl, Cond.after_iff.mpr (eq_i res_at (Term.int_eval (1)) rfl), trivial⟩ ⟨hq.1, hq.2.1, hq.2.2.1, (hq.2.2.2.sift fun y hy => Or.inr (N y hy)).mono (by decide) (by decide)⟩⟩
theorem main_1_1 : Claimed_1_1 := comes_1 fun _ _ _ _ _ _ h hF => ⟨h.1, hF⟩
theorem main_1_2 : Claimed_1_2 := comes_1 fun _ _ _ _ _ _ h hF => ⟨h.2.1, hF⟩
end Jvm.Pilot.@@N@@
namespace Jvm.Pilot.@@N@@
open Jvm Jvm.ClassFile Sem Op Lib Jvm.Free Jvm.Stand Jvm.Pilot.@@N@@.Jvm.D
/-! MADE BY PROGRAM (witnessworld.py) out of the Statement's table words and the real class files: 23 classes; the members and pool entries that the words name. The judged class is class 1, her method 3. -/
namespace start1
open Jvm.ClassFile
def u (s : String) : CpInfo := .utf8 (stringToUtf16 s)
/-- a pool by its gaps: so many unusable entries, then the entry; so many at the end -/
def gap : Nat → List CpInfo → List CpInfo
  | 0, r => r
  | n + 1, r => .unusable :: gap n r
def poolList (es : List (Nat × CpInfo)) (last : Nat) : List CpInfo := es.foldr (fun e r => gap e.1 (e.2 :: r)) (gap last [])
def pool (es : List (Nat × CpInfo)) (last : Nat) : Array CpInfo := ⟨poolList es last⟩
def fileOf (pool : Array CpInfo) (this : Nat) (attrs : Array Attribute := #[]) (ms : Array MethodInfo := #[]) (fl : Nat := 33) (sup : Nat := 0) (ifs : Array Nat := #[]) (fds : Array FieldInfo := #[]) : ClassFile where
  minorVersion := 0
  majorVersion := 65
  constantPool := pool
  accessFlags := fl
  thisClass := this
  superClass := sup
  interfaces := ifs
  fields := fds
  methods := ms
  attributes := attrs
def plain (name : String) (sup : Option ClassId) : Class where
  name := name
  kind := .ordinary
  loader := none
  accessFlags := 33
  super := sup
  interfaces := #[]
  cf := none
  fields := #[]
  methods := #[]
  instanceTypes := #[]
  staticTypes := #[]
  resolved := #[]
  callSites := []
  init := .initialized
  statics := none
  mirror := none

def pool0 : Array CpInfo := pool [(5, u "<init>"), (0, u "()V"), (1, .class_ 10), (1, u "java/lang/Object")] 113

def k0c0 : Code := { maxStack := 0, maxLocals := 1, code := object_method_1_code, exceptionTable := #[], attributes := #[] }
def k0m0 : Method := { name := "<init>", desc := "()V", sig := { parameters := [], returnType := none }, accessFlags := 1, code := some k0c0 }
/-- java/lang/Object -/
def k0 : Class := { plain "java/lang/Object" none with
  accessFlags := 33
  interfaces := #[]
  cf := some (fileOf pool0 8 #[] #[{ accessFlags := 1, nameIndex := 5, descriptorIndex := 6, attributes := #[] }] 33 0 #[] #[])
  fields := #[]
  methods := #[k0m0]
  instanceTypes := #[]
  staticTypes := #[]
  resolved := Array.replicate 124 none
  statics := none }

def pool1 : Array CpInfo := pool [(2, .class_ 4), (1, u "java/lang/Object"), (0, u "<init>"), (0, u "()V"), (0, .fieldref 8 9), (0, .class_ 10), (0, .nameAndType 11 12), (0, u "com/example/nimble_gate/nimblegate/policy/Token$Kind"), (0, u "WORD"), (0, u "Lcom/example/nimble_gate/nimblegate/policy/Token$Kind;"), (0, .fieldref 8 14), (0, .nameAndType 15 12), (0, u "STRING"), (0, .fieldref 8 17), (0, .nameAndType 18 12), (0, u "NUMBER"), (0, .fieldref 8 20), (0, .nameAndType 21 12), (0, u "SYMBOL"), (0, .fieldref 8 23), (0, .nameAndType 24 12), (0, u "END"), (0, .class_ 26), (0, u "java/lang/String"), (0, .methodref 25 28), (0, .nameAndType 5 29), (0, u "([C)V"), (0, .methodref 31 32), (0, .class_ 33), (0, .nameAndType 34 35), (0, u "com/example/nimble_gate/nimblegate/policy/TokenIsSymbolPinLaw"), (0, u "mk"), (0, u "(ICC)Ljava/lang/String;"), (0, .class_ 37), (0, u "com/example/nimble_gate/nimblegate/policy/Token"), (0, .methodref 31 39), (0, .nameAndType 40 41), (0, u "kindOf"), (0, u "(I)Lcom/example/nimble_gate/nimblegate/policy/Token$Kind;"), (0, .methodref 36 43), (0, .nameAndType 5 44), (0, u "(Lcom/example/nimble_gate/nimblegate/policy/Token$Kind;Ljava/lang/String;II)V"), (0, .methodref 36 46), (0, .nameAndType 47 48), (0, u "isSymbol"), (0, u "(Ljava/lang/String;)Z"), (3, u "law"), (0, u "(IIIIII)Z")] 4

def k1m0 : Method := { name := "<init>", desc := "()V", sig := { parameters := [], returnType := none }, accessFlags := 1, code := none }
def k1c1 : Code := { maxStack := 2, maxLocals := 1, code := method_2_code, exceptionTable := #[], attributes := #[] }
def k1m1 : Method := { name := "kindOf", desc := "(I)Lcom/example/nimble_gate/nimblegate/policy/Token$Kind;", sig := { parameters := [.int], returnType := some (.object "com/example/nimble_gate/nimblegate/policy/Token$Kind") }, accessFlags := 10, code := some k1c1 }
def k1c2 : Code := { maxStack := 6, maxLocals := 3, code := method_3_code, exceptionTable := #[], attributes := #[] }
def k1m2 : Method := { name := "mk", desc := "(ICC)Ljava/lang/String;", sig := { parameters := [.int, .char, .char], returnType := some (.object "java/lang/String") }, accessFlags := 10, code := some k1c2 }
def k1c3 : Code := { maxStack := 6, maxLocals := 17, code := code, exceptionTable := #[], attributes := #[] }
def k1m3 : Method := { name := "law", desc := "(IIIIII)Z", sig := { parameters := [.int, .int, .int, .int, .int, .int], returnType := some .boolean }, accessFlags := 9, code := some k1c3 }
/-- com/example/nimble_gate/nimblegate/policy/TokenIsSymbolPinLaw -/
def k1 : Class := { plain "com/example/nimble_gate/nimblegate/policy/TokenIsSymbolPinLaw" (some 0) with
  accessFlags := 49
  interfaces := #[]
  cf := some (fileOf pool1 31 #[] #[{ accessFlags := 1, nameIndex := 5, descriptorIndex := 6, attributes := #[] }, { accessFlags := 10, nameIndex := 40, descriptorIndex := 41, attributes := #[] }, { accessFlags := 10, nameIndex := 34, descriptorIndex := 35, attributes := #[] }, { accessFlags := 9, nameIndex := 52, descriptorIndex := 53, attributes := #[] }] 49 2 #[] #[])
  fields := #[]
  methods := #[k1m0, k1m1, k1m2, k1m3]
  instanceTypes := #[]
  staticTypes := #[]
  resolved := Array.replicate 58 none
  statics := none }

def pool2 : Array CpInfo := pool [(1, .class_ 2), (0, u "java/io/Serializable"), (0, .class_ 4), (0, u "java/lang/Object")] 2

/-- java/io/Serializable -/
def k2 : Class := { plain "java/io/Serializable" (some 0) with
  accessFlags := 1537
  interfaces := #[]
  cf := some (fileOf pool2 1 #[] #[] 1537 3 #[] #[])
  fields := #[]
  methods := #[]
  instanceTypes := #[]
  staticTypes := #[]
  resolved := Array.replicate 7 none
  statics := none }

def pool3 : Array CpInfo := pool [(1, .class_ 2), (0, u "java/lang/Comparable"), (0, .class_ 4), (0, u "java/lang/Object")] 7

/-- java/lang/Comparable -/
def k3 : Class := { plain "java/lang/Comparable" (some 0) with
  accessFlags := 1537
  interfaces := #[]
  cf := some (fileOf pool3 1 #[] #[] 1537 3 #[] #[])
  fields := #[]
  methods := #[]
  instanceTypes := #[]
  staticTypes := #[]
  resolved := Array.replicate 12 none
  statics := none }

def pool4 : Array CpInfo := pool [(2, .class_ 4), (1, u "java/lang/CharSequence"), (42, .class_ 48), (0, u "java/lang/CharSequence$1CodePointIterator"), (10, .class_ 60), (0, u "java/lang/CharSequence$1CharIterator"), (5, .class_ 67), (0, u "java/lang/Object")] 63

/-- java/lang/CharSequence -/
def k4 : Class := { plain "java/lang/CharSequence" (some 0) with
  accessFlags := 1537
  interfaces := #[]
  cf := some (fileOf pool4 2 #[.nestMembers #[47, 59]] #[] 1537 66 #[] #[])
  fields := #[]
  methods := #[]
  instanceTypes := #[]
  staticTypes := #[]
  resolved := Array.replicate 131 none
  statics := none }

def pool5 : Array CpInfo := pool [(1, .class_ 2), (0, u "java/lang/constant/Constable"), (0, .class_ 4), (0, u "java/lang/Object")] 6

/-- java/lang/constant/Constable -/
def k5 : Class := { plain "java/lang/constant/Constable" (some 0) with
  accessFlags := 1537
  interfaces := #[]
  cf := some (fileOf pool5 1 #[] #[] 1537 3 #[] #[])
  fields := #[]
  methods := #[]
  instanceTypes := #[]
  staticTypes := #[]
  resolved := Array.replicate 11 none
  statics := none }

def pool6 : Array CpInfo := pool [(1, .class_ 2), (0, u "java/lang/constant/ConstantDesc"), (0, .class_ 4), (0, u "java/lang/Object")] 32

/-- java/lang/constant/ConstantDesc -/
def k6 : Class := { plain "java/lang/constant/ConstantDesc" (some 0) with
  accessFlags := 1537
  interfaces := #[]
  cf := some (fileOf pool6 1 #[] #[] 1537 3 #[] #[])
  fields := #[]
  methods := #[]
  instanceTypes := #[]
  staticTypes := #[]
  resolved := Array.replicate 37 none
  statics := none }

def pool7 : Array CpInfo := pool [(1, .methodref 2 3), (0, .class_ 4), (0, .nameAndType 5 6), (0, u "java/lang/Object"), (0, u "<init>"), (0, u "()V"), (0, .string 8), (0, u ""), (0, .fieldref 10 11), (0, .class_ 12), (0, .nameAndType 13 14), (0, u "java/lang/String"), (0, u "value"), (0, u "[B"), (0, .fieldref 10 16), (0, .nameAndType 17 18), (0, u "coder"), (0, u "B"), (2, u "hash"), (0, u "I"), (2, u "hashIsZero"), (0, u "Z"), (0, .methodref 10 28), (0, .nameAndType 5 29), (0, u "([CIILjava/lang/Void;)V"), (8, .fieldref 10 39), (0, .nameAndType 40 26), (0, u "COMPACT_STRINGS"), (1, .class_ 44), (1, u "java/lang/StringUTF16"), (0, u "compress"), (1, .methodref 42 48), (0, .nameAndType 49 50), (0, u "coderFromArrayLen"), (0, u "([BI)B"), (56, .class_ 109), (1, u "java/lang/StringLatin1"), (67, .methodref 42 178), (0, .nameAndType 45 179), (0, u "([CII)[B"), (361, .methodref 107 542), (0, .nameAndType 543 544), (0, u "equals"), (0, u "([B[B)Z"), (28, u "(Ljava/lang/Object;)Z"), (1, .class_ 576), (0, u "java/lang/CharSequence"), (22, u "CASE_INSENSITIVE_ORDER"), (0, u "Ljava/util/Comparator;"), (409, u "([C)V"), (90, u "serialPersistentFields"), (0, u "[Ljava/io/ObjectStreamField;"), (0, .class_ 1104), (0, u "java/lang/String$CaseInsensitiveComparator"), (1, .class_ 1107), (0, u "java/io/Serializable"), (0, .class_ 1109), (0, u "java/lang/Comparable"), (0, .class_ 1111), (0, u "java/lang/constant/Constable"), (0, .class_ 1113), (0, u "java/lang/constant/ConstantDesc"), (2, u "serialVersionUID"), (0, u "J"), (3, u "REPL"), (0, u "C"), (2, u "LATIN1"), (1, u "UTF16")] 323

def k7m0 : Method := { name := "<init>", desc := "()V", sig := { parameters := [], returnType := none }, accessFlags := 1, code := none }
def k7c1 : Code := { maxStack := 5, maxLocals := 2, code := jdk_42_method_3_code, exceptionTable := #[], attributes := #[] }
def k7m1 : Method := { name := "<init>", desc := "([C)V", sig := { parameters := [(.array .char)], returnType := none }, accessFlags := 1, code := some k7c1 }
def k7c2 : Code := { maxStack := 2, maxLocals := 3, code := jdk_42_method_66_code, exceptionTable := #[], attributes := #[] }
def k7m2 : Method := { name := "equals", desc := "(Ljava/lang/Object;)Z", sig := { parameters := [(.object "java/lang/Object")], returnType := some .boolean }, accessFlags := 1, code := some k7c2 }
def k7c3 : Code := { maxStack := 4, maxLocals := 6, code := jdk_42_method_149_code, exceptionTable := #[], attributes := #[] }
def k7m3 : Method := { name := "<init>", desc := "([CIILjava/lang/Void;)V", sig := { parameters := [(.array .char), .int, .int, (.object "java/lang/Void")], returnType := none }, accessFlags := 2, code := some k7c3 }
/-- java/lang/String -/
def k7 : Class := { plain "java/lang/String" (some 0) with
  accessFlags := 49
  interfaces := #[2, 3, 4, 5, 6]
  cf := some (fileOf pool7 10 #[.nestMembers #[1103]] #[{ accessFlags := 1, nameIndex := 5, descriptorIndex := 6, attributes := #[] }, { accessFlags := 1, nameIndex := 5, descriptorIndex := 1010, attributes := #[] }, { accessFlags := 1, nameIndex := 543, descriptorIndex := 573, attributes := #[] }, { accessFlags := 2, nameIndex := 5, descriptorIndex := 29, attributes := #[] }] 49 2 #[1106, 1108, 575, 1110, 1112] #[{ accessFlags := 18, nameIndex := 13, descriptorIndex := 14, attributes := #[] }, { accessFlags := 18, nameIndex := 17, descriptorIndex := 18, attributes := #[] }, { accessFlags := 2, nameIndex := 21, descriptorIndex := 22, attributes := #[] }, { accessFlags := 2, nameIndex := 25, descriptorIndex := 26, attributes := #[] }, { accessFlags := 26, nameIndex := 1116, descriptorIndex := 1117, attributes := #[] }, { accessFlags := 24, nameIndex := 40, descriptorIndex := 26, attributes := #[] }, { accessFlags := 26, nameIndex := 1101, descriptorIndex := 1102, attributes := #[] }, { accessFlags := 26, nameIndex := 1121, descriptorIndex := 1122, attributes := #[] }, { accessFlags := 25, nameIndex := 599, descriptorIndex := 600, attributes := #[] }, { accessFlags := 24, nameIndex := 1125, descriptorIndex := 18, attributes := #[] }, { accessFlags := 24, nameIndex := 1127, descriptorIndex := 18, attributes := #[] }])
  fields := #[{ name := "value", type := (.array .byte), accessFlags := 18, slot := 0, constantValue := 0 }, { name := "coder", type := .byte, accessFlags := 18, slot := 1, constantValue := 0 }, { name := "hash", type := .int, accessFlags := 2, slot := 2, constantValue := 0 }, { name := "hashIsZero", type := .boolean, accessFlags := 2, slot := 3, constantValue := 0 }, { name := "serialVersionUID", type := .long, accessFlags := 26, slot := 0, constantValue := 0 }, { name := "COMPACT_STRINGS", type := .boolean, accessFlags := 24, slot := 1, constantValue := 0 }, { name := "serialPersistentFields", type := (.array (.object "java/io/ObjectStreamField")), accessFlags := 26, slot := 2, constantValue := 0 }, { name := "REPL", type := .char, accessFlags := 26, slot := 3, constantValue := 0 }, { name := "CASE_INSENSITIVE_ORDER", type := (.object "java/util/Comparator"), accessFlags := 25, slot := 4, constantValue := 0 }, { name := "LATIN1", type := .byte, accessFlags := 24, slot := 5, constantValue := 0 }, { name := "UTF16", type := .byte, accessFlags := 24, slot := 6, constantValue := 0 }]
  methods := #[k7m0, k7m1, k7m2, k7m3]
  instanceTypes := #[(.array .byte), .byte, .int, .boolean]
  staticTypes := #[.long, .boolean, (.array (.object "java/io/ObjectStreamField")), .char, (.object "java/util/Comparator"), .byte, .byte]
  resolved := Array.replicate 1451 none
  statics := some 0 }

def pool8 : Array CpInfo := pool [(1, .methodref 2 3), (0, .class_ 4), (0, .nameAndType 5 6), (0, u "java/lang/Object"), (0, u "<init>"), (0, u "()V"), (0, .class_ 8), (0, u "java/lang/Record")] 13

def k8c0 : Code := { maxStack := 1, maxLocals := 1, code := jdk_30_method_1_code, exceptionTable := #[], attributes := #[] }
def k8m0 : Method := { name := "<init>", desc := "()V", sig := { parameters := [], returnType := none }, accessFlags := 4, code := some k8c0 }
/-- java/lang/Record -/
def k8 : Class := { plain "java/lang/Record" (some 0) with
  accessFlags := 1057
  interfaces := #[]
  cf := some (fileOf pool8 7 #[] #[{ accessFlags := 4, nameIndex := 5, descriptorIndex := 6, attributes := #[] }] 1057 2 #[] #[])
  fields := #[]
  methods := #[k8m0]
  instanceTypes := #[]
  staticTypes := #[]
  resolved := Array.replicate 22 none
  statics := none }

def pool9 : Array CpInfo := pool [(1, .methodref 2 3), (0, .class_ 4), (0, .nameAndType 5 6), (0, u "java/lang/Record"), (0, u "<init>"), (0, u "()V"), (0, .fieldref 8 9), (0, .class_ 10), (0, .nameAndType 11 12), (0, u "com/example/nimble_gate/nimblegate/policy/Token"), (0, u "kind"), (0, u "Lcom/example/nimble_gate/nimblegate/policy/Token$Kind;"), (0, .fieldref 8 14), (0, .nameAndType 15 16), (0, u "text"), (0, u "Ljava/lang/String;"), (0, .fieldref 8 18), (0, .nameAndType 19 20), (0, u "line"), (0, u "I"), (0, .fieldref 8 22), (0, .nameAndType 23 20), (0, u "column"), (1, .class_ 27), (1, u "com/example/nimble_gate/nimblegate/policy/Token$Kind"), (1, .methodref 30 31), (0, .class_ 32), (0, .nameAndType 33 34), (0, u "java/lang/String"), (0, u "equals"), (0, u "(Ljava/lang/Object;)Z"), (0, .fieldref 25 36), (0, .nameAndType 37 12), (0, u "SYMBOL"), (29, u "(Lcom/example/nimble_gate/nimblegate/policy/Token$Kind;Ljava/lang/String;II)V"), (4, u "(Ljava/lang/String;)Z"), (1, u "isSymbol")] 38

def k9c0 : Code := { maxStack := 2, maxLocals := 5, code := prog_15_method_1_code, exceptionTable := #[], attributes := #[] }
def k9m0 : Method := { name := "<init>", desc := "(Lcom/example/nimble_gate/nimblegate/policy/Token$Kind;Ljava/lang/String;II)V", sig := { parameters := [(.object "com/example/nimble_gate/nimblegate/policy/Token$Kind"), (.object "java/lang/String"), .int, .int], returnType := none }, accessFlags := 0, code := some k9c0 }
def k9c1 : Code := { maxStack := 2, maxLocals := 2, code := prog_15_method_3_code, exceptionTable := #[], attributes := #[] }
def k9m1 : Method := { name := "isSymbol", desc := "(Ljava/lang/String;)Z", sig := { parameters := [(.object "java/lang/String")], returnType := some .boolean }, accessFlags := 0, code := some k9c1 }
/-- com/example/nimble_gate/nimblegate/policy/Token -/
def k9 : Class := { plain "com/example/nimble_gate/nimblegate/policy/Token" (some 8) with
  accessFlags := 48
  interfaces := #[]
  cf := some (fileOf pool9 8 #[.nestMembers #[25]] #[{ accessFlags := 0, nameIndex := 5, descriptorIndex := 67, attributes := #[] }, { accessFlags := 0, nameIndex := 74, descriptorIndex := 72, attributes := #[] }] 48 2 #[] #[{ accessFlags := 18, nameIndex := 11, descriptorIndex := 12, attributes := #[] }, { accessFlags := 18, nameIndex := 15, descriptorIndex := 16, attributes := #[] }, { accessFlags := 18, nameIndex := 19, descriptorIndex := 20, attributes := #[] }, { accessFlags := 18, nameIndex := 23, descriptorIndex := 20, attributes := #[] }])
  fields := #[{ name := "kind", type := (.object "com/example/nimble_gate/nimblegate/policy/Token$Kind"), accessFlags := 18, slot := 0, constantValue := 0 }, { name := "text", type := (.object "java/lang/String"), accessFlags := 18, slot := 1, constantValue := 0 }, { name := "line", type := .int, accessFlags := 18, slot := 2, constantValue := 0 }, { name := "column", type := .int, accessFlags := 18, slot := 3, constantValue := 0 }]
  methods := #[k9m0, k9m1]
  instanceTypes := #[(.object "com/example/nimble_gate/nimblegate/policy/Token$Kind"), (.object "java/lang/String"), .int, .int]
  staticTypes := #[]
  resolved := Array.replicate 113 none
  statics := none }

def pool10 : Array CpInfo := pool [(2, .class_ 4), (1, u "java/lang/Enum"), (0, u "name"), (0, u "Ljava/lang/String;"), (2, u "ordinal"), (0, u "I"), (1, .class_ 14), (1, u "java/lang/Object"), (4, u "hash"), (86, .class_ 108), (1, u "java/lang/Enum$EnumDesc"), (2, .class_ 112), (0, u "java/lang/constant/Constable"), (0, .class_ 114), (0, u "java/lang/Comparable"), (0, .class_ 116), (0, u "java/io/Serializable")] 87

/-- java/lang/Enum -/
def k10 : Class := { plain "java/lang/Enum" (some 0) with
  accessFlags := 1057
  interfaces := #[5, 3, 2]
  cf := some (fileOf pool10 2 #[.nestMembers #[106]] #[] 1057 12 #[111, 113, 115] #[{ accessFlags := 18, nameIndex := 5, descriptorIndex := 6, attributes := #[] }, { accessFlags := 18, nameIndex := 9, descriptorIndex := 10, attributes := #[] }, { accessFlags := 2, nameIndex := 19, descriptorIndex := 10, attributes := #[] }])
  fields := #[{ name := "name", type := (.object "java/lang/String"), accessFlags := 18, slot := 0, constantValue := 0 }, { name := "ordinal", type := .int, accessFlags := 18, slot := 1, constantValue := 0 }, { name := "hash", type := .int, accessFlags := 2, slot := 2, constantValue := 0 }]
  methods := #[]
  instanceTypes := #[(.object "java/lang/String"), .int, .int]
  staticTypes := #[]
  resolved := Array.replicate 204 none
  statics := none }

def pool11 : Array CpInfo := pool [(1, .class_ 2), (0, u "com/example/nimble_gate/nimblegate/policy/Token$Kind"), (2, u "WORD"), (0, u "Lcom/example/nimble_gate/nimblegate/policy/Token$Kind;"), (2, u "STRING"), (2, u "NUMBER"), (2, u "SYMBOL"), (2, u "END"), (2, u "$VALUES"), (0, u "[Lcom/example/nimble_gate/nimblegate/policy/Token$Kind;"), (6, .class_ 31), (1, u "java/lang/Enum"), (28, .class_ 61), (0, u "com/example/nimble_gate/nimblegate/policy/Token")] 2

/-- com/example/nimble_gate/nimblegate/policy/Token$Kind -/
def k11 : Class := { plain "com/example/nimble_gate/nimblegate/policy/Token$Kind" (some 10) with
  accessFlags := 16432
  interfaces := #[]
  cf := some (fileOf pool11 1 #[.nestHost 60] #[] 16432 29 #[] #[{ accessFlags := 16409, nameIndex := 5, descriptorIndex := 6, attributes := #[] }, { accessFlags := 16409, nameIndex := 9, descriptorIndex := 6, attributes := #[] }, { accessFlags := 16409, nameIndex := 12, descriptorIndex := 6, attributes := #[] }, { accessFlags := 16409, nameIndex := 15, descriptorIndex := 6, attributes := #[] }, { accessFlags := 16409, nameIndex := 18, descriptorIndex := 6, attributes := #[] }, { accessFlags := 4122, nameIndex := 21, descriptorIndex := 22, attributes := #[] }])
  fields := #[{ name := "WORD", type := (.object "com/example/nimble_gate/nimblegate/policy/Token$Kind"), accessFlags := 16409, slot := 0, constantValue := 0 }, { name := "STRING", type := (.object "com/example/nimble_gate/nimblegate/policy/Token$Kind"), accessFlags := 16409, slot := 1, constantValue := 0 }, { name := "NUMBER", type := (.object "com/example/nimble_gate/nimblegate/policy/Token$Kind"), accessFlags := 16409, slot := 2, constantValue := 0 }, { name := "SYMBOL", type := (.object "com/example/nimble_gate/nimblegate/policy/Token$Kind"), accessFlags := 16409, slot := 3, constantValue := 0 }, { name := "END", type := (.object "com/example/nimble_gate/nimblegate/policy/Token$Kind"), accessFlags := 16409, slot := 4, constantValue := 0 }, { name := "$VALUES", type := (.array (.object "com/example/nimble_gate/nimblegate/policy/Token$Kind")), accessFlags := 4122, slot := 5, constantValue := 0 }]
  methods := #[]
  instanceTypes := #[(.object "java/lang/String"), .int, .int]
  staticTypes := #[(.object "com/example/nimble_gate/nimblegate/policy/Token$Kind"), (.object "com/example/nimble_gate/nimblegate/policy/Token$Kind"), (.object "com/example/nimble_gate/nimblegate/policy/Token$Kind"), (.object "com/example/nimble_gate/nimblegate/policy/Token$Kind"), (.object "com/example/nimble_gate/nimblegate/policy/Token$Kind"), (.array (.object "com/example/nimble_gate/nimblegate/policy/Token$Kind"))]
  resolved := Array.replicate 64 none
  statics := some 1 }

def pool12 : Array CpInfo := pool [(6, .class_ 8), (1, u "java/lang/Object"), (0, u "<init>"), (0, u "()V"), (1, .class_ 14), (1, u "java/lang/StringUTF16"), (31, u "$assertionsDisabled"), (0, u "Z"), (13, u "HI_BYTE_SHIFT"), (0, u "I"), (2, u "LO_BYTE_SHIFT"), (49, .methodref 12 116), (0, .nameAndType 117 118), (0, u "compress"), (0, u "([CI[BII)I"), (3, u "([CII)[B"), (138, u "coderFromArrayLen"), (0, u "([BI)B"), (106, .class_ 371), (1, u "java/lang/StringUTF16$LinesSpliterator"), (58, u "MAX_LENGTH"), (196, .class_ 628), (0, u "java/lang/StringUTF16$CodePointsSpliterator"), (0, .class_ 630), (0, u "java/lang/StringUTF16$CharsSpliterator")] 4

def k12m0 : Method := { name := "<init>", desc := "()V", sig := { parameters := [], returnType := none }, accessFlags := 0, code := none }
def k12c1 : Code := { maxStack := 2, maxLocals := 2, code := jdk_52_method_15_code, exceptionTable := #[], attributes := #[] }
def k12m1 : Method := { name := "coderFromArrayLen", desc := "([BI)B", sig := { parameters := [(.array .byte), .int], returnType := some .byte }, accessFlags := 8, code := some k12c1 }
def k12c2 : Code := { maxStack := 5, maxLocals := 6, code := jdk_52_method_16_code, exceptionTable := #[], attributes := #[] }
def k12m2 : Method := { name := "compress", desc := "([CII)[B", sig := { parameters := [(.array .char), .int, .int], returnType := some (.array .byte) }, accessFlags := 9, code := some k12c2 }
def k12c3 : Code := { maxStack := 3, maxLocals := 7, code := jdk_52_method_21_code, exceptionTable := #[], attributes := #[] }
def k12m3 : Method := { name := "compress", desc := "([CI[BII)I", sig := { parameters := [(.array .char), .int, (.array .byte), .int, .int], returnType := some .int }, accessFlags := 9, code := some k12c3 }
/-- java/lang/StringUTF16 -/
def k12 : Class := { plain "java/lang/StringUTF16" (some 0) with
  accessFlags := 48
  interfaces := #[]
  cf := some (fileOf pool12 12 #[.nestMembers #[627, 629, 369]] #[{ accessFlags := 0, nameIndex := 9, descriptorIndex := 10, attributes := #[] }, { accessFlags := 8, nameIndex := 261, descriptorIndex := 262, attributes := #[] }, { accessFlags := 9, nameIndex := 117, descriptorIndex := 122, attributes := #[] }, { accessFlags := 9, nameIndex := 117, descriptorIndex := 118, attributes := #[] }] 48 6 #[] #[{ accessFlags := 26, nameIndex := 61, descriptorIndex := 62, attributes := #[] }, { accessFlags := 26, nameIndex := 65, descriptorIndex := 62, attributes := #[] }, { accessFlags := 24, nameIndex := 430, descriptorIndex := 62, attributes := #[] }, { accessFlags := 4120, nameIndex := 46, descriptorIndex := 47, attributes := #[] }])
  fields := #[{ name := "HI_BYTE_SHIFT", type := .int, accessFlags := 26, slot := 0, constantValue := 0 }, { name := "LO_BYTE_SHIFT", type := .int, accessFlags := 26, slot := 1, constantValue := 0 }, { name := "MAX_LENGTH", type := .int, accessFlags := 24, slot := 2, constantValue := 0 }, { name := "$assertionsDisabled", type := .boolean, accessFlags := 4120, slot := 3, constantValue := 0 }]
  methods := #[k12m0, k12m1, k12m2, k12m3]
  instanceTypes := #[]
  staticTypes := #[.int, .int, .int, .boolean]
  resolved := Array.replicate 635 none
  statics := none }

def pool13 : Array CpInfo := pool [(4, .class_ 6), (1, u "java/lang/Object"), (0, u "<init>"), (0, u "()V"), (5, .class_ 16), (1, u "java/lang/StringLatin1"), (104, u "$assertionsDisabled"), (0, u "Z"), (98, .class_ 223), (1, u "java/lang/StringLatin1$LinesSpliterator"), (57, u "equals"), (0, u "([B[B)Z"), (107, .class_ 391), (0, u "java/lang/StringLatin1$CharsSpliterator")] 3

def k13m0 : Method := { name := "<init>", desc := "()V", sig := { parameters := [], returnType := none }, accessFlags := 0, code := none }
def k13c1 : Code := { maxStack := 3, maxLocals := 3, code := jdk_43_method_13_code, exceptionTable := #[], attributes := #[] }
def k13m1 : Method := { name := "equals", desc := "([B[B)Z", sig := { parameters := [(.array .byte), (.array .byte)], returnType := some .boolean }, accessFlags := 9, code := some k13c1 }
/-- java/lang/StringLatin1 -/
def k13 : Class := { plain "java/lang/StringLatin1" (some 0) with
  accessFlags := 48
  interfaces := #[]
  cf := some (fileOf pool13 14 #[.nestMembers #[390, 221]] #[{ accessFlags := 0, nameIndex := 7, descriptorIndex := 8, attributes := #[] }, { accessFlags := 9, nameIndex := 281, descriptorIndex := 282, attributes := #[] }] 48 4 #[] #[{ accessFlags := 4120, nameIndex := 121, descriptorIndex := 122, attributes := #[] }])
  fields := #[{ name := "$assertionsDisabled", type := .boolean, accessFlags := 4120, slot := 0, constantValue := 0 }]
  methods := #[k13m0, k13m1]
  instanceTypes := #[]
  staticTypes := #[.boolean]
  resolved := Array.replicate 395 none
  statics := none }

def pool14 : Array CpInfo := pool [(2, .class_ 4), (1, u "java/lang/Object"), (0, u "<init>"), (0, u "()V"), (17, .class_ 26), (1, u "jdk/internal/util/Preconditions"), (28, .class_ 56), (0, u "jdk/internal/util/Preconditions$4"), (57, .class_ 115), (0, u "jdk/internal/util/Preconditions$1"), (7, u "SIOOBE_FORMATTER"), (0, u "Ljava/util/function/BiFunction;"), (0, .class_ 126), (0, u "jdk/internal/util/Preconditions$2"), (3, u "AIOOBE_FORMATTER"), (0, .class_ 132), (0, u "jdk/internal/util/Preconditions$3"), (3, u "IOOBE_FORMATTER")] 57

def k14m0 : Method := { name := "<init>", desc := "()V", sig := { parameters := [], returnType := none }, accessFlags := 1, code := none }
/-- jdk/internal/util/Preconditions -/
def k14 : Class := { plain "jdk/internal/util/Preconditions" (some 0) with
  accessFlags := 33
  interfaces := #[]
  cf := some (fileOf pool14 24 #[.nestMembers #[55, 131, 125, 114]] #[{ accessFlags := 1, nameIndex := 5, descriptorIndex := 6, attributes := #[] }] 33 2 #[] #[{ accessFlags := 25, nameIndex := 123, descriptorIndex := 124, attributes := #[] }, { accessFlags := 25, nameIndex := 130, descriptorIndex := 124, attributes := #[] }, { accessFlags := 25, nameIndex := 136, descriptorIndex := 124, attributes := #[] }])
  fields := #[{ name := "SIOOBE_FORMATTER", type := (.object "java/util/function/BiFunction"), accessFlags := 25, slot := 0, constantValue := 0 }, { name := "AIOOBE_FORMATTER", type := (.object "java/util/function/BiFunction"), accessFlags := 25, slot := 1, constantValue := 0 }, { name := "IOOBE_FORMATTER", type := (.object "java/util/function/BiFunction"), accessFlags := 25, slot := 2, constantValue := 0 }]
  methods := #[k14m0]
  instanceTypes := #[]
  staticTypes := #[(.object "java/util/function/BiFunction"), (.object "java/util/function/BiFunction"), (.object "java/util/function/BiFunction")]
  resolved := Array.replicate 194 none
  statics := some 2 }

def pool15 : Array CpInfo := pool [(9, u "<init>"), (6, .class_ 18), (1, u "java/lang/Object"), (0, u "()V"), (1, .class_ 23), (1, u "jdk/internal/util/ArraysSupport"), (0, u "LOG2_ARRAY_LONG_INDEX_SCALE"), (0, u "I"), (2, u "U"), (0, u "Ljdk/internal/misc/Unsafe;"), (8, u "BIG_ENDIAN"), (0, u "Z"), (8, u "LOG2_BYTE_BIT_SIZE"), (4, u "LOG2_ARRAY_INT_INDEX_SCALE"), (54, u "JLA"), (0, u "Ljdk/internal/access/JavaLangAccess;"), (11, u "LOG2_ARRAY_BOOLEAN_INDEX_SCALE"), (9, u "LOG2_ARRAY_BYTE_INDEX_SCALE"), (5, u "LOG2_ARRAY_CHAR_INDEX_SCALE"), (5, u "LOG2_ARRAY_SHORT_INDEX_SCALE"), (18, u "LOG2_ARRAY_FLOAT_INDEX_SCALE"), (24, u "LOG2_ARRAY_DOUBLE_INDEX_SCALE"), (89, u "T_BOOLEAN"), (2, u "T_CHAR"), (1, u "T_FLOAT"), (1, u "T_DOUBLE"), (1, u "T_BYTE"), (1, u "T_SHORT"), (1, u "T_INT"), (1, u "T_LONG"), (1, u "SOFT_MAX_ARRAY_LENGTH")] 83

def k15m0 : Method := { name := "<init>", desc := "()V", sig := { parameters := [], returnType := none }, accessFlags := 2, code := none }
/-- jdk/internal/util/ArraysSupport -/
def k15 : Class := { plain "jdk/internal/util/ArraysSupport" (some 0) with
  accessFlags := 33
  interfaces := #[]
  cf := some (fileOf pool15 21 #[] #[{ accessFlags := 2, nameIndex := 9, descriptorIndex := 19, attributes := #[] }] 33 16 #[] #[{ accessFlags := 24, nameIndex := 28, descriptorIndex := 29, attributes := #[] }, { accessFlags := 26, nameIndex := 38, descriptorIndex := 39, attributes := #[] }, { accessFlags := 25, nameIndex := 121, descriptorIndex := 25, attributes := #[] }, { accessFlags := 25, nameIndex := 131, descriptorIndex := 25, attributes := #[] }, { accessFlags := 25, nameIndex := 137, descriptorIndex := 25, attributes := #[] }, { accessFlags := 25, nameIndex := 143, descriptorIndex := 25, attributes := #[] }, { accessFlags := 25, nameIndex := 53, descriptorIndex := 25, attributes := #[] }, { accessFlags := 25, nameIndex := 24, descriptorIndex := 25, attributes := #[] }, { accessFlags := 25, nameIndex := 162, descriptorIndex := 25, attributes := #[] }, { accessFlags := 25, nameIndex := 187, descriptorIndex := 25, attributes := #[] }, { accessFlags := 26, nameIndex := 48, descriptorIndex := 25, attributes := #[] }, { accessFlags := 25, nameIndex := 277, descriptorIndex := 25, attributes := #[] }, { accessFlags := 25, nameIndex := 280, descriptorIndex := 25, attributes := #[] }, { accessFlags := 25, nameIndex := 282, descriptorIndex := 25, attributes := #[] }, { accessFlags := 25, nameIndex := 284, descriptorIndex := 25, attributes := #[] }, { accessFlags := 25, nameIndex := 286, descriptorIndex := 25, attributes := #[] }, { accessFlags := 25, nameIndex := 288, descriptorIndex := 25, attributes := #[] }, { accessFlags := 25, nameIndex := 290, descriptorIndex := 25, attributes := #[] }, { accessFlags := 25, nameIndex := 292, descriptorIndex := 25, attributes := #[] }, { accessFlags := 26, nameIndex := 108, descriptorIndex := 109, attributes := #[] }, { accessFlags := 25, nameIndex := 294, descriptorIndex := 25, attributes := #[] }])
  fields := #[{ name := "U", type := (.object "jdk/internal/misc/Unsafe"), accessFlags := 24, slot := 0, constantValue := 0 }, { name := "BIG_ENDIAN", type := .boolean, accessFlags := 26, slot := 1, constantValue := 0 }, { name := "LOG2_ARRAY_BOOLEAN_INDEX_SCALE", type := .int, accessFlags := 25, slot := 2, constantValue := 0 }, { name := "LOG2_ARRAY_BYTE_INDEX_SCALE", type := .int, accessFlags := 25, slot := 3, constantValue := 0 }, { name := "LOG2_ARRAY_CHAR_INDEX_SCALE", type := .int, accessFlags := 25, slot := 4, constantValue := 0 }, { name := "LOG2_ARRAY_SHORT_INDEX_SCALE", type := .int, accessFlags := 25, slot := 5, constantValue := 0 }, { name := "LOG2_ARRAY_INT_INDEX_SCALE", type := .int, accessFlags := 25, slot := 6, constantValue := 0 }, { name := "LOG2_ARRAY_LONG_INDEX_SCALE", type := .int, accessFlags := 25, slot := 7, constantValue := 0 }, { name := "LOG2_ARRAY_FLOAT_INDEX_SCALE", type := .int, accessFlags := 25, slot := 8, constantValue := 0 }, { name := "LOG2_ARRAY_DOUBLE_INDEX_SCALE", type := .int, accessFlags := 25, slot := 9, constantValue := 0 }, { name := "LOG2_BYTE_BIT_SIZE", type := .int, accessFlags := 26, slot := 10, constantValue := 0 }, { name := "T_BOOLEAN", type := .int, accessFlags := 25, slot := 11, constantValue := 0 }, { name := "T_CHAR", type := .int, accessFlags := 25, slot := 12, constantValue := 0 }, { name := "T_FLOAT", type := .int, accessFlags := 25, slot := 13, constantValue := 0 }, { name := "T_DOUBLE", type := .int, accessFlags := 25, slot := 14, constantValue := 0 }, { name := "T_BYTE", type := .int, accessFlags := 25, slot := 15, constantValue := 0 }, { name := "T_SHORT", type := .int, accessFlags := 25, slot := 16, constantValue := 0 }, { name := "T_INT", type := .int, accessFlags := 25, slot := 17, constantValue := 0 }, { name := "T_LONG", type := .int, accessFlags := 25, slot := 18, constantValue := 0 }, { name := "JLA", type := (.object "jdk/internal/access/JavaLangAccess"), accessFlags := 26, slot := 19, constantValue := 0 }, { name := "SOFT_MAX_ARRAY_LENGTH", type := .int, accessFlags := 25, slot := 20, constantValue := 0 }]
  methods := #[k15m0]
  instanceTypes := #[]
  staticTypes := #[(.object "jdk/internal/misc/Unsafe"), .boolean, .int, .int, .int, .int, .int, .int, .int, .int, .int, .int, .int, .int, .int, .int, .int, .int, .int, (.object "jdk/internal/access/JavaLangAccess"), .int]
  resolved := Array.replicate 378 none
  statics := none }

def pool16 : Array CpInfo := pool [(1, u "java/lang/Cloneable"), (0, .class_ 1), (0, u "java/lang/Object"), (0, .class_ 3)] 3

/-- java/lang/Cloneable -/
def k16 : Class := { plain "java/lang/Cloneable" (some 0) with
  accessFlags := 1537
  interfaces := #[]
  cf := some (fileOf pool16 2 #[] #[] 1537 4 #[] #[])
  fields := #[]
  methods := #[]
  instanceTypes := #[]
  staticTypes := #[]
  resolved := Array.replicate 8 none
  statics := none }

/-- the primitive byte -/
def k17 : Class := { plain "byte" none with kind := .primitive 'B', accessFlags := 0x411 }
/-- [B -/
def k18 : Class := { plain "[B" (some 0) with kind := .array 17 .byte, interfaces := #[16, 2], accessFlags := 1041 }

/-- the primitive char -/
def k19 : Class := { plain "char" none with kind := .primitive 'C', accessFlags := 0x411 }
/-- [C -/
def k20 : Class := { plain "[C" (some 0) with kind := .array 19 .char, interfaces := #[16, 2], accessFlags := 1041 }

/-- the primitive int -/
def k21 : Class := { plain "int" none with kind := .primitive 'I', accessFlags := 0x411 }
/-- [I -/
def k22 : Class := { plain "[I" (some 0) with kind := .array 21 .int, interfaces := #[16, 2], accessFlags := 1041 }

def heap : Heap := #[{ cls := 7, slots := #[.long 0, .int 1, .null, .int 0, .null, .int 0, .int 0], vm := .statics 7 },
  { cls := 11, slots := #[.ref 3, .ref 4, .ref 5, .ref 6, .ref 7, .null], vm := .statics 11 },
  { cls := 14, slots := #[.null, .null, .null], vm := .statics 14 },
  { cls := 11, slots := #[.null, .int 0, .int 0], vm := .none },
  { cls := 11, slots := #[.null, .int 1, .int 0], vm := .none },
  { cls := 11, slots := #[.null, .int 2, .int 0], vm := .none },
  { cls := 11, slots := #[.null, .int 3, .int 0], vm := .none },
  { cls := 11, slots := #[.null, .int 4, .int 0], vm := .none }]
def classes : Array Class := #[k0, k1, k2, k3, k4, k5, k6, k7, k8, k9, k10, k11, k12, k13, k14, k15, k16, k17, k18, k19, k20, k21, k22]
def interned : List (Array UInt16 × Addr) := []
def slotsUsed : Nat := 31
def theMethod : MethodId := ⟨1, 3⟩
def args0 : Array Value := #[.int 5, .int 3, .int 4, .int 6, .int 2, .int 9]
def aboutOver (below : List Frame) : State where
  vm := { classes := classes, interned := interned.toArray }
  heap := heap
  slotsUsed := slotsUsed
  threads := #[{ frames := .invoking theMethod args0 :: below }]
def below0 : List Frame := [.native { method := ⟨0, 0⟩, args := #[] }]
def about1 : State := aboutOver below0
def p0 : Program := .bare "" "" ""
def e0 : Env := launch0.env 0 0 0
theorem w_frames : about1.frames = Frame.invoking theMethod args0 :: below0 := rfl
set_option maxRecDepth 65536 in
theorem w_args : argsFit about1.vm theMethod args0 = true := by decide +kernel
set_option maxRecDepth 65536 in
theorem w_heap : heapFits about1 = true := by decide +kernel
set_option maxRecDepth 65536 in
theorem w_runnable : about1.curStatus? = some .runnable := by decide +kernel
set_option maxRecDepth 65536 in
theorem w_alone : about1.alone = true := by decide +kernel
set_option maxRecDepth 65536 in
theorem w_named : about1.methodNamed? x = some theMethod := by decide +kernel
set_option maxRecDepth 65536 in
theorem w_hears : about1.hears theMethod below0 = true := by decide +kernel
set_option maxRecDepth 65536 in
theorem w_ripe : about1.ripe theMethod args0 below0 = true := by decide +kernel
theorem w_running : about1.status = .running := rfl
set_option maxRecDepth 65536 in
theorem w_room : about1.hasRoom e0.platform room_1 = true :=
  launch0.hasRoom_least _ room_1 (by decide +kernel) (by decide +kernel) (by decide +kernel) (by decide +kernel) (by decide +kernel) (by decide +kernel)
theorem allAtoms_all (ts : List Jvm.Cond) (a : Array Jvm.Value) (st : Jvm.State) : (allAtoms ts).before a st = ts.all (fun c => c.before a st) := by
  induction ts with
  | nil => rfl
  | cons c t ih =>
    show (Jvm.Cond.and c (allAtoms t)).before a st = _
    rw [Jvm.Cond.before_and, ih, List.all_cons]
def words1 : List Jvm.Cond := Jvm.Cond.code x code maxLocals ret :: tables_1
/-- a 'code' word, met by the world's own term for the bytes: nothing is compared byte by byte -/
theorem code_word {y : MethodName} {bytes : ByteArray} {mx : Nat} {rt : Option FieldType} {a : Array Value} {s : State} {m : MethodId} {meth : Method} {c : Code} (h1 : s.methodNamed? y = some m) (h2 : s.vm.method? m = some meth) (h3 : meth.code = some c) (h4 : c.code = bytes)
    (h5 : (c.maxLocals == mx && c.exceptionTable.isEmpty && decide (c.maxStack ≤ mostOperands) && decide (meth.sig.returnType = rt) && !meth.locks && decide (parseMethodDescriptor y.desc = some meth.sig)) = true) : (Jvm.Cond.code y bytes mx rt).before a s = true := by
  simp only [Bool.and_eq_true, beq_iff_eq, Bool.not_eq_true', decide_eq_true_eq] at h5
  obtain ⟨⟨⟨⟨⟨g1, g2⟩, g3⟩, g4⟩, g5⟩, g6⟩ := h5
  simp [Cond.before, Cond.holds, Cond.value, h1, h2, h3, h4, g1, g2, g3, g4, g5, g6]
def isCode : Jvm.Cond → Bool
  | .code _ _ _ _ => true
  | _ => false
theorem all_split {L : List Jvm.Cond} {P : Jvm.Cond → Bool} (h1 : L.all (fun c => isCode c || P c) = true) (h2 : ∀ c ∈ L.filter isCode, P c = true) : L.all P = true := by
  refine List.all_eq_true.mpr fun c hc => ?_
  have h := List.all_eq_true.mp h1 c hc
  rcases Bool.eq_false_or_eq_true (isCode c) with hi | hi
  · exact h2 c (List.mem_filter.mpr ⟨hc, hi⟩)
  · simpa [hi] using h
set_option maxRecDepth 65536 in
theorem w_c0 : (Jvm.Cond.code x code maxLocals ret).before args0 about1 = true := code_word (m := ⟨1, 3⟩) (meth := k1m3) (c := k1c3) (by decide +kernel) rfl rfl rfl (by decide +kernel)
set_option maxRecDepth 65536 in
theorem w_c1 : (Jvm.Cond.code ({ cls := "com/example/nimble_gate/nimblegate/policy/TokenIsSymbolPinLaw", name := "mk", desc := "(ICC)Ljava/lang/String;" } : Jvm.MethodName) method_3_code (3 : Nat) (Option.some (Jvm.ClassFile.FieldType.object "java/lang/String"))).before args0 about1 = true := code_word (m := ⟨1, 2⟩) (meth := k1m2) (c := k1c2) (by decide +kernel) rfl rfl rfl (by decide +kernel)
set_option maxRecDepth 65536 in
theorem w_c2 : (Jvm.Cond.code ({ cls := "java/lang/String", name := "<init>", desc := "([C)V" } : Jvm.MethodName) jdk_42_method_3_code (2 : Nat) (Option.none : Option Jvm.ClassFile.FieldType)).before args0 about1 = true := code_word (m := ⟨7, 1⟩) (meth := k7m1) (c := k7c1) (by decide +kernel) rfl rfl rfl (by decide +kernel)
set_option maxRecDepth 65536 in
theorem w_c3 : (Jvm.Cond.code ({ cls := "java/lang/String", name := "<init>", desc := "([CIILjava/lang/Void;)V" } : Jvm.MethodName) jdk_42_method_149_code (6 : Nat) (Option.none : Option Jvm.ClassFile.FieldType)).before args0 about1 = true := code_word (m := ⟨7, 3⟩) (meth := k7m3) (c := k7c3) (by decide +kernel) rfl rfl rfl (by decide +kernel)
set_option maxRecDepth 65536 in
theorem w_c4 : (Jvm.Cond.code ({ cls := "java/lang/Object", name := "<init>", desc := "()V" } : Jvm.MethodName) object_method_1_code (1 : Nat) (Option.none : Option Jvm.ClassFile.FieldType)).before args0 about1 = true := code_word (m := ⟨0, 0⟩) (meth := k0m0) (c := k0c0) (by decide +kernel) rfl rfl rfl (by decide +kernel)
set_option maxRecDepth 65536 in
theorem w_c5 : (Jvm.Cond.code ({ cls := "com/example/nimble_gate/nimblegate/policy/TokenIsSymbolPinLaw", name := "kindOf", desc := "(I)Lcom/example/nimble_gate/nimblegate/policy/Token$Kind;" } : Jvm.MethodName) method_2_code (1 : Nat) (Option.some (Jvm.ClassFile.FieldType.object "com/example/nimble_gate/nimblegate/policy/Token$Kind"))).before args0 about1 = true := code_word (m := ⟨1, 1⟩) (meth := k1m1) (c := k1c1) (by decide +kernel) rfl rfl rfl (by decide +kernel)
set_option maxRecDepth 65536 in
theorem w_c6 : (Jvm.Cond.code ({ cls := "com/example/nimble_gate/nimblegate/policy/Token", name := "<init>", desc := "(Lcom/example/nimble_gate/nimblegate/policy/Token$Kind;Ljava/lang/String;II)V" } : Jvm.MethodName) prog_15_method_1_code (5 : Nat) (Option.none : Option Jvm.ClassFile.FieldType)).before args0 about1 = true := code_word (m := ⟨9, 0⟩) (meth := k9m0) (c := k9c0) (by decide +kernel) rfl rfl rfl (by decide +kernel)
set_option maxRecDepth 65536 in
theorem w_c7 : (Jvm.Cond.code ({ cls := "java/lang/Record", name := "<init>", desc := "()V" } : Jvm.MethodName) jdk_30_method_1_code (1 : Nat) (Option.none : Option Jvm.ClassFile.FieldType)).before args0 about1 = true := code_word (m := ⟨8, 0⟩) (meth := k8m0) (c := k8c0) (by decide +kernel) rfl rfl rfl (by decide +kernel)
set_option maxRecDepth 65536 in
theorem w_c8 : (Jvm.Cond.code ({ cls := "com/example/nimble_gate/nimblegate/policy/Token", name := "isSymbol", desc := "(Ljava/lang/String;)Z" } : Jvm.MethodName) prog_15_method_3_code (2 : Nat) (Option.some Jvm.ClassFile.FieldType.boolean)).before args0 about1 = true := code_word (m := ⟨9, 1⟩) (meth := k9m1) (c := k9c1) (by decide +kernel) rfl rfl rfl (by decide +kernel)
set_option maxRecDepth 65536 in
theorem w_c9 : (Jvm.Cond.code ({ cls := "java/lang/StringUTF16", name := "compress", desc := "([CII)[B" } : Jvm.MethodName) jdk_52_method_16_code (6 : Nat) (Option.some (Jvm.ClassFile.FieldType.array Jvm.ClassFile.FieldType.byte))).before args0 about1 = true := code_word (m := ⟨12, 2⟩) (meth := k12m2) (c := k12c2) (by decide +kernel) rfl rfl rfl (by decide +kernel)
set_option maxRecDepth 65536 in
theorem w_c10 : (Jvm.Cond.code ({ cls := "java/lang/StringUTF16", name := "compress", desc := "([CI[BII)I" } : Jvm.MethodName) jdk_52_method_21_code (7 : Nat) (Option.some Jvm.ClassFile.FieldType.int)).before args0 about1 = true := code_word (m := ⟨12, 3⟩) (meth := k12m3) (c := k12c3) (by decide +kernel) rfl rfl rfl (by decide +kernel)
set_option maxRecDepth 65536 in
theorem w_c11 : (Jvm.Cond.code ({ cls := "java/lang/StringUTF16", name := "coderFromArrayLen", desc := "([BI)B" } : Jvm.MethodName) jdk_52_method_15_code (2 : Nat) (Option.some Jvm.ClassFile.FieldType.byte)).before args0 about1 = true := code_word (m := ⟨12, 1⟩) (meth := k12m1) (c := k12c1) (by decide +kernel) rfl rfl rfl (by decide +kernel)
set_option maxRecDepth 65536 in
theorem w_c12 : (Jvm.Cond.code ({ cls := "java/lang/String", name := "equals", desc := "(Ljava/lang/Object;)Z" } : Jvm.MethodName) jdk_42_method_66_code (3 : Nat) (Option.some Jvm.ClassFile.FieldType.boolean)).before args0 about1 = true := code_word (m := ⟨7, 2⟩) (meth := k7m2) (c := k7c2) (by decide +kernel) rfl rfl rfl (by decide +kernel)
set_option maxRecDepth 65536 in
theorem w_c13 : (Jvm.Cond.code ({ cls := "java/lang/StringLatin1", name := "equals", desc := "([B[B)Z" } : Jvm.MethodName) jdk_43_method_13_code (3 : Nat) (Option.some Jvm.ClassFile.FieldType.boolean)).before args0 about1 = true := code_word (m := ⟨13, 1⟩) (meth := k13m1) (c := k13c1) (by decide +kernel) rfl rfl rfl (by decide +kernel)
def codes1 : List Jvm.Cond := [Jvm.Cond.code x code maxLocals ret, Jvm.Cond.code ({ cls := "com/example/nimble_gate/nimblegate/policy/TokenIsSymbolPinLaw", name := "mk", desc := "(ICC)Ljava/lang/String;" } : Jvm.MethodName) method_3_code (3 : Nat) (Option.some (Jvm.ClassFile.FieldType.object "java/lang/String")), Jvm.Cond.code ({ cls := "java/lang/String", name := "<init>", desc := "([C)V" } : Jvm.MethodName) jdk_42_method_3_code (2 : Nat) (Option.none : Option Jvm.ClassFile.FieldType), Jvm.Cond.code ({ cls := "java/lang/String", name := "<init>", desc := "([CIILjava/lang/Void;)V" } : Jvm.MethodName) jdk_42_method_149_code (6 : Nat) (Option.none : Option Jvm.ClassFile.FieldType), Jvm.Cond.code ({ cls := "java/lang/Object", name := "<init>", desc := "()V" } : Jvm.MethodName) object_method_1_code (1 : Nat) (Option.none : Option Jvm.ClassFile.FieldType), Jvm.Cond.code ({ cls := "com/example/nimble_gate/nimblegate/policy/TokenIsSymbolPinLaw", name := "kindOf", desc := "(I)Lcom/example/nimble_gate/nimblegate/policy/Token$Kind;" } : Jvm.MethodName) method_2_code (1 : Nat) (Option.some (Jvm.ClassFile.FieldType.object "com/example/nimble_gate/nimblegate/policy/Token$Kind")), Jvm.Cond.code ({ cls := "com/example/nimble_gate/nimblegate/policy/Token", name := "<init>", desc := "(Lcom/example/nimble_gate/nimblegate/policy/Token$Kind;Ljava/lang/String;II)V" } : Jvm.MethodName) prog_15_method_1_code (5 : Nat) (Option.none : Option Jvm.ClassFile.FieldType), Jvm.Cond.code ({ cls := "java/lang/Record", name := "<init>", desc := "()V" } : Jvm.MethodName) jdk_30_method_1_code (1 : Nat) (Option.none : Option Jvm.ClassFile.FieldType), Jvm.Cond.code ({ cls := "com/example/nimble_gate/nimblegate/policy/Token", name := "isSymbol", desc := "(Ljava/lang/String;)Z" } : Jvm.MethodName) prog_15_method_3_code (2 : Nat) (Option.some Jvm.ClassFile.FieldType.boolean), Jvm.Cond.code ({ cls := "java/lang/StringUTF16", name := "compress", desc := "([CII)[B" } : Jvm.MethodName) jdk_52_method_16_code (6 : Nat) (Option.some (Jvm.ClassFile.FieldType.array Jvm.ClassFile.FieldType.byte)), Jvm.Cond.code ({ cls := "java/lang/StringUTF16", name := "compress", desc := "([CI[BII)I" } : Jvm.MethodName) jdk_52_method_21_code (7 : Nat) (Option.some Jvm.ClassFile.FieldType.int), Jvm.Cond.code ({ cls := "java/lang/StringUTF16", name := "coderFromArrayLen", desc := "([BI)B" } : Jvm.MethodName) jdk_52_method_15_code (2 : Nat) (Option.some Jvm.ClassFile.FieldType.byte), Jvm.Cond.code ({ cls := "java/lang/String", name := "equals", desc := "(Ljava/lang/Object;)Z" } : Jvm.MethodName) jdk_42_method_66_code (3 : Nat) (Option.some Jvm.ClassFile.FieldType.boolean), Jvm.Cond.code ({ cls := "java/lang/StringLatin1", name := "equals", desc := "([B[B)Z" } : Jvm.MethodName) jdk_43_method_13_code (3 : Nat) (Option.some Jvm.ClassFile.FieldType.boolean)]
set_option maxRecDepth 65536 in
theorem codes_eq : words1.filter isCode = codes1 := rfl
theorem w_codes : ∀ c ∈ words1.filter isCode, c.before args0 about1 = true := by
  rw [codes_eq]
  intro c hc
  simp only [codes1, List.mem_cons, List.not_mem_nil, or_false] at hc
  rcases hc with rfl | rfl | rfl | rfl | rfl | rfl | rfl | rfl | rfl | rfl | rfl | rfl | rfl | rfl
  · exact w_c0
  · exact w_c1
  · exact w_c2
  · exact w_c3
  · exact w_c4
  · exact w_c5
  · exact w_c6
  · exact w_c7
  · exact w_c8
  · exact w_c9
  · exact w_c10
  · exact w_c11
  · exact w_c12
  · exact w_c13
set_option maxRecDepth 65536 in
theorem w_t1 : (words1.take 24).all (fun c => isCode c || c.before args0 about1) = true := by decide +kernel
set_option maxRecDepth 65536 in
theorem w_t2 : ((words1.drop 24).take 24).all (fun c => isCode c || c.before args0 about1) = true := by decide +kernel
set_option maxRecDepth 65536 in
theorem w_t3 : (((words1.drop 24).drop 24).take 24).all (fun c => isCode c || c.before args0 about1) = true := by decide +kernel
set_option maxRecDepth 65536 in
theorem w_t4 : (((words1.drop 24).drop 24).drop 24).all (fun c => isCode c || c.before args0 about1) = true := by decide +kernel
theorem w_tables : (allAtoms (Jvm.Cond.code x code maxLocals ret :: tables_1)).before args0 about1 = true := by
  rw [allAtoms_all]
  show words1.all (fun c => c.before args0 about1) = true
  refine all_split ?_ w_codes
  rw [← List.take_append_drop 24 words1, List.all_append, w_t1, ← List.take_append_drop 24 (words1.drop 24), List.all_append, w_t2, ← List.take_append_drop 24 ((words1.drop 24).drop 24), List.all_append, w_t3, w_t4]
  rfl
set_option maxRecDepth 65536 in
theorem w_rest : rest_1_c.before args0 about1 = true := by decide +kernel
set_option maxRecDepth 65536 in
theorem w_case : (Jvm.Cond.and given_1 narrow_1).before args0 about1 = true := by decide +kernel
set_option maxRecDepth 65536 in
theorem w_consts : constsHeld consts_1 about1 := Jvm.Lit.constsHeldB_iff.mp (by decide +kernel)
theorem w_applies : (headSpec (Jvm.Cond.code x code maxLocals ret :: tables_1) room_1).applies x e0.platform about1 = true :=
  (Spec.applies_iff w_frames).mpr ⟨w_running, w_runnable, w_alone, w_named, w_hears, w_ripe, w_room, w_tables⟩
theorem atStart : AtStart classFile x code maxLocals ret World_1 tables_1 room_1 Calls_1 rest_1 Pre_1 launch0 p0 e0 about1 theMethod args0 below0 :=
  ⟨lists_1, trivial, launch0.admits_env _ _ _, launch0.least_env, fairChoices_fair.cas, fairChoices_fair.clock, w_frames, w_args, w_heap, w_applies, ⟨w_consts, trivial⟩, w_rest, w_case⟩
end start1
theorem witness_1 : WitnessClaimed_1 := ⟨start1.p0, start1.e0, start1.about1, start1.theMethod, start1.args0, start1.below0, start1.atStart⟩
end Jvm.Pilot.@@N@@
