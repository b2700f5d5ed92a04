import JvmDerived
import JvmDerived.Pilot.@@N@@Statement
import JvmDerived.Pilot.@@N@@Code
set_option linter.unusedVariables false
set_option linter.unusedSimpArgs false
namespace Jvm.Pilot.@@N@@
open Jvm Jvm.ClassFile Sem Op Lib Jvm.Free Jvm.Stand Jvm.LawKit Jvm.RoadKit Bundle Jvm.Pilot.@@N@@.Jvm.D
abbrev oI (x : Int32) : Slot := .val (.int x)
abbrev oR (x : Addr) : Slot := .val (.ref x)
abbrev oD (x : UInt64) : Slot := .val (.double x)
abbrev oF (x : UInt32) : Slot := .val (.float x)
abbrev oJ (x : Int64) : Slot := .val (.long x)
section Own
variable {p : Program} {l : Launch} {e : Env} {R : Room} {s : State} {m : MethodId} {args : Array Value} {below : List Frame} {meth : Method} {c : Code} {T T' : State} {locs : List Loc} {cells slots : Nat} {Z : State} {a0 : Array Value} {h h0 : Heap} {K : State → Outcome → Prop} {Q : Option Value → Heap → List Loc → Prop}
/-- from the frame g over the state T the run comes to an end that K takes -/
def own_Go (p : Program) (e : Env) (below : List Frame) (K : State → Outcome → Prop) (T : State) (g : JFrame) : Prop :=
  ∃ s₂ o, Steps p.tables e below (T.setTop g) s₂ ∧ s₂.status = .running ∧ Ended s₂ below o ∧ K s₂ o
theorem own_by {g g' : JFrame} (h : ∀ t, Steps p.tables e below (T'.setTop g') t → Steps p.tables e below (T.setTop g) t) (k : own_Go p e below K T' g') : own_Go p e below K T g := by
  obtain ⟨s2, o, h1, h2⟩ := k
  exact ⟨s2, o, h _ h1, h2⟩
def own_K (s : State) (k n : Nat) (Q : Option Value → Heap → List Loc → Prop) (t : State) (o : Outcome) : Prop := ∃ v L, o = .returned v ∧ Q v t.heap L ∧ FrameEnd s o t L k n
def own_Met (l : Launch) (y : MethodName) (bytes : ByteArray) (mx : Nat) (ret : Option FieldType) (ws : List Jvm.Cond) (rm : Room) (Z : State) (as' : Array Value) (h0 : Heap) (Q : Option Value → Heap → List Loc → Prop) : Prop :=
  MetFree l y (head1 (Jvm.Cond.code y bytes mx ret :: ws) rm) (fun a U => a = as' ∧ Z.Warmed39 U.vm ∧ U.heap = h0) (fun _ _ _ _ _ => True) (fun _ U o U' => ∃ v L, o = .returned v ∧ Q v U'.heap L ∧ FrameEnd U o U' L rm.cells rm.slots)
theorem own_enter {y : MethodName} {bytes : ByteArray} {mx : Nat} {ret : Option FieldType} {ws : List Jvm.Cond} {rm : Room} {as' : Array Value} (hn : plainFor y = true)
    (body : ∀ (p : Program) (e : Env) (s : State) (m : MethodId) (below : List Frame) (meth : Method) (c : Code) (T0 : State), p.tables.exec = Jvm.exec → c.code = bytes → c.maxLocals = mx → meth.sig.returnType = ret → meth.locks = false → s.vm.findClass y.cls = some m.cls → meth.name = y.name → Z.Warmed39 s.vm →
      Stand p l e rm s m as' below meth c T0 [] 0 0 → T0.heap = h0 → own_Go p e below (own_K s rm.cells rm.slots Q) T0 (entryFrame m as' mx)) : own_Met l y bytes mx ret ws rm Z as' h0 Q := by
  refine MetFree.of_bodySF hn hisR ?_
  intro p e s m args below meth c s₁ Bd hml hP hK
  obtain ⟨rfl, hZ, hh⟩ := hP
  obtain ⟨s2, o, h1, h2, h3, h4⟩ := body p e s m below meth c s₁ Bd.exec Bd.bytes hml Bd.returns Bd.notSynchronized (findClass_of_methodNamed Bd.named) (name_of_methodNamed Bd.named Bd.method).1 hZ (Stand.of_body Bd) (by rw [← hh, Bd.state]; rfl)
  exact ⟨s2, o, h1, h2, h3, h4⟩
theorem own_at {g g' : JFrame} (q : g = g') (k : own_Go p e below K T g') : own_Go p e below K T g := q ▸ k
theorem own_leave (X : Stand p l e R s m args below meth c T locs cells slots) (hlk : meth.locks = false) {v : Option Value} {k n : Nat} (hv : meth.sig.returnType = none → v = none) {g : JFrame}
    (step : ∀ fs, (∀ (f : JFrame) (acts : List Action), f.method = m → f.locked = none → f.entered = [] → (doReturn e (T.setTop f) acts v).1 = T.setFrames fs) → Steps p.tables e below (T.setTop g) (T.setFrames fs)) (hk : cells ≤ k) (hn : slots ≤ n) (hQ : Q v T.heap locs) : own_Go p e below (own_K s k n Q) T g := by
  obtain ⟨fs, hr, hrun, hended, hW, hsame⟩ := X.leave (v := v) hv hlk
  exact ⟨_, _, step fs hr, hrun, hended, v, locs, rfl, hQ, ⟨_, rfl⟩, hW, hsame.mono hk hn⟩
theorem own_retI (X : Stand p l e R s m args below meth c T locs cells slots) (hx : p.tables.exec = Jvm.exec) (hlk : meth.locks = false) (hret : meth.sig.returnType = some .int) {pc : Nat} {Ls : Array Slot} {z : Int32} {rest : List Value} {k n : Nat} (hd : decode c.code pc = .ok (.ireturn, 1)) (hk : cells ≤ k) (hn : slots ≤ n) (hQ : Q (some (.int z)) T.heap locs) :
    own_Go p e below (own_K s k n Q) T (mkF m pc Ls (.int z :: rest)) := by
  refine own_leave X hlk (v := some (.int z)) (fun h => by rw [hret] at h; cases h) (fun fs hl => ?_) hk hn hQ
  have hm' : T.vm.method? m = some meth := X.method'
  have hn : narrow .int (.int z) = .int z := rfl
  show Steps p.tables e below (T.setTop { method := m, pc := pc, locals := Ls, stack := _ :: rest, locked := none }) _
  jvm_step X.here [X.here.top, hx, hd, hm', hret, hn]
  first | (intro acts; rw [hl _ acts rfl rfl rfl]) | rw [hl _ _ rfl rfl rfl]
  exact Steps.refl _
theorem own_retN (X : Stand p l e R s m args below meth c T locs cells slots) (hx : p.tables.exec = Jvm.exec) (hlk : meth.locks = false) {t : FieldType} (hret : meth.sig.returnType = some t) (ht : t = .boolean ∨ t = .byte ∨ t = .char ∨ t = .short) {pc : Nat} {Ls : Array Slot} {z w : Int32} {rest : List Value} {k n : Nat} (hd : decode c.code pc = .ok (.ireturn, 1)) (hw : nar t z = w) (hk : cells ≤ k) (hn : slots ≤ n) (hQ : Q (some (.int w)) T.heap locs) :
    own_Go p e below (own_K s k n Q) T (mkF m pc Ls (.int z :: rest)) := by
  subst hw
  exact own_leave X hlk (v := some (.int (nar t z))) (fun h => by rw [hret] at h; cases h) (fun fs hl => retN X hx hret ht hd hl) hk hn hQ
theorem own_retA (X : Stand p l e R s m args below meth c T locs cells slots) (hx : p.tables.exec = Jvm.exec) (hlk : meth.locks = false) {t : FieldType} (hret : meth.sig.returnType = some t) (ht : t.isReference = true) {pc : Nat} {Ls : Array Slot} {v : Value} (hv : v.isRef = true) {rest : List Value} {k n : Nat} (hd : decode c.code pc = .ok (.areturn, 1)) (hk : cells ≤ k) (hn : slots ≤ n) (hQ : Q (some v) T.heap locs) :
    own_Go p e below (own_K s k n Q) T (mkF m pc Ls (v :: rest)) :=
  own_leave X hlk (v := some v) (fun h => by rw [hret] at h; cases h) (fun fs hl => retOut X hx hret (by cases t <;> first | (cases ht; done) | (rcases ref_cases hv with rfl | ⟨a, rfl⟩ <;> rfl)) (Or.inr (Or.inr (Or.inr (Or.inr ⟨rfl, ht, hv⟩)))) hd hl) hk hn hQ
theorem own_retV (X : Stand p l e R s m args below meth c T locs cells slots) (hx : p.tables.exec = Jvm.exec) (hlk : meth.locks = false) (hret : meth.sig.returnType = none) {pc : Nat} {Ls : Array Slot} {k n : Nat} (hd : decode c.code pc = .ok (.return_, 1)) (hk : cells ≤ k) (hn : slots ≤ n) (hQ : Q none T.heap locs) :
    own_Go p e below (own_K s k n Q) T (mkF m pc Ls []) :=
  own_leave X hlk (v := none) (fun _ => rfl) (fun fs hl => X.returnOut hx hret hd hl) hk hn hQ
theorem own_callS (X : Stand p l e R s m args below meth c T locs cells slots) (hx : p.tables.exec = Jvm.exec) (hZ : Z.Warmed39 s.vm) {own : String} {index : Nat} {y : MethodName} {bytes : ByteArray} {mx : Nat} {ret : Option FieldType} {rm : Room} (hown : s.vm.findClass own = some m.cls) (w1 : (Jvm.Cond.methodLink own index y).before a0 Z = true) (w2 : (Jvm.Cond.static y).before a0 Z = true) (w3 : (Jvm.Cond.initialized y.cls).before a0 Z = true) (w4 : (Jvm.Cond.code y bytes mx ret).before a0 Z = true)
    (hy : y.cls ≠ "java/lang/invoke/MethodHandle" ∧ y.cls ≠ "java/lang/invoke/VarHandle") (eT : T.heap = h) {argsL rest : List Value} (M : own_Met l y bytes mx ret [] rm Z argsL.toArray h Q) (W : Nat) (hf : rm.frames + 1 ≤ R.frames) (hl : W + (mx + 11) + rm.locals ≤ R.locals) {pc : Nat} {Ls : Array Slot} (hsize : Ls.size = c.maxLocals)
    (hlen : ∀ sig, parseMethodDescriptor y.desc = some sig → argsL.length = sig.parameters.length) (hW : (rest.map fun v => v.category).sum ≤ W) (hd : decode c.code pc = .ok (.invokestatic index, 3)) (hc : cells + rm.cells ≤ R.cells) (hs : slots + rm.slots ≤ R.slots) {st : List Value} (hst : st = argsL.reverse ++ rest)
    (k : ∀ (T' : State) (L : List Loc) (v : Option Value), Stand p l e R s m args below meth c T' (locs ++ L) (cells + rm.cells) (slots + rm.slots) → Q v T'.heap L → own_Go p e below K T' (mkF m (pc + 3) Ls (v.toList ++ rest))) : own_Go p e below K T (mkF m pc Ls st) := by
  obtain ⟨v, _, ⟨T1, L1, k1, n1⟩, -, X1, ⟨Lc, hQ, l1, y1, z1⟩, stp⟩ := Jvm.LawKit.callS X hx hown (mvT hZ w1) (mvT hZ w2) (mvT hZ w3) (mvT hZ w4) hy (backOf (W := W) M hZ w4 w3 hf hl) (g := mkF m pc Ls st) rfl hsize (argsL := argsL) (rest := rest) hlen hst (by show 2 * 0 + _ ≤ _; omega) hd (fun _ _ => ⟨rfl, eT, hc, hs⟩)
  dsimp only [Pt.U, Pt.locs, Pt.cells, Pt.slots] at X1 l1 y1 z1 stp hQ
  subst l1 y1 z1
  exact own_by stp (k T1 Lc v X1 hQ)
theorem own_callV (X : Stand p l e R s m args below meth c T locs cells slots) (hx : p.tables.exec = Jvm.exec) (hZ : Z.Warmed39 s.vm) {own C : String} {index : Nat} {y : MethodName} {bytes : ByteArray} {mx : Nat} {ret : Option FieldType} {rm : Room} (hown : s.vm.findClass own = some m.cls) (w1 : (Jvm.Cond.methodLink own index y).before a0 Z = true) (w2 : (Jvm.Cond.declares y).before a0 Z = true) (w3 : (Jvm.Cond.selects C y y).before a0 Z = true) (w4 : (Jvm.Cond.instanceMethod y).before a0 Z = true) (w5 : (Jvm.Cond.code y bytes mx ret).before a0 Z = true) (w6 : (Jvm.Cond.initialized y.cls).before a0 Z = true)
    (hy : y.cls ≠ "java/lang/invoke/MethodHandle" ∧ y.cls ≠ "java/lang/invoke/VarHandle") (eT : T.heap = h) {b : Addr} (E : Exa Z h b C) {argsL rest : List Value} (M : own_Met l y bytes mx ret [] rm Z (.ref b :: argsL).toArray h Q) (W : Nat) (hf : rm.frames + 1 ≤ R.frames) (hl : W + (mx + 11) + rm.locals ≤ R.locals) {pc : Nat} {Ls : Array Slot} (hsize : Ls.size = c.maxLocals)
    (hlen : ∀ sig, parseMethodDescriptor y.desc = some sig → argsL.length = sig.parameters.length) (hW : (rest.map fun v => v.category).sum ≤ W) (hd : decode c.code pc = .ok (.invokevirtual index, 3)) (hc : cells + rm.cells ≤ R.cells) (hs : slots + rm.slots ≤ R.slots) {st : List Value} (hst : st = argsL.reverse ++ .ref b :: rest)
    (k : ∀ (T' : State) (L : List Loc) (v : Option Value), Stand p l e R s m args below meth c T' (locs ++ L) (cells + rm.cells) (slots + rm.slots) → Q v T'.heap L → own_Go p e below K T' (mkF m (pc + 3) Ls (v.toList ++ rest))) : own_Go p e below K T (mkF m pc Ls st) := by
  obtain ⟨cq, kq, qa, qb, qc⟩ := isOf (T := T) hZ eT E
  obtain ⟨v, _, ⟨T1, L1, k1, n1⟩, -, X1, ⟨Lc, hQ, l1, y1, z1⟩, stp⟩ := X.virtualBack hx hown (mvT hZ w1) (mvT hZ w2) (notFace_of_selects (args := #[]) (mvT hZ w3)) (mvT hZ w3) (mvT hZ w4) hy (backOf (W := W) M hZ w5 w6 hf hl) qa qc (g := mkF m pc Ls st) rfl hsize (Steps.refl _) (argsL := argsL) (rest := rest) hlen hst (by show 2 * 0 + _ ≤ _; omega) hd (fun _ _ => ⟨rfl, eT, hc, hs⟩)
  dsimp only [Pt.U, Pt.locs, Pt.cells, Pt.slots] at X1 l1 y1 z1 stp hQ
  subst l1 y1 z1
  exact own_by (fun t q => stp.trans q) (k T1 Lc v X1 hQ)
theorem own_callN (X : Stand p l e R s m args below meth c T locs cells slots) (hx : p.tables.exec = Jvm.exec) (hZ : Z.Warmed39 s.vm) {own : String} {index : Nat} {y : MethodName} {bytes : ByteArray} {mx : Nat} {rm : Room} (hy1 : y.name = "<init>") (hown : s.vm.findClass own = some m.cls) (w1 : (Jvm.Cond.methodLink own index y).before a0 Z = true) (w2 : (Jvm.Cond.instanceMethod y).before a0 Z = true) (w3 : (Jvm.Cond.code y bytes mx none).before a0 Z = true) (w4 : (Jvm.Cond.initialized y.cls).before a0 Z = true)
    (hy : y.cls ≠ "java/lang/invoke/MethodHandle" ∧ y.cls ≠ "java/lang/invoke/VarHandle") (eT : T.heap = h) {b : Addr} {argsL rest : List Value} (M : own_Met l y bytes mx none [] rm Z (.ref b :: argsL).toArray h Q) (W : Nat) (hf : rm.frames + 1 ≤ R.frames) (hl : W + (mx + 11) + rm.locals ≤ R.locals) {pc : Nat} {Ls : Array Slot} (hsize : Ls.size = c.maxLocals)
    (hlen : ∀ sig, parseMethodDescriptor y.desc = some sig → argsL.length = sig.parameters.length) (hW : (rest.map fun v => v.category).sum ≤ W) (hd : decode c.code pc = .ok (.invokespecial index, 3)) (hc : cells + rm.cells ≤ R.cells) (hs : slots + rm.slots ≤ R.slots) {st : List Value} (hst : st = argsL.reverse ++ .ref b :: rest)
    (k : ∀ (T' : State) (L : List Loc) (v : Option Value), Stand p l e R s m args below meth c T' (locs ++ L) (cells + rm.cells) (slots + rm.slots) → Q v T'.heap L → own_Go p e below K T' (mkF m (pc + 3) Ls (v.toList ++ rest))) : own_Go p e below K T (mkF m pc Ls st) := by
  obtain ⟨v, _, ⟨T1, L1, k1, n1⟩, -, X1, ⟨Lc, hQ, l1, y1, z1⟩, stp⟩ := X.specialBack hx hy1 hown (mvT hZ w1) (mvT hZ w2) (mvT hZ w3) hy (backOf (W := W) M hZ w3 w4 hf hl) (g := mkF m pc Ls st) rfl hsize (Steps.refl _) (a := b) (argsL := argsL) (rest := rest) hlen hst (by show 2 * 0 + _ ≤ _; omega) hd (fun _ _ => ⟨rfl, eT, hc, hs⟩)
  dsimp only [Pt.U, Pt.locs, Pt.cells, Pt.slots] at X1 l1 y1 z1 stp hQ
  subst l1 y1 z1
  exact own_by (fun t q => stp.trans q) (k T1 Lc v X1 hQ)
end Own
section OwnHeap
variable {p : Program} {l : Launch} {e : Env} {R : Room} {s : State} {m : MethodId} {args : Array Value} {below : List Frame} {meth : Method} {c : Code} {T T' : State} {locs : List Loc} {cells slots : Nat} {Z : State} {a0 : Array Value} {h h' h0 : Heap} {K : State → Outcome → Prop} {Q : Option Value → Heap → List Loc → Prop} {a b : Addr} {ty : FieldType} {k : ClassId} {vs : List Value} {ws : List Addr} {sl : Nat} {v w : Value} {C n d : String}
/-- the array at a, of the class k, holds just vs -/
def own_A (Z : State) (h : Heap) (a : Addr) (ty : FieldType) (k : ClassId) (vs : List Value) : Prop := ∃ c : Cell, Arr Z h a c ty ∧ c.cls = k ∧ c.slots.toList = vs
theorem own_A.ext (V : own_A Z h a ty k vs) (E : Ext h h') : own_A Z h' a ty k vs := by obtain ⟨c, A, r⟩ := V; exact ⟨c, A.ext E, r⟩
theorem own_A.keep (V : own_A Z h a ty k vs) (K : Keep h h' ws) (q : a ∉ ws) : own_A Z h' a ty k vs := by obtain ⟨c, A, r⟩ := V; exact ⟨c, ⟨K.2.1 a c A.1 q, A.2⟩, r⟩
theorem own_A.other (V : own_A Z h b ty k vs) (W : Wr h h' a sl v) (q : b ≠ a) : own_A Z h' b ty k vs := by obtain ⟨c, A, r⟩ := V; exact ⟨c, A.other W q, r⟩
theorem own_A.set (V : own_A Z h a ty k vs) (W : Wr h h' a sl v) : own_A Z h' a ty k (vs.set sl v) := by
  obtain ⟨c, A, r1, r2⟩ := V
  exact ⟨_, A.same W, r1, by rw [← r2]; simp [Cell.setSlot]⟩
theorem own_A.lt (V : own_A Z h a ty k vs) : a < h.size := by obtain ⟨c, A, -⟩ := V; exact A.lt
theorem own_ek (E : Ext h h') : Keep h h' [] := (Keep.refl h []).ext E
theorem own_stak (F : Sta Z h C n d v) (K : Keep h h' []) : Sta Z h' C n d v := by
  obtain ⟨cf, i, k, f, st, cell, h1, h2, h3, h4, h5, r⟩ := F
  exact ⟨cf, i, k, f, st, cell, h1, h2, h3, h4, K.2.1 _ _ h5 nin0, r⟩
theorem own_in {c : Cell} (q : c.slots.toList = vs) {j : Int32} (hj : ¬ j < 0) (hi : j.toNatClampNeg < vs.length) : ¬ (j < 0 ∨ c.slots.size ≤ j.toNatClampNeg) := by
  rintro (h | h)
  · exact hj h
  · rw [← q, Array.length_toList] at hi; omega
theorem own_get {c : Cell} (q : c.slots.toList = vs) (i : Nat) : c.slots[i]? = vs[i]? := by rw [← q, Array.getElem?_toList]
theorem own_newP (X : Stand p l e R s m args below meth c T locs cells slots) (hx : p.tables.exec = Jvm.exec) (hZ : Z.Warmed39 s.vm) {aty : ArrayType} (w : (Jvm.Cond.arrayClass (newarray.typeOf aty)).before a0 Z = true) (eT : T.heap = h) {pc : Nat} {Ls : Array Slot} {n : Int32} {rest : List Value} (hd : decode c.code pc = .ok (.newarray aty, 2)) (N cap : Nat) (hN : n.toNatClampNeg = N) (hn : ¬ n < 0) (hcap : N ≤ cap) (hb : cap * 8 ≤ 536870912) (hc : cells + 1 ≤ R.cells) (hl : slots + cap ≤ R.slots)
    (kk : ∀ (T' : State) (h' : Heap) (cA : ClassId), Stand p l e R s m args below meth c T' locs (cells + 1) (slots + cap) → T'.heap = h' → Ext h h' → own_A Z h' h.size (newarray.typeOf aty) cA (List.replicate N (defaultValue (newarray.typeOf aty))) → own_Go p e below K T' (mkF m (pc + 2) Ls (.ref h.size :: rest))) :
    own_Go p e below K T (mkF m pc Ls (.int n :: rest)) := by
  obtain ⟨T', h', cA, X', e', E, A, st⟩ := newP X hx hZ w eT (g := mkF m pc Ls (.int n :: rest)) rfl hd (n := n) (rest := rest) rfl hn (cap := cap) (by rw [hN]; exact hcap) hb hc hl
  exact own_by st (kk T' h' cA X' e' E ⟨_, A, rfl, by simp [newA, hN]⟩)
theorem own_newR (X : Stand p l e R s m args below meth c T locs cells slots) (hx : p.tables.exec = Jvm.exec) (hZ : Z.Warmed39 s.vm) {own C : String} {index : Nat} (hown : s.vm.findClass own = some m.cls) (w1 : (Jvm.Cond.classLink own index C).before a0 Z = true) (w2 : (Jvm.Cond.arrayOver (.object C)).before a0 Z = true) (eT : T.heap = h) {pc : Nat} {Ls : Array Slot} {n : Int32} {rest : List Value} (hd : decode c.code pc = .ok (.anewarray index, 3)) (N cap : Nat) (hN : n.toNatClampNeg = N) (hn : ¬ n < 0) (hcap : N ≤ cap) (hb : cap * 8 ≤ 536870912) (hc : cells + 1 ≤ R.cells) (hl : slots + cap ≤ R.slots)
    (kk : ∀ (T' : State) (h' : Heap) (cA : ClassId), Stand p l e R s m args below meth c T' locs (cells + 1) (slots + cap) → T'.heap = h' → Ext h h' → own_A Z h' h.size (.object C) cA (List.replicate N .null) → Ovr Z cA C → own_Go p e below K T' (mkF m (pc + 3) Ls (.ref h.size :: rest))) :
    own_Go p e below K T (mkF m pc Ls (.int n :: rest)) := by
  obtain ⟨T', h', cA, X', e', E, A, O, st⟩ := newR X hx hZ hown w1 w2 eT (g := mkF m pc Ls (.int n :: rest)) rfl hd (n := n) (rest := rest) rfl hn (cap := cap) (by rw [hN]; exact hcap) hb hc hl
  exact own_by st (kk T' h' cA X' e' E ⟨_, A, rfl, by simp [newA, hN, defaultValue]⟩ O)
theorem own_stI (X : Stand p l e R s m args below meth c T locs cells slots) (hx : p.tables.exec = Jvm.exec) (hZ : Z.Warmed39 s.vm) (eT : T.heap = h) (V : own_A Z h a .int k vs) {j x : Int32} (i : Nat) (hi : j.toNatClampNeg = i) (hj : ¬ j < 0) (hl : i < vs.length) {pc : Nat} {Ls : Array Slot} {rest : List Value} (hd : decode c.code pc = .ok (.iastore, 1))
    (kk : ∀ (T' : State) (h' : Heap), Stand p l e R s m args below meth c T' (locs ++ [⟨a, i⟩]) cells slots → T'.heap = h' → Wr h h' a i (.int x) → own_A Z h' a .int k (vs.set i (.int x)) → own_Go p e below K T' (mkF m (pc + 1) Ls rest)) :
    own_Go p e below K T (mkF m pc Ls (.int x :: .int j :: .ref a :: rest)) := by
  subst hi
  obtain ⟨cl, A, q1, q2⟩ := V
  obtain ⟨T', h', X', e', W, st⟩ := stI X hx hZ eT A (j := j) (x := x) (own_in q2 hj hl) (g := mkF m pc Ls (.int x :: .int j :: .ref a :: rest)) rfl rfl hd
  exact own_by st (kk T' h' X' e' W (own_A.set ⟨cl, A, q1, q2⟩ W))
theorem own_stC (X : Stand p l e R s m args below meth c T locs cells slots) (hx : p.tables.exec = Jvm.exec) (hZ : Z.Warmed39 s.vm) (eT : T.heap = h) (V : own_A Z h a .char k vs) {j x y : Int32} (i : Nat) (hi : j.toNatClampNeg = i) (hj : ¬ j < 0) (hl : i < vs.length) (hy : nar .char x = y) {pc : Nat} {Ls : Array Slot} {rest : List Value} (hd : decode c.code pc = .ok (.castore, 1))
    (kk : ∀ (T' : State) (h' : Heap), Stand p l e R s m args below meth c T' (locs ++ [⟨a, i⟩]) cells slots → T'.heap = h' → Wr h h' a i (.int y) → own_A Z h' a .char k (vs.set i (.int y)) → own_Go p e below K T' (mkF m (pc + 1) Ls rest)) :
    own_Go p e below K T (mkF m pc Ls (.int x :: .int j :: .ref a :: rest)) := by
  subst hi; subst hy
  obtain ⟨cl, A, q1, q2⟩ := V
  obtain ⟨T', h', X', e', W, st⟩ := stC X hx hZ eT A (j := j) (x := x) (own_in q2 hj hl) (g := mkF m pc Ls (.int x :: .int j :: .ref a :: rest)) rfl rfl hd
  exact own_by st (kk T' h' X' e' W (own_A.set ⟨cl, A, q1, q2⟩ W))
theorem own_stZ (X : Stand p l e R s m args below meth c T locs cells slots) (hx : p.tables.exec = Jvm.exec) (hZ : Z.Warmed39 s.vm) (eT : T.heap = h) (V : own_A Z h a .boolean k vs) {j x y : Int32} (i : Nat) (hi : j.toNatClampNeg = i) (hj : ¬ j < 0) (hl : i < vs.length) (hy : nar .boolean x = y) {pc : Nat} {Ls : Array Slot} {rest : List Value} (hd : decode c.code pc = .ok (.bastore, 1))
    (kk : ∀ (T' : State) (h' : Heap), Stand p l e R s m args below meth c T' (locs ++ [⟨a, i⟩]) cells slots → T'.heap = h' → Wr h h' a i (.int y) → own_A Z h' a .boolean k (vs.set i (.int y)) → own_Go p e below K T' (mkF m (pc + 1) Ls rest)) :
    own_Go p e below K T (mkF m pc Ls (.int x :: .int j :: .ref a :: rest)) := by
  subst hi; subst hy
  obtain ⟨cl, A, q1, q2⟩ := V
  obtain ⟨T', h', X', e', W, st⟩ := stZ X hx hZ eT A (j := j) (x := x) (own_in q2 hj hl) (g := mkF m pc Ls (.int x :: .int j :: .ref a :: rest)) rfl rfl hd
  exact own_by st (kk T' h' X' e' W (own_A.set ⟨cl, A, q1, q2⟩ W))
theorem own_stR (X : Stand p l e R s m args below meth c T locs cells slots) (hx : p.tables.exec = Jvm.exec) (hZ : Z.Warmed39 s.vm) (eT : T.heap = h) (V : own_A Z h a ty k vs) (hty : ty.isReference = true) {j : Int32} {v : Value} (i : Nat) (hi : j.toNatClampNeg = i) (hj : ¬ j < 0) (hl : i < vs.length) (F : Sto Z h a v) {pc : Nat} {Ls : Array Slot} {rest : List Value} (hd : decode c.code pc = .ok (.aastore, 1))
    (kk : ∀ (T' : State) (h' : Heap), Stand p l e R s m args below meth c T' (locs ++ [⟨a, i⟩]) cells slots → T'.heap = h' → Wr h h' a i v → own_A Z h' a ty k (vs.set i v) → own_Go p e below K T' (mkF m (pc + 1) Ls rest)) :
    own_Go p e below K T (mkF m pc Ls (v :: .int j :: .ref a :: rest)) := by
  subst hi
  obtain ⟨cl, A, q1, q2⟩ := V
  obtain ⟨T', h', X', e', W, st⟩ := stR X hx hZ eT A (j := j) (v := v) (own_in q2 hj hl) hty F (g := mkF m pc Ls (v :: .int j :: .ref a :: rest)) rfl rfl hd
  exact own_by st (kk T' h' X' e' W (own_A.set ⟨cl, A, q1, q2⟩ W))
theorem own_sto {y : Addr} {C : String} (V : own_A Z h a ty k vs) (O : Ovr Z k C) (E : Exa Z h y C) : Sto Z h a (.ref y) := by
  obtain ⟨cl, A, q1, -⟩ := V
  exact Sto.ofV A q1 O (Ins.self E)
theorem own_ldI (X : Stand p l e R s m args below meth c T locs cells slots) (hx : p.tables.exec = Jvm.exec) (hZ : Z.Warmed39 s.vm) (eT : T.heap = h) (V : own_A Z h a .int k vs) {j : Int32} {v : Value} (i : Nat) (hi : j.toNatClampNeg = i) (hj : ¬ j < 0) (hv : vs[i]? = some v) {pc : Nat} {Ls : Array Slot} {rest : List Value} (hd : decode c.code pc = .ok (.iaload, 1))
    (kk : own_Go p e below K T (mkF m (pc + 1) Ls (v :: rest))) : own_Go p e below K T (mkF m pc Ls (.int j :: .ref a :: rest)) := by
  subst hi
  obtain ⟨cl, A, q1, q2⟩ := V
  exact own_by (fun t q => X.iaload hx (j := j) (v := v) (by rw [eT]; exact A.1) (State.isArrayOf_alike hZ.alike A.2.1) A.2.2 (own_in q2 hj (List.getElem?_eq_some_iff.mp hv).1) (by rw [own_get q2]; exact hv) (g := mkF m pc Ls (.int j :: .ref a :: rest)) rfl rfl hd t q) kk
theorem own_ldC (X : Stand p l e R s m args below meth c T locs cells slots) (hx : p.tables.exec = Jvm.exec) (hZ : Z.Warmed39 s.vm) (eT : T.heap = h) (V : own_A Z h a .char k vs) {j : Int32} {v : Value} (i : Nat) (hi : j.toNatClampNeg = i) (hj : ¬ j < 0) (hv : vs[i]? = some v) {pc : Nat} {Ls : Array Slot} {rest : List Value} (hd : decode c.code pc = .ok (.caload, 1))
    (kk : own_Go p e below K T (mkF m (pc + 1) Ls (v :: rest))) : own_Go p e below K T (mkF m pc Ls (.int j :: .ref a :: rest)) := by
  subst hi
  obtain ⟨cl, A, q1, q2⟩ := V
  exact own_by (fun t q => X.caload hx (j := j) (v := v) (by rw [eT]; exact A.1) (State.isArrayOf_alike hZ.alike A.2.1) A.2.2 (own_in q2 hj (List.getElem?_eq_some_iff.mp hv).1) (by rw [own_get q2]; exact hv) (g := mkF m pc Ls (.int j :: .ref a :: rest)) rfl rfl hd t q) kk
theorem own_ldR (X : Stand p l e R s m args below meth c T locs cells slots) (hx : p.tables.exec = Jvm.exec) (hZ : Z.Warmed39 s.vm) (eT : T.heap = h) (V : own_A Z h a ty k vs) (hty : ty.isReference = true) {j : Int32} {v : Value} (i : Nat) (hi : j.toNatClampNeg = i) (hj : ¬ j < 0) (hv : vs[i]? = some v) {pc : Nat} {Ls : Array Slot} {rest : List Value} (hd : decode c.code pc = .ok (.aaload, 1))
    (kk : own_Go p e below K T (mkF m (pc + 1) Ls (v :: rest))) : own_Go p e below K T (mkF m pc Ls (.int j :: .ref a :: rest)) := by
  subst hi
  obtain ⟨cl, A, q1, q2⟩ := V
  exact own_by (fun t q => X.aaload hx (j := j) (v := v) (by rw [eT]; exact A.1) (State.isArrayOf_alike hZ.alike A.2.1) hty A.2.2 (own_in q2 hj (List.getElem?_eq_some_iff.mp hv).1) (by rw [own_get q2]; exact hv) (g := mkF m pc Ls (.int j :: .ref a :: rest)) rfl rfl hd t q) kk
theorem own_len (X : Stand p l e R s m args below meth c T locs cells slots) (hx : p.tables.exec = Jvm.exec) (hZ : Z.Warmed39 s.vm) (eT : T.heap = h) (V : own_A Z h a ty k vs) (n : Int32) (hn : vs.length.toInt32 = n) {pc : Nat} {Ls : Array Slot} {rest : List Value} (hd : decode c.code pc = .ok (.arraylength, 1))
    (kk : own_Go p e below K T (mkF m (pc + 1) Ls (.int n :: rest))) : own_Go p e below K T (mkF m pc Ls (.ref a :: rest)) := by
  subst hn
  obtain ⟨cl, A, q1, rfl⟩ := V
  refine own_by (fun t q => X.arraylength hx (cell := cl) (by rw [eT]; exact A.1) (State.isArrayOf_alike hZ.alike A.2.1) (g := mkF m pc Ls (.ref a :: rest)) rfl (rest := rest) rfl hd t q) ?_
  rw [Array.length_toList] at kk
  exact kk
theorem own_new (X : Stand p l e R s m args below meth c T locs cells slots) (hx : p.tables.exec = Jvm.exec) (hZ : Z.Warmed39 s.vm) {own C : String} {index n : Nat} (hown : s.vm.findClass own = some m.cls) (w1 : (Jvm.Cond.classLink own index C).before a0 Z = true) (w2 : (Jvm.Cond.instantiable C n).before a0 Z = true) (w3 : (Jvm.Cond.initialized C).before a0 Z = true) (eT : T.heap = h) {pc : Nat} {Ls : Array Slot} {st : List Value} (hd : decode c.code pc = .ok (.new index, 3)) (hc : cells + 1 ≤ R.cells) (hl : slots + n ≤ R.slots)
    (kk : ∀ (T' : State) (h' : Heap), Stand p l e R s m args below meth c T' locs (cells + 1) (slots + n) → T'.heap = h' → Ext h h' → Exa Z h' h.size C → (∀ {O nm d : String} {ty : FieldType}, Laid Z a0 C O nm d → parseFieldDescriptor d = some ty → Fld Z h' h.size O nm d (defaultValue ty)) → own_Go p e below K T' (mkF m (pc + 3) Ls (.ref h.size :: st))) :
    own_Go p e below K T (mkF m pc Ls st) := by
  obtain ⟨T', h', X', e', E, A, D, -, stp⟩ := newO X hx hZ hown w1 w2 w3 eT (g := mkF m pc Ls st) rfl hd hc hl
  exact own_by stp (kk T' h' X' e' E A D)
theorem own_getF (X : Stand p l e R s m args below meth c T locs cells slots) (hx : p.tables.exec = Jvm.exec) (hZ : Z.Warmed39 s.vm) {own O n d : String} {index : Nat} (hown : s.vm.findClass own = some m.cls) (w : (Jvm.Cond.fieldLink own index O n d).before a0 Z = true) (eT : T.heap = h) (F : Fld Z h a O n d v) {pc : Nat} {Ls : Array Slot} {rest : List Value} (hd : decode c.code pc = .ok (.getfield index, 3))
    (kk : ∀ T' : State, Stand p l e R s m args below meth c T' locs cells slots → T'.heap = h → own_Go p e below K T' (mkF m (pc + 3) Ls (v :: rest))) : own_Go p e below K T (mkF m pc Ls (.ref a :: rest)) := by
  obtain ⟨T', X', e', st⟩ := getF X hx hZ hown (host := "") (Or.inl w) Via.refl eT F (g := mkF m pc Ls (.ref a :: rest)) rfl rfl hd
  exact own_by st (kk T' X' e')
theorem own_putF (X : Stand p l e R s m args below meth c T locs cells slots) (hx : p.tables.exec = Jvm.exec) (hZ : Z.Warmed39 s.vm) {own O n d C : String} {index kn : Nat} {ty : FieldType} (hown : s.vm.findClass own = some m.cls) (w : (Jvm.Cond.fieldLink own index O n d).before a0 Z = true) (eT : T.heap = h) {old : Value} (F : Fld Z h a O n d old) (E : Exa Z h a C) (L : (Jvm.Cond.lays C O n d).before a0 Z = true ∨ ((Jvm.Cond.laysFinal C O n d).before a0 Z = true ∧ own = O ∧ meth.name = "<init>")) (wi : (Jvm.Cond.instantiable C kn).before a0 Z = true) (hty : parseFieldDescriptor d = some ty) (hn : narrow ty v = v) (hf : fits ty v = true) {pc : Nat} {Ls : Array Slot} {rest : List Value} (hd : decode c.code pc = .ok (.putfield index, 3))
    (kk : ∀ (T' : State) (h' : Heap), Stand p l e R s m args below meth c T' (locs ++ [⟨a, Jvm.RoadKit.slotOf Z O n d⟩]) cells slots → T'.heap = h' → Wr h h' a (Jvm.RoadKit.slotOf Z O n d) v → own_Go p e below K T' (mkF m (pc + 3) Ls rest)) : own_Go p e below K T (mkF m pc Ls (v :: .ref a :: rest)) := by
  obtain ⟨T', h', X', e', W, st⟩ := putF X hx hZ hown (host := "") (Or.inl w) Via.refl eT F E L wi hty hn hf (g := mkF m pc Ls (v :: .ref a :: rest)) rfl rfl hd
  exact own_by st (kk T' h' X' e' W)
end OwnHeap
section OwnW
variable {p : Program} {l : Launch} {e : Env} {R : Room} {s : State} {m : MethodId} {args : Array Value} {below : List Frame} {meth : Method} {c : Code} {T T' : State} {locs : List Loc} {cells slots : Nat} {Z : State} {a0 : Array Value} {h h' h0 : Heap} {K : State → Outcome → Prop} {Q : Option Value → Heap → List Loc → Prop} {EL : List (String × Nat)} {vm0 : Vm} {k0 : Nat} {a b : Addr} {k : ClassId} {ty : FieldType} {vs : List Value}
def own_KW (Z : State) (EL : List (String × Nat)) (s : State) (k n : Nat) (Q : Option Value → Heap → List Loc → Prop) (t : State) (o : Outcome) : Prop := ∃ v L, o = .returned v ∧ Q v t.heap L ∧ CHr Z EL s.vm s.heap t.vm t.heap ∧ ReturnedEndW s o t L k n
def own_MetW (l : Launch) (y : MethodName) (bytes : ByteArray) (mx : Nat) (ret : Option FieldType) (ws : List Jvm.Cond) (rm : Room) (Z : State) (EL : List (String × Nat)) (as' : Array Value) (h0 : Heap) (Q : Option Value → Heap → List Loc → Prop) : Prop :=
  MetFree l y (head1 (Jvm.Cond.code y bytes mx ret :: ws) rm) (fun a U => a = as' ∧ Z.Warmed39 U.vm ∧ U.heap = h0 ∧ CHv Z EL U.vm h0) (fun _ _ _ _ _ => True) (fun _ U o U' => ∃ v L, o = .returned v ∧ Q v U'.heap L ∧ CHr Z EL U.vm U.heap U'.vm U'.heap ∧ ReturnedEndW U o U' L rm.cells rm.slots)
theorem own_enterW {y : MethodName} {bytes : ByteArray} {mx : Nat} {ret : Option FieldType} {ws : List Jvm.Cond} {rm : Room} {as' : Array Value} (hn : plainFor y = true)
    (body : ∀ (p : Program) (e : Env) (s : State) (m : MethodId) (below : List Frame) (meth : Method) (c : Code) (T0 : State), p.tables.exec = Jvm.exec → c.code = bytes → c.maxLocals = mx → meth.sig.returnType = ret → meth.locks = false → s.vm.findClass y.cls = some m.cls → meth.name = y.name → Z.Warmed39 s.vm →
      Stand p l e rm (s.setVm s.vm) m as' below meth c T0 [] 0 0 → T0.heap = h0 → s.Since s.vm 0 → CHr Z EL s.vm s.heap s.vm h0 → own_Go p e below (own_KW Z EL s rm.cells rm.slots Q) T0 (entryFrame m as' mx)) : own_MetW l y bytes mx ret ws rm Z EL as' h0 Q := by
  refine MetFree.of_bodySF hn hisR ?_
  intro p e s m args below meth c s₁ Bd hml hP hK
  obtain ⟨rfl, hZ, hh, hH⟩ := hP
  have hX : Stand p l e rm s m args below meth c s₁ [] 0 0 := Stand.of_body Bd
  obtain ⟨s2, o, h1, h2, h3, h4⟩ := body p e s m below meth c s₁ Bd.exec Bd.bytes hml Bd.returns Bd.notSynchronized (findClass_of_methodNamed Bd.named) (name_of_methodNamed Bd.named Bd.method).1 hZ hX (by rw [← hh, Bd.state]; rfl) ((State.WarmedH.refl s).since 0) (by rw [← hh] at hH ⊢; exact CHr.refl hH)
  exact ⟨s2, o, h1, h2, h3, h4⟩
theorem own_leaveW (X : Stand p l e R (s.setVm vm0) m args below meth c T locs cells slots) (hlk : meth.locks = false) (hZ : Z.Warmed39 vm0) (hEL : EW Z a0 EL) (hS : s.Since vm0 k0) (eT : T.heap = h) (hk0 : k0 ≤ h.size) (hC : CHr Z EL s.vm s.heap vm0 h) {v : Option Value} {k n : Nat} (hv : meth.sig.returnType = none → v = none) {g : JFrame}
    (step : ∀ fs, (∀ (f : JFrame) (acts : List Action), f.method = m → f.locked = none → f.entered = [] → (doReturn e (T.setTop f) acts v).1 = T.setFrames fs) → Steps p.tables e below (T.setTop g) (T.setFrames fs)) (hk : cells ≤ k) (hn : slots ≤ n) (hQ : Q v T.heap locs) : own_Go p e below (own_KW Z EL s k n Q) T g := by
  subst eT
  obtain ⟨fs, hr, hrun, hended, q1, q2, q3, q4⟩ := X.leaveW hS hk0 (v := v) hv hlk
  exact ⟨_, _, step fs hr, hrun, hended, v, locs, rfl, hQ, hC.trans (show CHr Z EL vm0 T.heap T.vm T.heap from CHv.at X hZ hEL hC.1), q1, q2, q3, q4.mono hk hn⟩
theorem own_retNW (X : Stand p l e R (s.setVm vm0) m args below meth c T locs cells slots) (hx : p.tables.exec = Jvm.exec) (hlk : meth.locks = false) (hZ : Z.Warmed39 vm0) (hEL : EW Z a0 EL) (hS : s.Since vm0 k0) (eT : T.heap = h) (hk0 : k0 ≤ h.size) (hC : CHr Z EL s.vm s.heap vm0 h) {t : FieldType} (hret : meth.sig.returnType = some t) (ht : t = .boolean ∨ t = .byte ∨ t = .char ∨ t = .short) {pc : Nat} {Ls : Array Slot} {z w : Int32} {rest : List Value} {k n : Nat} (hd : decode c.code pc = .ok (.ireturn, 1)) (hw : nar t z = w) (hk : cells ≤ k) (hn : slots ≤ n) (hQ : Q (some (.int w)) T.heap locs) :
    own_Go p e below (own_KW Z EL s k n Q) T (mkF m pc Ls (.int z :: rest)) := by
  subst hw
  exact own_leaveW X hlk hZ hEL hS eT hk0 hC (v := some (.int (nar t z))) (fun h => by rw [hret] at h; cases h) (fun fs hl => retN X hx hret ht hd hl) hk hn hQ
theorem own_retAW (X : Stand p l e R (s.setVm vm0) m args below meth c T locs cells slots) (hx : p.tables.exec = Jvm.exec) (hlk : meth.locks = false) (hZ : Z.Warmed39 vm0) (hEL : EW Z a0 EL) (hS : s.Since vm0 k0) (eT : T.heap = h) (hk0 : k0 ≤ h.size) (hC : CHr Z EL s.vm s.heap vm0 h) {t : FieldType} (hret : meth.sig.returnType = some t) (ht : t.isReference = true) {pc : Nat} {Ls : Array Slot} {v : Value} (hv : v.isRef = true) {rest : List Value} {k n : Nat} (hd : decode c.code pc = .ok (.areturn, 1)) (hk : cells ≤ k) (hn : slots ≤ n) (hQ : Q (some v) T.heap locs) :
    own_Go p e below (own_KW Z EL s k n Q) T (mkF m pc Ls (v :: rest)) :=
  own_leaveW X hlk hZ hEL hS eT hk0 hC (v := some v) (fun h => by rw [hret] at h; cases h) (fun fs hl => retOut X hx hret (by cases t <;> first | (cases ht; done) | (rcases ref_cases hv with rfl | ⟨a, rfl⟩ <;> rfl)) (Or.inr (Or.inr (Or.inr (Or.inr ⟨rfl, ht, hv⟩)))) hd hl) hk hn hQ
theorem own_retVW (X : Stand p l e R (s.setVm vm0) m args below meth c T locs cells slots) (hx : p.tables.exec = Jvm.exec) (hlk : meth.locks = false) (hZ : Z.Warmed39 vm0) (hEL : EW Z a0 EL) (hS : s.Since vm0 k0) (eT : T.heap = h) (hk0 : k0 ≤ h.size) (hC : CHr Z EL s.vm s.heap vm0 h) (hret : meth.sig.returnType = none) {pc : Nat} {Ls : Array Slot} {k n : Nat} (hd : decode c.code pc = .ok (.return_, 1)) (hk : cells ≤ k) (hn : slots ≤ n) (hQ : Q none T.heap locs) :
    own_Go p e below (own_KW Z EL s k n Q) T (mkF m pc Ls []) :=
  own_leaveW X hlk hZ hEL hS eT hk0 hC (v := none) (fun _ => rfl) (fun fs hl => X.returnOut hx hret hd hl) hk hn hQ
/-- what a wide call hands on -/
def own_After (p : Program) (l : Launch) (e : Env) (R : Room) (s : State) (m : MethodId) (args : Array Value) (below : List Frame) (meth : Method) (c : Code) (Z : State) (EL : List (String × Nat)) (Q : Option Value → Heap → List Loc → Prop) (h : Heap) (own : String) (locs : List Loc) (cells slots : Nat) (T' : State) (L : List Loc) (v : Option Value) : Prop :=
  Stand p l e R (s.setVm T'.vm) m args below meth c T' (locs ++ L) cells slots ∧ Q v T'.heap L ∧ s.Since T'.vm T'.heap.size ∧ h.size ≤ T'.heap.size ∧ Z.Warmed39 T'.vm ∧ T'.vm.findClass own = some m.cls ∧ CHr Z EL s.vm s.heap T'.vm T'.heap
theorem own_callSW (X : Stand p l e R (s.setVm vm0) m args below meth c T locs cells slots) (hx : p.tables.exec = Jvm.exec) (hZ : Z.Warmed39 vm0) (hEL : EW Z a0 EL) (hS : s.Since vm0 k0) (eT : T.heap = h) (hk0 : k0 ≤ h.size) (hC : CHr Z EL s.vm s.heap vm0 h) {own : String} {index : Nat} {y : MethodName} {bytes : ByteArray} {mx : Nat} {ret : Option FieldType} {rm : Room} (hown : vm0.findClass own = some m.cls) (w1 : (Jvm.Cond.methodLink own index y).before a0 Z = true) (w2 : (Jvm.Cond.static y).before a0 Z = true) (w3 : (Jvm.Cond.initialized y.cls).before a0 Z = true) (w4 : (Jvm.Cond.code y bytes mx ret).before a0 Z = true)
    (hy : y.cls ≠ "java/lang/invoke/MethodHandle" ∧ y.cls ≠ "java/lang/invoke/VarHandle") {argsL rest : List Value} (M : own_MetW l y bytes mx ret [] rm Z EL argsL.toArray h Q) (W : Nat) (hf : rm.frames + 1 ≤ R.frames) (hl : W + (mx + 11) + rm.locals ≤ R.locals) {pc : Nat} {Ls : Array Slot} (hsize : Ls.size = c.maxLocals)
    (hlen : ∀ sig, parseMethodDescriptor y.desc = some sig → argsL.length = sig.parameters.length) (hW : (rest.map fun v => v.category).sum ≤ W) (hd : decode c.code pc = .ok (.invokestatic index, 3)) (hc : cells + rm.cells ≤ R.cells) (hs : slots + rm.slots ≤ R.slots) {st : List Value} (hst : st = argsL.reverse ++ rest)
    (kk : ∀ (T' : State) (L : List Loc) (v : Option Value), own_After p l e R s m args below meth c Z EL Q h own locs (cells + rm.cells) (slots + rm.slots) T' L v → own_Go p e below K T' (mkF m (pc + 3) Ls (v.toList ++ rest))) : own_Go p e below K T (mkF m pc Ls st) := by
  have hZ' : Z.Warmed39 (s.setVm vm0).vm := hZ
  obtain ⟨v, _, ⟨T1, L1, k1, n1⟩, hW1, X1, hS1, hg1, ⟨Lc, hQ, l1, y1, z1, hC1⟩, stp⟩ := callSS X hx hown (mvT hZ' w1) (mvT hZ' w2) (mvT hZ' w3) (mvT hZ' w4) hy (backOfSH (W := W) M hZ w4 w3 hf hl hEL hC.1) (g := mkF m pc Ls st) rfl hsize (argsL := argsL) (rest := rest) hlen hst (by show 2 * 0 + _ ≤ _; omega) hd (fun _ _ => ⟨rfl, eT, hc, hs⟩)
  dsimp only [Pt.U, Pt.locs, Pt.cells, Pt.slots] at X1 l1 y1 z1 stp hQ hS1 hg1 hC1
  subst l1 y1 z1
  subst eT
  refine own_by (fun t q => stp.trans q) (kk T1 Lc v ⟨X1, hQ, hS.trans hS1 (Nat.le_trans hk0 hg1), hg1, State.Warmed39.trans (t := s.setVm vm0) hZ hS1.1, ?_, hC.trans hC1⟩)
  rw [hS1.1.alike.findClass]; exact hown
theorem own_callNW (X : Stand p l e R (s.setVm vm0) m args below meth c T locs cells slots) (hx : p.tables.exec = Jvm.exec) (hZ : Z.Warmed39 vm0) (hEL : EW Z a0 EL) (hS : s.Since vm0 k0) (eT : T.heap = h) (hk0 : k0 ≤ h.size) (hC : CHr Z EL s.vm s.heap vm0 h) {own : String} {index : Nat} {y : MethodName} {bytes : ByteArray} {mx : Nat} {rm : Room} (hy1 : y.name = "<init>") (hown : vm0.findClass own = some m.cls) (w1 : (Jvm.Cond.methodLink own index y).before a0 Z = true) (w2 : (Jvm.Cond.instanceMethod y).before a0 Z = true) (w3 : (Jvm.Cond.code y bytes mx none).before a0 Z = true) (w4 : (Jvm.Cond.initialized y.cls).before a0 Z = true)
    (hy : y.cls ≠ "java/lang/invoke/MethodHandle" ∧ y.cls ≠ "java/lang/invoke/VarHandle") {b : Addr} {argsL rest : List Value} (M : own_MetW l y bytes mx none [] rm Z EL (.ref b :: argsL).toArray h Q) (W : Nat) (hf : rm.frames + 1 ≤ R.frames) (hl : W + (mx + 11) + rm.locals ≤ R.locals) {pc : Nat} {Ls : Array Slot} (hsize : Ls.size = c.maxLocals)
    (hlen : ∀ sig, parseMethodDescriptor y.desc = some sig → argsL.length = sig.parameters.length) (hW : (rest.map fun v => v.category).sum ≤ W) (hd : decode c.code pc = .ok (.invokespecial index, 3)) (hc : cells + rm.cells ≤ R.cells) (hs : slots + rm.slots ≤ R.slots) {st : List Value} (hst : st = argsL.reverse ++ .ref b :: rest)
    (kk : ∀ (T' : State) (L : List Loc) (v : Option Value), own_After p l e R s m args below meth c Z EL Q h own locs (cells + rm.cells) (slots + rm.slots) T' L v → own_Go p e below K T' (mkF m (pc + 3) Ls (v.toList ++ rest))) : own_Go p e below K T (mkF m pc Ls st) := by
  have hZ' : Z.Warmed39 (s.setVm vm0).vm := hZ
  obtain ⟨v, _, ⟨T1, L1, k1, n1⟩, hW1, X1, hS1, hg1, ⟨Lc, hQ, l1, y1, z1, hC1⟩, stp⟩ := X.specialBackS hx hy1 hown (mvT hZ' w1) (mvT hZ' w2) (mvT hZ' w3) hy (backOfSH (W := W) M hZ w3 w4 hf hl hEL hC.1) (g := mkF m pc Ls st) rfl hsize (Steps.refl _) (a := b) (argsL := argsL) (rest := rest) hlen hst (by show 2 * 0 + _ ≤ _; omega) hd (fun _ _ => ⟨rfl, eT, hc, hs⟩)
  dsimp only [Pt.U, Pt.locs, Pt.cells, Pt.slots] at X1 l1 y1 z1 stp hQ hS1 hg1 hC1
  subst l1 y1 z1
  subst eT
  refine own_by (fun t q => stp.trans q) (kk T1 Lc v ⟨X1, hQ, hS.trans hS1 (Nat.le_trans hk0 hg1), hg1, State.Warmed39.trans (t := s.setVm vm0) hZ hS1.1, ?_, hC.trans hC1⟩)
  rw [hS1.1.alike.findClass]; exact hown
theorem own_A_of_arv {z : Int32} {d : Value} (V : Arv Z h b k ty z vs d) (hl : z.toNatClampNeg = vs.length) : own_A Z h b ty k vs := by
  obtain ⟨cl, A, q1, q2, -, H, -⟩ := V
  refine ⟨cl, A, q1, List.ext_getElem? fun i => ?_⟩
  rw [Array.getElem?_toList]
  by_cases hi : i < cl.slots.size
  · rw [H i hi, List.getD_eq_getElem?_getD, List.getElem?_eq_getElem (by omega)]; rfl
  · rw [Array.getElem?_eq_none (by omega), List.getElem?_eq_none (by omega)]
theorem own_ldcW (X : Stand p l e R (s.setVm vm0) m args below meth c T locs cells slots) (hx : p.tables.exec = Jvm.exec) (hZ : Z.Warmed39 vm0) (hEL : EW Z a0 EL) (hS : s.Since vm0 k0) (eT : T.heap = h) (hk0 : k0 ≤ h.size) (hC : CHr Z EL s.vm s.heap vm0 h) {own text : String} {index : Nat} (hown : vm0.findClass own = some m.cls) (w : (Jvm.Cond.stringLink own index text).before a0 Z = true) (wS : ∀ a ∈ Bundle.stringAtoms, a.before a0 Z = true) (hmem : (own, index) ∈ EL)
    {z : Int32} (ht : (∀ c ∈ text.toList, c.toNat < 256) ∧ text.toList.map (fun c => Value.int (Jvm.Lit.byteI c.toNat.toUInt16)) = vs) (hz : ¬ z < 0) (hl : z.toNatClampNeg = vs.length) {pc : Nat} {Ls : Array Slot} {st : List Value} (hd : decode c.code pc = .ok (.ldc index, 2)) (n : Nat) (hn : 4 * text.toList.length ≤ n) (hbig : n ≤ 536870912) (hc : cells + 2 ≤ R.cells) (hl' : slots + (n + 4) ≤ R.slots)
    (kk : ∀ (T' : State) (a : Addr) (h' : Heap) (k1 : Nat) (b : Addr) (k : ClassId), Stand p l e R (s.setVm T'.vm) m args below meth c T' locs (cells + 2) (slots + (n + 4)) → T'.heap = h' → Ext h h' → s.Since T'.vm k1 → k1 ≤ h'.size → Z.Warmed39 T'.vm → T'.vm.findClass own = some m.cls → Exa Z h' a "java/lang/String" → Fld Z h' a "java/lang/String" "coder" "B" (.int 0) → Fld Z h' a "java/lang/String" "value" "[B" (.ref b) → own_A Z h' b .byte k vs → CHr Z EL vm0 h T'.vm h' → CHr Z EL s.vm s.heap T'.vm h' → (∀ x, Safe Z EL T'.vm h' x → x ≠ a ∧ x ≠ b) → own_Go p e below K T' (mkF m (pc + 2) Ls (.ref a :: st))) :
    own_Go p e below K T (mkF m pc Ls st) := by
  obtain ⟨a, T', h', k1, b, kb, X', e', E, hS', hk1, hW, hf, E1, F1, F2, V, -, -, hC', -, hne, stp⟩ := ldcCH X hx hZ hown w wS eT hS hk0 hEL hmem hC.1 ht hz hl (g := mkF m pc Ls st) rfl hd hn hbig hc hl'
  exact own_by stp (kk T' a h' k1 b kb X' e' E hS' hk1 hW hf E1 F1 F2 (own_A_of_arv V hl) hC' (hC.trans hC') hne)
/-- a String whose value is not laid yet is none that the tables book -/
theorem own_safe_null (hal : Z.vm.Alike vm0) {x : Addr} (E : Exa Z h x "java/lang/String") (F : Fld Z h x "java/lang/String" "value" "[B" .null) : Safe Z EL vm0 h x := by
  rintro ⟨pr, hp, u, aa, hB, q, hqa, F2, hy⟩
  have hsa := F2.ha
  have hsd := F2.hd
  obtain ⟨cS, ⟨⟨s1, s2, s3, ⟨cv, kv, iv, s4, s4'⟩, ⟨cc, kc, ic, s5, s5'⟩, s6, s7, s8, s9, s10, s11, s12, s13, s14, s15, s16⟩, hfS, hcS⟩, ⟨kS, k1, k2, k3⟩, hB2, hbyt⟩ := F2
  rcases hy with rfl | rfl
  · obtain ⟨cell, cf, kk, i, f, g1, g2, g3, g4, g5, g6, g7⟩ := F
    obtain ⟨kv', z4⟩ := ff_back (U := Wst Z vm0 h) hal s4
    have e1 : cell = q.sC := Option.some.inj (g1.symm.trans s1)
    cases g2.symm.trans z4
    subst e1
    rw [s8] at g7
    cases g7
  · obtain ⟨cell, kk, g1, g2, g3, g4, g5⟩ := E
    have e1 : cell = q.SA := Option.some.inj (g1.symm.trans s10)
    subst e1
    have hB3 : vm0.findClass "[B" = some q.SA.cls := hB2
    rw [hal.findClass] at hB3
    obtain ⟨k1', a1, a2⟩ := Vm.findClass_spec g2
    obtain ⟨k2', b1, b2⟩ := Vm.findClass_spec hB3
    cases a1.symm.trans b1
    exact absurd (a2.symm.trans b2) (by decide)
end OwnW
section OwnStr
variable {p : Program} {l : Launch} {e : Env} {R : Room} {s : State} {m : MethodId} {args : Array Value} {below : List Frame} {meth : Method} {c : Code} {T T' : State} {locs : List Loc} {cells slots : Nat} {Z : State} {a0 : Array Value} {h h' h0 : Heap} {K : State → Outcome → Prop} {Q : Option Value → Heap → List Loc → Prop} {EL : List (String × Nat)} {vm0 : Vm} {k0 : Nat} {a b : Addr} {k : ClassId} {ty : FieldType} {vs : List Value} {ws : List Addr} {C n d : String} {v : Value}
theorem own_wide {y : MethodName} {bytes : ByteArray} {mx : Nat} {ret : Option FieldType} {wds : List Jvm.Cond} {rm : Room} {as' : Array Value} (hEL : EW Z a0 EL) (M : own_Met l y bytes mx ret wds rm Z as' h0 Q) (hQ : ∀ v h L, Q v h L → Keep h0 h []) : own_MetW l y bytes mx ret wds rm Z EL as' h0 Q := by
  refine MetFree.mono M (fun a U q => ⟨q.1, q.2.1, q.2.2.1⟩) (fun _ _ _ _ _ q => q) ?_
  rintro a U o U' ⟨-, hZ, hh, hH⟩ ⟨v, L, h1, h2, h3⟩
  refine ⟨v, L, h1, h2, ?_, ReturnedEndW.of_narrow h3.1 h3.2.1 h3.2.2⟩
  subst hh
  have A : CHr Z EL U.vm U.heap U.vm U'.heap := CHr.keep (hQ _ _ _ h2) (fun _ q => by cases q) hH
  have B := CHv.later (h' := U'.heap) hZ (show (Wst Z U.vm U'.heap).Warmed39 U'.vm from h3.2.1.wide) hEL ⟨Nat.le_refl _, fun _ _ q => q⟩ (Or.inl h3.2.1.interned_eq) A.1
  exact A.trans ⟨B.1, Nat.le_refl _, B.2⟩
theorem own_stB (X : Stand p l e R s m args below meth c T locs cells slots) (hx : p.tables.exec = Jvm.exec) (hZ : Z.Warmed39 s.vm) (eT : T.heap = h) (V : own_A Z h a .byte k vs) {j x y : Int32} (i : Nat) (hi : j.toNatClampNeg = i) (hj : ¬ j < 0) (hl : i < vs.length) (hy : nar .byte x = y) {pc : Nat} {Ls : Array Slot} {rest : List Value} (hd : decode c.code pc = .ok (.bastore, 1))
    (kk : ∀ (T' : State) (h' : Heap), Stand p l e R s m args below meth c T' (locs ++ [⟨a, i⟩]) cells slots → T'.heap = h' → Wr h h' a i (.int y) → own_A Z h' a .byte k (vs.set i (.int y)) → own_Go p e below K T' (mkF m (pc + 1) Ls rest)) :
    own_Go p e below K T (mkF m pc Ls (.int x :: .int j :: .ref a :: rest)) := by
  subst hi; subst hy
  obtain ⟨cl, A, q1, q2⟩ := V
  obtain ⟨T', h', X', e', W, st⟩ := stB X hx hZ eT A (j := j) (x := x) (own_in q2 hj hl) (g := mkF m pc Ls (.int x :: .int j :: .ref a :: rest)) rfl rfl hd
  exact own_by st (kk T' h' X' e' W (own_A.set ⟨cl, A, q1, q2⟩ W))
theorem own_ldB (X : Stand p l e R s m args below meth c T locs cells slots) (hx : p.tables.exec = Jvm.exec) (hZ : Z.Warmed39 s.vm) (eT : T.heap = h) (V : own_A Z h a .byte k vs) {j : Int32} {v : Value} (i : Nat) (hi : j.toNatClampNeg = i) (hj : ¬ j < 0) (hv : vs[i]? = some v) {pc : Nat} {Ls : Array Slot} {rest : List Value} (hd : decode c.code pc = .ok (.baload, 1))
    (kk : own_Go p e below K T (mkF m (pc + 1) Ls (v :: rest))) : own_Go p e below K T (mkF m pc Ls (.int j :: .ref a :: rest)) := by
  subst hi
  obtain ⟨cl, A, q1, q2⟩ := V
  exact own_by (fun t q => X.baloadBytes hx (j := j) (v := v) (by rw [eT]; exact A.1) (State.isArrayOf_alike hZ.alike A.2.1) A.2.2 (own_in q2 hj (List.getElem?_eq_some_iff.mp hv).1) (by rw [own_get q2]; exact hv) (g := mkF m pc Ls (.int j :: .ref a :: rest)) rfl rfl hd t q) kk
theorem own_inst (X : Stand p l e R s m args below meth c T locs cells slots) (hx : p.tables.exec = Jvm.exec) (hZ : Z.Warmed39 s.vm) {own Kn : String} {index : Nat} (hown : s.vm.findClass own = some m.cls) (w : (Jvm.Cond.classLink own index Kn).before a0 Z = true) (eT : T.heap = h) (F : Exa Z h a Kn) {pc : Nat} {Ls : Array Slot} {rest : List Value} (hd : decode c.code pc = .ok (.instanceof index, 3))
    (kk : ∀ T' : State, Stand p l e R s m args below meth c T' locs cells slots → T'.heap = h → own_Go p e below K T' (mkF m (pc + 3) Ls (.int (1 : Int32) :: rest))) : own_Go p e below K T (mkF m pc Ls (.ref a :: rest)) := by
  obtain ⟨T', X', e', st⟩ := instY X hx hZ hown w eT (Ins.self F) (g := mkF m pc Ls (.ref a :: rest)) rfl rfl hd
  exact own_by st (kk T' X' e')
theorem own_cast (X : Stand p l e R s m args below meth c T locs cells slots) (hx : p.tables.exec = Jvm.exec) (hZ : Z.Warmed39 s.vm) {own Kn : String} {index : Nat} (hown : s.vm.findClass own = some m.cls) (w : (Jvm.Cond.classLink own index Kn).before a0 Z = true) (eT : T.heap = h) (F : Exa Z h a Kn) {pc : Nat} {Ls : Array Slot} {rest : List Value} (hd : decode c.code pc = .ok (.checkcast index, 3))
    (kk : ∀ T' : State, Stand p l e R s m args below meth c T' locs cells slots → T'.heap = h → own_Go p e below K T' (mkF m (pc + 3) Ls (.ref a :: rest))) : own_Go p e below K T (mkF m pc Ls (.ref a :: rest)) := by
  obtain ⟨T', X', e', st⟩ := castY X hx hZ hown w eT (Ins.self F) (g := mkF m pc Ls (.ref a :: rest)) rfl rfl hd
  exact own_by st (kk T' X' e')
/-- the String at a, of the coder cd, with the bytes vs -/
def own_Str (Z : State) (h : Heap) (a : Addr) (cd : Int32) (vs : List Value) : Prop := ∃ (b : Addr) (k : ClassId), Exa Z h a "java/lang/String" ∧ Fld Z h a "java/lang/String" "value" "[B" (.ref b) ∧ Fld Z h a "java/lang/String" "coder" "B" (.int cd) ∧ own_A Z h b .byte k vs
theorem own_Str.keep {cd : Int32} (F : own_Str Z h a cd vs) (Kp : Keep h h' []) : own_Str Z h' a cd vs := by
  obtain ⟨b, k, h1, h2, h3, h4⟩ := F
  exact ⟨b, k, h1.keep Kp, h2.keep Kp nin0, h3.keep Kp nin0, h4.keep Kp nin0⟩
theorem own_safeA (hal : Z.vm.Alike vm0) (V : own_A Z h a ty k vs) (ht : ty ≠ .byte) : Safe Z EL vm0 h a := by
  obtain ⟨cl, A, -⟩ := V
  exact Safe.arr hal A ht
/-- slots of the cell t, or of cells made since -/
def own_Fr (n : Nat) (t : Addr) (L : List Loc) : Prop := ∀ y ∈ L, y.base = t ∨ n ≤ y.base
theorem own_Fr.nil {n : Nat} {t : Addr} : own_Fr n t [] := fun _ q => by cases q
theorem own_Fr.app {n : Nat} {t : Addr} {L L' : List Loc} (A : own_Fr n t L) (B : own_Fr n t L') : own_Fr n t (L ++ L') := fun y q => (List.mem_append.mp q).elim (A y) (B y)
theorem own_Fr.one {n : Nat} {t : Addr} {i : Nat} : own_Fr n t [⟨t, i⟩] := fun y q => by cases List.mem_singleton.mp q; exact Or.inl rfl
theorem own_Fr.of {n n' : Nat} {t : Addr} {L : List Loc} (A : Fr n' L) (q : n ≤ n') : own_Fr n t L := fun y hy => Or.inr (Nat.le_trans q (A y hy))
theorem own_Fr.to {n : Nat} {t : Addr} {L : List Loc} (A : own_Fr n t L) (q : n ≤ t) : Fr n L := fun y hy => (A y hy).elim (fun z => z ▸ q) id
theorem own_Fr.le {n n' : Nat} {t : Addr} {L : List Loc} (A : own_Fr n' t L) (q : n ≤ n') : own_Fr n t L := fun y hy => (A y hy).imp id (Nat.le_trans q)
theorem own_fr0 {n : Nat} : Fr n [] := fun _ q => by cases q
theorem own_fr1 {n : Nat} {t : Addr} {i : Nat} (q : n ≤ t) : Fr n [⟨t, i⟩] := fun y hy => by cases List.mem_singleton.mp hy; exact q
theorem own_frA {n : Nat} {L L' : List Loc} (A : Fr n L) (B : Fr n L') : Fr n (L ++ L') := fun y q => (List.mem_append.mp q).elim (A y) (B y)
theorem own_frL {n n' : Nat} {L : List Loc} (A : Fr n' L) (q : n ≤ n') : Fr n L := fun y hy => Nat.le_trans q (A y hy)
theorem own_keepNew {n : Nat} {ws : List Addr} (A : Keep h0 h []) (B : Keep h h' ws) (q : ∀ x ∈ ws, h0.size ≤ x) : Keep h0 h' [] := A.trans B fun x hx => Or.inr (q x hx)
theorem own_wrSize {sl : Nat} (W : Wr h h' a sl v) : h'.size = h.size := by obtain ⟨c0, -, -, -, rfl⟩ := W; simp
theorem own_extlt (E : Ext h h') (q : a < h.size) : a < h'.size := Nat.lt_of_lt_of_le q E.1
end OwnStr
section OwnStr2
variable {Z : State} {h h' h0 : Heap} {a b t : Addr} {C n d C' : String} {v : Value}
theorem own_nin (q : a ≠ b) : a ∉ ([b] : List Addr) := fun z => q (List.mem_singleton.mp z)
theorem own_Fr.new {n n' : Nat} {t' : Addr} {L : List Loc} (A : own_Fr n' t' L) (q : n ≤ t') (r : n ≤ n') : Fr n L := fun y hy => (A y hy).elim (fun z => z ▸ q) (Nat.le_trans r)
theorem own_stak1 (F : Sta Z h C n d v) (K : Keep h h' [t]) (E : Exa Z h t C') : Sta Z h' C n d v := by
  obtain ⟨cf, i, k, f, st, cell, h1, h2, h3, h4, h5, h6, r⟩ := F
  obtain ⟨cell', k', e1, -, -, e4, -⟩ := E
  refine ⟨cf, i, k, f, st, cell, h1, h2, h3, h4, K.2.1 _ _ h5 (own_nin fun z => ?_), h6, r⟩
  subst z
  cases h5.symm.trans e1
  rw [h6] at e4; cases e4
theorem own_narB (x : Int32) : nar .byte x.toInt8.toInt32 = x.toInt8.toInt32 := by simp [nar]
theorem own_fr_in1 {x : Addr} {P : Addr → Prop} (q : P b) : x ∈ ([b] : List Addr) → P x := fun z => by cases List.mem_singleton.mp z; exact q
theorem own_trans1 {ws : List Addr} (A : Keep h0 h ws) (B : Keep h h' [b]) (q : b ∈ ws ∨ h0.size ≤ b) : Keep h0 h' ws := A.trans B fun x hx => by cases List.mem_singleton.mp hx; exact q
theorem own_trans0 {ws : List Addr} (A : Keep h0 h ws) (B : Keep h h' []) : Keep h0 h' ws := A.trans B fun x hx => by cases hx
end OwnStr2
def own_S (Z : State) (h : Heap) (w0 w1 w2 w3 w4 : Addr) : Prop := Sta Z h "com/example/nimble_gate/nimblegate/policy/Token$Kind" "WORD" "Lcom/example/nimble_gate/nimblegate/policy/Token$Kind;" (.ref w0) ∧ Sta Z h "com/example/nimble_gate/nimblegate/policy/Token$Kind" "STRING" "Lcom/example/nimble_gate/nimblegate/policy/Token$Kind;" (.ref w1) ∧ Sta Z h "com/example/nimble_gate/nimblegate/policy/Token$Kind" "NUMBER" "Lcom/example/nimble_gate/nimblegate/policy/Token$Kind;" (.ref w2) ∧ Sta Z h "com/example/nimble_gate/nimblegate/policy/Token$Kind" "SYMBOL" "Lcom/example/nimble_gate/nimblegate/policy/Token$Kind;" (.ref w3) ∧ Sta Z h "com/example/nimble_gate/nimblegate/policy/Token$Kind" "END" "Lcom/example/nimble_gate/nimblegate/policy/Token$Kind;" (.ref w4)
theorem own_eqi {args : Array Value} {s : State} {t : Term} {k : Int32} (h : (Jvm.Cond.eq t (.int k)).value args s none s [] = some true) : t.eval args s none [] s = some (.int k) := by
  have hk : (Term.int k).eval args s none [] s = some (.int k) := Term.int_eval k
  cases ht : t.eval args s none [] s with
  | none => simp [Cond.value, ht] at h
  | some y => cases y <;> simp [Cond.value, ht, hk] at h ⊢; exact h
def own_ch (c : Int32) : Prop := 0 ≤ c.toInt ∧ c.toInt ≤ 255
theorem own_ch_mask (x : Int32) : own_ch (x &&& (255 : Int32)) := c_and x (255 : Int32) (by decide)
theorem own_ch_le {c : Int32} (B : own_ch c) : ¬ (255 : Int32) < c := by
  rw [Int32.lt_iff_toInt_lt]
  have h : (255 : Int32).toInt = 255 := by decide
  have := B.2
  omega
theorem own_ch_nar {c : Int32} (B : own_ch c) : nar .char c = c := by
  apply Int32.toInt_inj.mp
  have h := c_i2c c
  have e : (nar .char c).toInt = c.toUInt32.toUInt16.toUInt32.toInt32.toInt := rfl
  obtain ⟨b1, b2⟩ := B
  omega
theorem own_ch_i2b {c d : Int32} (B : own_ch c) (D : own_ch d) (h : c.toInt8.toInt32 = d.toInt8.toInt32) : c = d := by
  apply Int32.toInt_inj.mp
  have h1 := c_i2b c
  have h2 := c_i2b d
  have h3 := congrArg Int32.toInt h
  obtain ⟨b1, b2⟩ := B
  obtain ⟨d1, d2⟩ := D
  omega
theorem pn_0 : plainName "java/lang/StringUTF16" = true := by first | (simp [plainName, overriddenIn]; done) | decide +kernel
theorem d16_0 : decode jdk_52_method_21_code 0 = .ok (.iconst 0, 1) := by decide +kernel
theorem d16_1 : decode jdk_52_method_21_code 1 = .ok (.istore 5, 2) := by decide +kernel
theorem d16_3 : decode jdk_52_method_21_code 3 = .ok (.iload 5, 2) := by decide +kernel
theorem d16_5 : decode jdk_52_method_21_code 5 = .ok (.iload 4, 2) := by decide +kernel
theorem d16_7 : decode jdk_52_method_21_code 7 = .ok (.if_icmp .ge 37, 3) := by decide +kernel
theorem d16_10 : decode jdk_52_method_21_code 10 = .ok (.aload_n 0, 1) := by decide +kernel
theorem d16_11 : decode jdk_52_method_21_code 11 = .ok (.iload_n 1, 1) := by decide +kernel
theorem d16_12 : decode jdk_52_method_21_code 12 = .ok (.caload, 1) := by decide +kernel
theorem d16_13 : decode jdk_52_method_21_code 13 = .ok (.istore 6, 2) := by decide +kernel
theorem d16_15 : decode jdk_52_method_21_code 15 = .ok (.iload 6, 2) := by decide +kernel
theorem d16_17 : decode jdk_52_method_21_code 17 = .ok (.sipush 255, 3) := by decide +kernel
theorem d16_20 : decode jdk_52_method_21_code 20 = .ok (.if_icmp .le 6, 3) := by decide +kernel
theorem d16_26 : decode jdk_52_method_21_code 26 = .ok (.aload_n 2, 1) := by decide +kernel
theorem d16_27 : decode jdk_52_method_21_code 27 = .ok (.iload_n 3, 1) := by decide +kernel
theorem d16_28 : decode jdk_52_method_21_code 28 = .ok (.iload 6, 2) := by decide +kernel
theorem d16_30 : decode jdk_52_method_21_code 30 = .ok (.i2b, 1) := by decide +kernel
theorem d16_31 : decode jdk_52_method_21_code 31 = .ok (.bastore, 1) := by decide +kernel
theorem d16_32 : decode jdk_52_method_21_code 32 = .ok (.iinc 1 1, 3) := by decide +kernel
theorem d16_35 : decode jdk_52_method_21_code 35 = .ok (.iinc 3 1, 3) := by decide +kernel
theorem d16_38 : decode jdk_52_method_21_code 38 = .ok (.iinc 5 1, 3) := by decide +kernel
theorem d16_41 : decode jdk_52_method_21_code 41 = .ok (.goto (-38), 3) := by decide +kernel
theorem d16_44 : decode jdk_52_method_21_code 44 = .ok (.iload 4, 2) := by decide +kernel
theorem d16_46 : decode jdk_52_method_21_code 46 = .ok (.ireturn, 1) := by decide +kernel
set_option maxRecDepth 65536 in
set_option maxHeartbeats 40000000 in
theorem own_cp5_1 (l : Launch) (Z : State) (a0 : Array Value) (hw : ∀ d ∈ tables_1, d.before a0 Z = true) (a b : Addr) (ka kb : ClassId) (c0 : Int32) (h0 : Heap) (hab : a ≠ b) (A : own_A Z h0 a .char ka [(.int c0)]) (B : own_A Z h0 b .byte kb [(.int 0)]) (hc0 : ¬ (255 : Int32) < c0) :
    own_Met l (⟨"java/lang/StringUTF16", "compress", "([CI[BII)I"⟩ : MethodName) jdk_52_method_21_code 7 (some .int) [] ({ frames := 0, cells := 0, slots := 0, locals := 0 } : Room) Z #[(.ref a), (.int (0 : Int32)), (.ref b), (.int (0 : Int32)), (.int (1 : Int32))] h0 (fun rv rh rL => rv = some (.int (1 : Int32)) ∧ Keep h0 rh [b] ∧ own_Fr h0.size b rL ∧ own_A Z rh b .byte kb [(.int (c0.toInt8.toInt32))]) := by
  refine own_enter (plainFor_of_name pn_0) ?_
  intro p e s m below meth c T0 hx hby hml hret hlk hown hnm hZ X0 e0
  refine own_at (g' := (mkF m 0 #[oR a, oI (0 : Int32), oR b, oI (0 : Int32), oI (1 : Int32), .unset, .unset] [])) (by first | (simp [entryFrame, mkF, argsToLocals, Value.category]; done) | rfl) ?_
  show own_Go p e below _ T0 (mkF m 0 #[oR a, oI (0 : Int32), oR b, oI (0 : Int32), oI (1 : Int32), .unset, .unset] [])
  have K0 : Keep h0 h0 [b] := Keep.refl h0 _
  have N0 : own_Fr h0.size b [] := own_Fr.nil
  refine own_by (fun t_ k_ => XT.iconstV X0.here hx rfl (0 : Int32) (hb hby d16_0) (by decide) k_) ?_
  show own_Go p e below _ T0 (mkF m 1 #[oR a, oI (0 : Int32), oR b, oI (0 : Int32), oI (1 : Int32), .unset, .unset] [(.int (0 : Int32))])
  refine own_by (fun t_ k_ => XS.istore X0.here hx rfl (hb hby d16_1) rfl (l' := #[oR a, oI (0 : Int32), oR b, oI (0 : Int32), oI (1 : Int32), oI (0 : Int32), .unset]) rfl k_) ?_
  show own_Go p e below _ T0 (mkF m 3 #[oR a, oI (0 : Int32), oR b, oI (0 : Int32), oI (1 : Int32), oI (0 : Int32), .unset] [])
  refine own_by (fun t_ k_ => XS.iload X0.here hx rfl (hb hby d16_3) rfl  k_) ?_
  show own_Go p e below _ T0 (mkF m 5 #[oR a, oI (0 : Int32), oR b, oI (0 : Int32), oI (1 : Int32), oI (0 : Int32), .unset] [(.int (0 : Int32))])
  refine own_by (fun t_ k_ => XS.iload X0.here hx rfl (hb hby d16_5) rfl  k_) ?_
  show own_Go p e below _ T0 (mkF m 7 #[oR a, oI (0 : Int32), oR b, oI (0 : Int32), oI (1 : Int32), oI (0 : Int32), .unset] [(.int (1 : Int32)), (.int (0 : Int32))])
  refine own_by (fun t_ k_ => XS.icmpNo X0.here hx rfl (hb hby d16_7) rfl (XT.ii_ge_f (by decide)) k_) ?_
  show own_Go p e below _ T0 (mkF m 10 #[oR a, oI (0 : Int32), oR b, oI (0 : Int32), oI (1 : Int32), oI (0 : Int32), .unset] [])
  refine own_by (fun t_ k_ => XS.aloadN X0.here hx rfl (hb hby d16_10) rfl rfl  k_) ?_
  show own_Go p e below _ T0 (mkF m 11 #[oR a, oI (0 : Int32), oR b, oI (0 : Int32), oI (1 : Int32), oI (0 : Int32), .unset] [(.ref a)])
  refine own_by (fun t_ k_ => XS.iloadN X0.here hx rfl (hb hby d16_11) rfl  k_) ?_
  show own_Go p e below _ T0 (mkF m 12 #[oR a, oI (0 : Int32), oR b, oI (0 : Int32), oI (1 : Int32), oI (0 : Int32), .unset] [(.int (0 : Int32)), (.ref a)])
  refine own_ldC X0 hx hZ e0 A 0 (by decide) (by decide) (v := (.int c0)) rfl (hb hby d16_12) ?_
  show own_Go p e below _ T0 (mkF m 13 #[oR a, oI (0 : Int32), oR b, oI (0 : Int32), oI (1 : Int32), oI (0 : Int32), .unset] [(.int c0)])
  refine own_by (fun t_ k_ => XS.istore X0.here hx rfl (hb hby d16_13) rfl (l' := #[oR a, oI (0 : Int32), oR b, oI (0 : Int32), oI (1 : Int32), oI (0 : Int32), oI c0]) rfl k_) ?_
  show own_Go p e below _ T0 (mkF m 15 #[oR a, oI (0 : Int32), oR b, oI (0 : Int32), oI (1 : Int32), oI (0 : Int32), oI c0] [])
  refine own_by (fun t_ k_ => XS.iload X0.here hx rfl (hb hby d16_15) rfl  k_) ?_
  show own_Go p e below _ T0 (mkF m 17 #[oR a, oI (0 : Int32), oR b, oI (0 : Int32), oI (1 : Int32), oI (0 : Int32), oI c0] [(.int c0)])
  refine own_by (fun t_ k_ => XT.sipushV X0.here hx rfl (255 : Int32) (hb hby d16_17) (by decide) k_) ?_
  show own_Go p e below _ T0 (mkF m 20 #[oR a, oI (0 : Int32), oR b, oI (0 : Int32), oI (1 : Int32), oI (0 : Int32), oI c0] [(.int (255 : Int32)), (.int c0)])
  refine own_by (fun t_ k_ => XS.icmpYes X0.here hx rfl (pc0 := 20) (pc' := 26) rfl (hb hby d16_20) rfl (XT.ii_le_t hc0) (by decide) (by decide) k_) ?_
  show own_Go p e below _ T0 (mkF m 26 #[oR a, oI (0 : Int32), oR b, oI (0 : Int32), oI (1 : Int32), oI (0 : Int32), oI c0] [])
  refine own_by (fun t_ k_ => XS.aloadN X0.here hx rfl (hb hby d16_26) rfl rfl  k_) ?_
  show own_Go p e below _ T0 (mkF m 27 #[oR a, oI (0 : Int32), oR b, oI (0 : Int32), oI (1 : Int32), oI (0 : Int32), oI c0] [(.ref b)])
  refine own_by (fun t_ k_ => XS.iloadN X0.here hx rfl (hb hby d16_27) rfl  k_) ?_
  show own_Go p e below _ T0 (mkF m 28 #[oR a, oI (0 : Int32), oR b, oI (0 : Int32), oI (1 : Int32), oI (0 : Int32), oI c0] [(.int (0 : Int32)), (.ref b)])
  refine own_by (fun t_ k_ => XS.iload X0.here hx rfl (hb hby d16_28) rfl  k_) ?_
  show own_Go p e below _ T0 (mkF m 30 #[oR a, oI (0 : Int32), oR b, oI (0 : Int32), oI (1 : Int32), oI (0 : Int32), oI c0] [(.int c0), (.int (0 : Int32)), (.ref b)])
  refine own_by (fun t_ k_ => XT.i2b X0.here hx rfl (hb hby d16_30) rfl k_) ?_
  show own_Go p e below _ T0 (mkF m 31 #[oR a, oI (0 : Int32), oR b, oI (0 : Int32), oI (1 : Int32), oI (0 : Int32), oI c0] [(.int (c0.toInt8.toInt32)), (.int (0 : Int32)), (.ref b)])
  refine own_stB X0 hx hZ e0 B (y := (c0.toInt8.toInt32)) 0 (by decide) (by decide) (by simp) (own_narB c0) (hb hby d16_31) ?_
  intro T1 hT1 XT1 eT1 WT1 YT1
  have VT1 : own_A Z hT1 b .byte kb [(.int (c0.toInt8.toInt32))] := YT1
  clear YT1
  have fq2_1 := A.keep (Keep.of_wr WT1) (own_nin hab)
  have Kq2 := own_trans1 K0 (Keep.of_wr WT1) (Or.inl (List.mem_singleton.mpr rfl))
  have N3 := own_Fr.app N0 (own_Fr.one (i := 0))
  show own_Go p e below _ T1 (mkF m 32 #[oR a, oI (0 : Int32), oR b, oI (0 : Int32), oI (1 : Int32), oI (0 : Int32), oI c0] [])
  refine own_by (fun t_ k_ => XT.iincV XT1.here hx rfl (1 : Int32) (hb hby d16_32) (by decide) rfl (l' := #[oR a, oI ((0 : Int32) + (1 : Int32)), oR b, oI (0 : Int32), oI (1 : Int32), oI (0 : Int32), oI c0]) rfl k_) ?_
  show own_Go p e below _ T1 (mkF m 35 #[oR a, oI ((0 : Int32) + (1 : Int32)), oR b, oI (0 : Int32), oI (1 : Int32), oI (0 : Int32), oI c0] [])
  rw [show ((0 : Int32) + (1 : Int32)) = (1 : Int32) by decide]
  show own_Go p e below _ T1 (mkF m 35 #[oR a, oI (1 : Int32), oR b, oI (0 : Int32), oI (1 : Int32), oI (0 : Int32), oI c0] [])
  refine own_by (fun t_ k_ => XT.iincV XT1.here hx rfl (1 : Int32) (hb hby d16_35) (by decide) rfl (l' := #[oR a, oI (1 : Int32), oR b, oI ((0 : Int32) + (1 : Int32)), oI (1 : Int32), oI (0 : Int32), oI c0]) rfl k_) ?_
  show own_Go p e below _ T1 (mkF m 38 #[oR a, oI (1 : Int32), oR b, oI ((0 : Int32) + (1 : Int32)), oI (1 : Int32), oI (0 : Int32), oI c0] [])
  rw [show ((0 : Int32) + (1 : Int32)) = (1 : Int32) by decide]
  show own_Go p e below _ T1 (mkF m 38 #[oR a, oI (1 : Int32), oR b, oI (1 : Int32), oI (1 : Int32), oI (0 : Int32), oI c0] [])
  refine own_by (fun t_ k_ => XT.iincV XT1.here hx rfl (1 : Int32) (hb hby d16_38) (by decide) rfl (l' := #[oR a, oI (1 : Int32), oR b, oI (1 : Int32), oI (1 : Int32), oI ((0 : Int32) + (1 : Int32)), oI c0]) rfl k_) ?_
  show own_Go p e below _ T1 (mkF m 41 #[oR a, oI (1 : Int32), oR b, oI (1 : Int32), oI (1 : Int32), oI ((0 : Int32) + (1 : Int32)), oI c0] [])
  rw [show ((0 : Int32) + (1 : Int32)) = (1 : Int32) by decide]
  show own_Go p e below _ T1 (mkF m 41 #[oR a, oI (1 : Int32), oR b, oI (1 : Int32), oI (1 : Int32), oI (1 : Int32), oI c0] [])
  refine own_by (fun t_ k_ => XS.goto XT1.here hx rfl (pc0 := 41) (pc' := 3) rfl (hb hby d16_41) (by decide) (by decide) k_) ?_
  show own_Go p e below _ T1 (mkF m 3 #[oR a, oI (1 : Int32), oR b, oI (1 : Int32), oI (1 : Int32), oI (1 : Int32), oI c0] [])
  refine own_by (fun t_ k_ => XS.iload XT1.here hx rfl (hb hby d16_3) rfl  k_) ?_
  show own_Go p e below _ T1 (mkF m 5 #[oR a, oI (1 : Int32), oR b, oI (1 : Int32), oI (1 : Int32), oI (1 : Int32), oI c0] [(.int (1 : Int32))])
  refine own_by (fun t_ k_ => XS.iload XT1.here hx rfl (hb hby d16_5) rfl  k_) ?_
  show own_Go p e below _ T1 (mkF m 7 #[oR a, oI (1 : Int32), oR b, oI (1 : Int32), oI (1 : Int32), oI (1 : Int32), oI c0] [(.int (1 : Int32)), (.int (1 : Int32))])
  refine own_by (fun t_ k_ => XS.icmpYes XT1.here hx rfl (pc0 := 7) (pc' := 44) rfl (hb hby d16_7) rfl (XT.ii_ge_t (by decide)) (by decide) (by decide) k_) ?_
  show own_Go p e below _ T1 (mkF m 44 #[oR a, oI (1 : Int32), oR b, oI (1 : Int32), oI (1 : Int32), oI (1 : Int32), oI c0] [])
  refine own_by (fun t_ k_ => XS.iload XT1.here hx rfl (hb hby d16_44) rfl  k_) ?_
  show own_Go p e below _ T1 (mkF m 46 #[oR a, oI (1 : Int32), oR b, oI (1 : Int32), oI (1 : Int32), oI (1 : Int32), oI c0] [(.int (1 : Int32))])
  subst eT1
  exact own_retI XT1 hx hlk hret (hb hby d16_46) (by decide) (by decide) (⟨rfl, Kq2, N3, VT1⟩)
theorem d15_0 : decode jdk_52_method_16_code 0 = .ok (.iload_n 2, 1) := by decide +kernel
theorem d15_1 : decode jdk_52_method_16_code 1 = .ok (.newarray .byte, 2) := by decide +kernel
theorem d15_3 : decode jdk_52_method_16_code 3 = .ok (.astore_n 3, 1) := by decide +kernel
theorem d15_4 : decode jdk_52_method_16_code 4 = .ok (.aload_n 0, 1) := by decide +kernel
theorem d15_5 : decode jdk_52_method_16_code 5 = .ok (.iload_n 1, 1) := by decide +kernel
theorem d15_6 : decode jdk_52_method_16_code 6 = .ok (.aload_n 3, 1) := by decide +kernel
theorem d15_7 : decode jdk_52_method_16_code 7 = .ok (.iconst 0, 1) := by decide +kernel
theorem d15_8 : decode jdk_52_method_16_code 8 = .ok (.iload_n 2, 1) := by decide +kernel
theorem d15_9 : decode jdk_52_method_16_code 9 = .ok (.invokestatic 115, 3) := by decide +kernel
theorem pd_0 : parseMethodDescriptor "([CI[BII)I" = some ⟨[(.array .char), .int, (.array .byte), .int, .int], some .int⟩ := by decide +kernel
theorem d15_12 : decode jdk_52_method_16_code 12 = .ok (.istore 4, 2) := by decide +kernel
theorem d15_14 : decode jdk_52_method_16_code 14 = .ok (.iload 4, 2) := by decide +kernel
theorem d15_16 : decode jdk_52_method_16_code 16 = .ok (.iload_n 2, 1) := by decide +kernel
theorem d15_17 : decode jdk_52_method_16_code 17 = .ok (.if_icmp .eq 40, 3) := by decide +kernel
theorem d15_57 : decode jdk_52_method_16_code 57 = .ok (.aload_n 3, 1) := by decide +kernel
theorem d15_58 : decode jdk_52_method_16_code 58 = .ok (.areturn, 1) := by decide +kernel
set_option maxRecDepth 65536 in
set_option maxHeartbeats 40000000 in
theorem own_cp3_1 (l : Launch) (Z : State) (a0 : Array Value) (hw : ∀ d ∈ tables_1, d.before a0 Z = true) (a : Addr) (ka : ClassId) (c0 : Int32) (h0 : Heap) (A : own_A Z h0 a .char ka [(.int c0)]) (hc0 : ¬ (255 : Int32) < c0) :
    own_Met l (⟨"java/lang/StringUTF16", "compress", "([CII)[B"⟩ : MethodName) jdk_52_method_16_code 6 (some (.array .byte)) [] ({ frames := 1, cells := 1, slots := 1, locals := 18 } : Room) Z #[(.ref a), (.int (0 : Int32)), (.int (1 : Int32))] h0 (fun rv rh rL => rv = some (.ref h0.size) ∧ Keep h0 rh [] ∧ Fr h0.size rL ∧ ∃ kb, own_A Z rh h0.size .byte kb [(.int (c0.toInt8.toInt32))]) := by
  refine own_enter (plainFor_of_name pn_0) ?_
  intro p e s m below meth c T0 hx hby hml hret hlk hown hnm hZ X0 e0
  refine own_at (g' := (mkF m 0 #[oR a, oI (0 : Int32), oI (1 : Int32), .unset, .unset, .unset] [])) (by first | (simp [entryFrame, mkF, argsToLocals, Value.category]; done) | rfl) ?_
  show own_Go p e below _ T0 (mkF m 0 #[oR a, oI (0 : Int32), oI (1 : Int32), .unset, .unset, .unset] [])
  have lt1 : a < h0.size := A.lt
  have K0 : Keep h0 h0 [] := Keep.refl h0 _
  have N0 : own_Fr h0.size h0.size [] := own_Fr.nil
  refine own_by (fun t_ k_ => XS.iloadN X0.here hx rfl (hb hby d15_0) rfl  k_) ?_
  show own_Go p e below _ T0 (mkF m 1 #[oR a, oI (0 : Int32), oI (1 : Int32), .unset, .unset, .unset] [(.int (1 : Int32))])
  have g3 : h0.size ≤ h0.size := K0.1
  refine own_newP X0 hx hZ (aty := .byte) (hw _ (List.mem_of_getElem? (i := 25) rfl)) e0 (hb hby d15_1) 1 1 (by decide) (by decide) (by decide) (by decide) (by decide) (by decide) ?_
  intro T2 hT2 kT2 XT2 eT2 ET2 YT2
  have VT2 : own_A Z hT2 h0.size .byte kT2 [(.int 0)] := YT2
  clear YT2
  have fq4_1 := A.keep (own_ek ET2) nin0
  have lq4_0 := Nat.lt_of_lt_of_le lt1 (own_ek ET2).1
  have Kq4 := own_trans0 K0 (own_ek ET2)
  have z5 : a ≠ h0.size := Nat.ne_of_lt lt1
  have lt6 := VT2.lt
  show own_Go p e below _ T2 (mkF m 3 #[oR a, oI (0 : Int32), oI (1 : Int32), .unset, .unset, .unset] [(.ref h0.size)])
  refine own_by (fun t_ k_ => XS.astoreN XT2.here hx rfl (hb hby d15_3) rfl rfl (l' := #[oR a, oI (0 : Int32), oI (1 : Int32), oR h0.size, .unset, .unset]) rfl k_) ?_
  show own_Go p e below _ T2 (mkF m 4 #[oR a, oI (0 : Int32), oI (1 : Int32), oR h0.size, .unset, .unset] [])
  refine own_by (fun t_ k_ => XS.aloadN XT2.here hx rfl (hb hby d15_4) rfl rfl  k_) ?_
  show own_Go p e below _ T2 (mkF m 5 #[oR a, oI (0 : Int32), oI (1 : Int32), oR h0.size, .unset, .unset] [(.ref a)])
  refine own_by (fun t_ k_ => XS.iloadN XT2.here hx rfl (hb hby d15_5) rfl  k_) ?_
  show own_Go p e below _ T2 (mkF m 6 #[oR a, oI (0 : Int32), oI (1 : Int32), oR h0.size, .unset, .unset] [(.int (0 : Int32)), (.ref a)])
  refine own_by (fun t_ k_ => XS.aloadN XT2.here hx rfl (hb hby d15_6) rfl rfl  k_) ?_
  show own_Go p e below _ T2 (mkF m 7 #[oR a, oI (0 : Int32), oI (1 : Int32), oR h0.size, .unset, .unset] [(.ref h0.size), (.int (0 : Int32)), (.ref a)])
  refine own_by (fun t_ k_ => XT.iconstV XT2.here hx rfl (0 : Int32) (hb hby d15_7) (by decide) k_) ?_
  show own_Go p e below _ T2 (mkF m 8 #[oR a, oI (0 : Int32), oI (1 : Int32), oR h0.size, .unset, .unset] [(.int (0 : Int32)), (.ref h0.size), (.int (0 : Int32)), (.ref a)])
  refine own_by (fun t_ k_ => XS.iloadN XT2.here hx rfl (hb hby d15_8) rfl  k_) ?_
  show own_Go p e below _ T2 (mkF m 9 #[oR a, oI (0 : Int32), oI (1 : Int32), oR h0.size, .unset, .unset] [(.int (1 : Int32)), (.int (0 : Int32)), (.ref h0.size), (.int (0 : Int32)), (.ref a)])
  refine own_callS XT2 hx hZ hown (hw _ (List.mem_of_getElem? (i := 88) rfl)) (hw _ (List.mem_of_getElem? (i := 89) rfl)) (hw _ (List.mem_of_getElem? (i := 86) rfl)) (hw _ (List.mem_of_getElem? (i := 90) rfl)) (by decide) eT2 (argsL := [(.ref a), (.int (0 : Int32)), (.ref h0.size), (.int (0 : Int32)), (.int (1 : Int32))]) (rest := []) (own_cp5_1 l Z a0 hw a h0.size ka kT2 c0 hT2 z5 fq4_1 VT2 hc0) 0 (by decide) (by decide) (by rw [hml]; rfl) (lenOf pd_0 rfl) (Nat.le_of_eq rfl) (hb hby d15_9) (by decide) (by decide) (st := [(.int (1 : Int32)), (.int (0 : Int32)), (.ref h0.size), (.int (0 : Int32)), (.ref a)]) rfl ?_
  intro T7 LT7 vT7 XT7 hQT7
  obtain ⟨rfl, KT7, NT7, VT7⟩ := hQT7
  show own_Go p e below _ T7 (mkF m 12 #[oR a, oI (0 : Int32), oI (1 : Int32), oR h0.size, .unset, .unset] [(.int (1 : Int32))])
  have fq8_1 := fq4_1.keep KT7 (own_nin z5)
  have lq8_0 := Nat.lt_of_lt_of_le lq4_0 KT7.1
  have lq8_1 := Nat.lt_of_lt_of_le lt6 KT7.1
  have Kq8 := own_trans1 Kq4 KT7 (Or.inr g3)
  have N9 := own_Fr.app N0 (own_Fr.of (own_Fr.new NT7 g3 (Kq4).1) (Nat.le_refl _))
  refine own_by (fun t_ k_ => XS.istore XT7.here hx rfl (hb hby d15_12) rfl (l' := #[oR a, oI (0 : Int32), oI (1 : Int32), oR h0.size, oI (1 : Int32), .unset]) rfl k_) ?_
  show own_Go p e below _ T7 (mkF m 14 #[oR a, oI (0 : Int32), oI (1 : Int32), oR h0.size, oI (1 : Int32), .unset] [])
  refine own_by (fun t_ k_ => XS.iload XT7.here hx rfl (hb hby d15_14) rfl  k_) ?_
  show own_Go p e below _ T7 (mkF m 16 #[oR a, oI (0 : Int32), oI (1 : Int32), oR h0.size, oI (1 : Int32), .unset] [(.int (1 : Int32))])
  refine own_by (fun t_ k_ => XS.iloadN XT7.here hx rfl (hb hby d15_16) rfl  k_) ?_
  show own_Go p e below _ T7 (mkF m 17 #[oR a, oI (0 : Int32), oI (1 : Int32), oR h0.size, oI (1 : Int32), .unset] [(.int (1 : Int32)), (.int (1 : Int32))])
  refine own_by (fun t_ k_ => XS.icmpYes XT7.here hx rfl (pc0 := 17) (pc' := 57) rfl (hb hby d15_17) rfl (XT.ii_eq_t (by decide)) (by decide) (by decide) k_) ?_
  show own_Go p e below _ T7 (mkF m 57 #[oR a, oI (0 : Int32), oI (1 : Int32), oR h0.size, oI (1 : Int32), .unset] [])
  refine own_by (fun t_ k_ => XS.aloadN XT7.here hx rfl (hb hby d15_57) rfl rfl  k_) ?_
  show own_Go p e below _ T7 (mkF m 58 #[oR a, oI (0 : Int32), oI (1 : Int32), oR h0.size, oI (1 : Int32), .unset] [(.ref h0.size)])
  exact own_retA XT7 hx hlk hret rfl rfl (hb hby d15_58) (by decide) (by decide) (⟨rfl, Kq8, (N9).to (Nat.le_refl _), ⟨_, VT7⟩⟩)
theorem d17_0 : decode jdk_52_method_15_code 0 = .ok (.iload_n 1, 1) := by decide +kernel
theorem d17_1 : decode jdk_52_method_15_code 1 = .ok (.aload_n 0, 1) := by decide +kernel
theorem d17_2 : decode jdk_52_method_15_code 2 = .ok (.arraylength, 1) := by decide +kernel
theorem d17_3 : decode jdk_52_method_15_code 3 = .ok (.isub, 1) := by decide +kernel
theorem d17_4 : decode jdk_52_method_15_code 4 = .ok (.bipush 31, 2) := by decide +kernel
theorem d17_6 : decode jdk_52_method_15_code 6 = .ok (.iushr, 1) := by decide +kernel
theorem d17_7 : decode jdk_52_method_15_code 7 = .ok (.i2b, 1) := by decide +kernel
theorem d17_8 : decode jdk_52_method_15_code 8 = .ok (.ireturn, 1) := by decide +kernel
set_option maxRecDepth 65536 in
set_option maxHeartbeats 40000000 in
theorem own_cd_1 (l : Launch) (Z : State) (a0 : Array Value) (hw : ∀ d ∈ tables_1, d.before a0 Z = true) (a : Addr) (ka : ClassId) (x0 : Value) (h0 : Heap) (A : own_A Z h0 a .byte ka [x0]) :
    own_Met l (⟨"java/lang/StringUTF16", "coderFromArrayLen", "([BI)B"⟩ : MethodName) jdk_52_method_15_code 2 (some .byte) [] ({ frames := 0, cells := 0, slots := 0, locals := 0 } : Room) Z #[(.ref a), (.int (1 : Int32))] h0 (fun rv rh rL => rv = some (.int (0 : Int32)) ∧ rh = h0 ∧ rL = []) := by
  refine own_enter (plainFor_of_name pn_0) ?_
  intro p e s m below meth c T0 hx hby hml hret hlk hown hnm hZ X0 e0
  refine own_at (g' := (mkF m 0 #[oR a, oI (1 : Int32)] [])) (by first | (simp [entryFrame, mkF, argsToLocals, Value.category]; done) | rfl) ?_
  show own_Go p e below _ T0 (mkF m 0 #[oR a, oI (1 : Int32)] [])
  have K0 : Keep h0 h0 [] := Keep.refl h0 _
  have N0 : own_Fr h0.size h0.size [] := own_Fr.nil
  refine own_by (fun t_ k_ => XS.iloadN X0.here hx rfl (hb hby d17_0) rfl  k_) ?_
  show own_Go p e below _ T0 (mkF m 1 #[oR a, oI (1 : Int32)] [(.int (1 : Int32))])
  refine own_by (fun t_ k_ => XS.aloadN X0.here hx rfl (hb hby d17_1) rfl rfl  k_) ?_
  show own_Go p e below _ T0 (mkF m 2 #[oR a, oI (1 : Int32)] [(.ref a), (.int (1 : Int32))])
  refine own_len X0 hx hZ e0 A (1 : Int32) rfl (hb hby d17_2) ?_
  show own_Go p e below _ T0 (mkF m 3 #[oR a, oI (1 : Int32)] [(.int (1 : Int32)), (.int (1 : Int32))])
  refine own_by (fun t_ k_ => XS.isub X0.here hx rfl (hb hby d17_3) rfl k_) ?_
  show own_Go p e below _ T0 (mkF m 4 #[oR a, oI (1 : Int32)] [(.int ((1 : Int32) - (1 : Int32)))])
  rw [show ((1 : Int32) - (1 : Int32)) = (0 : Int32) by decide]
  show own_Go p e below _ T0 (mkF m 4 #[oR a, oI (1 : Int32)] [(.int (0 : Int32))])
  refine own_by (fun t_ k_ => XT.bipushV X0.here hx rfl (31 : Int32) (hb hby d17_4) (by decide) k_) ?_
  show own_Go p e below _ T0 (mkF m 6 #[oR a, oI (1 : Int32)] [(.int (31 : Int32)), (.int (0 : Int32))])
  refine own_by (fun t_ k_ => XT.iushr X0.here hx rfl (hb hby d17_6) rfl k_) ?_
  show own_Go p e below _ T0 (mkF m 7 #[oR a, oI (1 : Int32)] [(.int (((0 : Int32).toUInt32 >>> ((31 : Int32) &&& 31).toUInt32).toInt32))])
  rw [show (((0 : Int32).toUInt32 >>> ((31 : Int32) &&& 31).toUInt32).toInt32) = (0 : Int32) by decide]
  show own_Go p e below _ T0 (mkF m 7 #[oR a, oI (1 : Int32)] [(.int (0 : Int32))])
  refine own_by (fun t_ k_ => XT.i2b X0.here hx rfl (hb hby d17_7) rfl k_) ?_
  show own_Go p e below _ T0 (mkF m 8 #[oR a, oI (1 : Int32)] [(.int ((0 : Int32).toInt8.toInt32))])
  rw [show ((0 : Int32).toInt8.toInt32) = (0 : Int32) by decide]
  show own_Go p e below _ T0 (mkF m 8 #[oR a, oI (1 : Int32)] [(.int (0 : Int32))])
  subst e0
  exact own_retN X0 hx hlk hret (by simp) (w := (0 : Int32)) (hb hby d17_8) (by decide) (by decide) (by decide) (⟨rfl, rfl, rfl⟩)
theorem pn_1 : plainName "java/lang/String" = true := by first | (simp [plainName, overriddenIn]; done) | decide +kernel
theorem d9_0 : decode jdk_42_method_149_code 0 = .ok (.aload_n 0, 1) := by decide +kernel
theorem d9_1 : decode jdk_42_method_149_code 1 = .ok (.invokespecial 1, 3) := by decide +kernel
theorem d9_4 : decode jdk_42_method_149_code 4 = .ok (.iload_n 3, 1) := by decide +kernel
theorem d9_5 : decode jdk_42_method_149_code 5 = .ok (.ifCond .ne 22, 3) := by decide +kernel
theorem d9_27 : decode jdk_42_method_149_code 27 = .ok (.getstatic 38, 3) := by decide +kernel
theorem d9_30 : decode jdk_42_method_149_code 30 = .ok (.ifCond .eq 28, 3) := by decide +kernel
theorem d9_33 : decode jdk_42_method_149_code 33 = .ok (.aload_n 1, 1) := by decide +kernel
theorem d9_34 : decode jdk_42_method_149_code 34 = .ok (.iload_n 2, 1) := by decide +kernel
theorem d9_35 : decode jdk_42_method_149_code 35 = .ok (.iload_n 3, 1) := by decide +kernel
theorem d9_36 : decode jdk_42_method_149_code 36 = .ok (.invokestatic 177, 3) := by decide +kernel
theorem pd_1 : parseMethodDescriptor "([CII)[B" = some ⟨[(.array .char), .int, .int], some (.array .byte)⟩ := by decide +kernel
theorem d9_39 : decode jdk_42_method_149_code 39 = .ok (.astore 5, 2) := by decide +kernel
theorem d9_41 : decode jdk_42_method_149_code 41 = .ok (.aload_n 0, 1) := by decide +kernel
theorem d9_42 : decode jdk_42_method_149_code 42 = .ok (.aload 5, 2) := by decide +kernel
theorem d9_44 : decode jdk_42_method_149_code 44 = .ok (.iload_n 3, 1) := by decide +kernel
theorem d9_45 : decode jdk_42_method_149_code 45 = .ok (.invokestatic 47, 3) := by decide +kernel
theorem pd_2 : parseMethodDescriptor "([BI)B" = some ⟨[(.array .byte), .int], some .byte⟩ := by decide +kernel
theorem d9_48 : decode jdk_42_method_149_code 48 = .ok (.putfield 15, 3) := by decide +kernel
theorem d9_51 : decode jdk_42_method_149_code 51 = .ok (.aload_n 0, 1) := by decide +kernel
theorem d9_52 : decode jdk_42_method_149_code 52 = .ok (.aload 5, 2) := by decide +kernel
theorem d9_54 : decode jdk_42_method_149_code 54 = .ok (.putfield 9, 3) := by decide +kernel
theorem d9_57 : decode jdk_42_method_149_code 57 = .ok (.return_, 1) := by decide +kernel
set_option maxRecDepth 65536 in
set_option maxHeartbeats 40000000 in
theorem own_i4_1 (l : Launch) (Z : State) (a0 : Array Value) (hw : ∀ d ∈ tables_1, d.before a0 Z = true) (t a : Addr) (ka : ClassId) (c0 : Int32) (h0 : Heap) (cs : Int32) (Cs : Sta Z h0 "java/lang/String" "COMPACT_STRINGS" "Z" (.int cs)) (hcs : ¬ cs = (0 : Int32))(Et : Exa Z h0 t "java/lang/String") (Fv : Fld Z h0 t "java/lang/String" "value" "[B" .null) (Fc : Fld Z h0 t "java/lang/String" "coder" "B" (.int 0)) (A : own_A Z h0 a .char ka [(.int c0)]) (hc0 : ¬ (255 : Int32) < c0) :
    own_Met l (⟨"java/lang/String", "<init>", "([CIILjava/lang/Void;)V"⟩ : MethodName) jdk_42_method_149_code 6 (none) [] ({ frames := 2, cells := 1, slots := 1, locals := 38 } : Room) Z #[(.ref t), (.ref a), (.int (0 : Int32)), (.int (1 : Int32)), .null] h0 (fun rv rh rL => rv = none ∧ Keep h0 rh [t] ∧ own_Fr h0.size t rL ∧ own_Str Z rh t 0 [(.int (c0.toInt8.toInt32))]) := by
  refine own_enter (plainFor_of_name pn_1) ?_
  intro p e s m below meth c T0 hx hby hml hret hlk hown hnm hZ X0 e0
  refine own_at (g' := (mkF m 0 #[oR t, oR a, oI (0 : Int32), oI (1 : Int32), .val .null, .unset] [])) (by first | (simp [entryFrame, mkF, argsToLocals, Value.category]; done) | rfl) ?_
  show own_Go p e below _ T0 (mkF m 0 #[oR t, oR a, oI (0 : Int32), oI (1 : Int32), .val .null, .unset] [])
  have lt1 : t < h0.size := Et.lt
  have lt2 : a < h0.size := A.lt
  have K0 : Keep h0 h0 [t] := Keep.refl h0 _
  have N0 : own_Fr h0.size t [] := own_Fr.nil
  refine own_by (fun t_ k_ => XS.aloadN X0.here hx rfl (hb hby d9_0) rfl rfl  k_) ?_
  show own_Go p e below _ T0 (mkF m 1 #[oR t, oR a, oI (0 : Int32), oI (1 : Int32), .val .null, .unset] [(.ref t)])
  obtain ⟨T3, XT3, eT3, stT3⟩ := initO X0 hx hZ hown (hw _ (List.mem_of_getElem? (i := 30) rfl)) (hw _ (List.mem_of_getElem? (i := 31) rfl)) (hw _ (List.mem_of_getElem? (i := 32) rfl)) e0 (g := (mkF m 1 #[oR t, oR a, oI (0 : Int32), oI (1 : Int32), .val .null, .unset] [(.ref t)])) rfl (by rw [hml]; rfl) rfl (hb hby d9_1) (by decide) (W := 0) (by show 2 * 0 + _ ≤ _; exact Nat.le_of_eq rfl) (by decide)
  refine own_by stT3 ?_
  show own_Go p e below _ T3 (mkF m 4 #[oR t, oR a, oI (0 : Int32), oI (1 : Int32), .val .null, .unset] [])
  refine own_by (fun t_ k_ => XS.iloadN XT3.here hx rfl (hb hby d9_4) rfl  k_) ?_
  show own_Go p e below _ T3 (mkF m 5 #[oR t, oR a, oI (0 : Int32), oI (1 : Int32), .val .null, .unset] [(.int (1 : Int32))])
  refine own_by (fun t_ k_ => XS.ifYes XT3.here hx rfl (pc0 := 5) (pc' := 27) rfl (hb hby d9_5) rfl (XT.i0_ne_t (by decide)) (by decide) (by decide) k_) ?_
  show own_Go p e below _ T3 (mkF m 27 #[oR t, oR a, oI (0 : Int32), oI (1 : Int32), .val .null, .unset] [])
  obtain ⟨T4, XT4, eT4, stT4⟩ := getS2 XT3 hx hZ hown (host := "") (Or.inl (hw _ (List.mem_of_getElem? (i := 15) rfl))) Via.refl eT3 Cs (g := (mkF m 27 #[oR t, oR a, oI (0 : Int32), oI (1 : Int32), .val .null, .unset] [])) rfl (hb hby d9_27)
  refine own_by stT4 ?_
  show own_Go p e below _ T4 (mkF m 30 #[oR t, oR a, oI (0 : Int32), oI (1 : Int32), .val .null, .unset] [(.int cs)])
  refine own_by (fun t_ k_ => XS.ifNo XT4.here hx rfl (hb hby d9_30) rfl (XT.i0_eq_f hcs) k_) ?_
  show own_Go p e below _ T4 (mkF m 33 #[oR t, oR a, oI (0 : Int32), oI (1 : Int32), .val .null, .unset] [])
  refine own_by (fun t_ k_ => XS.aloadN XT4.here hx rfl (hb hby d9_33) rfl rfl  k_) ?_
  show own_Go p e below _ T4 (mkF m 34 #[oR t, oR a, oI (0 : Int32), oI (1 : Int32), .val .null, .unset] [(.ref a)])
  refine own_by (fun t_ k_ => XS.iloadN XT4.here hx rfl (hb hby d9_34) rfl  k_) ?_
  show own_Go p e below _ T4 (mkF m 35 #[oR t, oR a, oI (0 : Int32), oI (1 : Int32), .val .null, .unset] [(.int (0 : Int32)), (.ref a)])
  refine own_by (fun t_ k_ => XS.iloadN XT4.here hx rfl (hb hby d9_35) rfl  k_) ?_
  show own_Go p e below _ T4 (mkF m 36 #[oR t, oR a, oI (0 : Int32), oI (1 : Int32), .val .null, .unset] [(.int (1 : Int32)), (.int (0 : Int32)), (.ref a)])
  have g5 : h0.size ≤ h0.size := K0.1
  refine own_callS XT4 hx hZ hown (hw _ (List.mem_of_getElem? (i := 84) rfl)) (hw _ (List.mem_of_getElem? (i := 85) rfl)) (hw _ (List.mem_of_getElem? (i := 86) rfl)) (hw _ (List.mem_of_getElem? (i := 87) rfl)) (by decide) eT4 (argsL := [(.ref a), (.int (0 : Int32)), (.int (1 : Int32))]) (rest := []) (own_cp3_1 l Z a0 hw a ka c0 h0 A hc0) 0 (by decide) (by decide) (by rw [hml]; rfl) (lenOf pd_1 rfl) (Nat.le_of_eq rfl) (hb hby d9_36) (by decide) (by decide) (st := [(.int (1 : Int32)), (.int (0 : Int32)), (.ref a)]) rfl ?_
  intro T6 LT6 vT6 XT6 hQT6
  obtain ⟨rfl, KT6, NT6, kb, VT6⟩ := hQT6
  show own_Go p e below _ T6 (mkF m 39 #[oR t, oR a, oI (0 : Int32), oI (1 : Int32), .val .null, .unset] [(.ref h0.size)])
  have fq7_1 := Et.keep KT6
  have fq7_2 := Fv.keep KT6 nin0
  have fq7_3 := Fc.keep KT6 nin0
  have fq7_4 := A.keep KT6 nin0
  have fq7_5 := own_stak Cs KT6
  have lq7_0 := Nat.lt_of_lt_of_le lt1 KT6.1
  have lq7_1 := Nat.lt_of_lt_of_le lt2 KT6.1
  have Kq7 := own_trans0 K0 KT6
  have z8 : t ≠ h0.size := Nat.ne_of_lt lt1
  have z9 : a ≠ h0.size := Nat.ne_of_lt lt2
  have N10 := own_Fr.app N0 (own_Fr.of NT6 (K0).1)
  refine own_by (fun t_ k_ => XS.astore XT6.here hx rfl (hb hby d9_39) rfl rfl (l' := #[oR t, oR a, oI (0 : Int32), oI (1 : Int32), .val .null, oR h0.size]) rfl k_) ?_
  show own_Go p e below _ T6 (mkF m 41 #[oR t, oR a, oI (0 : Int32), oI (1 : Int32), .val .null, oR h0.size] [])
  refine own_by (fun t_ k_ => XS.aloadN XT6.here hx rfl (hb hby d9_41) rfl rfl  k_) ?_
  show own_Go p e below _ T6 (mkF m 42 #[oR t, oR a, oI (0 : Int32), oI (1 : Int32), .val .null, oR h0.size] [(.ref t)])
  refine own_by (fun t_ k_ => XS.aload XT6.here hx rfl (hb hby d9_42) rfl rfl  k_) ?_
  show own_Go p e below _ T6 (mkF m 44 #[oR t, oR a, oI (0 : Int32), oI (1 : Int32), .val .null, oR h0.size] [(.ref h0.size), (.ref t)])
  refine own_by (fun t_ k_ => XS.iloadN XT6.here hx rfl (hb hby d9_44) rfl  k_) ?_
  show own_Go p e below _ T6 (mkF m 45 #[oR t, oR a, oI (0 : Int32), oI (1 : Int32), .val .null, oR h0.size] [(.int (1 : Int32)), (.ref h0.size), (.ref t)])
  refine own_callS XT6 hx hZ hown (hw _ (List.mem_of_getElem? (i := 91) rfl)) (hw _ (List.mem_of_getElem? (i := 92) rfl)) (hw _ (List.mem_of_getElem? (i := 86) rfl)) (hw _ (List.mem_of_getElem? (i := 93) rfl)) (by decide) (rfl : T6.heap = T6.heap) (argsL := [(.ref h0.size), (.int (1 : Int32))]) (rest := [(.ref t)]) (own_cd_1 l Z a0 hw h0.size kb (.int (c0.toInt8.toInt32)) T6.heap VT6) 1 (by decide) (by decide) (by rw [hml]; rfl) (lenOf pd_2 rfl) (Nat.le_of_eq rfl) (hb hby d9_45) (by decide) (by decide) (st := [(.int (1 : Int32)), (.ref h0.size), (.ref t)]) rfl ?_
  intro T11 LT11 vT11 XT11 hQT11
  obtain ⟨rfl, eT11, rfl⟩ := hQT11
  show own_Go p e below _ T11 (mkF m 48 #[oR t, oR a, oI (0 : Int32), oI (1 : Int32), .val .null, oR h0.size] [(.int (0 : Int32)), (.ref t)])
  have N12 := own_Fr.app N10 own_Fr.nil
  refine own_putF XT11 hx hZ hown (hw _ (List.mem_of_getElem? (i := 35) rfl)) eT11 fq7_3 fq7_1 (Or.inr ⟨(hw _ (List.mem_of_getElem? (i := 36) rfl)), rfl, hnm⟩) (hw _ (List.mem_of_getElem? (i := 21) rfl)) (ty := .byte) (by decide +kernel) (by decide) (by decide) (hb hby d9_48) ?_
  intro T13 hT13 XT13 eT13 WT13
  have FT13_coder := Fld.same WT13 fq7_3
  have FT13_value := Fld.other WT13 fq7_2 (Or.inr (slot_ne (t := (.array .byte)) (t' := .byte) (Or.inr (hw _ (List.mem_of_getElem? (i := 34) rfl))) (Or.inr (hw _ (List.mem_of_getElem? (i := 36) rfl))) (by decide) (by decide +kernel) (by decide +kernel)))
  have fq14_1 := fq7_1.keep (Keep.of_wr WT13)
  have fq14_3 := Sta.wr WT13 fq7_5
  have fq14_4 := VT6.keep (Keep.of_wr WT13) (own_nin (Ne.symm z8))
  have lq14_0 := Nat.lt_of_lt_of_le lq7_0 (Keep.of_wr WT13).1
  have lq14_1 := Nat.lt_of_lt_of_le lq7_1 (Keep.of_wr WT13).1
  have Kq14 := own_trans1 Kq7 (Keep.of_wr WT13) (Or.inl (List.mem_singleton.mpr rfl))
  have N15 := own_Fr.app N12 (own_Fr.one (i := (Jvm.RoadKit.slotOf Z "java/lang/String" "coder" "B")))
  show own_Go p e below _ T13 (mkF m 51 #[oR t, oR a, oI (0 : Int32), oI (1 : Int32), .val .null, oR h0.size] [])
  refine own_by (fun t_ k_ => XS.aloadN XT13.here hx rfl (hb hby d9_51) rfl rfl  k_) ?_
  show own_Go p e below _ T13 (mkF m 52 #[oR t, oR a, oI (0 : Int32), oI (1 : Int32), .val .null, oR h0.size] [(.ref t)])
  refine own_by (fun t_ k_ => XS.aload XT13.here hx rfl (hb hby d9_52) rfl rfl  k_) ?_
  show own_Go p e below _ T13 (mkF m 54 #[oR t, oR a, oI (0 : Int32), oI (1 : Int32), .val .null, oR h0.size] [(.ref h0.size), (.ref t)])
  refine own_putF XT13 hx hZ hown (hw _ (List.mem_of_getElem? (i := 33) rfl)) eT13 FT13_value fq14_1 (Or.inr ⟨(hw _ (List.mem_of_getElem? (i := 34) rfl)), rfl, hnm⟩) (hw _ (List.mem_of_getElem? (i := 21) rfl)) (ty := (.array .byte)) (by decide +kernel) rfl rfl (hb hby d9_54) ?_
  intro T16 hT16 XT16 eT16 WT16
  have FT16_value := Fld.same WT16 FT13_value
  have FT16_coder := Fld.other WT16 FT13_coder (Or.inr (slot_ne (t := .byte) (t' := (.array .byte)) (Or.inr (hw _ (List.mem_of_getElem? (i := 36) rfl))) (Or.inr (hw _ (List.mem_of_getElem? (i := 34) rfl))) (by decide) (by decide +kernel) (by decide +kernel)))
  have fq17_1 := fq14_1.keep (Keep.of_wr WT16)
  have fq17_2 := Sta.wr WT16 fq14_3
  have fq17_3 := fq14_4.keep (Keep.of_wr WT16) (own_nin (Ne.symm z8))
  have lq17_0 := Nat.lt_of_lt_of_le lq14_0 (Keep.of_wr WT16).1
  have lq17_1 := Nat.lt_of_lt_of_le lq14_1 (Keep.of_wr WT16).1
  have Kq17 := own_trans1 Kq14 (Keep.of_wr WT16) (Or.inl (List.mem_singleton.mpr rfl))
  have N18 := own_Fr.app N15 (own_Fr.one (i := (Jvm.RoadKit.slotOf Z "java/lang/String" "value" "[B")))
  show own_Go p e below _ T16 (mkF m 57 #[oR t, oR a, oI (0 : Int32), oI (1 : Int32), .val .null, oR h0.size] [])
  subst eT16
  exact own_retV XT16 hx hlk hret (hb hby d9_57) (by decide) (by decide) (⟨rfl, Kq17, N18, ⟨h0.size, _, fq17_1, FT16_value, FT16_coder, fq17_3⟩⟩)
theorem d8_0 : decode jdk_42_method_3_code 0 = .ok (.aload_n 0, 1) := by decide +kernel
theorem d8_1 : decode jdk_42_method_3_code 1 = .ok (.aload_n 1, 1) := by decide +kernel
theorem d8_2 : decode jdk_42_method_3_code 2 = .ok (.iconst 0, 1) := by decide +kernel
theorem d8_3 : decode jdk_42_method_3_code 3 = .ok (.aload_n 1, 1) := by decide +kernel
theorem d8_4 : decode jdk_42_method_3_code 4 = .ok (.arraylength, 1) := by decide +kernel
theorem d8_5 : decode jdk_42_method_3_code 5 = .ok (.aconst_null, 1) := by decide +kernel
theorem d8_6 : decode jdk_42_method_3_code 6 = .ok (.invokespecial 27, 3) := by decide +kernel
theorem pd_3 : parseMethodDescriptor "([CIILjava/lang/Void;)V" = some ⟨[(.array .char), .int, .int, (.object "java/lang/Void")], none⟩ := by decide +kernel
theorem d8_9 : decode jdk_42_method_3_code 9 = .ok (.return_, 1) := by decide +kernel
set_option maxRecDepth 65536 in
set_option maxHeartbeats 40000000 in
theorem own_i1_1 (l : Launch) (Z : State) (a0 : Array Value) (hw : ∀ d ∈ tables_1, d.before a0 Z = true) (t a : Addr) (ka : ClassId) (c0 : Int32) (h0 : Heap) (cs : Int32) (Cs : Sta Z h0 "java/lang/String" "COMPACT_STRINGS" "Z" (.int cs)) (hcs : ¬ cs = (0 : Int32))(Et : Exa Z h0 t "java/lang/String") (Fv : Fld Z h0 t "java/lang/String" "value" "[B" .null) (Fc : Fld Z h0 t "java/lang/String" "coder" "B" (.int 0)) (A : own_A Z h0 a .char ka [(.int c0)]) (hc0 : ¬ (255 : Int32) < c0) :
    own_Met l (⟨"java/lang/String", "<init>", "([C)V"⟩ : MethodName) jdk_42_method_3_code 2 (none) [] ({ frames := 3, cells := 1, slots := 1, locals := 55 } : Room) Z #[(.ref t), (.ref a)] h0 (fun rv rh rL => rv = none ∧ Keep h0 rh [t] ∧ own_Fr h0.size t rL ∧ own_Str Z rh t 0 [(.int (c0.toInt8.toInt32))]) := by
  refine own_enter (plainFor_of_name pn_1) ?_
  intro p e s m below meth c T0 hx hby hml hret hlk hown hnm hZ X0 e0
  refine own_at (g' := (mkF m 0 #[oR t, oR a] [])) (by first | (simp [entryFrame, mkF, argsToLocals, Value.category]; done) | rfl) ?_
  show own_Go p e below _ T0 (mkF m 0 #[oR t, oR a] [])
  have lt1 : t < h0.size := Et.lt
  have lt2 : a < h0.size := A.lt
  have K0 : Keep h0 h0 [t] := Keep.refl h0 _
  have N0 : own_Fr h0.size t [] := own_Fr.nil
  refine own_by (fun t_ k_ => XS.aloadN X0.here hx rfl (hb hby d8_0) rfl rfl  k_) ?_
  show own_Go p e below _ T0 (mkF m 1 #[oR t, oR a] [(.ref t)])
  refine own_by (fun t_ k_ => XS.aloadN X0.here hx rfl (hb hby d8_1) rfl rfl  k_) ?_
  show own_Go p e below _ T0 (mkF m 2 #[oR t, oR a] [(.ref a), (.ref t)])
  refine own_by (fun t_ k_ => XT.iconstV X0.here hx rfl (0 : Int32) (hb hby d8_2) (by decide) k_) ?_
  show own_Go p e below _ T0 (mkF m 3 #[oR t, oR a] [(.int (0 : Int32)), (.ref a), (.ref t)])
  refine own_by (fun t_ k_ => XS.aloadN X0.here hx rfl (hb hby d8_3) rfl rfl  k_) ?_
  show own_Go p e below _ T0 (mkF m 4 #[oR t, oR a] [(.ref a), (.int (0 : Int32)), (.ref a), (.ref t)])
  refine own_len X0 hx hZ e0 A (1 : Int32) rfl (hb hby d8_4) ?_
  show own_Go p e below _ T0 (mkF m 5 #[oR t, oR a] [(.int (1 : Int32)), (.int (0 : Int32)), (.ref a), (.ref t)])
  refine own_by (fun t_ k_ => XS.aconstNull X0.here hx rfl (hb hby d8_5) k_) ?_
  show own_Go p e below _ T0 (mkF m 6 #[oR t, oR a] [.null, (.int (1 : Int32)), (.int (0 : Int32)), (.ref a), (.ref t)])
  refine own_callN X0 hx hZ rfl hown (hw _ (List.mem_of_getElem? (i := 42) rfl)) (hw _ (List.mem_of_getElem? (i := 43) rfl)) (hw _ (List.mem_of_getElem? (i := 44) rfl)) (hw _ (List.mem_of_getElem? (i := 13) rfl)) (by decide) e0 (b := t) (argsL := [(.ref a), (.int (0 : Int32)), (.int (1 : Int32)), .null]) (rest := []) (own_i4_1 l Z a0 hw t a ka c0 h0 cs Cs hcs Et Fv Fc A hc0) 0 (by decide) (by decide) (by rw [hml]; rfl) (lenOf pd_3 rfl) (Nat.le_of_eq rfl) (hb hby d8_6) (by decide) (by decide) (st := [.null, (.int (1 : Int32)), (.int (0 : Int32)), (.ref a), (.ref t)]) rfl ?_
  intro T3 LT3 vT3 XT3 hQT3
  obtain ⟨rfl, KT3, NT3, ST3⟩ := hQT3
  show own_Go p e below _ T3 (mkF m 9 #[oR t, oR a] [])
  exact own_retV XT3 hx hlk hret (hb hby d8_9) (by decide) (by decide) (⟨rfl, KT3, own_Fr.app own_Fr.nil NT3, ST3⟩)
set_option maxRecDepth 65536 in
set_option maxHeartbeats 40000000 in
theorem own_cp5_2 (l : Launch) (Z : State) (a0 : Array Value) (hw : ∀ d ∈ tables_1, d.before a0 Z = true) (a b : Addr) (ka kb : ClassId) (c0 c1 : Int32) (h0 : Heap) (hab : a ≠ b) (A : own_A Z h0 a .char ka [(.int c0), (.int c1)]) (B : own_A Z h0 b .byte kb [(.int 0), (.int 0)]) (hc0 : ¬ (255 : Int32) < c0) (hc1 : ¬ (255 : Int32) < c1) :
    own_Met l (⟨"java/lang/StringUTF16", "compress", "([CI[BII)I"⟩ : MethodName) jdk_52_method_21_code 7 (some .int) [] ({ frames := 0, cells := 0, slots := 0, locals := 0 } : Room) Z #[(.ref a), (.int (0 : Int32)), (.ref b), (.int (0 : Int32)), (.int (2 : Int32))] h0 (fun rv rh rL => rv = some (.int (2 : Int32)) ∧ Keep h0 rh [b] ∧ own_Fr h0.size b rL ∧ own_A Z rh b .byte kb [(.int (c0.toInt8.toInt32)), (.int (c1.toInt8.toInt32))]) := by
  refine own_enter (plainFor_of_name pn_0) ?_
  intro p e s m below meth c T0 hx hby hml hret hlk hown hnm hZ X0 e0
  refine own_at (g' := (mkF m 0 #[oR a, oI (0 : Int32), oR b, oI (0 : Int32), oI (2 : Int32), .unset, .unset] [])) (by first | (simp [entryFrame, mkF, argsToLocals, Value.category]; done) | rfl) ?_
  show own_Go p e below _ T0 (mkF m 0 #[oR a, oI (0 : Int32), oR b, oI (0 : Int32), oI (2 : Int32), .unset, .unset] [])
  have K0 : Keep h0 h0 [b] := Keep.refl h0 _
  have N0 : own_Fr h0.size b [] := own_Fr.nil
  refine own_by (fun t_ k_ => XT.iconstV X0.here hx rfl (0 : Int32) (hb hby d16_0) (by decide) k_) ?_
  show own_Go p e below _ T0 (mkF m 1 #[oR a, oI (0 : Int32), oR b, oI (0 : Int32), oI (2 : Int32), .unset, .unset] [(.int (0 : Int32))])
  refine own_by (fun t_ k_ => XS.istore X0.here hx rfl (hb hby d16_1) rfl (l' := #[oR a, oI (0 : Int32), oR b, oI (0 : Int32), oI (2 : Int32), oI (0 : Int32), .unset]) rfl k_) ?_
  show own_Go p e below _ T0 (mkF m 3 #[oR a, oI (0 : Int32), oR b, oI (0 : Int32), oI (2 : Int32), oI (0 : Int32), .unset] [])
  refine own_by (fun t_ k_ => XS.iload X0.here hx rfl (hb hby d16_3) rfl  k_) ?_
  show own_Go p e below _ T0 (mkF m 5 #[oR a, oI (0 : Int32), oR b, oI (0 : Int32), oI (2 : Int32), oI (0 : Int32), .unset] [(.int (0 : Int32))])
  refine own_by (fun t_ k_ => XS.iload X0.here hx rfl (hb hby d16_5) rfl  k_) ?_
  show own_Go p e below _ T0 (mkF m 7 #[oR a, oI (0 : Int32), oR b, oI (0 : Int32), oI (2 : Int32), oI (0 : Int32), .unset] [(.int (2 : Int32)), (.int (0 : Int32))])
  refine own_by (fun t_ k_ => XS.icmpNo X0.here hx rfl (hb hby d16_7) rfl (XT.ii_ge_f (by decide)) k_) ?_
  show own_Go p e below _ T0 (mkF m 10 #[oR a, oI (0 : Int32), oR b, oI (0 : Int32), oI (2 : Int32), oI (0 : Int32), .unset] [])
  refine own_by (fun t_ k_ => XS.aloadN X0.here hx rfl (hb hby d16_10) rfl rfl  k_) ?_
  show own_Go p e below _ T0 (mkF m 11 #[oR a, oI (0 : Int32), oR b, oI (0 : Int32), oI (2 : Int32), oI (0 : Int32), .unset] [(.ref a)])
  refine own_by (fun t_ k_ => XS.iloadN X0.here hx rfl (hb hby d16_11) rfl  k_) ?_
  show own_Go p e below _ T0 (mkF m 12 #[oR a, oI (0 : Int32), oR b, oI (0 : Int32), oI (2 : Int32), oI (0 : Int32), .unset] [(.int (0 : Int32)), (.ref a)])
  refine own_ldC X0 hx hZ e0 A 0 (by decide) (by decide) (v := (.int c0)) rfl (hb hby d16_12) ?_
  show own_Go p e below _ T0 (mkF m 13 #[oR a, oI (0 : Int32), oR b, oI (0 : Int32), oI (2 : Int32), oI (0 : Int32), .unset] [(.int c0)])
  refine own_by (fun t_ k_ => XS.istore X0.here hx rfl (hb hby d16_13) rfl (l' := #[oR a, oI (0 : Int32), oR b, oI (0 : Int32), oI (2 : Int32), oI (0 : Int32), oI c0]) rfl k_) ?_
  show own_Go p e below _ T0 (mkF m 15 #[oR a, oI (0 : Int32), oR b, oI (0 : Int32), oI (2 : Int32), oI (0 : Int32), oI c0] [])
  refine own_by (fun t_ k_ => XS.iload X0.here hx rfl (hb hby d16_15) rfl  k_) ?_
  show own_Go p e below _ T0 (mkF m 17 #[oR a, oI (0 : Int32), oR b, oI (0 : Int32), oI (2 : Int32), oI (0 : Int32), oI c0] [(.int c0)])
  refine own_by (fun t_ k_ => XT.sipushV X0.here hx rfl (255 : Int32) (hb hby d16_17) (by decide) k_) ?_
  show own_Go p e below _ T0 (mkF m 20 #[oR a, oI (0 : Int32), oR b, oI (0 : Int32), oI (2 : Int32), oI (0 : Int32), oI c0] [(.int (255 : Int32)), (.int c0)])
  refine own_by (fun t_ k_ => XS.icmpYes X0.here hx rfl (pc0 := 20) (pc' := 26) rfl (hb hby d16_20) rfl (XT.ii_le_t hc0) (by decide) (by decide) k_) ?_
  show own_Go p e below _ T0 (mkF m 26 #[oR a, oI (0 : Int32), oR b, oI (0 : Int32), oI (2 : Int32), oI (0 : Int32), oI c0] [])
  refine own_by (fun t_ k_ => XS.aloadN X0.here hx rfl (hb hby d16_26) rfl rfl  k_) ?_
  show own_Go p e below _ T0 (mkF m 27 #[oR a, oI (0 : Int32), oR b, oI (0 : Int32), oI (2 : Int32), oI (0 : Int32), oI c0] [(.ref b)])
  refine own_by (fun t_ k_ => XS.iloadN X0.here hx rfl (hb hby d16_27) rfl  k_) ?_
  show own_Go p e below _ T0 (mkF m 28 #[oR a, oI (0 : Int32), oR b, oI (0 : Int32), oI (2 : Int32), oI (0 : Int32), oI c0] [(.int (0 : Int32)), (.ref b)])
  refine own_by (fun t_ k_ => XS.iload X0.here hx rfl (hb hby d16_28) rfl  k_) ?_
  show own_Go p e below _ T0 (mkF m 30 #[oR a, oI (0 : Int32), oR b, oI (0 : Int32), oI (2 : Int32), oI (0 : Int32), oI c0] [(.int c0), (.int (0 : Int32)), (.ref b)])
  refine own_by (fun t_ k_ => XT.i2b X0.here hx rfl (hb hby d16_30) rfl k_) ?_
  show own_Go p e below _ T0 (mkF m 31 #[oR a, oI (0 : Int32), oR b, oI (0 : Int32), oI (2 : Int32), oI (0 : Int32), oI c0] [(.int (c0.toInt8.toInt32)), (.int (0 : Int32)), (.ref b)])
  refine own_stB X0 hx hZ e0 B (y := (c0.toInt8.toInt32)) 0 (by decide) (by decide) (by simp) (own_narB c0) (hb hby d16_31) ?_
  intro T1 hT1 XT1 eT1 WT1 YT1
  have VT1 : own_A Z hT1 b .byte kb [(.int (c0.toInt8.toInt32)), (.int 0)] := YT1
  clear YT1
  have fq2_1 := A.keep (Keep.of_wr WT1) (own_nin hab)
  have Kq2 := own_trans1 K0 (Keep.of_wr WT1) (Or.inl (List.mem_singleton.mpr rfl))
  have N3 := own_Fr.app N0 (own_Fr.one (i := 0))
  show own_Go p e below _ T1 (mkF m 32 #[oR a, oI (0 : Int32), oR b, oI (0 : Int32), oI (2 : Int32), oI (0 : Int32), oI c0] [])
  refine own_by (fun t_ k_ => XT.iincV XT1.here hx rfl (1 : Int32) (hb hby d16_32) (by decide) rfl (l' := #[oR a, oI ((0 : Int32) + (1 : Int32)), oR b, oI (0 : Int32), oI (2 : Int32), oI (0 : Int32), oI c0]) rfl k_) ?_
  show own_Go p e below _ T1 (mkF m 35 #[oR a, oI ((0 : Int32) + (1 : Int32)), oR b, oI (0 : Int32), oI (2 : Int32), oI (0 : Int32), oI c0] [])
  rw [show ((0 : Int32) + (1 : Int32)) = (1 : Int32) by decide]
  show own_Go p e below _ T1 (mkF m 35 #[oR a, oI (1 : Int32), oR b, oI (0 : Int32), oI (2 : Int32), oI (0 : Int32), oI c0] [])
  refine own_by (fun t_ k_ => XT.iincV XT1.here hx rfl (1 : Int32) (hb hby d16_35) (by decide) rfl (l' := #[oR a, oI (1 : Int32), oR b, oI ((0 : Int32) + (1 : Int32)), oI (2 : Int32), oI (0 : Int32), oI c0]) rfl k_) ?_
  show own_Go p e below _ T1 (mkF m 38 #[oR a, oI (1 : Int32), oR b, oI ((0 : Int32) + (1 : Int32)), oI (2 : Int32), oI (0 : Int32), oI c0] [])
  rw [show ((0 : Int32) + (1 : Int32)) = (1 : Int32) by decide]
  show own_Go p e below _ T1 (mkF m 38 #[oR a, oI (1 : Int32), oR b, oI (1 : Int32), oI (2 : Int32), oI (0 : Int32), oI c0] [])
  refine own_by (fun t_ k_ => XT.iincV XT1.here hx rfl (1 : Int32) (hb hby d16_38) (by decide) rfl (l' := #[oR a, oI (1 : Int32), oR b, oI (1 : Int32), oI (2 : Int32), oI ((0 : Int32) + (1 : Int32)), oI c0]) rfl k_) ?_
  show own_Go p e below _ T1 (mkF m 41 #[oR a, oI (1 : Int32), oR b, oI (1 : Int32), oI (2 : Int32), oI ((0 : Int32) + (1 : Int32)), oI c0] [])
  rw [show ((0 : Int32) + (1 : Int32)) = (1 : Int32) by decide]
  show own_Go p e below _ T1 (mkF m 41 #[oR a, oI (1 : Int32), oR b, oI (1 : Int32), oI (2 : Int32), oI (1 : Int32), oI c0] [])
  refine own_by (fun t_ k_ => XS.goto XT1.here hx rfl (pc0 := 41) (pc' := 3) rfl (hb hby d16_41) (by decide) (by decide) k_) ?_
  show own_Go p e below _ T1 (mkF m 3 #[oR a, oI (1 : Int32), oR b, oI (1 : Int32), oI (2 : Int32), oI (1 : Int32), oI c0] [])
  refine own_by (fun t_ k_ => XS.iload XT1.here hx rfl (hb hby d16_3) rfl  k_) ?_
  show own_Go p e below _ T1 (mkF m 5 #[oR a, oI (1 : Int32), oR b, oI (1 : Int32), oI (2 : Int32), oI (1 : Int32), oI c0] [(.int (1 : Int32))])
  refine own_by (fun t_ k_ => XS.iload XT1.here hx rfl (hb hby d16_5) rfl  k_) ?_
  show own_Go p e below _ T1 (mkF m 7 #[oR a, oI (1 : Int32), oR b, oI (1 : Int32), oI (2 : Int32), oI (1 : Int32), oI c0] [(.int (2 : Int32)), (.int (1 : Int32))])
  refine own_by (fun t_ k_ => XS.icmpNo XT1.here hx rfl (hb hby d16_7) rfl (XT.ii_ge_f (by decide)) k_) ?_
  show own_Go p e below _ T1 (mkF m 10 #[oR a, oI (1 : Int32), oR b, oI (1 : Int32), oI (2 : Int32), oI (1 : Int32), oI c0] [])
  refine own_by (fun t_ k_ => XS.aloadN XT1.here hx rfl (hb hby d16_10) rfl rfl  k_) ?_
  show own_Go p e below _ T1 (mkF m 11 #[oR a, oI (1 : Int32), oR b, oI (1 : Int32), oI (2 : Int32), oI (1 : Int32), oI c0] [(.ref a)])
  refine own_by (fun t_ k_ => XS.iloadN XT1.here hx rfl (hb hby d16_11) rfl  k_) ?_
  show own_Go p e below _ T1 (mkF m 12 #[oR a, oI (1 : Int32), oR b, oI (1 : Int32), oI (2 : Int32), oI (1 : Int32), oI c0] [(.int (1 : Int32)), (.ref a)])
  refine own_ldC XT1 hx hZ eT1 fq2_1 1 (by decide) (by decide) (v := (.int c1)) rfl (hb hby d16_12) ?_
  show own_Go p e below _ T1 (mkF m 13 #[oR a, oI (1 : Int32), oR b, oI (1 : Int32), oI (2 : Int32), oI (1 : Int32), oI c0] [(.int c1)])
  refine own_by (fun t_ k_ => XS.istore XT1.here hx rfl (hb hby d16_13) rfl (l' := #[oR a, oI (1 : Int32), oR b, oI (1 : Int32), oI (2 : Int32), oI (1 : Int32), oI c1]) rfl k_) ?_
  show own_Go p e below _ T1 (mkF m 15 #[oR a, oI (1 : Int32), oR b, oI (1 : Int32), oI (2 : Int32), oI (1 : Int32), oI c1] [])
  refine own_by (fun t_ k_ => XS.iload XT1.here hx rfl (hb hby d16_15) rfl  k_) ?_
  show own_Go p e below _ T1 (mkF m 17 #[oR a, oI (1 : Int32), oR b, oI (1 : Int32), oI (2 : Int32), oI (1 : Int32), oI c1] [(.int c1)])
  refine own_by (fun t_ k_ => XT.sipushV XT1.here hx rfl (255 : Int32) (hb hby d16_17) (by decide) k_) ?_
  show own_Go p e below _ T1 (mkF m 20 #[oR a, oI (1 : Int32), oR b, oI (1 : Int32), oI (2 : Int32), oI (1 : Int32), oI c1] [(.int (255 : Int32)), (.int c1)])
  refine own_by (fun t_ k_ => XS.icmpYes XT1.here hx rfl (pc0 := 20) (pc' := 26) rfl (hb hby d16_20) rfl (XT.ii_le_t hc1) (by decide) (by decide) k_) ?_
  show own_Go p e below _ T1 (mkF m 26 #[oR a, oI (1 : Int32), oR b, oI (1 : Int32), oI (2 : Int32), oI (1 : Int32), oI c1] [])
  refine own_by (fun t_ k_ => XS.aloadN XT1.here hx rfl (hb hby d16_26) rfl rfl  k_) ?_
  show own_Go p e below _ T1 (mkF m 27 #[oR a, oI (1 : Int32), oR b, oI (1 : Int32), oI (2 : Int32), oI (1 : Int32), oI c1] [(.ref b)])
  refine own_by (fun t_ k_ => XS.iloadN XT1.here hx rfl (hb hby d16_27) rfl  k_) ?_
  show own_Go p e below _ T1 (mkF m 28 #[oR a, oI (1 : Int32), oR b, oI (1 : Int32), oI (2 : Int32), oI (1 : Int32), oI c1] [(.int (1 : Int32)), (.ref b)])
  refine own_by (fun t_ k_ => XS.iload XT1.here hx rfl (hb hby d16_28) rfl  k_) ?_
  show own_Go p e below _ T1 (mkF m 30 #[oR a, oI (1 : Int32), oR b, oI (1 : Int32), oI (2 : Int32), oI (1 : Int32), oI c1] [(.int c1), (.int (1 : Int32)), (.ref b)])
  refine own_by (fun t_ k_ => XT.i2b XT1.here hx rfl (hb hby d16_30) rfl k_) ?_
  show own_Go p e below _ T1 (mkF m 31 #[oR a, oI (1 : Int32), oR b, oI (1 : Int32), oI (2 : Int32), oI (1 : Int32), oI c1] [(.int (c1.toInt8.toInt32)), (.int (1 : Int32)), (.ref b)])
  refine own_stB XT1 hx hZ eT1 VT1 (y := (c1.toInt8.toInt32)) 1 (by decide) (by decide) (by simp) (own_narB c1) (hb hby d16_31) ?_
  intro T4 hT4 XT4 eT4 WT4 YT4
  have VT4 : own_A Z hT4 b .byte kb [(.int (c0.toInt8.toInt32)), (.int (c1.toInt8.toInt32))] := YT4
  clear YT4
  have fq5_1 := fq2_1.keep (Keep.of_wr WT4) (own_nin hab)
  have Kq5 := own_trans1 Kq2 (Keep.of_wr WT4) (Or.inl (List.mem_singleton.mpr rfl))
  have N6 := own_Fr.app N3 (own_Fr.one (i := 1))
  show own_Go p e below _ T4 (mkF m 32 #[oR a, oI (1 : Int32), oR b, oI (1 : Int32), oI (2 : Int32), oI (1 : Int32), oI c1] [])
  refine own_by (fun t_ k_ => XT.iincV XT4.here hx rfl (1 : Int32) (hb hby d16_32) (by decide) rfl (l' := #[oR a, oI ((1 : Int32) + (1 : Int32)), oR b, oI (1 : Int32), oI (2 : Int32), oI (1 : Int32), oI c1]) rfl k_) ?_
  show own_Go p e below _ T4 (mkF m 35 #[oR a, oI ((1 : Int32) + (1 : Int32)), oR b, oI (1 : Int32), oI (2 : Int32), oI (1 : Int32), oI c1] [])
  rw [show ((1 : Int32) + (1 : Int32)) = (2 : Int32) by decide]
  show own_Go p e below _ T4 (mkF m 35 #[oR a, oI (2 : Int32), oR b, oI (1 : Int32), oI (2 : Int32), oI (1 : Int32), oI c1] [])
  refine own_by (fun t_ k_ => XT.iincV XT4.here hx rfl (1 : Int32) (hb hby d16_35) (by decide) rfl (l' := #[oR a, oI (2 : Int32), oR b, oI ((1 : Int32) + (1 : Int32)), oI (2 : Int32), oI (1 : Int32), oI c1]) rfl k_) ?_
  show own_Go p e below _ T4 (mkF m 38 #[oR a, oI (2 : Int32), oR b, oI ((1 : Int32) + (1 : Int32)), oI (2 : Int32), oI (1 : Int32), oI c1] [])
  rw [show ((1 : Int32) + (1 : Int32)) = (2 : Int32) by decide]
  show own_Go p e below _ T4 (mkF m 38 #[oR a, oI (2 : Int32), oR b, oI (2 : Int32), oI (2 : Int32), oI (1 : Int32), oI c1] [])
  refine own_by (fun t_ k_ => XT.iincV XT4.here hx rfl (1 : Int32) (hb hby d16_38) (by decide) rfl (l' := #[oR a, oI (2 : Int32), oR b, oI (2 : Int32), oI (2 : Int32), oI ((1 : Int32) + (1 : Int32)), oI c1]) rfl k_) ?_
  show own_Go p e below _ T4 (mkF m 41 #[oR a, oI (2 : Int32), oR b, oI (2 : Int32), oI (2 : Int32), oI ((1 : Int32) + (1 : Int32)), oI c1] [])
  rw [show ((1 : Int32) + (1 : Int32)) = (2 : Int32) by decide]
  show own_Go p e below _ T4 (mkF m 41 #[oR a, oI (2 : Int32), oR b, oI (2 : Int32), oI (2 : Int32), oI (2 : Int32), oI c1] [])
  refine own_by (fun t_ k_ => XS.goto XT4.here hx rfl (pc0 := 41) (pc' := 3) rfl (hb hby d16_41) (by decide) (by decide) k_) ?_
  show own_Go p e below _ T4 (mkF m 3 #[oR a, oI (2 : Int32), oR b, oI (2 : Int32), oI (2 : Int32), oI (2 : Int32), oI c1] [])
  refine own_by (fun t_ k_ => XS.iload XT4.here hx rfl (hb hby d16_3) rfl  k_) ?_
  show own_Go p e below _ T4 (mkF m 5 #[oR a, oI (2 : Int32), oR b, oI (2 : Int32), oI (2 : Int32), oI (2 : Int32), oI c1] [(.int (2 : Int32))])
  refine own_by (fun t_ k_ => XS.iload XT4.here hx rfl (hb hby d16_5) rfl  k_) ?_
  show own_Go p e below _ T4 (mkF m 7 #[oR a, oI (2 : Int32), oR b, oI (2 : Int32), oI (2 : Int32), oI (2 : Int32), oI c1] [(.int (2 : Int32)), (.int (2 : Int32))])
  refine own_by (fun t_ k_ => XS.icmpYes XT4.here hx rfl (pc0 := 7) (pc' := 44) rfl (hb hby d16_7) rfl (XT.ii_ge_t (by decide)) (by decide) (by decide) k_) ?_
  show own_Go p e below _ T4 (mkF m 44 #[oR a, oI (2 : Int32), oR b, oI (2 : Int32), oI (2 : Int32), oI (2 : Int32), oI c1] [])
  refine own_by (fun t_ k_ => XS.iload XT4.here hx rfl (hb hby d16_44) rfl  k_) ?_
  show own_Go p e below _ T4 (mkF m 46 #[oR a, oI (2 : Int32), oR b, oI (2 : Int32), oI (2 : Int32), oI (2 : Int32), oI c1] [(.int (2 : Int32))])
  subst eT4
  exact own_retI XT4 hx hlk hret (hb hby d16_46) (by decide) (by decide) (⟨rfl, Kq5, N6, VT4⟩)
set_option maxRecDepth 65536 in
set_option maxHeartbeats 40000000 in
theorem own_cp3_2 (l : Launch) (Z : State) (a0 : Array Value) (hw : ∀ d ∈ tables_1, d.before a0 Z = true) (a : Addr) (ka : ClassId) (c0 c1 : Int32) (h0 : Heap) (A : own_A Z h0 a .char ka [(.int c0), (.int c1)]) (hc0 : ¬ (255 : Int32) < c0) (hc1 : ¬ (255 : Int32) < c1) :
    own_Met l (⟨"java/lang/StringUTF16", "compress", "([CII)[B"⟩ : MethodName) jdk_52_method_16_code 6 (some (.array .byte)) [] ({ frames := 1, cells := 1, slots := 2, locals := 18 } : Room) Z #[(.ref a), (.int (0 : Int32)), (.int (2 : Int32))] h0 (fun rv rh rL => rv = some (.ref h0.size) ∧ Keep h0 rh [] ∧ Fr h0.size rL ∧ ∃ kb, own_A Z rh h0.size .byte kb [(.int (c0.toInt8.toInt32)), (.int (c1.toInt8.toInt32))]) := by
  refine own_enter (plainFor_of_name pn_0) ?_
  intro p e s m below meth c T0 hx hby hml hret hlk hown hnm hZ X0 e0
  refine own_at (g' := (mkF m 0 #[oR a, oI (0 : Int32), oI (2 : Int32), .unset, .unset, .unset] [])) (by first | (simp [entryFrame, mkF, argsToLocals, Value.category]; done) | rfl) ?_
  show own_Go p e below _ T0 (mkF m 0 #[oR a, oI (0 : Int32), oI (2 : Int32), .unset, .unset, .unset] [])
  have lt1 : a < h0.size := A.lt
  have K0 : Keep h0 h0 [] := Keep.refl h0 _
  have N0 : own_Fr h0.size h0.size [] := own_Fr.nil
  refine own_by (fun t_ k_ => XS.iloadN X0.here hx rfl (hb hby d15_0) rfl  k_) ?_
  show own_Go p e below _ T0 (mkF m 1 #[oR a, oI (0 : Int32), oI (2 : Int32), .unset, .unset, .unset] [(.int (2 : Int32))])
  have g3 : h0.size ≤ h0.size := K0.1
  refine own_newP X0 hx hZ (aty := .byte) (hw _ (List.mem_of_getElem? (i := 25) rfl)) e0 (hb hby d15_1) 2 2 (by decide) (by decide) (by decide) (by decide) (by decide) (by decide) ?_
  intro T2 hT2 kT2 XT2 eT2 ET2 YT2
  have VT2 : own_A Z hT2 h0.size .byte kT2 [(.int 0), (.int 0)] := YT2
  clear YT2
  have fq4_1 := A.keep (own_ek ET2) nin0
  have lq4_0 := Nat.lt_of_lt_of_le lt1 (own_ek ET2).1
  have Kq4 := own_trans0 K0 (own_ek ET2)
  have z5 : a ≠ h0.size := Nat.ne_of_lt lt1
  have lt6 := VT2.lt
  show own_Go p e below _ T2 (mkF m 3 #[oR a, oI (0 : Int32), oI (2 : Int32), .unset, .unset, .unset] [(.ref h0.size)])
  refine own_by (fun t_ k_ => XS.astoreN XT2.here hx rfl (hb hby d15_3) rfl rfl (l' := #[oR a, oI (0 : Int32), oI (2 : Int32), oR h0.size, .unset, .unset]) rfl k_) ?_
  show own_Go p e below _ T2 (mkF m 4 #[oR a, oI (0 : Int32), oI (2 : Int32), oR h0.size, .unset, .unset] [])
  refine own_by (fun t_ k_ => XS.aloadN XT2.here hx rfl (hb hby d15_4) rfl rfl  k_) ?_
  show own_Go p e below _ T2 (mkF m 5 #[oR a, oI (0 : Int32), oI (2 : Int32), oR h0.size, .unset, .unset] [(.ref a)])
  refine own_by (fun t_ k_ => XS.iloadN XT2.here hx rfl (hb hby d15_5) rfl  k_) ?_
  show own_Go p e below _ T2 (mkF m 6 #[oR a, oI (0 : Int32), oI (2 : Int32), oR h0.size, .unset, .unset] [(.int (0 : Int32)), (.ref a)])
  refine own_by (fun t_ k_ => XS.aloadN XT2.here hx rfl (hb hby d15_6) rfl rfl  k_) ?_
  show own_Go p e below _ T2 (mkF m 7 #[oR a, oI (0 : Int32), oI (2 : Int32), oR h0.size, .unset, .unset] [(.ref h0.size), (.int (0 : Int32)), (.ref a)])
  refine own_by (fun t_ k_ => XT.iconstV XT2.here hx rfl (0 : Int32) (hb hby d15_7) (by decide) k_) ?_
  show own_Go p e below _ T2 (mkF m 8 #[oR a, oI (0 : Int32), oI (2 : Int32), oR h0.size, .unset, .unset] [(.int (0 : Int32)), (.ref h0.size), (.int (0 : Int32)), (.ref a)])
  refine own_by (fun t_ k_ => XS.iloadN XT2.here hx rfl (hb hby d15_8) rfl  k_) ?_
  show own_Go p e below _ T2 (mkF m 9 #[oR a, oI (0 : Int32), oI (2 : Int32), oR h0.size, .unset, .unset] [(.int (2 : Int32)), (.int (0 : Int32)), (.ref h0.size), (.int (0 : Int32)), (.ref a)])
  refine own_callS XT2 hx hZ hown (hw _ (List.mem_of_getElem? (i := 88) rfl)) (hw _ (List.mem_of_getElem? (i := 89) rfl)) (hw _ (List.mem_of_getElem? (i := 86) rfl)) (hw _ (List.mem_of_getElem? (i := 90) rfl)) (by decide) eT2 (argsL := [(.ref a), (.int (0 : Int32)), (.ref h0.size), (.int (0 : Int32)), (.int (2 : Int32))]) (rest := []) (own_cp5_2 l Z a0 hw a h0.size ka kT2 c0 c1 hT2 z5 fq4_1 VT2 hc0 hc1) 0 (by decide) (by decide) (by rw [hml]; rfl) (lenOf pd_0 rfl) (Nat.le_of_eq rfl) (hb hby d15_9) (by decide) (by decide) (st := [(.int (2 : Int32)), (.int (0 : Int32)), (.ref h0.size), (.int (0 : Int32)), (.ref a)]) rfl ?_
  intro T7 LT7 vT7 XT7 hQT7
  obtain ⟨rfl, KT7, NT7, VT7⟩ := hQT7
  show own_Go p e below _ T7 (mkF m 12 #[oR a, oI (0 : Int32), oI (2 : Int32), oR h0.size, .unset, .unset] [(.int (2 : Int32))])
  have fq8_1 := fq4_1.keep KT7 (own_nin z5)
  have lq8_0 := Nat.lt_of_lt_of_le lq4_0 KT7.1
  have lq8_1 := Nat.lt_of_lt_of_le lt6 KT7.1
  have Kq8 := own_trans1 Kq4 KT7 (Or.inr g3)
  have N9 := own_Fr.app N0 (own_Fr.of (own_Fr.new NT7 g3 (Kq4).1) (Nat.le_refl _))
  refine own_by (fun t_ k_ => XS.istore XT7.here hx rfl (hb hby d15_12) rfl (l' := #[oR a, oI (0 : Int32), oI (2 : Int32), oR h0.size, oI (2 : Int32), .unset]) rfl k_) ?_
  show own_Go p e below _ T7 (mkF m 14 #[oR a, oI (0 : Int32), oI (2 : Int32), oR h0.size, oI (2 : Int32), .unset] [])
  refine own_by (fun t_ k_ => XS.iload XT7.here hx rfl (hb hby d15_14) rfl  k_) ?_
  show own_Go p e below _ T7 (mkF m 16 #[oR a, oI (0 : Int32), oI (2 : Int32), oR h0.size, oI (2 : Int32), .unset] [(.int (2 : Int32))])
  refine own_by (fun t_ k_ => XS.iloadN XT7.here hx rfl (hb hby d15_16) rfl  k_) ?_
  show own_Go p e below _ T7 (mkF m 17 #[oR a, oI (0 : Int32), oI (2 : Int32), oR h0.size, oI (2 : Int32), .unset] [(.int (2 : Int32)), (.int (2 : Int32))])
  refine own_by (fun t_ k_ => XS.icmpYes XT7.here hx rfl (pc0 := 17) (pc' := 57) rfl (hb hby d15_17) rfl (XT.ii_eq_t (by decide)) (by decide) (by decide) k_) ?_
  show own_Go p e below _ T7 (mkF m 57 #[oR a, oI (0 : Int32), oI (2 : Int32), oR h0.size, oI (2 : Int32), .unset] [])
  refine own_by (fun t_ k_ => XS.aloadN XT7.here hx rfl (hb hby d15_57) rfl rfl  k_) ?_
  show own_Go p e below _ T7 (mkF m 58 #[oR a, oI (0 : Int32), oI (2 : Int32), oR h0.size, oI (2 : Int32), .unset] [(.ref h0.size)])
  exact own_retA XT7 hx hlk hret rfl rfl (hb hby d15_58) (by decide) (by decide) (⟨rfl, Kq8, (N9).to (Nat.le_refl _), ⟨_, VT7⟩⟩)
set_option maxRecDepth 65536 in
set_option maxHeartbeats 40000000 in
theorem own_cd_2 (l : Launch) (Z : State) (a0 : Array Value) (hw : ∀ d ∈ tables_1, d.before a0 Z = true) (a : Addr) (ka : ClassId) (x0 x1 : Value) (h0 : Heap) (A : own_A Z h0 a .byte ka [x0, x1]) :
    own_Met l (⟨"java/lang/StringUTF16", "coderFromArrayLen", "([BI)B"⟩ : MethodName) jdk_52_method_15_code 2 (some .byte) [] ({ frames := 0, cells := 0, slots := 0, locals := 0 } : Room) Z #[(.ref a), (.int (2 : Int32))] h0 (fun rv rh rL => rv = some (.int (0 : Int32)) ∧ rh = h0 ∧ rL = []) := by
  refine own_enter (plainFor_of_name pn_0) ?_
  intro p e s m below meth c T0 hx hby hml hret hlk hown hnm hZ X0 e0
  refine own_at (g' := (mkF m 0 #[oR a, oI (2 : Int32)] [])) (by first | (simp [entryFrame, mkF, argsToLocals, Value.category]; done) | rfl) ?_
  show own_Go p e below _ T0 (mkF m 0 #[oR a, oI (2 : Int32)] [])
  have K0 : Keep h0 h0 [] := Keep.refl h0 _
  have N0 : own_Fr h0.size h0.size [] := own_Fr.nil
  refine own_by (fun t_ k_ => XS.iloadN X0.here hx rfl (hb hby d17_0) rfl  k_) ?_
  show own_Go p e below _ T0 (mkF m 1 #[oR a, oI (2 : Int32)] [(.int (2 : Int32))])
  refine own_by (fun t_ k_ => XS.aloadN X0.here hx rfl (hb hby d17_1) rfl rfl  k_) ?_
  show own_Go p e below _ T0 (mkF m 2 #[oR a, oI (2 : Int32)] [(.ref a), (.int (2 : Int32))])
  refine own_len X0 hx hZ e0 A (2 : Int32) rfl (hb hby d17_2) ?_
  show own_Go p e below _ T0 (mkF m 3 #[oR a, oI (2 : Int32)] [(.int (2 : Int32)), (.int (2 : Int32))])
  refine own_by (fun t_ k_ => XS.isub X0.here hx rfl (hb hby d17_3) rfl k_) ?_
  show own_Go p e below _ T0 (mkF m 4 #[oR a, oI (2 : Int32)] [(.int ((2 : Int32) - (2 : Int32)))])
  rw [show ((2 : Int32) - (2 : Int32)) = (0 : Int32) by decide]
  show own_Go p e below _ T0 (mkF m 4 #[oR a, oI (2 : Int32)] [(.int (0 : Int32))])
  refine own_by (fun t_ k_ => XT.bipushV X0.here hx rfl (31 : Int32) (hb hby d17_4) (by decide) k_) ?_
  show own_Go p e below _ T0 (mkF m 6 #[oR a, oI (2 : Int32)] [(.int (31 : Int32)), (.int (0 : Int32))])
  refine own_by (fun t_ k_ => XT.iushr X0.here hx rfl (hb hby d17_6) rfl k_) ?_
  show own_Go p e below _ T0 (mkF m 7 #[oR a, oI (2 : Int32)] [(.int (((0 : Int32).toUInt32 >>> ((31 : Int32) &&& 31).toUInt32).toInt32))])
  rw [show (((0 : Int32).toUInt32 >>> ((31 : Int32) &&& 31).toUInt32).toInt32) = (0 : Int32) by decide]
  show own_Go p e below _ T0 (mkF m 7 #[oR a, oI (2 : Int32)] [(.int (0 : Int32))])
  refine own_by (fun t_ k_ => XT.i2b X0.here hx rfl (hb hby d17_7) rfl k_) ?_
  show own_Go p e below _ T0 (mkF m 8 #[oR a, oI (2 : Int32)] [(.int ((0 : Int32).toInt8.toInt32))])
  rw [show ((0 : Int32).toInt8.toInt32) = (0 : Int32) by decide]
  show own_Go p e below _ T0 (mkF m 8 #[oR a, oI (2 : Int32)] [(.int (0 : Int32))])
  subst e0
  exact own_retN X0 hx hlk hret (by simp) (w := (0 : Int32)) (hb hby d17_8) (by decide) (by decide) (by decide) (⟨rfl, rfl, rfl⟩)
set_option maxRecDepth 65536 in
set_option maxHeartbeats 40000000 in
theorem own_i4_2 (l : Launch) (Z : State) (a0 : Array Value) (hw : ∀ d ∈ tables_1, d.before a0 Z = true) (t a : Addr) (ka : ClassId) (c0 c1 : Int32) (h0 : Heap) (cs : Int32) (Cs : Sta Z h0 "java/lang/String" "COMPACT_STRINGS" "Z" (.int cs)) (hcs : ¬ cs = (0 : Int32))(Et : Exa Z h0 t "java/lang/String") (Fv : Fld Z h0 t "java/lang/String" "value" "[B" .null) (Fc : Fld Z h0 t "java/lang/String" "coder" "B" (.int 0)) (A : own_A Z h0 a .char ka [(.int c0), (.int c1)]) (hc0 : ¬ (255 : Int32) < c0) (hc1 : ¬ (255 : Int32) < c1) :
    own_Met l (⟨"java/lang/String", "<init>", "([CIILjava/lang/Void;)V"⟩ : MethodName) jdk_42_method_149_code 6 (none) [] ({ frames := 2, cells := 1, slots := 2, locals := 38 } : Room) Z #[(.ref t), (.ref a), (.int (0 : Int32)), (.int (2 : Int32)), .null] h0 (fun rv rh rL => rv = none ∧ Keep h0 rh [t] ∧ own_Fr h0.size t rL ∧ own_Str Z rh t 0 [(.int (c0.toInt8.toInt32)), (.int (c1.toInt8.toInt32))]) := by
  refine own_enter (plainFor_of_name pn_1) ?_
  intro p e s m below meth c T0 hx hby hml hret hlk hown hnm hZ X0 e0
  refine own_at (g' := (mkF m 0 #[oR t, oR a, oI (0 : Int32), oI (2 : Int32), .val .null, .unset] [])) (by first | (simp [entryFrame, mkF, argsToLocals, Value.category]; done) | rfl) ?_
  show own_Go p e below _ T0 (mkF m 0 #[oR t, oR a, oI (0 : Int32), oI (2 : Int32), .val .null, .unset] [])
  have lt1 : t < h0.size := Et.lt
  have lt2 : a < h0.size := A.lt
  have K0 : Keep h0 h0 [t] := Keep.refl h0 _
  have N0 : own_Fr h0.size t [] := own_Fr.nil
  refine own_by (fun t_ k_ => XS.aloadN X0.here hx rfl (hb hby d9_0) rfl rfl  k_) ?_
  show own_Go p e below _ T0 (mkF m 1 #[oR t, oR a, oI (0 : Int32), oI (2 : Int32), .val .null, .unset] [(.ref t)])
  obtain ⟨T3, XT3, eT3, stT3⟩ := initO X0 hx hZ hown (hw _ (List.mem_of_getElem? (i := 30) rfl)) (hw _ (List.mem_of_getElem? (i := 31) rfl)) (hw _ (List.mem_of_getElem? (i := 32) rfl)) e0 (g := (mkF m 1 #[oR t, oR a, oI (0 : Int32), oI (2 : Int32), .val .null, .unset] [(.ref t)])) rfl (by rw [hml]; rfl) rfl (hb hby d9_1) (by decide) (W := 0) (by show 2 * 0 + _ ≤ _; exact Nat.le_of_eq rfl) (by decide)
  refine own_by stT3 ?_
  show own_Go p e below _ T3 (mkF m 4 #[oR t, oR a, oI (0 : Int32), oI (2 : Int32), .val .null, .unset] [])
  refine own_by (fun t_ k_ => XS.iloadN XT3.here hx rfl (hb hby d9_4) rfl  k_) ?_
  show own_Go p e below _ T3 (mkF m 5 #[oR t, oR a, oI (0 : Int32), oI (2 : Int32), .val .null, .unset] [(.int (2 : Int32))])
  refine own_by (fun t_ k_ => XS.ifYes XT3.here hx rfl (pc0 := 5) (pc' := 27) rfl (hb hby d9_5) rfl (XT.i0_ne_t (by decide)) (by decide) (by decide) k_) ?_
  show own_Go p e below _ T3 (mkF m 27 #[oR t, oR a, oI (0 : Int32), oI (2 : Int32), .val .null, .unset] [])
  obtain ⟨T4, XT4, eT4, stT4⟩ := getS2 XT3 hx hZ hown (host := "") (Or.inl (hw _ (List.mem_of_getElem? (i := 15) rfl))) Via.refl eT3 Cs (g := (mkF m 27 #[oR t, oR a, oI (0 : Int32), oI (2 : Int32), .val .null, .unset] [])) rfl (hb hby d9_27)
  refine own_by stT4 ?_
  show own_Go p e below _ T4 (mkF m 30 #[oR t, oR a, oI (0 : Int32), oI (2 : Int32), .val .null, .unset] [(.int cs)])
  refine own_by (fun t_ k_ => XS.ifNo XT4.here hx rfl (hb hby d9_30) rfl (XT.i0_eq_f hcs) k_) ?_
  show own_Go p e below _ T4 (mkF m 33 #[oR t, oR a, oI (0 : Int32), oI (2 : Int32), .val .null, .unset] [])
  refine own_by (fun t_ k_ => XS.aloadN XT4.here hx rfl (hb hby d9_33) rfl rfl  k_) ?_
  show own_Go p e below _ T4 (mkF m 34 #[oR t, oR a, oI (0 : Int32), oI (2 : Int32), .val .null, .unset] [(.ref a)])
  refine own_by (fun t_ k_ => XS.iloadN XT4.here hx rfl (hb hby d9_34) rfl  k_) ?_
  show own_Go p e below _ T4 (mkF m 35 #[oR t, oR a, oI (0 : Int32), oI (2 : Int32), .val .null, .unset] [(.int (0 : Int32)), (.ref a)])
  refine own_by (fun t_ k_ => XS.iloadN XT4.here hx rfl (hb hby d9_35) rfl  k_) ?_
  show own_Go p e below _ T4 (mkF m 36 #[oR t, oR a, oI (0 : Int32), oI (2 : Int32), .val .null, .unset] [(.int (2 : Int32)), (.int (0 : Int32)), (.ref a)])
  have g5 : h0.size ≤ h0.size := K0.1
  refine own_callS XT4 hx hZ hown (hw _ (List.mem_of_getElem? (i := 84) rfl)) (hw _ (List.mem_of_getElem? (i := 85) rfl)) (hw _ (List.mem_of_getElem? (i := 86) rfl)) (hw _ (List.mem_of_getElem? (i := 87) rfl)) (by decide) eT4 (argsL := [(.ref a), (.int (0 : Int32)), (.int (2 : Int32))]) (rest := []) (own_cp3_2 l Z a0 hw a ka c0 c1 h0 A hc0 hc1) 0 (by decide) (by decide) (by rw [hml]; rfl) (lenOf pd_1 rfl) (Nat.le_of_eq rfl) (hb hby d9_36) (by decide) (by decide) (st := [(.int (2 : Int32)), (.int (0 : Int32)), (.ref a)]) rfl ?_
  intro T6 LT6 vT6 XT6 hQT6
  obtain ⟨rfl, KT6, NT6, kb, VT6⟩ := hQT6
  show own_Go p e below _ T6 (mkF m 39 #[oR t, oR a, oI (0 : Int32), oI (2 : Int32), .val .null, .unset] [(.ref h0.size)])
  have fq7_1 := Et.keep KT6
  have fq7_2 := Fv.keep KT6 nin0
  have fq7_3 := Fc.keep KT6 nin0
  have fq7_4 := A.keep KT6 nin0
  have fq7_5 := own_stak Cs KT6
  have lq7_0 := Nat.lt_of_lt_of_le lt1 KT6.1
  have lq7_1 := Nat.lt_of_lt_of_le lt2 KT6.1
  have Kq7 := own_trans0 K0 KT6
  have z8 : t ≠ h0.size := Nat.ne_of_lt lt1
  have z9 : a ≠ h0.size := Nat.ne_of_lt lt2
  have N10 := own_Fr.app N0 (own_Fr.of NT6 (K0).1)
  refine own_by (fun t_ k_ => XS.astore XT6.here hx rfl (hb hby d9_39) rfl rfl (l' := #[oR t, oR a, oI (0 : Int32), oI (2 : Int32), .val .null, oR h0.size]) rfl k_) ?_
  show own_Go p e below _ T6 (mkF m 41 #[oR t, oR a, oI (0 : Int32), oI (2 : Int32), .val .null, oR h0.size] [])
  refine own_by (fun t_ k_ => XS.aloadN XT6.here hx rfl (hb hby d9_41) rfl rfl  k_) ?_
  show own_Go p e below _ T6 (mkF m 42 #[oR t, oR a, oI (0 : Int32), oI (2 : Int32), .val .null, oR h0.size] [(.ref t)])
  refine own_by (fun t_ k_ => XS.aload XT6.here hx rfl (hb hby d9_42) rfl rfl  k_) ?_
  show own_Go p e below _ T6 (mkF m 44 #[oR t, oR a, oI (0 : Int32), oI (2 : Int32), .val .null, oR h0.size] [(.ref h0.size), (.ref t)])
  refine own_by (fun t_ k_ => XS.iloadN XT6.here hx rfl (hb hby d9_44) rfl  k_) ?_
  show own_Go p e below _ T6 (mkF m 45 #[oR t, oR a, oI (0 : Int32), oI (2 : Int32), .val .null, oR h0.size] [(.int (2 : Int32)), (.ref h0.size), (.ref t)])
  refine own_callS XT6 hx hZ hown (hw _ (List.mem_of_getElem? (i := 91) rfl)) (hw _ (List.mem_of_getElem? (i := 92) rfl)) (hw _ (List.mem_of_getElem? (i := 86) rfl)) (hw _ (List.mem_of_getElem? (i := 93) rfl)) (by decide) (rfl : T6.heap = T6.heap) (argsL := [(.ref h0.size), (.int (2 : Int32))]) (rest := [(.ref t)]) (own_cd_2 l Z a0 hw h0.size kb (.int (c0.toInt8.toInt32)) (.int (c1.toInt8.toInt32)) T6.heap VT6) 1 (by decide) (by decide) (by rw [hml]; rfl) (lenOf pd_2 rfl) (Nat.le_of_eq rfl) (hb hby d9_45) (by decide) (by decide) (st := [(.int (2 : Int32)), (.ref h0.size), (.ref t)]) rfl ?_
  intro T11 LT11 vT11 XT11 hQT11
  obtain ⟨rfl, eT11, rfl⟩ := hQT11
  show own_Go p e below _ T11 (mkF m 48 #[oR t, oR a, oI (0 : Int32), oI (2 : Int32), .val .null, oR h0.size] [(.int (0 : Int32)), (.ref t)])
  have N12 := own_Fr.app N10 own_Fr.nil
  refine own_putF XT11 hx hZ hown (hw _ (List.mem_of_getElem? (i := 35) rfl)) eT11 fq7_3 fq7_1 (Or.inr ⟨(hw _ (List.mem_of_getElem? (i := 36) rfl)), rfl, hnm⟩) (hw _ (List.mem_of_getElem? (i := 21) rfl)) (ty := .byte) (by decide +kernel) (by decide) (by decide) (hb hby d9_48) ?_
  intro T13 hT13 XT13 eT13 WT13
  have FT13_coder := Fld.same WT13 fq7_3
  have FT13_value := Fld.other WT13 fq7_2 (Or.inr (slot_ne (t := (.array .byte)) (t' := .byte) (Or.inr (hw _ (List.mem_of_getElem? (i := 34) rfl))) (Or.inr (hw _ (List.mem_of_getElem? (i := 36) rfl))) (by decide) (by decide +kernel) (by decide +kernel)))
  have fq14_1 := fq7_1.keep (Keep.of_wr WT13)
  have fq14_3 := Sta.wr WT13 fq7_5
  have fq14_4 := VT6.keep (Keep.of_wr WT13) (own_nin (Ne.symm z8))
  have lq14_0 := Nat.lt_of_lt_of_le lq7_0 (Keep.of_wr WT13).1
  have lq14_1 := Nat.lt_of_lt_of_le lq7_1 (Keep.of_wr WT13).1
  have Kq14 := own_trans1 Kq7 (Keep.of_wr WT13) (Or.inl (List.mem_singleton.mpr rfl))
  have N15 := own_Fr.app N12 (own_Fr.one (i := (Jvm.RoadKit.slotOf Z "java/lang/String" "coder" "B")))
  show own_Go p e below _ T13 (mkF m 51 #[oR t, oR a, oI (0 : Int32), oI (2 : Int32), .val .null, oR h0.size] [])
  refine own_by (fun t_ k_ => XS.aloadN XT13.here hx rfl (hb hby d9_51) rfl rfl  k_) ?_
  show own_Go p e below _ T13 (mkF m 52 #[oR t, oR a, oI (0 : Int32), oI (2 : Int32), .val .null, oR h0.size] [(.ref t)])
  refine own_by (fun t_ k_ => XS.aload XT13.here hx rfl (hb hby d9_52) rfl rfl  k_) ?_
  show own_Go p e below _ T13 (mkF m 54 #[oR t, oR a, oI (0 : Int32), oI (2 : Int32), .val .null, oR h0.size] [(.ref h0.size), (.ref t)])
  refine own_putF XT13 hx hZ hown (hw _ (List.mem_of_getElem? (i := 33) rfl)) eT13 FT13_value fq14_1 (Or.inr ⟨(hw _ (List.mem_of_getElem? (i := 34) rfl)), rfl, hnm⟩) (hw _ (List.mem_of_getElem? (i := 21) rfl)) (ty := (.array .byte)) (by decide +kernel) rfl rfl (hb hby d9_54) ?_
  intro T16 hT16 XT16 eT16 WT16
  have FT16_value := Fld.same WT16 FT13_value
  have FT16_coder := Fld.other WT16 FT13_coder (Or.inr (slot_ne (t := .byte) (t' := (.array .byte)) (Or.inr (hw _ (List.mem_of_getElem? (i := 36) rfl))) (Or.inr (hw _ (List.mem_of_getElem? (i := 34) rfl))) (by decide) (by decide +kernel) (by decide +kernel)))
  have fq17_1 := fq14_1.keep (Keep.of_wr WT16)
  have fq17_2 := Sta.wr WT16 fq14_3
  have fq17_3 := fq14_4.keep (Keep.of_wr WT16) (own_nin (Ne.symm z8))
  have lq17_0 := Nat.lt_of_lt_of_le lq14_0 (Keep.of_wr WT16).1
  have lq17_1 := Nat.lt_of_lt_of_le lq14_1 (Keep.of_wr WT16).1
  have Kq17 := own_trans1 Kq14 (Keep.of_wr WT16) (Or.inl (List.mem_singleton.mpr rfl))
  have N18 := own_Fr.app N15 (own_Fr.one (i := (Jvm.RoadKit.slotOf Z "java/lang/String" "value" "[B")))
  show own_Go p e below _ T16 (mkF m 57 #[oR t, oR a, oI (0 : Int32), oI (2 : Int32), .val .null, oR h0.size] [])
  subst eT16
  exact own_retV XT16 hx hlk hret (hb hby d9_57) (by decide) (by decide) (⟨rfl, Kq17, N18, ⟨h0.size, _, fq17_1, FT16_value, FT16_coder, fq17_3⟩⟩)
set_option maxRecDepth 65536 in
set_option maxHeartbeats 40000000 in
theorem own_i1_2 (l : Launch) (Z : State) (a0 : Array Value) (hw : ∀ d ∈ tables_1, d.before a0 Z = true) (t a : Addr) (ka : ClassId) (c0 c1 : Int32) (h0 : Heap) (cs : Int32) (Cs : Sta Z h0 "java/lang/String" "COMPACT_STRINGS" "Z" (.int cs)) (hcs : ¬ cs = (0 : Int32))(Et : Exa Z h0 t "java/lang/String") (Fv : Fld Z h0 t "java/lang/String" "value" "[B" .null) (Fc : Fld Z h0 t "java/lang/String" "coder" "B" (.int 0)) (A : own_A Z h0 a .char ka [(.int c0), (.int c1)]) (hc0 : ¬ (255 : Int32) < c0) (hc1 : ¬ (255 : Int32) < c1) :
    own_Met l (⟨"java/lang/String", "<init>", "([C)V"⟩ : MethodName) jdk_42_method_3_code 2 (none) [] ({ frames := 3, cells := 1, slots := 2, locals := 55 } : Room) Z #[(.ref t), (.ref a)] h0 (fun rv rh rL => rv = none ∧ Keep h0 rh [t] ∧ own_Fr h0.size t rL ∧ own_Str Z rh t 0 [(.int (c0.toInt8.toInt32)), (.int (c1.toInt8.toInt32))]) := by
  refine own_enter (plainFor_of_name pn_1) ?_
  intro p e s m below meth c T0 hx hby hml hret hlk hown hnm hZ X0 e0
  refine own_at (g' := (mkF m 0 #[oR t, oR a] [])) (by first | (simp [entryFrame, mkF, argsToLocals, Value.category]; done) | rfl) ?_
  show own_Go p e below _ T0 (mkF m 0 #[oR t, oR a] [])
  have lt1 : t < h0.size := Et.lt
  have lt2 : a < h0.size := A.lt
  have K0 : Keep h0 h0 [t] := Keep.refl h0 _
  have N0 : own_Fr h0.size t [] := own_Fr.nil
  refine own_by (fun t_ k_ => XS.aloadN X0.here hx rfl (hb hby d8_0) rfl rfl  k_) ?_
  show own_Go p e below _ T0 (mkF m 1 #[oR t, oR a] [(.ref t)])
  refine own_by (fun t_ k_ => XS.aloadN X0.here hx rfl (hb hby d8_1) rfl rfl  k_) ?_
  show own_Go p e below _ T0 (mkF m 2 #[oR t, oR a] [(.ref a), (.ref t)])
  refine own_by (fun t_ k_ => XT.iconstV X0.here hx rfl (0 : Int32) (hb hby d8_2) (by decide) k_) ?_
  show own_Go p e below _ T0 (mkF m 3 #[oR t, oR a] [(.int (0 : Int32)), (.ref a), (.ref t)])
  refine own_by (fun t_ k_ => XS.aloadN X0.here hx rfl (hb hby d8_3) rfl rfl  k_) ?_
  show own_Go p e below _ T0 (mkF m 4 #[oR t, oR a] [(.ref a), (.int (0 : Int32)), (.ref a), (.ref t)])
  refine own_len X0 hx hZ e0 A (2 : Int32) rfl (hb hby d8_4) ?_
  show own_Go p e below _ T0 (mkF m 5 #[oR t, oR a] [(.int (2 : Int32)), (.int (0 : Int32)), (.ref a), (.ref t)])
  refine own_by (fun t_ k_ => XS.aconstNull X0.here hx rfl (hb hby d8_5) k_) ?_
  show own_Go p e below _ T0 (mkF m 6 #[oR t, oR a] [.null, (.int (2 : Int32)), (.int (0 : Int32)), (.ref a), (.ref t)])
  refine own_callN X0 hx hZ rfl hown (hw _ (List.mem_of_getElem? (i := 42) rfl)) (hw _ (List.mem_of_getElem? (i := 43) rfl)) (hw _ (List.mem_of_getElem? (i := 44) rfl)) (hw _ (List.mem_of_getElem? (i := 13) rfl)) (by decide) e0 (b := t) (argsL := [(.ref a), (.int (0 : Int32)), (.int (2 : Int32)), .null]) (rest := []) (own_i4_2 l Z a0 hw t a ka c0 c1 h0 cs Cs hcs Et Fv Fc A hc0 hc1) 0 (by decide) (by decide) (by rw [hml]; rfl) (lenOf pd_3 rfl) (Nat.le_of_eq rfl) (hb hby d8_6) (by decide) (by decide) (st := [.null, (.int (2 : Int32)), (.int (0 : Int32)), (.ref a), (.ref t)]) rfl ?_
  intro T3 LT3 vT3 XT3 hQT3
  obtain ⟨rfl, KT3, NT3, ST3⟩ := hQT3
  show own_Go p e below _ T3 (mkF m 9 #[oR t, oR a] [])
  exact own_retV XT3 hx hlk hret (hb hby d8_9) (by decide) (by decide) (⟨rfl, KT3, own_Fr.app own_Fr.nil NT3, ST3⟩)
theorem own_atoms {Z : State} {a0 : Array Value} (hw : ∀ d ∈ tables_1, d.before a0 Z = true) : ∀ a ∈ Bundle.stringAtoms, a.before a0 Z = true := by
  intro a ha
  simp only [Bundle.stringAtoms, List.mem_cons, List.not_mem_nil, or_false] at ha
  rcases ha with rfl | rfl | rfl | rfl | rfl | rfl | rfl
  · exact (hw _ (List.mem_of_getElem? (i := 13) rfl))
  · exact (hw _ (List.mem_of_getElem? (i := 21) rfl))
  · exact (hw _ (List.mem_of_getElem? (i := 25) rfl))
  · exact (hw _ (List.mem_of_getElem? (i := 34) rfl))
  · exact (hw _ (List.mem_of_getElem? (i := 36) rfl))
  · exact (hw _ (List.mem_of_getElem? (i := 46) rfl))
  · exact (hw _ (List.mem_of_getElem? (i := 47) rfl))
theorem d9_8 : decode jdk_42_method_149_code 8 = .ok (.aload_n 0, 1) := by decide +kernel
theorem d9_9 : decode jdk_42_method_149_code 9 = .ok (.ldc 7, 2) := by decide +kernel
theorem d9_11 : decode jdk_42_method_149_code 11 = .ok (.getfield 9, 3) := by decide +kernel
theorem d9_14 : decode jdk_42_method_149_code 14 = .ok (.putfield 9, 3) := by decide +kernel
theorem d9_17 : decode jdk_42_method_149_code 17 = .ok (.aload_n 0, 1) := by decide +kernel
theorem d9_18 : decode jdk_42_method_149_code 18 = .ok (.ldc 7, 2) := by decide +kernel
theorem d9_20 : decode jdk_42_method_149_code 20 = .ok (.getfield 15, 3) := by decide +kernel
theorem d9_23 : decode jdk_42_method_149_code 23 = .ok (.putfield 15, 3) := by decide +kernel
theorem d9_26 : decode jdk_42_method_149_code 26 = .ok (.return_, 1) := by decide +kernel
set_option maxRecDepth 65536 in
set_option maxHeartbeats 40000000 in
theorem own_i4_0 (l : Launch) (Z : State) (a0 : Array Value) (hw : ∀ d ∈ tables_1, d.before a0 Z = true) (EL : List (String × Nat)) (hEL : EW Z a0 EL) (t a : Addr) (h0 : Heap) (Et : Exa Z h0 t "java/lang/String") (Fv : Fld Z h0 t "java/lang/String" "value" "[B" .null) (Fc : Fld Z h0 t "java/lang/String" "coder" "B" (.int 0)) (hmem : ("java/lang/String", 7) ∈ EL) :
    own_MetW l (⟨"java/lang/String", "<init>", "([CIILjava/lang/Void;)V"⟩ : MethodName) jdk_42_method_149_code 6 (none) [] ({ frames := 1, cells := 4, slots := 8, locals := 12 } : Room) Z EL #[(.ref t), (.ref a), (.int (0 : Int32)), (.int (0 : Int32)), .null] h0 (fun rv rh rL => rv = none ∧ Keep h0 rh [t] ∧ own_Fr h0.size t rL ∧ own_Str Z rh t 0 []) := by
  refine own_enterW (plainFor_of_name pn_1) ?_
  intro p e s m below meth c T0 hx hby hml hret hlk hown hnm hZ X0 e0 hS hC
  refine own_at (g' := (mkF m 0 #[oR t, oR a, oI (0 : Int32), oI (0 : Int32), .val .null, .unset] [])) (by first | (simp [entryFrame, mkF, argsToLocals, Value.category]; done) | rfl) ?_
  show own_Go p e below _ T0 (mkF m 0 #[oR t, oR a, oI (0 : Int32), oI (0 : Int32), .val .null, .unset] [])
  have lt1 : t < h0.size := Et.lt
  have K0 : Keep h0 h0 [t] := Keep.refl h0 _
  have N0 : own_Fr h0.size t [] := own_Fr.nil
  have hk0 : 0 ≤ h0.size := Nat.zero_le _
  refine own_by (fun t_ k_ => XS.aloadN X0.here hx rfl (hb hby d9_0) rfl rfl  k_) ?_
  show own_Go p e below _ T0 (mkF m 1 #[oR t, oR a, oI (0 : Int32), oI (0 : Int32), .val .null, .unset] [(.ref t)])
  obtain ⟨T2, XT2, eT2, stT2⟩ := initO X0 hx hZ hown (hw _ (List.mem_of_getElem? (i := 30) rfl)) (hw _ (List.mem_of_getElem? (i := 31) rfl)) (hw _ (List.mem_of_getElem? (i := 32) rfl)) e0 (g := (mkF m 1 #[oR t, oR a, oI (0 : Int32), oI (0 : Int32), .val .null, .unset] [(.ref t)])) rfl (by rw [hml]; rfl) rfl (hb hby d9_1) (by decide) (W := 0) (by show 2 * 0 + _ ≤ _; exact Nat.le_of_eq rfl) (by decide)
  refine own_by stT2 ?_
  show own_Go p e below _ T2 (mkF m 4 #[oR t, oR a, oI (0 : Int32), oI (0 : Int32), .val .null, .unset] [])
  refine own_by (fun t_ k_ => XS.iloadN XT2.here hx rfl (hb hby d9_4) rfl  k_) ?_
  show own_Go p e below _ T2 (mkF m 5 #[oR t, oR a, oI (0 : Int32), oI (0 : Int32), .val .null, .unset] [(.int (0 : Int32))])
  refine own_by (fun t_ k_ => XS.ifNo XT2.here hx rfl (hb hby d9_5) rfl (XT.i0_ne_f (by decide)) k_) ?_
  show own_Go p e below _ T2 (mkF m 8 #[oR t, oR a, oI (0 : Int32), oI (0 : Int32), .val .null, .unset] [])
  refine own_by (fun t_ k_ => XS.aloadN XT2.here hx rfl (hb hby d9_8) rfl rfl  k_) ?_
  show own_Go p e below _ T2 (mkF m 9 #[oR t, oR a, oI (0 : Int32), oI (0 : Int32), .val .null, .unset] [(.ref t)])
  refine own_ldcW XT2 hx hZ hEL hS eT2 hk0 hC hown (hw _ (List.mem_of_getElem? (i := 45) rfl)) (own_atoms hw) hmem (z := 0) (vs := []) ⟨by decide, rfl⟩ (by decide) rfl (hb hby d9_9) 0 (by decide) (by decide) (by decide) (by decide) ?_
  intro T3 aT3 hT3 kT3 bT3 kbT3 XT3 eT3 ET3 hS hkT3 hZ hown EsT3 FcT3 FvT3 VT3 hRT3 hCT3 neT3
  have fq4_1 := Et.keep (own_ek ET3)
  have fq4_2 := Fv.keep (own_ek ET3) nin0
  have fq4_3 := Fc.keep (own_ek ET3) nin0
  have lq4_0 := Nat.lt_of_lt_of_le lt1 (own_ek ET3).1
  have Kq4 := own_trans0 K0 (own_ek ET3)
  have hC := hCT3
  have hk0 := hkT3
  have St := own_safe_null (EL := EL) hZ.alike fq4_1 fq4_2
  have zT3 := neT3 t St
  show own_Go p e below _ T3 (mkF m 11 #[oR t, oR a, oI (0 : Int32), oI (0 : Int32), .val .null, .unset] [(.ref aT3), (.ref t)])
  refine own_getF XT3 hx hZ hown (hw _ (List.mem_of_getElem? (i := 33) rfl)) eT3 FvT3 (hb hby d9_11) ?_
  intro T5 XT5 eT5
  show own_Go p e below _ T5 (mkF m 14 #[oR t, oR a, oI (0 : Int32), oI (0 : Int32), .val .null, .unset] [(.ref bT3), (.ref t)])
  refine own_putF XT5 hx hZ hown (hw _ (List.mem_of_getElem? (i := 33) rfl)) eT5 fq4_2 fq4_1 (Or.inr ⟨(hw _ (List.mem_of_getElem? (i := 34) rfl)), rfl, hnm⟩) (hw _ (List.mem_of_getElem? (i := 21) rfl)) (ty := (.array .byte)) (by decide +kernel) rfl rfl (hb hby d9_14) ?_
  intro T6 hT6 XT6 eT6 WT6
  have FT6_value := Fld.same WT6 fq4_2
  have FT6_coder := Fld.other WT6 fq4_3 (Or.inr (slot_ne (t := .byte) (t' := (.array .byte)) (Or.inr (hw _ (List.mem_of_getElem? (i := 36) rfl))) (Or.inr (hw _ (List.mem_of_getElem? (i := 34) rfl))) (by decide) (by decide +kernel) (by decide +kernel)))
  have hCo := hC.1
  have fq7_1 := fq4_1.keep (Keep.of_wr WT6)
  have fq7_2 := EsT3.keep (Keep.of_wr WT6)
  have fq7_3 := FvT3.keep (Keep.of_wr WT6) (own_nin (Ne.symm zT3.1))
  have fq7_4 := FcT3.keep (Keep.of_wr WT6) (own_nin (Ne.symm zT3.1))
  have fq7_5 := VT3.keep (Keep.of_wr WT6) (own_nin (Ne.symm zT3.2))
  have lq7_0 := Nat.lt_of_lt_of_le lq4_0 (Keep.of_wr WT6).1
  have hC := hC.trans (CHr.keep (Keep.of_wr WT6) (fun _ q => by cases List.mem_singleton.mp q; exact St) hC.1)
  have hk0 := Nat.le_trans hk0 (Keep.of_wr WT6).1
  have Kq7 := own_trans1 Kq4 (Keep.of_wr WT6) (Or.inl (List.mem_singleton.mpr rfl))
  have N8 := own_Fr.app N0 (own_Fr.one (i := (Jvm.RoadKit.slotOf Z "java/lang/String" "value" "[B")))
  show own_Go p e below _ T6 (mkF m 17 #[oR t, oR a, oI (0 : Int32), oI (0 : Int32), .val .null, .unset] [])
  have St := Safe.keep (Keep.of_wr WT6) (fun _ q => by cases List.mem_singleton.mp q; exact St) hCo St
  refine own_by (fun t_ k_ => XS.aloadN XT6.here hx rfl (hb hby d9_17) rfl rfl  k_) ?_
  show own_Go p e below _ T6 (mkF m 18 #[oR t, oR a, oI (0 : Int32), oI (0 : Int32), .val .null, .unset] [(.ref t)])
  refine own_ldcW XT6 hx hZ hEL hS eT6 hk0 hC hown (hw _ (List.mem_of_getElem? (i := 45) rfl)) (own_atoms hw) hmem (z := 0) (vs := []) ⟨by decide, rfl⟩ (by decide) rfl (hb hby d9_18) 0 (by decide) (by decide) (by decide) (by decide) ?_
  intro T9 aT9 hT9 kT9 bT9 kbT9 XT9 eT9 ET9 hS hkT9 hZ hown EsT9 FcT9 FvT9 VT9 hRT9 hCT9 neT9
  have fq10_1 := fq7_1.keep (own_ek ET9)
  have fq10_2 := fq7_2.keep (own_ek ET9)
  have fq10_3 := fq7_3.keep (own_ek ET9) nin0
  have fq10_4 := fq7_4.keep (own_ek ET9) nin0
  have fq10_5 := fq7_5.keep (own_ek ET9) nin0
  have fq10_6 := FT6_value.keep (own_ek ET9) nin0
  have fq10_7 := FT6_coder.keep (own_ek ET9) nin0
  have lq10_0 := Nat.lt_of_lt_of_le lq7_0 (own_ek ET9).1
  have Kq10 := own_trans0 Kq7 (own_ek ET9)
  have hC := hCT9
  have hk0 := hkT9
  have St := hRT9.safe lq7_0 St
  have zT9 := neT9 t St
  show own_Go p e below _ T9 (mkF m 20 #[oR t, oR a, oI (0 : Int32), oI (0 : Int32), .val .null, .unset] [(.ref aT9), (.ref t)])
  refine own_getF XT9 hx hZ hown (hw _ (List.mem_of_getElem? (i := 35) rfl)) eT9 FcT9 (hb hby d9_20) ?_
  intro T11 XT11 eT11
  show own_Go p e below _ T11 (mkF m 23 #[oR t, oR a, oI (0 : Int32), oI (0 : Int32), .val .null, .unset] [(.int (0 : Int32)), (.ref t)])
  refine own_putF XT11 hx hZ hown (hw _ (List.mem_of_getElem? (i := 35) rfl)) eT11 fq10_7 fq10_1 (Or.inr ⟨(hw _ (List.mem_of_getElem? (i := 36) rfl)), rfl, hnm⟩) (hw _ (List.mem_of_getElem? (i := 21) rfl)) (ty := .byte) (by decide +kernel) (by decide) (by decide) (hb hby d9_23) ?_
  intro T12 hT12 XT12 eT12 WT12
  have FT12_coder := Fld.same WT12 fq10_7
  have FT12_value := Fld.other WT12 fq10_6 (Or.inr (slot_ne (t := (.array .byte)) (t' := .byte) (Or.inr (hw _ (List.mem_of_getElem? (i := 34) rfl))) (Or.inr (hw _ (List.mem_of_getElem? (i := 36) rfl))) (by decide) (by decide +kernel) (by decide +kernel)))
  have hCo := hC.1
  have fq13_1 := fq10_1.keep (Keep.of_wr WT12)
  have fq13_2 := fq10_2.keep (Keep.of_wr WT12)
  have fq13_3 := fq10_3.keep (Keep.of_wr WT12) (own_nin (Ne.symm zT3.1))
  have fq13_4 := fq10_4.keep (Keep.of_wr WT12) (own_nin (Ne.symm zT3.1))
  have fq13_5 := fq10_5.keep (Keep.of_wr WT12) (own_nin (Ne.symm zT3.2))
  have fq13_6 := EsT9.keep (Keep.of_wr WT12)
  have fq13_7 := FvT9.keep (Keep.of_wr WT12) (own_nin (Ne.symm zT9.1))
  have fq13_8 := FcT9.keep (Keep.of_wr WT12) (own_nin (Ne.symm zT9.1))
  have fq13_9 := VT9.keep (Keep.of_wr WT12) (own_nin (Ne.symm zT9.2))
  have lq13_0 := Nat.lt_of_lt_of_le lq10_0 (Keep.of_wr WT12).1
  have hC := hC.trans (CHr.keep (Keep.of_wr WT12) (fun _ q => by cases List.mem_singleton.mp q; exact St) hC.1)
  have hk0 := Nat.le_trans hk0 (Keep.of_wr WT12).1
  have Kq13 := own_trans1 Kq10 (Keep.of_wr WT12) (Or.inl (List.mem_singleton.mpr rfl))
  have N14 := own_Fr.app N8 (own_Fr.one (i := (Jvm.RoadKit.slotOf Z "java/lang/String" "coder" "B")))
  show own_Go p e below _ T12 (mkF m 26 #[oR t, oR a, oI (0 : Int32), oI (0 : Int32), .val .null, .unset] [])
  have St := Safe.keep (Keep.of_wr WT12) (fun _ q => by cases List.mem_singleton.mp q; exact St) hCo St
  subst eT12
  exact own_retVW XT12 hx hlk hZ hEL hS rfl hk0 hC hret (hb hby d9_26) (by decide) (by decide) (⟨rfl, Kq13, N14, ⟨bT3, _, fq13_1, FT12_value, FT12_coder, fq13_5⟩⟩)
set_option maxRecDepth 65536 in
set_option maxHeartbeats 40000000 in
theorem own_i1_0 (l : Launch) (Z : State) (a0 : Array Value) (hw : ∀ d ∈ tables_1, d.before a0 Z = true) (EL : List (String × Nat)) (hEL : EW Z a0 EL) (t a : Addr) (ka : ClassId) (h0 : Heap) (Et : Exa Z h0 t "java/lang/String") (Fv : Fld Z h0 t "java/lang/String" "value" "[B" .null) (Fc : Fld Z h0 t "java/lang/String" "coder" "B" (.int 0)) (hmem : ("java/lang/String", 7) ∈ EL) (A : own_A Z h0 a .char ka []) :
    own_MetW l (⟨"java/lang/String", "<init>", "([C)V"⟩ : MethodName) jdk_42_method_3_code 2 (none) [] ({ frames := 2, cells := 4, slots := 8, locals := 30 } : Room) Z EL #[(.ref t), (.ref a)] h0 (fun rv rh rL => rv = none ∧ Keep h0 rh [t] ∧ own_Fr h0.size t rL ∧ own_Str Z rh t 0 []) := by
  refine own_enterW (plainFor_of_name pn_1) ?_
  intro p e s m below meth c T0 hx hby hml hret hlk hown hnm hZ X0 e0 hS hC
  refine own_at (g' := (mkF m 0 #[oR t, oR a] [])) (by first | (simp [entryFrame, mkF, argsToLocals, Value.category]; done) | rfl) ?_
  show own_Go p e below _ T0 (mkF m 0 #[oR t, oR a] [])
  have K0 : Keep h0 h0 [t] := Keep.refl h0 _
  have N0 : own_Fr h0.size t [] := own_Fr.nil
  have hk0 : 0 ≤ h0.size := Nat.zero_le _
  refine own_by (fun t_ k_ => XS.aloadN X0.here hx rfl (hb hby d8_0) rfl rfl  k_) ?_
  show own_Go p e below _ T0 (mkF m 1 #[oR t, oR a] [(.ref t)])
  refine own_by (fun t_ k_ => XS.aloadN X0.here hx rfl (hb hby d8_1) rfl rfl  k_) ?_
  show own_Go p e below _ T0 (mkF m 2 #[oR t, oR a] [(.ref a), (.ref t)])
  refine own_by (fun t_ k_ => XT.iconstV X0.here hx rfl (0 : Int32) (hb hby d8_2) (by decide) k_) ?_
  show own_Go p e below _ T0 (mkF m 3 #[oR t, oR a] [(.int (0 : Int32)), (.ref a), (.ref t)])
  refine own_by (fun t_ k_ => XS.aloadN X0.here hx rfl (hb hby d8_3) rfl rfl  k_) ?_
  show own_Go p e below _ T0 (mkF m 4 #[oR t, oR a] [(.ref a), (.int (0 : Int32)), (.ref a), (.ref t)])
  refine own_len X0 hx hZ e0 A (0 : Int32) rfl (hb hby d8_4) ?_
  show own_Go p e below _ T0 (mkF m 5 #[oR t, oR a] [(.int (0 : Int32)), (.int (0 : Int32)), (.ref a), (.ref t)])
  refine own_by (fun t_ k_ => XS.aconstNull X0.here hx rfl (hb hby d8_5) k_) ?_
  show own_Go p e below _ T0 (mkF m 6 #[oR t, oR a] [.null, (.int (0 : Int32)), (.int (0 : Int32)), (.ref a), (.ref t)])
  refine own_callNW X0 hx hZ hEL hS e0 hk0 hC rfl hown (hw _ (List.mem_of_getElem? (i := 42) rfl)) (hw _ (List.mem_of_getElem? (i := 43) rfl)) (hw _ (List.mem_of_getElem? (i := 44) rfl)) (hw _ (List.mem_of_getElem? (i := 13) rfl)) (by decide) (b := t) (argsL := [(.ref a), (.int (0 : Int32)), (.int (0 : Int32)), .null]) (rest := []) (own_i4_0 l Z a0 hw EL hEL t a h0 Et Fv Fc hmem) 0 (by decide) (by decide) (by rw [hml]; rfl) (lenOf pd_3 rfl) (Nat.le_of_eq rfl) (hb hby d8_6) (by decide) (by decide) (st := [.null, (.int (0 : Int32)), (.int (0 : Int32)), (.ref a), (.ref t)]) rfl ?_
  rintro T1 LT1 vT1 ⟨XT1, hQT1, hS, hgT1, hZ, hown, hCT1⟩
  obtain ⟨rfl, KT1, NT1, ST1⟩ := hQT1
  have hC := hCT1
  have hk0 := Nat.le_refl T1.heap.size
  show own_Go p e below _ T1 (mkF m 9 #[oR t, oR a] [])
  exact own_retVW XT1 hx hlk hZ hEL hS (rfl : T1.heap = T1.heap) hk0 hC hret (hb hby d8_9) (by decide) (by decide) (⟨rfl, KT1, own_Fr.app own_Fr.nil NT1, ST1⟩)
def own_pick (k : Int32) (w0 w1 w2 w3 w4 : Addr) : Addr := (if k = (0 : Int32) then w0 else (if k = (1 : Int32) then w1 else (if k = (2 : Int32) then w2 else (if k = (3 : Int32) then w3 else w4))))
theorem pn_2 : plainName "com/example/nimble_gate/nimblegate/policy/TokenIsWordPinLaw" = true := by first | (simp [plainName, overriddenIn]; done) | decide +kernel
theorem d1_0 : decode method_2_code 0 = .ok (.iload_n 0, 1) := by decide +kernel
theorem d1_1 : decode method_2_code 1 = .ok (.ifCond .ne 7, 3) := by decide +kernel
theorem d1_4 : decode method_2_code 4 = .ok (.getstatic 7, 3) := by decide +kernel
theorem d1_7 : decode method_2_code 7 = .ok (.areturn, 1) := by decide +kernel
theorem d1_8 : decode method_2_code 8 = .ok (.iload_n 0, 1) := by decide +kernel
theorem d1_9 : decode method_2_code 9 = .ok (.iconst 1, 1) := by decide +kernel
theorem d1_10 : decode method_2_code 10 = .ok (.if_icmp .ne 7, 3) := by decide +kernel
theorem d1_13 : decode method_2_code 13 = .ok (.getstatic 13, 3) := by decide +kernel
theorem d1_16 : decode method_2_code 16 = .ok (.areturn, 1) := by decide +kernel
theorem d1_17 : decode method_2_code 17 = .ok (.iload_n 0, 1) := by decide +kernel
theorem d1_18 : decode method_2_code 18 = .ok (.iconst 2, 1) := by decide +kernel
theorem d1_19 : decode method_2_code 19 = .ok (.if_icmp .ne 7, 3) := by decide +kernel
theorem d1_22 : decode method_2_code 22 = .ok (.getstatic 16, 3) := by decide +kernel
theorem d1_25 : decode method_2_code 25 = .ok (.areturn, 1) := by decide +kernel
theorem d1_26 : decode method_2_code 26 = .ok (.iload_n 0, 1) := by decide +kernel
theorem d1_27 : decode method_2_code 27 = .ok (.iconst 3, 1) := by decide +kernel
theorem d1_28 : decode method_2_code 28 = .ok (.if_icmp .ne 7, 3) := by decide +kernel
theorem d1_31 : decode method_2_code 31 = .ok (.getstatic 19, 3) := by decide +kernel
theorem d1_34 : decode method_2_code 34 = .ok (.areturn, 1) := by decide +kernel
theorem d1_35 : decode method_2_code 35 = .ok (.getstatic 22, 3) := by decide +kernel
theorem d1_38 : decode method_2_code 38 = .ok (.areturn, 1) := by decide +kernel
set_option maxRecDepth 65536 in
set_option maxHeartbeats 40000000 in
theorem own_pick_met (l : Launch) (Z : State) (a0 : Array Value) (hw : ∀ d ∈ tables_1, d.before a0 Z = true) (k : Int32) (w0 w1 w2 w3 w4 : Addr) (h0 : Heap) (S : own_S Z h0 w0 w1 w2 w3 w4) :
    own_Met l (⟨"com/example/nimble_gate/nimblegate/policy/TokenIsWordPinLaw", "pick", "(I)Lcom/example/nimble_gate/nimblegate/policy/Token$Kind;"⟩ : MethodName) method_2_code 1 (some (.object "com/example/nimble_gate/nimblegate/policy/Token$Kind")) [] ({ frames := 0, cells := 0, slots := 0, locals := 0 } : Room) Z #[(.int k)] h0 (fun rv rh rL => rv = some (.ref (own_pick k w0 w1 w2 w3 w4)) ∧ rh = h0 ∧ rL = []) := by
  obtain ⟨S0, S1, S2, S3, S4⟩ := S
  refine own_enter (plainFor_of_name pn_2) ?_
  intro p e s m below meth c T0 hx hby hml hret hlk hown hnm hZ X0 e0
  refine own_at (g' := (mkF m 0 #[oI k] [])) (by first | (simp [entryFrame, mkF, argsToLocals, Value.category]; done) | rfl) ?_
  show own_Go p e below _ T0 (mkF m 0 #[oI k] [])
  refine own_by (fun t_ k_ => XS.iloadN X0.here hx rfl (hb hby d1_0) rfl  k_) ?_
  show own_Go p e below _ T0 (mkF m 1 #[oI k] [(.int k)])
  by_cases c1_0 : k = (0 : Int32)
  · refine own_by (fun t_ k_ => XS.ifNo X0.here hx rfl (hb hby d1_1) rfl (XT.i0_ne_f c1_0) k_) ?_
    show own_Go p e below _ T0 (mkF m 4 #[oI k] [])
    obtain ⟨T2, XT2, eT2, stT2⟩ := getS2 X0 hx hZ hown (host := "") (Or.inl (hw _ (List.mem_of_getElem? (i := 5) rfl))) Via.refl e0 S0 (g := (mkF m 4 #[oI k] [])) rfl (hb hby d1_4)
    refine own_by stT2 ?_
    show own_Go p e below _ T2 (mkF m 7 #[oI k] [(.ref w0)])
    exact own_retA XT2 hx hlk hret rfl rfl (hb hby d1_7) (by decide) (by decide) (⟨by rw [own_pick, if_pos c1_0], eT2, rfl⟩)
  · refine own_by (fun t_ k_ => XS.ifYes X0.here hx rfl (pc0 := 1) (pc' := 8) rfl (hb hby d1_1) rfl (XT.i0_ne_t c1_0) (by decide) (by decide) k_) ?_
    show own_Go p e below _ T0 (mkF m 8 #[oI k] [])
    refine own_by (fun t_ k_ => XS.iloadN X0.here hx rfl (hb hby d1_8) rfl  k_) ?_
    show own_Go p e below _ T0 (mkF m 9 #[oI k] [(.int k)])
    refine own_by (fun t_ k_ => XT.iconstV X0.here hx rfl (1 : Int32) (hb hby d1_9) (by decide) k_) ?_
    show own_Go p e below _ T0 (mkF m 10 #[oI k] [(.int (1 : Int32)), (.int k)])
    by_cases c10_2 : k = (1 : Int32)
    · refine own_by (fun t_ k_ => XS.icmpNo X0.here hx rfl (hb hby d1_10) rfl (XT.ii_ne_f c10_2) k_) ?_
      show own_Go p e below _ T0 (mkF m 13 #[oI k] [])
      obtain ⟨T4, XT4, eT4, stT4⟩ := getS2 X0 hx hZ hown (host := "") (Or.inl (hw _ (List.mem_of_getElem? (i := 96) rfl))) Via.refl e0 S1 (g := (mkF m 13 #[oI k] [])) rfl (hb hby d1_13)
      refine own_by stT4 ?_
      show own_Go p e below _ T4 (mkF m 16 #[oI k] [(.ref w1)])
      exact own_retA XT4 hx hlk hret rfl rfl (hb hby d1_16) (by decide) (by decide) (⟨by rw [own_pick, if_neg c1_0, if_pos c10_2], eT4, rfl⟩)
    · refine own_by (fun t_ k_ => XS.icmpYes X0.here hx rfl (pc0 := 10) (pc' := 17) rfl (hb hby d1_10) rfl (XT.ii_ne_t c10_2) (by decide) (by decide) k_) ?_
      show own_Go p e below _ T0 (mkF m 17 #[oI k] [])
      refine own_by (fun t_ k_ => XS.iloadN X0.here hx rfl (hb hby d1_17) rfl  k_) ?_
      show own_Go p e below _ T0 (mkF m 18 #[oI k] [(.int k)])
      refine own_by (fun t_ k_ => XT.iconstV X0.here hx rfl (2 : Int32) (hb hby d1_18) (by decide) k_) ?_
      show own_Go p e below _ T0 (mkF m 19 #[oI k] [(.int (2 : Int32)), (.int k)])
      by_cases c19_4 : k = (2 : Int32)
      · refine own_by (fun t_ k_ => XS.icmpNo X0.here hx rfl (hb hby d1_19) rfl (XT.ii_ne_f c19_4) k_) ?_
        show own_Go p e below _ T0 (mkF m 22 #[oI k] [])
        obtain ⟨T6, XT6, eT6, stT6⟩ := getS2 X0 hx hZ hown (host := "") (Or.inl (hw _ (List.mem_of_getElem? (i := 82) rfl))) Via.refl e0 S2 (g := (mkF m 22 #[oI k] [])) rfl (hb hby d1_22)
        refine own_by stT6 ?_
        show own_Go p e below _ T6 (mkF m 25 #[oI k] [(.ref w2)])
        exact own_retA XT6 hx hlk hret rfl rfl (hb hby d1_25) (by decide) (by decide) (⟨by rw [own_pick, if_neg c1_0, if_neg c10_2, if_pos c19_4], eT6, rfl⟩)
      · refine own_by (fun t_ k_ => XS.icmpYes X0.here hx rfl (pc0 := 19) (pc' := 26) rfl (hb hby d1_19) rfl (XT.ii_ne_t c19_4) (by decide) (by decide) k_) ?_
        show own_Go p e below _ T0 (mkF m 26 #[oI k] [])
        refine own_by (fun t_ k_ => XS.iloadN X0.here hx rfl (hb hby d1_26) rfl  k_) ?_
        show own_Go p e below _ T0 (mkF m 27 #[oI k] [(.int k)])
        refine own_by (fun t_ k_ => XT.iconstV X0.here hx rfl (3 : Int32) (hb hby d1_27) (by decide) k_) ?_
        show own_Go p e below _ T0 (mkF m 28 #[oI k] [(.int (3 : Int32)), (.int k)])
        by_cases c28_6 : k = (3 : Int32)
        · refine own_by (fun t_ k_ => XS.icmpNo X0.here hx rfl (hb hby d1_28) rfl (XT.ii_ne_f c28_6) k_) ?_
          show own_Go p e below _ T0 (mkF m 31 #[oI k] [])
          obtain ⟨T8, XT8, eT8, stT8⟩ := getS2 X0 hx hZ hown (host := "") (Or.inl (hw _ (List.mem_of_getElem? (i := 98) rfl))) Via.refl e0 S3 (g := (mkF m 31 #[oI k] [])) rfl (hb hby d1_31)
          refine own_by stT8 ?_
          show own_Go p e below _ T8 (mkF m 34 #[oI k] [(.ref w3)])
          exact own_retA XT8 hx hlk hret rfl rfl (hb hby d1_34) (by decide) (by decide) (⟨by rw [own_pick, if_neg c1_0, if_neg c10_2, if_neg c19_4, if_pos c28_6], eT8, rfl⟩)
        · refine own_by (fun t_ k_ => XS.icmpYes X0.here hx rfl (pc0 := 28) (pc' := 35) rfl (hb hby d1_28) rfl (XT.ii_ne_t c28_6) (by decide) (by decide) k_) ?_
          show own_Go p e below _ T0 (mkF m 35 #[oI k] [])
          obtain ⟨T9, XT9, eT9, stT9⟩ := getS2 X0 hx hZ hown (host := "") (Or.inl (hw _ (List.mem_of_getElem? (i := 94) rfl))) Via.refl e0 S4 (g := (mkF m 35 #[oI k] [])) rfl (hb hby d1_35)
          refine own_by stT9 ?_
          show own_Go p e below _ T9 (mkF m 38 #[oI k] [(.ref w4)])
          exact own_retA XT9 hx hlk hret rfl rfl (hb hby d1_38) (by decide) (by decide) (⟨by rw [own_pick, if_neg c1_0, if_neg c10_2, if_neg c19_4, if_neg c28_6], eT9, rfl⟩)
theorem pn_3 : plainName "java/lang/StringLatin1" = true := by first | (simp [plainName, overriddenIn]; done) | decide +kernel
theorem d4_0 : decode jdk_43_method_3_code 0 = .ok (.iload_n 0, 1) := by decide +kernel
theorem d4_1 : decode jdk_43_method_3_code 1 = .ok (.sipush 255, 3) := by decide +kernel
theorem d4_4 : decode jdk_43_method_3_code 4 = .ok (.if_icmp .gt 7, 3) := by decide +kernel
theorem d4_7 : decode jdk_43_method_3_code 7 = .ok (.iconst 1, 1) := by decide +kernel
theorem d4_8 : decode jdk_43_method_3_code 8 = .ok (.goto 4, 3) := by decide +kernel
theorem d4_12 : decode jdk_43_method_3_code 12 = .ok (.ireturn, 1) := by decide +kernel
set_option maxRecDepth 65536 in
set_option maxHeartbeats 40000000 in
theorem own_can (l : Launch) (Z : State) (a0 : Array Value) (hw : ∀ d ∈ tables_1, d.before a0 Z = true) (x : Int32) (h0 : Heap) (B : own_ch x) :
    own_Met l (⟨"java/lang/StringLatin1", "canEncode", "(C)Z"⟩ : MethodName) jdk_43_method_3_code 1 (some .boolean) [] ({ frames := 0, cells := 0, slots := 0, locals := 0 } : Room) Z #[(.int x)] h0 (fun rv rh rL => rv = some (.int (1 : Int32)) ∧ rh = h0 ∧ rL = []) := by
  refine own_enter (plainFor_of_name pn_3) ?_
  intro p e s m below meth c T0 hx hby hml hret hlk hown hnm hZ X0 e0
  refine own_at (g' := (mkF m 0 #[oI x] [])) (by first | (simp [entryFrame, mkF, argsToLocals, Value.category]; done) | rfl) ?_
  show own_Go p e below _ T0 (mkF m 0 #[oI x] [])
  refine own_by (fun t_ k_ => XS.iloadN X0.here hx rfl (hb hby d4_0) rfl  k_) ?_
  show own_Go p e below _ T0 (mkF m 1 #[oI x] [(.int x)])
  refine own_by (fun t_ k_ => XT.sipushV X0.here hx rfl (255 : Int32) (hb hby d4_1) (by decide) k_) ?_
  show own_Go p e below _ T0 (mkF m 4 #[oI x] [(.int (255 : Int32)), (.int x)])
  refine own_by (fun t_ k_ => XS.icmpNo X0.here hx rfl (hb hby d4_4) rfl (XT.ii_gt_f (own_ch_le B)) k_) ?_
  show own_Go p e below _ T0 (mkF m 7 #[oI x] [])
  refine own_by (fun t_ k_ => XT.iconstV X0.here hx rfl (1 : Int32) (hb hby d4_7) (by decide) k_) ?_
  show own_Go p e below _ T0 (mkF m 8 #[oI x] [(.int (1 : Int32))])
  refine own_by (fun t_ k_ => XS.goto X0.here hx rfl (pc0 := 8) (pc' := 12) rfl (hb hby d4_8) (by decide) (by decide) k_) ?_
  show own_Go p e below _ T0 (mkF m 12 #[oI x] [(.int (1 : Int32))])
  subst e0
  exact own_retN X0 hx hlk hret (by simp) (w := (1 : Int32)) (hb hby d4_12) (by decide) (by decide) (by decide) (⟨rfl, rfl, rfl⟩)
theorem d5_0 : decode jdk_43_method_46_code 0 = .ok (.iconst 1, 1) := by decide +kernel
theorem d5_1 : decode jdk_43_method_46_code 1 = .ok (.newarray .byte, 2) := by decide +kernel
theorem d5_3 : decode jdk_43_method_46_code 3 = .ok (.dup, 1) := by decide +kernel
theorem d5_4 : decode jdk_43_method_46_code 4 = .ok (.iconst 0, 1) := by decide +kernel
theorem d5_5 : decode jdk_43_method_46_code 5 = .ok (.iload_n 0, 1) := by decide +kernel
theorem d5_6 : decode jdk_43_method_46_code 6 = .ok (.i2b, 1) := by decide +kernel
theorem d5_7 : decode jdk_43_method_46_code 7 = .ok (.bastore, 1) := by decide +kernel
theorem d5_8 : decode jdk_43_method_46_code 8 = .ok (.areturn, 1) := by decide +kernel
set_option maxRecDepth 65536 in
set_option maxHeartbeats 40000000 in
theorem own_tb (l : Launch) (Z : State) (a0 : Array Value) (hw : ∀ d ∈ tables_1, d.before a0 Z = true) (x : Int32) (h0 : Heap)  :
    own_Met l (⟨"java/lang/StringLatin1", "toBytes", "(C)[B"⟩ : MethodName) jdk_43_method_46_code 1 (some (.array .byte)) [] ({ frames := 0, cells := 1, slots := 1, locals := 0 } : Room) Z #[(.int x)] h0 (fun rv rh rL => rv = some (.ref h0.size) ∧ Keep h0 rh [] ∧ Fr h0.size rL ∧ ∃ kb, own_A Z rh h0.size .byte kb [(.int (x.toInt8.toInt32))]) := by
  refine own_enter (plainFor_of_name pn_3) ?_
  intro p e s m below meth c T0 hx hby hml hret hlk hown hnm hZ X0 e0
  refine own_at (g' := (mkF m 0 #[oI x] [])) (by first | (simp [entryFrame, mkF, argsToLocals, Value.category]; done) | rfl) ?_
  show own_Go p e below _ T0 (mkF m 0 #[oI x] [])
  have K0 : Keep h0 h0 [] := Keep.refl h0 _
  have N0 : own_Fr h0.size h0.size [] := own_Fr.nil
  refine own_by (fun t_ k_ => XT.iconstV X0.here hx rfl (1 : Int32) (hb hby d5_0) (by decide) k_) ?_
  show own_Go p e below _ T0 (mkF m 1 #[oI x] [(.int (1 : Int32))])
  have g2 : h0.size ≤ h0.size := K0.1
  refine own_newP X0 hx hZ (aty := .byte) (hw _ (List.mem_of_getElem? (i := 25) rfl)) e0 (hb hby d5_1) 1 1 (by decide) (by decide) (by decide) (by decide) (by decide) (by decide) ?_
  intro T1 hT1 kT1 XT1 eT1 ET1 YT1
  have VT1 : own_A Z hT1 h0.size .byte kT1 [(.int 0)] := YT1
  clear YT1
  have Kq3 := own_trans0 K0 (own_ek ET1)
  have lt4 := VT1.lt
  show own_Go p e below _ T1 (mkF m 3 #[oI x] [(.ref h0.size)])
  refine own_by (fun t_ k_ => XS.dup XT1.here hx rfl (hb hby d5_3) rfl rfl k_) ?_
  show own_Go p e below _ T1 (mkF m 4 #[oI x] [(.ref h0.size), (.ref h0.size)])
  refine own_by (fun t_ k_ => XT.iconstV XT1.here hx rfl (0 : Int32) (hb hby d5_4) (by decide) k_) ?_
  show own_Go p e below _ T1 (mkF m 5 #[oI x] [(.int (0 : Int32)), (.ref h0.size), (.ref h0.size)])
  refine own_by (fun t_ k_ => XS.iloadN XT1.here hx rfl (hb hby d5_5) rfl  k_) ?_
  show own_Go p e below _ T1 (mkF m 6 #[oI x] [(.int x), (.int (0 : Int32)), (.ref h0.size), (.ref h0.size)])
  refine own_by (fun t_ k_ => XT.i2b XT1.here hx rfl (hb hby d5_6) rfl k_) ?_
  show own_Go p e below _ T1 (mkF m 7 #[oI x] [(.int (x.toInt8.toInt32)), (.int (0 : Int32)), (.ref h0.size), (.ref h0.size)])
  refine own_stB XT1 hx hZ eT1 VT1 (y := (x.toInt8.toInt32)) 0 (by decide) (by decide) (by simp) (own_narB x) (hb hby d5_7) ?_
  intro T5 hT5 XT5 eT5 WT5 YT5
  have VT5 : own_A Z hT5 h0.size .byte kT1 [(.int (x.toInt8.toInt32))] := YT5
  clear YT5
  have lq6_0 := Nat.lt_of_lt_of_le lt4 (Keep.of_wr WT5).1
  have Kq6 := own_trans1 Kq3 (Keep.of_wr WT5) (Or.inr g2)
  have N7 := own_Fr.app N0 (own_Fr.of (own_fr1 (i := 0) g2) (Nat.le_refl _))
  show own_Go p e below _ T5 (mkF m 8 #[oI x] [(.ref h0.size)])
  subst eT5
  exact own_retA XT5 hx hlk hret rfl rfl (hb hby d5_8) (by decide) (by decide) (⟨rfl, Kq6, (N7).to (Nat.le_refl _), ⟨_, VT5⟩⟩)
theorem d6_0 : decode jdk_42_method_151_code 0 = .ok (.aload_n 0, 1) := by decide +kernel
theorem d6_1 : decode jdk_42_method_151_code 1 = .ok (.invokespecial 1, 3) := by decide +kernel
theorem d6_4 : decode jdk_42_method_151_code 4 = .ok (.aload_n 0, 1) := by decide +kernel
theorem d6_5 : decode jdk_42_method_151_code 5 = .ok (.aload_n 1, 1) := by decide +kernel
theorem d6_6 : decode jdk_42_method_151_code 6 = .ok (.putfield 9, 3) := by decide +kernel
theorem d6_9 : decode jdk_42_method_151_code 9 = .ok (.aload_n 0, 1) := by decide +kernel
theorem d6_10 : decode jdk_42_method_151_code 10 = .ok (.iload_n 2, 1) := by decide +kernel
theorem d6_11 : decode jdk_42_method_151_code 11 = .ok (.putfield 15, 3) := by decide +kernel
theorem d6_14 : decode jdk_42_method_151_code 14 = .ok (.return_, 1) := by decide +kernel
set_option maxRecDepth 65536 in
set_option maxHeartbeats 40000000 in
theorem own_ib (l : Launch) (Z : State) (a0 : Array Value) (hw : ∀ d ∈ tables_1, d.before a0 Z = true) (t a : Addr) (ka : ClassId) (v : Value) (h0 : Heap) (Et : Exa Z h0 t "java/lang/String") (Fv : Fld Z h0 t "java/lang/String" "value" "[B" .null) (Fc : Fld Z h0 t "java/lang/String" "coder" "B" (.int 0))(hat : a ≠ t) (A : own_A Z h0 a .byte ka [v]) :
    own_Met l (⟨"java/lang/String", "<init>", "([BB)V"⟩ : MethodName) jdk_42_method_151_code 3 (none) [] ({ frames := 1, cells := 0, slots := 0, locals := 12 } : Room) Z #[(.ref t), (.ref a), (.int (0 : Int32))] h0 (fun rv rh rL => rv = none ∧ Keep h0 rh [t] ∧ own_Fr h0.size t rL ∧ own_Str Z rh t 0 [v]) := by
  refine own_enter (plainFor_of_name pn_1) ?_
  intro p e s m below meth c T0 hx hby hml hret hlk hown hnm hZ X0 e0
  refine own_at (g' := (mkF m 0 #[oR t, oR a, oI (0 : Int32)] [])) (by first | (simp [entryFrame, mkF, argsToLocals, Value.category]; done) | rfl) ?_
  show own_Go p e below _ T0 (mkF m 0 #[oR t, oR a, oI (0 : Int32)] [])
  have lt1 : t < h0.size := Et.lt
  have K0 : Keep h0 h0 [t] := Keep.refl h0 _
  have N0 : own_Fr h0.size t [] := own_Fr.nil
  refine own_by (fun t_ k_ => XS.aloadN X0.here hx rfl (hb hby d6_0) rfl rfl  k_) ?_
  show own_Go p e below _ T0 (mkF m 1 #[oR t, oR a, oI (0 : Int32)] [(.ref t)])
  obtain ⟨T2, XT2, eT2, stT2⟩ := initO X0 hx hZ hown (hw _ (List.mem_of_getElem? (i := 30) rfl)) (hw _ (List.mem_of_getElem? (i := 31) rfl)) (hw _ (List.mem_of_getElem? (i := 32) rfl)) e0 (g := (mkF m 1 #[oR t, oR a, oI (0 : Int32)] [(.ref t)])) rfl (by rw [hml]; rfl) rfl (hb hby d6_1) (by decide) (W := 0) (by show 2 * 0 + _ ≤ _; exact Nat.le_of_eq rfl) (by decide)
  refine own_by stT2 ?_
  show own_Go p e below _ T2 (mkF m 4 #[oR t, oR a, oI (0 : Int32)] [])
  refine own_by (fun t_ k_ => XS.aloadN XT2.here hx rfl (hb hby d6_4) rfl rfl  k_) ?_
  show own_Go p e below _ T2 (mkF m 5 #[oR t, oR a, oI (0 : Int32)] [(.ref t)])
  refine own_by (fun t_ k_ => XS.aloadN XT2.here hx rfl (hb hby d6_5) rfl rfl  k_) ?_
  show own_Go p e below _ T2 (mkF m 6 #[oR t, oR a, oI (0 : Int32)] [(.ref a), (.ref t)])
  refine own_putF XT2 hx hZ hown (hw _ (List.mem_of_getElem? (i := 33) rfl)) eT2 Fv Et (Or.inr ⟨(hw _ (List.mem_of_getElem? (i := 34) rfl)), rfl, hnm⟩) (hw _ (List.mem_of_getElem? (i := 21) rfl)) (ty := (.array .byte)) (by decide +kernel) rfl rfl (hb hby d6_6) ?_
  intro T3 hT3 XT3 eT3 WT3
  have FT3_value := Fld.same WT3 Fv
  have FT3_coder := Fld.other WT3 Fc (Or.inr (slot_ne (t := .byte) (t' := (.array .byte)) (Or.inr (hw _ (List.mem_of_getElem? (i := 36) rfl))) (Or.inr (hw _ (List.mem_of_getElem? (i := 34) rfl))) (by decide) (by decide +kernel) (by decide +kernel)))
  have fq4_1 := Et.keep (Keep.of_wr WT3)
  have fq4_2 := A.keep (Keep.of_wr WT3) (own_nin hat)
  have lq4_0 := Nat.lt_of_lt_of_le lt1 (Keep.of_wr WT3).1
  have Kq4 := own_trans1 K0 (Keep.of_wr WT3) (Or.inl (List.mem_singleton.mpr rfl))
  have N5 := own_Fr.app N0 (own_Fr.one (i := (Jvm.RoadKit.slotOf Z "java/lang/String" "value" "[B")))
  show own_Go p e below _ T3 (mkF m 9 #[oR t, oR a, oI (0 : Int32)] [])
  refine own_by (fun t_ k_ => XS.aloadN XT3.here hx rfl (hb hby d6_9) rfl rfl  k_) ?_
  show own_Go p e below _ T3 (mkF m 10 #[oR t, oR a, oI (0 : Int32)] [(.ref t)])
  refine own_by (fun t_ k_ => XS.iloadN XT3.here hx rfl (hb hby d6_10) rfl  k_) ?_
  show own_Go p e below _ T3 (mkF m 11 #[oR t, oR a, oI (0 : Int32)] [(.int (0 : Int32)), (.ref t)])
  refine own_putF XT3 hx hZ hown (hw _ (List.mem_of_getElem? (i := 35) rfl)) eT3 FT3_coder fq4_1 (Or.inr ⟨(hw _ (List.mem_of_getElem? (i := 36) rfl)), rfl, hnm⟩) (hw _ (List.mem_of_getElem? (i := 21) rfl)) (ty := .byte) (by decide +kernel) (by decide) (by decide) (hb hby d6_11) ?_
  intro T6 hT6 XT6 eT6 WT6
  have FT6_coder := Fld.same WT6 FT3_coder
  have FT6_value := Fld.other WT6 FT3_value (Or.inr (slot_ne (t := (.array .byte)) (t' := .byte) (Or.inr (hw _ (List.mem_of_getElem? (i := 34) rfl))) (Or.inr (hw _ (List.mem_of_getElem? (i := 36) rfl))) (by decide) (by decide +kernel) (by decide +kernel)))
  have fq7_1 := fq4_1.keep (Keep.of_wr WT6)
  have fq7_2 := fq4_2.keep (Keep.of_wr WT6) (own_nin hat)
  have lq7_0 := Nat.lt_of_lt_of_le lq4_0 (Keep.of_wr WT6).1
  have Kq7 := own_trans1 Kq4 (Keep.of_wr WT6) (Or.inl (List.mem_singleton.mpr rfl))
  have N8 := own_Fr.app N5 (own_Fr.one (i := (Jvm.RoadKit.slotOf Z "java/lang/String" "coder" "B")))
  show own_Go p e below _ T6 (mkF m 14 #[oR t, oR a, oI (0 : Int32)] [])
  subst eT6
  exact own_retV XT6 hx hlk hret (hb hby d6_14) (by decide) (by decide) (⟨rfl, Kq7, N8, ⟨a, _, fq7_1, FT6_value, FT6_coder, fq7_2⟩⟩)
theorem d3_0 : decode jdk_42_method_139_code 0 = .ok (.getstatic 38, 3) := by decide +kernel
theorem d3_3 : decode jdk_42_method_139_code 3 = .ok (.ifCond .eq 23, 3) := by decide +kernel
theorem d3_6 : decode jdk_42_method_139_code 6 = .ok (.iload_n 0, 1) := by decide +kernel
theorem d3_7 : decode jdk_42_method_139_code 7 = .ok (.invokestatic 1015, 3) := by decide +kernel
theorem pd_4 : parseMethodDescriptor "(C)Z" = some ⟨[.char], some .boolean⟩ := by decide +kernel
theorem d3_10 : decode jdk_42_method_139_code 10 = .ok (.ifCond .eq 16, 3) := by decide +kernel
theorem d3_13 : decode jdk_42_method_139_code 13 = .ok (.new 10, 3) := by decide +kernel
theorem d3_16 : decode jdk_42_method_139_code 16 = .ok (.dup, 1) := by decide +kernel
theorem d3_17 : decode jdk_42_method_139_code 17 = .ok (.iload_n 0, 1) := by decide +kernel
theorem d3_18 : decode jdk_42_method_139_code 18 = .ok (.invokestatic 1018, 3) := by decide +kernel
theorem pd_5 : parseMethodDescriptor "(C)[B" = some ⟨[.char], some (.array .byte)⟩ := by decide +kernel
theorem d3_21 : decode jdk_42_method_139_code 21 = .ok (.iconst 0, 1) := by decide +kernel
theorem d3_22 : decode jdk_42_method_139_code 22 = .ok (.invokespecial 209, 3) := by decide +kernel
theorem pd_6 : parseMethodDescriptor "([BB)V" = some ⟨[(.array .byte), .byte], none⟩ := by decide +kernel
theorem d3_25 : decode jdk_42_method_139_code 25 = .ok (.areturn, 1) := by decide +kernel
set_option maxRecDepth 65536 in
set_option maxHeartbeats 40000000 in
theorem own_vo (l : Launch) (Z : State) (a0 : Array Value) (hw : ∀ d ∈ tables_1, d.before a0 Z = true) (x : Int32) (h0 : Heap) (cs : Int32) (Cs : Sta Z h0 "java/lang/String" "COMPACT_STRINGS" "Z" (.int cs)) (hcs : ¬ cs = (0 : Int32))(B : own_ch x) :
    own_Met l (⟨"java/lang/String", "valueOf", "(C)Ljava/lang/String;"⟩ : MethodName) jdk_42_method_139_code 1 (some (.object "java/lang/String")) [] ({ frames := 2, cells := 2, slots := 5, locals := 28 } : Room) Z #[(.int x)] h0 (fun rv rh rL => rv = some (.ref h0.size) ∧ Keep h0 rh [] ∧ Fr h0.size rL ∧ own_Str Z rh h0.size 0 [(.int (x.toInt8.toInt32))]) := by
  refine own_enter (plainFor_of_name pn_1) ?_
  intro p e s m below meth c T0 hx hby hml hret hlk hown hnm hZ X0 e0
  refine own_at (g' := (mkF m 0 #[oI x] [])) (by first | (simp [entryFrame, mkF, argsToLocals, Value.category]; done) | rfl) ?_
  show own_Go p e below _ T0 (mkF m 0 #[oI x] [])
  have K0 : Keep h0 h0 [] := Keep.refl h0 _
  have N0 : own_Fr h0.size h0.size [] := own_Fr.nil
  obtain ⟨T1, XT1, eT1, stT1⟩ := getS2 X0 hx hZ hown (host := "") (Or.inl (hw _ (List.mem_of_getElem? (i := 15) rfl))) Via.refl e0 Cs (g := (mkF m 0 #[oI x] [])) rfl (hb hby d3_0)
  refine own_by stT1 ?_
  show own_Go p e below _ T1 (mkF m 3 #[oI x] [(.int cs)])
  refine own_by (fun t_ k_ => XS.ifNo XT1.here hx rfl (hb hby d3_3) rfl (XT.i0_eq_f hcs) k_) ?_
  show own_Go p e below _ T1 (mkF m 6 #[oI x] [])
  refine own_by (fun t_ k_ => XS.iloadN XT1.here hx rfl (hb hby d3_6) rfl  k_) ?_
  show own_Go p e below _ T1 (mkF m 7 #[oI x] [(.int x)])
  refine own_callS XT1 hx hZ hown (hw _ (List.mem_of_getElem? (i := 16) rfl)) (hw _ (List.mem_of_getElem? (i := 17) rfl)) (hw _ (List.mem_of_getElem? (i := 18) rfl)) (hw _ (List.mem_of_getElem? (i := 19) rfl)) (by decide) eT1 (argsL := [(.int x)]) (rest := []) (own_can l Z a0 hw x h0 B) 0 (by decide) (by decide) (by rw [hml]; rfl) (lenOf pd_4 rfl) (Nat.le_of_eq rfl) (hb hby d3_7) (by decide) (by decide) (st := [(.int x)]) rfl ?_
  intro T2 LT2 vT2 XT2 hQT2
  obtain ⟨rfl, eT2, rfl⟩ := hQT2
  show own_Go p e below _ T2 (mkF m 10 #[oI x] [(.int (1 : Int32))])
  have N3 := own_Fr.app N0 own_Fr.nil
  refine own_by (fun t_ k_ => XS.ifNo XT2.here hx rfl (hb hby d3_10) rfl (XT.i0_eq_f (by decide)) k_) ?_
  show own_Go p e below _ T2 (mkF m 13 #[oI x] [])
  have g5 : h0.size ≤ h0.size := K0.1
  refine own_new XT2 hx hZ hown (hw _ (List.mem_of_getElem? (i := 20) rfl)) (hw _ (List.mem_of_getElem? (i := 21) rfl)) (hw _ (List.mem_of_getElem? (i := 13) rfl)) eT2 (hb hby d3_13) (by decide) (by decide) ?_
  intro T4 hT4 XT4 eT4 ET4 AT4 DT4
  have fq6_1 := own_stak Cs (own_ek ET4)
  have Kq6 := own_trans0 K0 (own_ek ET4)
  have FT4_value : Fld Z hT4 h0.size "java/lang/String" "value" "[B" .null := DT4 (ty := (.array .byte)) (Or.inr (hw _ (List.mem_of_getElem? (i := 34) rfl))) (by decide +kernel)
  have FT4_coder : Fld Z hT4 h0.size "java/lang/String" "coder" "B" (.int 0) := DT4 (ty := .byte) (Or.inr (hw _ (List.mem_of_getElem? (i := 36) rfl))) (by decide +kernel)
  clear DT4
  have lt7 := AT4.lt
  show own_Go p e below _ T4 (mkF m 16 #[oI x] [(.ref h0.size)])
  refine own_by (fun t_ k_ => XS.dup XT4.here hx rfl (hb hby d3_16) rfl rfl k_) ?_
  show own_Go p e below _ T4 (mkF m 17 #[oI x] [(.ref h0.size), (.ref h0.size)])
  refine own_by (fun t_ k_ => XS.iloadN XT4.here hx rfl (hb hby d3_17) rfl  k_) ?_
  show own_Go p e below _ T4 (mkF m 18 #[oI x] [(.int x), (.ref h0.size), (.ref h0.size)])
  have g8 : h0.size ≤ hT4.size := Kq6.1
  refine own_callS XT4 hx hZ hown (hw _ (List.mem_of_getElem? (i := 22) rfl)) (hw _ (List.mem_of_getElem? (i := 23) rfl)) (hw _ (List.mem_of_getElem? (i := 18) rfl)) (hw _ (List.mem_of_getElem? (i := 24) rfl)) (by decide) eT4 (argsL := [(.int x)]) (rest := [(.ref h0.size), (.ref h0.size)]) (own_tb l Z a0 hw x hT4) 2 (by decide) (by decide) (by rw [hml]; rfl) (lenOf pd_5 rfl) (Nat.le_of_eq rfl) (hb hby d3_18) (by decide) (by decide) (st := [(.int x), (.ref h0.size), (.ref h0.size)]) rfl ?_
  intro T9 LT9 vT9 XT9 hQT9
  obtain ⟨rfl, KT9, NT9, kb, VT9⟩ := hQT9
  show own_Go p e below _ T9 (mkF m 21 #[oI x] [(.ref hT4.size), (.ref h0.size), (.ref h0.size)])
  have fq10_1 := own_stak fq6_1 KT9
  have fq10_2 := AT4.keep KT9
  have fq10_3 := FT4_value.keep KT9 nin0
  have fq10_4 := FT4_coder.keep KT9 nin0
  have lq10_0 := Nat.lt_of_lt_of_le lt7 KT9.1
  have Kq10 := own_trans0 Kq6 KT9
  have z11 : h0.size ≠ hT4.size := Nat.ne_of_lt lt7
  have N12 := own_Fr.app N3 (own_Fr.of NT9 (Kq6).1)
  refine own_by (fun t_ k_ => XT.iconstV XT9.here hx rfl (0 : Int32) (hb hby d3_21) (by decide) k_) ?_
  show own_Go p e below _ T9 (mkF m 22 #[oI x] [(.int (0 : Int32)), (.ref hT4.size), (.ref h0.size), (.ref h0.size)])
  refine own_callN XT9 hx hZ rfl hown (hw _ (List.mem_of_getElem? (i := 26) rfl)) (hw _ (List.mem_of_getElem? (i := 27) rfl)) (hw _ (List.mem_of_getElem? (i := 29) rfl)) (hw _ (List.mem_of_getElem? (i := 13) rfl)) (by decide) (rfl : T9.heap = T9.heap) (b := h0.size) (argsL := [(.ref hT4.size), (.int (0 : Int32))]) (rest := [(.ref h0.size)]) (own_ib l Z a0 hw h0.size hT4.size kb (.int (x.toInt8.toInt32)) T9.heap fq10_2 fq10_3 fq10_4 (Ne.symm z11) VT9) 1 (by decide) (by decide) (by rw [hml]; rfl) (lenOf pd_6 rfl) (Nat.le_of_eq rfl) (hb hby d3_22) (by decide) (by decide) (st := [(.int (0 : Int32)), (.ref hT4.size), (.ref h0.size), (.ref h0.size)]) rfl ?_
  intro T13 LT13 vT13 XT13 hQT13
  obtain ⟨rfl, KT13, NT13, ST13⟩ := hQT13
  show own_Go p e below _ T13 (mkF m 25 #[oI x] [(.ref h0.size)])
  have fq14_1 := own_stak1 fq10_1 KT13 fq10_2
  have fq14_2 := fq10_2.keep KT13
  have fq14_3 := VT9.keep KT13 (own_nin (Ne.symm z11))
  have lq14_0 := Nat.lt_of_lt_of_le lq10_0 KT13.1
  have Kq14 := own_trans1 Kq10 KT13 (Or.inr g5)
  have N15 := own_Fr.app N12 (own_Fr.of (own_Fr.new NT13 g5 (Kq10).1) (Nat.le_refl _))
  exact own_retA XT13 hx hlk hret rfl rfl (hb hby d3_25) (by decide) (by decide) (⟨rfl, Kq14, (N15).to (Nat.le_refl _), ST13⟩)
theorem d2_0 : decode method_3_code 0 = .ok (.iload_n 0, 1) := by decide +kernel
theorem d2_1 : decode method_3_code 1 = .ok (.ifCond .ne 14, 3) := by decide +kernel
theorem d2_15 : decode method_3_code 15 = .ok (.iload_n 0, 1) := by decide +kernel
theorem d2_16 : decode method_3_code 16 = .ok (.iconst 1, 1) := by decide +kernel
theorem d2_17 : decode method_3_code 17 = .ok (.if_icmp .ne 8, 3) := by decide +kernel
theorem d2_20 : decode method_3_code 20 = .ok (.iload_n 1, 1) := by decide +kernel
theorem d2_21 : decode method_3_code 21 = .ok (.invokestatic 30, 3) := by decide +kernel
theorem pd_7 : parseMethodDescriptor "(C)Ljava/lang/String;" = some ⟨[.char], some (.object "java/lang/String")⟩ := by decide +kernel
theorem d2_24 : decode method_3_code 24 = .ok (.areturn, 1) := by decide +kernel
set_option maxRecDepth 65536 in
set_option maxHeartbeats 40000000 in
theorem own_strN_1 (l : Launch) (Z : State) (a0 : Array Value) (hw : ∀ d ∈ tables_1, d.before a0 Z = true) (x y : Int32) (h0 : Heap) (cs : Int32) (Cs : Sta Z h0 "java/lang/String" "COMPACT_STRINGS" "Z" (.int cs)) (hcs : ¬ cs = (0 : Int32))(Bx : own_ch x) (By : own_ch y) :
    own_Met l (⟨"com/example/nimble_gate/nimblegate/policy/TokenIsWordPinLaw", "str", "(ICC)Ljava/lang/String;"⟩ : MethodName) method_3_code 3 (some (.object "java/lang/String")) [] ({ frames := 4, cells := 3, slots := 10, locals := 70 } : Room) Z #[(.int (1 : Int32)), (.int x), (.int y)] h0 (fun rv rh rL => rv = some (.ref h0.size) ∧ Keep h0 rh [] ∧ Fr h0.size rL ∧ own_Str Z rh h0.size 0 [(.int (x.toInt8.toInt32))]) := by
  refine own_enter (plainFor_of_name pn_2) ?_
  intro p e s m below meth c T0 hx hby hml hret hlk hown hnm hZ X0 e0
  refine own_at (g' := (mkF m 0 #[oI (1 : Int32), oI x, oI y] [])) (by first | (simp [entryFrame, mkF, argsToLocals, Value.category]; done) | rfl) ?_
  show own_Go p e below _ T0 (mkF m 0 #[oI (1 : Int32), oI x, oI y] [])
  have K0 : Keep h0 h0 [] := Keep.refl h0 _
  have N0 : own_Fr h0.size h0.size [] := own_Fr.nil
  refine own_by (fun t_ k_ => XS.iloadN X0.here hx rfl (hb hby d2_0) rfl  k_) ?_
  show own_Go p e below _ T0 (mkF m 1 #[oI (1 : Int32), oI x, oI y] [(.int (1 : Int32))])
  refine own_by (fun t_ k_ => XS.ifYes X0.here hx rfl (pc0 := 1) (pc' := 15) rfl (hb hby d2_1) rfl (XT.i0_ne_t (by decide)) (by decide) (by decide) k_) ?_
  show own_Go p e below _ T0 (mkF m 15 #[oI (1 : Int32), oI x, oI y] [])
  refine own_by (fun t_ k_ => XS.iloadN X0.here hx rfl (hb hby d2_15) rfl  k_) ?_
  show own_Go p e below _ T0 (mkF m 16 #[oI (1 : Int32), oI x, oI y] [(.int (1 : Int32))])
  refine own_by (fun t_ k_ => XT.iconstV X0.here hx rfl (1 : Int32) (hb hby d2_16) (by decide) k_) ?_
  show own_Go p e below _ T0 (mkF m 17 #[oI (1 : Int32), oI x, oI y] [(.int (1 : Int32)), (.int (1 : Int32))])
  refine own_by (fun t_ k_ => XS.icmpNo X0.here hx rfl (hb hby d2_17) rfl (XT.ii_ne_f (by decide)) k_) ?_
  show own_Go p e below _ T0 (mkF m 20 #[oI (1 : Int32), oI x, oI y] [])
  refine own_by (fun t_ k_ => XS.iloadN X0.here hx rfl (hb hby d2_20) rfl  k_) ?_
  show own_Go p e below _ T0 (mkF m 21 #[oI (1 : Int32), oI x, oI y] [(.int x)])
  refine own_callS X0 hx hZ hown (hw _ (List.mem_of_getElem? (i := 11) rfl)) (hw _ (List.mem_of_getElem? (i := 12) rfl)) (hw _ (List.mem_of_getElem? (i := 13) rfl)) (hw _ (List.mem_of_getElem? (i := 14) rfl)) (by decide) e0 (argsL := [(.int x)]) (rest := []) (own_vo l Z a0 hw x h0 cs Cs hcs Bx) 0 (by decide) (by decide) (by rw [hml]; rfl) (lenOf pd_7 rfl) (Nat.le_of_eq rfl) (hb hby d2_21) (by decide) (by decide) (st := [(.int x)]) rfl ?_
  intro T1 LT1 vT1 XT1 hQT1
  obtain ⟨rfl, KT1, NT1, ST1⟩ := hQT1
  show own_Go p e below _ T1 (mkF m 24 #[oI (1 : Int32), oI x, oI y] [(.ref h0.size)])
  exact own_retA XT1 hx hlk hret rfl rfl (hb hby d2_24) (by decide) (by decide) (⟨rfl, KT1, own_frA own_fr0 NT1, ST1⟩)
theorem own_str_1 (l : Launch) (Z : State) (a0 : Array Value) (hw : ∀ d ∈ tables_1, d.before a0 Z = true) (EL : List (String × Nat)) (hEL : EW Z a0 EL) (x y : Int32) (h0 : Heap) (cs : Int32) (Cs : Sta Z h0 "java/lang/String" "COMPACT_STRINGS" "Z" (.int cs)) (hcs : ¬ cs = (0 : Int32))(Bx : own_ch x) (By : own_ch y) (hmem : ("java/lang/String", 7) ∈ EL) :
    own_MetW l (⟨"com/example/nimble_gate/nimblegate/policy/TokenIsWordPinLaw", "str", "(ICC)Ljava/lang/String;"⟩ : MethodName) method_3_code 3 (some (.object "java/lang/String")) [] ({ frames := 4, cells := 3, slots := 10, locals := 70 } : Room) Z EL #[(.int (1 : Int32)), (.int x), (.int y)] h0 (fun rv rh rL => rv = some (.ref h0.size) ∧ Keep h0 rh [] ∧ Fr h0.size rL ∧ own_Str Z rh h0.size 0 [(.int (x.toInt8.toInt32))]) := own_wide hEL (own_strN_1 l Z a0 hw x y h0 cs Cs hcs Bx By) (fun _ _ _ q => q.2.1)
theorem d2_25 : decode method_3_code 25 = .ok (.new 25, 3) := by decide +kernel
theorem d2_28 : decode method_3_code 28 = .ok (.dup, 1) := by decide +kernel
theorem d2_29 : decode method_3_code 29 = .ok (.iconst 2, 1) := by decide +kernel
theorem d2_30 : decode method_3_code 30 = .ok (.newarray .char, 2) := by decide +kernel
theorem d2_32 : decode method_3_code 32 = .ok (.dup, 1) := by decide +kernel
theorem d2_33 : decode method_3_code 33 = .ok (.iconst 0, 1) := by decide +kernel
theorem d2_34 : decode method_3_code 34 = .ok (.iload_n 1, 1) := by decide +kernel
theorem d2_35 : decode method_3_code 35 = .ok (.castore, 1) := by decide +kernel
theorem d2_36 : decode method_3_code 36 = .ok (.dup, 1) := by decide +kernel
theorem d2_37 : decode method_3_code 37 = .ok (.iconst 1, 1) := by decide +kernel
theorem d2_38 : decode method_3_code 38 = .ok (.iload_n 2, 1) := by decide +kernel
theorem d2_39 : decode method_3_code 39 = .ok (.castore, 1) := by decide +kernel
theorem d2_40 : decode method_3_code 40 = .ok (.invokespecial 27, 3) := by decide +kernel
theorem pd_8 : parseMethodDescriptor "([C)V" = some ⟨[(.array .char)], none⟩ := by decide +kernel
theorem d2_43 : decode method_3_code 43 = .ok (.areturn, 1) := by decide +kernel
set_option maxRecDepth 65536 in
set_option maxHeartbeats 40000000 in
theorem own_strN_2 (l : Launch) (Z : State) (a0 : Array Value) (hw : ∀ d ∈ tables_1, d.before a0 Z = true) (x y : Int32) (h0 : Heap) (cs : Int32) (Cs : Sta Z h0 "java/lang/String" "COMPACT_STRINGS" "Z" (.int cs)) (hcs : ¬ cs = (0 : Int32))(Bx : own_ch x) (By : own_ch y) :
    own_Met l (⟨"com/example/nimble_gate/nimblegate/policy/TokenIsWordPinLaw", "str", "(ICC)Ljava/lang/String;"⟩ : MethodName) method_3_code 3 (some (.object "java/lang/String")) [] ({ frames := 4, cells := 3, slots := 10, locals := 70 } : Room) Z #[(.int (2 : Int32)), (.int x), (.int y)] h0 (fun rv rh rL => rv = some (.ref h0.size) ∧ Keep h0 rh [] ∧ Fr h0.size rL ∧ own_Str Z rh h0.size 0 [(.int (x.toInt8.toInt32)), (.int (y.toInt8.toInt32))]) := by
  refine own_enter (plainFor_of_name pn_2) ?_
  intro p e s m below meth c T0 hx hby hml hret hlk hown hnm hZ X0 e0
  refine own_at (g' := (mkF m 0 #[oI (2 : Int32), oI x, oI y] [])) (by first | (simp [entryFrame, mkF, argsToLocals, Value.category]; done) | rfl) ?_
  show own_Go p e below _ T0 (mkF m 0 #[oI (2 : Int32), oI x, oI y] [])
  have K0 : Keep h0 h0 [] := Keep.refl h0 _
  have N0 : own_Fr h0.size h0.size [] := own_Fr.nil
  refine own_by (fun t_ k_ => XS.iloadN X0.here hx rfl (hb hby d2_0) rfl  k_) ?_
  show own_Go p e below _ T0 (mkF m 1 #[oI (2 : Int32), oI x, oI y] [(.int (2 : Int32))])
  refine own_by (fun t_ k_ => XS.ifYes X0.here hx rfl (pc0 := 1) (pc' := 15) rfl (hb hby d2_1) rfl (XT.i0_ne_t (by decide)) (by decide) (by decide) k_) ?_
  show own_Go p e below _ T0 (mkF m 15 #[oI (2 : Int32), oI x, oI y] [])
  refine own_by (fun t_ k_ => XS.iloadN X0.here hx rfl (hb hby d2_15) rfl  k_) ?_
  show own_Go p e below _ T0 (mkF m 16 #[oI (2 : Int32), oI x, oI y] [(.int (2 : Int32))])
  refine own_by (fun t_ k_ => XT.iconstV X0.here hx rfl (1 : Int32) (hb hby d2_16) (by decide) k_) ?_
  show own_Go p e below _ T0 (mkF m 17 #[oI (2 : Int32), oI x, oI y] [(.int (1 : Int32)), (.int (2 : Int32))])
  refine own_by (fun t_ k_ => XS.icmpYes X0.here hx rfl (pc0 := 17) (pc' := 25) rfl (hb hby d2_17) rfl (XT.ii_ne_t (by decide)) (by decide) (by decide) k_) ?_
  show own_Go p e below _ T0 (mkF m 25 #[oI (2 : Int32), oI x, oI y] [])
  have g2 : h0.size ≤ h0.size := K0.1
  refine own_new X0 hx hZ hown (hw _ (List.mem_of_getElem? (i := 37) rfl)) (hw _ (List.mem_of_getElem? (i := 21) rfl)) (hw _ (List.mem_of_getElem? (i := 13) rfl)) e0 (hb hby d2_25) (by decide) (by decide) ?_
  intro T1 hT1 XT1 eT1 ET1 AT1 DT1
  have fq3_1 := own_stak Cs (own_ek ET1)
  have Kq3 := own_trans0 K0 (own_ek ET1)
  have FT1_value : Fld Z hT1 h0.size "java/lang/String" "value" "[B" .null := DT1 (ty := (.array .byte)) (Or.inr (hw _ (List.mem_of_getElem? (i := 34) rfl))) (by decide +kernel)
  have FT1_coder : Fld Z hT1 h0.size "java/lang/String" "coder" "B" (.int 0) := DT1 (ty := .byte) (Or.inr (hw _ (List.mem_of_getElem? (i := 36) rfl))) (by decide +kernel)
  clear DT1
  have lt4 := AT1.lt
  show own_Go p e below _ T1 (mkF m 28 #[oI (2 : Int32), oI x, oI y] [(.ref h0.size)])
  refine own_by (fun t_ k_ => XS.dup XT1.here hx rfl (hb hby d2_28) rfl rfl k_) ?_
  show own_Go p e below _ T1 (mkF m 29 #[oI (2 : Int32), oI x, oI y] [(.ref h0.size), (.ref h0.size)])
  refine own_by (fun t_ k_ => XT.iconstV XT1.here hx rfl (2 : Int32) (hb hby d2_29) (by decide) k_) ?_
  show own_Go p e below _ T1 (mkF m 30 #[oI (2 : Int32), oI x, oI y] [(.int (2 : Int32)), (.ref h0.size), (.ref h0.size)])
  have g6 : h0.size ≤ hT1.size := Kq3.1
  refine own_newP XT1 hx hZ (aty := .char) (hw _ (List.mem_of_getElem? (i := 38) rfl)) eT1 (hb hby d2_30) 2 2 (by decide) (by decide) (by decide) (by decide) (by decide) (by decide) ?_
  intro T5 hT5 kT5 XT5 eT5 ET5 YT5
  have VT5 : own_A Z hT5 hT1.size .char kT5 [(.int 0), (.int 0)] := YT5
  clear YT5
  have fq7_1 := own_stak fq3_1 (own_ek ET5)
  have fq7_2 := AT1.keep (own_ek ET5)
  have fq7_3 := FT1_value.keep (own_ek ET5) nin0
  have fq7_4 := FT1_coder.keep (own_ek ET5) nin0
  have lq7_0 := Nat.lt_of_lt_of_le lt4 (own_ek ET5).1
  have Kq7 := own_trans0 Kq3 (own_ek ET5)
  have z8 : h0.size ≠ hT1.size := Nat.ne_of_lt lt4
  have lt9 := VT5.lt
  show own_Go p e below _ T5 (mkF m 32 #[oI (2 : Int32), oI x, oI y] [(.ref hT1.size), (.ref h0.size), (.ref h0.size)])
  refine own_by (fun t_ k_ => XS.dup XT5.here hx rfl (hb hby d2_32) rfl rfl k_) ?_
  show own_Go p e below _ T5 (mkF m 33 #[oI (2 : Int32), oI x, oI y] [(.ref hT1.size), (.ref hT1.size), (.ref h0.size), (.ref h0.size)])
  refine own_by (fun t_ k_ => XT.iconstV XT5.here hx rfl (0 : Int32) (hb hby d2_33) (by decide) k_) ?_
  show own_Go p e below _ T5 (mkF m 34 #[oI (2 : Int32), oI x, oI y] [(.int (0 : Int32)), (.ref hT1.size), (.ref hT1.size), (.ref h0.size), (.ref h0.size)])
  refine own_by (fun t_ k_ => XS.iloadN XT5.here hx rfl (hb hby d2_34) rfl  k_) ?_
  show own_Go p e below _ T5 (mkF m 35 #[oI (2 : Int32), oI x, oI y] [(.int x), (.int (0 : Int32)), (.ref hT1.size), (.ref hT1.size), (.ref h0.size), (.ref h0.size)])
  refine own_stC XT5 hx hZ eT5 VT5 (y := x) 0 (by decide) (by decide) (by simp) (own_ch_nar Bx) (hb hby d2_35) ?_
  intro T10 hT10 XT10 eT10 WT10 YT10
  have VT10 : own_A Z hT10 hT1.size .char kT5 [(.int x), (.int 0)] := YT10
  clear YT10
  have fq11_1 := Sta.wr WT10 fq7_1
  have fq11_2 := fq7_2.keep (Keep.of_wr WT10)
  have fq11_3 := fq7_3.keep (Keep.of_wr WT10) (own_nin z8)
  have fq11_4 := fq7_4.keep (Keep.of_wr WT10) (own_nin z8)
  have lq11_0 := Nat.lt_of_lt_of_le lq7_0 (Keep.of_wr WT10).1
  have lq11_1 := Nat.lt_of_lt_of_le lt9 (Keep.of_wr WT10).1
  have Kq11 := own_trans1 Kq7 (Keep.of_wr WT10) (Or.inr g6)
  have N12 := own_Fr.app N0 (own_Fr.of (own_fr1 (i := 0) g6) (Nat.le_refl _))
  show own_Go p e below _ T10 (mkF m 36 #[oI (2 : Int32), oI x, oI y] [(.ref hT1.size), (.ref h0.size), (.ref h0.size)])
  refine own_by (fun t_ k_ => XS.dup XT10.here hx rfl (hb hby d2_36) rfl rfl k_) ?_
  show own_Go p e below _ T10 (mkF m 37 #[oI (2 : Int32), oI x, oI y] [(.ref hT1.size), (.ref hT1.size), (.ref h0.size), (.ref h0.size)])
  refine own_by (fun t_ k_ => XT.iconstV XT10.here hx rfl (1 : Int32) (hb hby d2_37) (by decide) k_) ?_
  show own_Go p e below _ T10 (mkF m 38 #[oI (2 : Int32), oI x, oI y] [(.int (1 : Int32)), (.ref hT1.size), (.ref hT1.size), (.ref h0.size), (.ref h0.size)])
  refine own_by (fun t_ k_ => XS.iloadN XT10.here hx rfl (hb hby d2_38) rfl  k_) ?_
  show own_Go p e below _ T10 (mkF m 39 #[oI (2 : Int32), oI x, oI y] [(.int y), (.int (1 : Int32)), (.ref hT1.size), (.ref hT1.size), (.ref h0.size), (.ref h0.size)])
  refine own_stC XT10 hx hZ eT10 VT10 (y := y) 1 (by decide) (by decide) (by simp) (own_ch_nar By) (hb hby d2_39) ?_
  intro T13 hT13 XT13 eT13 WT13 YT13
  have VT13 : own_A Z hT13 hT1.size .char kT5 [(.int x), (.int y)] := YT13
  clear YT13
  have fq14_1 := Sta.wr WT13 fq11_1
  have fq14_2 := fq11_2.keep (Keep.of_wr WT13)
  have fq14_3 := fq11_3.keep (Keep.of_wr WT13) (own_nin z8)
  have fq14_4 := fq11_4.keep (Keep.of_wr WT13) (own_nin z8)
  have lq14_0 := Nat.lt_of_lt_of_le lq11_0 (Keep.of_wr WT13).1
  have lq14_1 := Nat.lt_of_lt_of_le lq11_1 (Keep.of_wr WT13).1
  have Kq14 := own_trans1 Kq11 (Keep.of_wr WT13) (Or.inr g6)
  have N15 := own_Fr.app N12 (own_Fr.of (own_fr1 (i := 1) g6) (Nat.le_refl _))
  show own_Go p e below _ T13 (mkF m 40 #[oI (2 : Int32), oI x, oI y] [(.ref hT1.size), (.ref h0.size), (.ref h0.size)])
  refine own_callN XT13 hx hZ rfl hown (hw _ (List.mem_of_getElem? (i := 39) rfl)) (hw _ (List.mem_of_getElem? (i := 40) rfl)) (hw _ (List.mem_of_getElem? (i := 41) rfl)) (hw _ (List.mem_of_getElem? (i := 13) rfl)) (by decide) eT13 (b := h0.size) (argsL := [(.ref hT1.size)]) (rest := [(.ref h0.size)]) (own_i1_2 l Z a0 hw h0.size hT1.size kT5 x y hT13 cs fq14_1 hcs fq14_2 fq14_3 fq14_4 VT13 (own_ch_le Bx) (own_ch_le By)) 1 (by decide) (by decide) (by rw [hml]; rfl) (lenOf pd_8 rfl) (Nat.le_of_eq rfl) (hb hby d2_40) (by decide) (by decide) (st := [(.ref hT1.size), (.ref h0.size), (.ref h0.size)]) rfl ?_
  intro T16 LT16 vT16 XT16 hQT16
  obtain ⟨rfl, KT16, NT16, ST16⟩ := hQT16
  show own_Go p e below _ T16 (mkF m 43 #[oI (2 : Int32), oI x, oI y] [(.ref h0.size)])
  have fq17_1 := own_stak1 fq14_1 KT16 fq14_2
  have fq17_2 := fq14_2.keep KT16
  have fq17_3 := VT13.keep KT16 (own_nin (Ne.symm z8))
  have lq17_0 := Nat.lt_of_lt_of_le lq14_0 KT16.1
  have lq17_1 := Nat.lt_of_lt_of_le lq14_1 KT16.1
  have Kq17 := own_trans1 Kq14 KT16 (Or.inr g2)
  have N18 := own_Fr.app N15 (own_Fr.of (own_Fr.new NT16 g2 (Kq14).1) (Nat.le_refl _))
  exact own_retA XT16 hx hlk hret rfl rfl (hb hby d2_43) (by decide) (by decide) (⟨rfl, Kq17, (N18).to (Nat.le_refl _), ST16⟩)
theorem own_str_2 (l : Launch) (Z : State) (a0 : Array Value) (hw : ∀ d ∈ tables_1, d.before a0 Z = true) (EL : List (String × Nat)) (hEL : EW Z a0 EL) (x y : Int32) (h0 : Heap) (cs : Int32) (Cs : Sta Z h0 "java/lang/String" "COMPACT_STRINGS" "Z" (.int cs)) (hcs : ¬ cs = (0 : Int32))(Bx : own_ch x) (By : own_ch y) (hmem : ("java/lang/String", 7) ∈ EL) :
    own_MetW l (⟨"com/example/nimble_gate/nimblegate/policy/TokenIsWordPinLaw", "str", "(ICC)Ljava/lang/String;"⟩ : MethodName) method_3_code 3 (some (.object "java/lang/String")) [] ({ frames := 4, cells := 3, slots := 10, locals := 70 } : Room) Z EL #[(.int (2 : Int32)), (.int x), (.int y)] h0 (fun rv rh rL => rv = some (.ref h0.size) ∧ Keep h0 rh [] ∧ Fr h0.size rL ∧ own_Str Z rh h0.size 0 [(.int (x.toInt8.toInt32)), (.int (y.toInt8.toInt32))]) := own_wide hEL (own_strN_2 l Z a0 hw x y h0 cs Cs hcs Bx By) (fun _ _ _ q => q.2.1)
theorem d2_4 : decode method_3_code 4 = .ok (.new 25, 3) := by decide +kernel
theorem d2_7 : decode method_3_code 7 = .ok (.dup, 1) := by decide +kernel
theorem d2_8 : decode method_3_code 8 = .ok (.iconst 0, 1) := by decide +kernel
theorem d2_9 : decode method_3_code 9 = .ok (.newarray .char, 2) := by decide +kernel
theorem d2_11 : decode method_3_code 11 = .ok (.invokespecial 27, 3) := by decide +kernel
theorem d2_14 : decode method_3_code 14 = .ok (.areturn, 1) := by decide +kernel
set_option maxRecDepth 65536 in
set_option maxHeartbeats 40000000 in
theorem own_str_0 (l : Launch) (Z : State) (a0 : Array Value) (hw : ∀ d ∈ tables_1, d.before a0 Z = true) (EL : List (String × Nat)) (hEL : EW Z a0 EL) (x y : Int32) (h0 : Heap) (cs : Int32) (Cs : Sta Z h0 "java/lang/String" "COMPACT_STRINGS" "Z" (.int cs)) (hcs : ¬ cs = (0 : Int32))(Bx : own_ch x) (By : own_ch y) (hmem : ("java/lang/String", 7) ∈ EL) :
    own_MetW l (⟨"com/example/nimble_gate/nimblegate/policy/TokenIsWordPinLaw", "str", "(ICC)Ljava/lang/String;"⟩ : MethodName) method_3_code 3 (some (.object "java/lang/String")) [] ({ frames := 3, cells := 6, slots := 12, locals := 50 } : Room) Z EL #[(.int (0 : Int32)), (.int x), (.int y)] h0 (fun rv rh rL => rv = some (.ref h0.size) ∧ Keep h0 rh [] ∧ Fr h0.size rL ∧ own_Str Z rh h0.size 0 []) := by
  refine own_enterW (plainFor_of_name pn_2) ?_
  intro p e s m below meth c T0 hx hby hml hret hlk hown hnm hZ X0 e0 hS hC
  refine own_at (g' := (mkF m 0 #[oI (0 : Int32), oI x, oI y] [])) (by first | (simp [entryFrame, mkF, argsToLocals, Value.category]; done) | rfl) ?_
  show own_Go p e below _ T0 (mkF m 0 #[oI (0 : Int32), oI x, oI y] [])
  have K0 : Keep h0 h0 [] := Keep.refl h0 _
  have N0 : own_Fr h0.size h0.size [] := own_Fr.nil
  have hk0 : 0 ≤ h0.size := Nat.zero_le _
  refine own_by (fun t_ k_ => XS.iloadN X0.here hx rfl (hb hby d2_0) rfl  k_) ?_
  show own_Go p e below _ T0 (mkF m 1 #[oI (0 : Int32), oI x, oI y] [(.int (0 : Int32))])
  refine own_by (fun t_ k_ => XS.ifNo X0.here hx rfl (hb hby d2_1) rfl (XT.i0_ne_f (by decide)) k_) ?_
  show own_Go p e below _ T0 (mkF m 4 #[oI (0 : Int32), oI x, oI y] [])
  have g2 : h0.size ≤ h0.size := K0.1
  refine own_new X0 hx hZ hown (hw _ (List.mem_of_getElem? (i := 37) rfl)) (hw _ (List.mem_of_getElem? (i := 21) rfl)) (hw _ (List.mem_of_getElem? (i := 13) rfl)) e0 (hb hby d2_4) (by decide) (by decide) ?_
  intro T1 hT1 XT1 eT1 ET1 AT1 DT1
  have fq3_1 := own_stak Cs (own_ek ET1)
  have hC := hC.trans (CHr.keep (own_ek ET1) (fun _ q => by cases q) hC.1)
  have hk0 := Nat.le_trans hk0 (own_ek ET1).1
  have Kq3 := own_trans0 K0 (own_ek ET1)
  have FT1_value : Fld Z hT1 h0.size "java/lang/String" "value" "[B" .null := DT1 (ty := (.array .byte)) (Or.inr (hw _ (List.mem_of_getElem? (i := 34) rfl))) (by decide +kernel)
  have FT1_coder : Fld Z hT1 h0.size "java/lang/String" "coder" "B" (.int 0) := DT1 (ty := .byte) (Or.inr (hw _ (List.mem_of_getElem? (i := 36) rfl))) (by decide +kernel)
  clear DT1
  have lt4 := AT1.lt
  show own_Go p e below _ T1 (mkF m 7 #[oI (0 : Int32), oI x, oI y] [(.ref h0.size)])
  refine own_by (fun t_ k_ => XS.dup XT1.here hx rfl (hb hby d2_7) rfl rfl k_) ?_
  show own_Go p e below _ T1 (mkF m 8 #[oI (0 : Int32), oI x, oI y] [(.ref h0.size), (.ref h0.size)])
  refine own_by (fun t_ k_ => XT.iconstV XT1.here hx rfl (0 : Int32) (hb hby d2_8) (by decide) k_) ?_
  show own_Go p e below _ T1 (mkF m 9 #[oI (0 : Int32), oI x, oI y] [(.int (0 : Int32)), (.ref h0.size), (.ref h0.size)])
  have g6 : h0.size ≤ hT1.size := Kq3.1
  refine own_newP XT1 hx hZ (aty := .char) (hw _ (List.mem_of_getElem? (i := 38) rfl)) eT1 (hb hby d2_9) 0 0 (by decide) (by decide) (by decide) (by decide) (by decide) (by decide) ?_
  intro T5 hT5 kT5 XT5 eT5 ET5 YT5
  have VT5 : own_A Z hT5 hT1.size .char kT5 [] := YT5
  clear YT5
  have fq7_1 := own_stak fq3_1 (own_ek ET5)
  have fq7_2 := AT1.keep (own_ek ET5)
  have fq7_3 := FT1_value.keep (own_ek ET5) nin0
  have fq7_4 := FT1_coder.keep (own_ek ET5) nin0
  have lq7_0 := Nat.lt_of_lt_of_le lt4 (own_ek ET5).1
  have hC := hC.trans (CHr.keep (own_ek ET5) (fun _ q => by cases q) hC.1)
  have hk0 := Nat.le_trans hk0 (own_ek ET5).1
  have Kq7 := own_trans0 Kq3 (own_ek ET5)
  have z8 : h0.size ≠ hT1.size := Nat.ne_of_lt lt4
  have lt9 := VT5.lt
  show own_Go p e below _ T5 (mkF m 11 #[oI (0 : Int32), oI x, oI y] [(.ref hT1.size), (.ref h0.size), (.ref h0.size)])
  refine own_callNW XT5 hx hZ hEL hS eT5 hk0 hC rfl hown (hw _ (List.mem_of_getElem? (i := 39) rfl)) (hw _ (List.mem_of_getElem? (i := 40) rfl)) (hw _ (List.mem_of_getElem? (i := 41) rfl)) (hw _ (List.mem_of_getElem? (i := 13) rfl)) (by decide) (b := h0.size) (argsL := [(.ref hT1.size)]) (rest := [(.ref h0.size)]) (own_i1_0 l Z a0 hw EL hEL h0.size hT1.size kT5 hT5 fq7_2 fq7_3 fq7_4 hmem VT5) 1 (by decide) (by decide) (by rw [hml]; rfl) (lenOf pd_8 rfl) (Nat.le_of_eq rfl) (hb hby d2_11) (by decide) (by decide) (st := [(.ref hT1.size), (.ref h0.size), (.ref h0.size)]) rfl ?_
  rintro T10 LT10 vT10 ⟨XT10, hQT10, hS, hgT10, hZ, hown, hCT10⟩
  obtain ⟨rfl, KT10, NT10, ST10⟩ := hQT10
  show own_Go p e below _ T10 (mkF m 14 #[oI (0 : Int32), oI x, oI y] [(.ref h0.size)])
  have fq11_1 := own_stak1 fq7_1 KT10 fq7_2
  have fq11_2 := fq7_2.keep KT10
  have fq11_3 := VT5.keep KT10 (own_nin (Ne.symm z8))
  have lq11_0 := Nat.lt_of_lt_of_le lq7_0 KT10.1
  have lq11_1 := Nat.lt_of_lt_of_le lt9 KT10.1
  have Kq11 := own_trans1 Kq7 KT10 (Or.inr g2)
  have hC := hCT10
  have hk0 := Nat.le_refl T10.heap.size
  have N12 := own_Fr.app N0 (own_Fr.of (own_Fr.new NT10 g2 (Kq7).1) (Nat.le_refl _))
  exact own_retAW XT10 hx hlk hZ hEL hS (rfl : T10.heap = T10.heap) hk0 hC hret rfl rfl (hb hby d2_14) (by decide) (by decide) (⟨rfl, Kq11, (N12).to (Nat.le_refl _), ST10⟩)
theorem pn_4 : plainName "java/lang/Record" = true := by first | (simp [plainName, overriddenIn]; done) | decide +kernel
theorem d11_0 : decode jdk_30_method_1_code 0 = .ok (.aload_n 0, 1) := by decide +kernel
theorem d11_1 : decode jdk_30_method_1_code 1 = .ok (.invokespecial 1, 3) := by decide +kernel
theorem d11_4 : decode jdk_30_method_1_code 4 = .ok (.return_, 1) := by decide +kernel
set_option maxRecDepth 65536 in
set_option maxHeartbeats 40000000 in
theorem own_rec (l : Launch) (Z : State) (a0 : Array Value) (hw : ∀ d ∈ tables_1, d.before a0 Z = true) (a : Addr) (h0 : Heap)  :
    own_Met l (⟨"java/lang/Record", "<init>", "()V"⟩ : MethodName) jdk_30_method_1_code 1 (none) [] ({ frames := 1, cells := 0, slots := 0, locals := 12 } : Room) Z #[(.ref a)] h0 (fun rv rh rL => rv = none ∧ rh = h0 ∧ rL = []) := by
  refine own_enter (plainFor_of_name pn_4) ?_
  intro p e s m below meth c T0 hx hby hml hret hlk hown hnm hZ X0 e0
  refine own_at (g' := (mkF m 0 #[oR a] [])) (by first | (simp [entryFrame, mkF, argsToLocals, Value.category]; done) | rfl) ?_
  show own_Go p e below _ T0 (mkF m 0 #[oR a] [])
  have K0 : Keep h0 h0 [] := Keep.refl h0 _
  have N0 : own_Fr h0.size h0.size [] := own_Fr.nil
  refine own_by (fun t_ k_ => XS.aloadN X0.here hx rfl (hb hby d11_0) rfl rfl  k_) ?_
  show own_Go p e below _ T0 (mkF m 1 #[oR a] [(.ref a)])
  obtain ⟨T1, XT1, eT1, stT1⟩ := initO X0 hx hZ hown (hw _ (List.mem_of_getElem? (i := 59) rfl)) (hw _ (List.mem_of_getElem? (i := 31) rfl)) (hw _ (List.mem_of_getElem? (i := 32) rfl)) e0 (g := (mkF m 1 #[oR a] [(.ref a)])) rfl (by rw [hml]; rfl) rfl (hb hby d11_1) (by decide) (W := 0) (by show 2 * 0 + _ ≤ _; exact Nat.le_of_eq rfl) (by decide)
  refine own_by stT1 ?_
  show own_Go p e below _ T1 (mkF m 4 #[oR a] [])
  subst eT1
  exact own_retV XT1 hx hlk hret (hb hby d11_4) (by decide) (by decide) (⟨rfl, rfl, rfl⟩)
theorem pn_5 : plainName "com/example/nimble_gate/nimblegate/policy/Token" = true := by first | (simp [plainName, overriddenIn]; done) | decide +kernel
theorem d10_0 : decode prog_15_method_1_code 0 = .ok (.aload_n 0, 1) := by decide +kernel
theorem d10_1 : decode prog_15_method_1_code 1 = .ok (.invokespecial 1, 3) := by decide +kernel
theorem pd_9 : parseMethodDescriptor "()V" = some ⟨[], none⟩ := by decide +kernel
theorem d10_4 : decode prog_15_method_1_code 4 = .ok (.aload_n 0, 1) := by decide +kernel
theorem d10_5 : decode prog_15_method_1_code 5 = .ok (.aload_n 1, 1) := by decide +kernel
theorem d10_6 : decode prog_15_method_1_code 6 = .ok (.putfield 7, 3) := by decide +kernel
theorem d10_9 : decode prog_15_method_1_code 9 = .ok (.aload_n 0, 1) := by decide +kernel
theorem d10_10 : decode prog_15_method_1_code 10 = .ok (.aload_n 2, 1) := by decide +kernel
theorem d10_11 : decode prog_15_method_1_code 11 = .ok (.putfield 13, 3) := by decide +kernel
theorem d10_14 : decode prog_15_method_1_code 14 = .ok (.aload_n 0, 1) := by decide +kernel
theorem d10_15 : decode prog_15_method_1_code 15 = .ok (.iload_n 3, 1) := by decide +kernel
theorem d10_16 : decode prog_15_method_1_code 16 = .ok (.putfield 17, 3) := by decide +kernel
theorem d10_19 : decode prog_15_method_1_code 19 = .ok (.aload_n 0, 1) := by decide +kernel
theorem d10_20 : decode prog_15_method_1_code 20 = .ok (.iload 4, 2) := by decide +kernel
theorem d10_22 : decode prog_15_method_1_code 22 = .ok (.putfield 21, 3) := by decide +kernel
theorem d10_25 : decode prog_15_method_1_code 25 = .ok (.return_, 1) := by decide +kernel
set_option maxRecDepth 65536 in
set_option maxHeartbeats 40000000 in
theorem own_tok (l : Launch) (Z : State) (a0 : Array Value) (hw : ∀ d ∈ tables_1, d.before a0 Z = true) (t kd tx : Addr) (i j : Int32) (h0 : Heap) (Et : Exa Z h0 t "com/example/nimble_gate/nimblegate/policy/Token") (F_kind : Fld Z h0 t "com/example/nimble_gate/nimblegate/policy/Token" "kind" "Lcom/example/nimble_gate/nimblegate/policy/Token$Kind;" .null) (F_text : Fld Z h0 t "com/example/nimble_gate/nimblegate/policy/Token" "text" "Ljava/lang/String;" .null) (F_line : Fld Z h0 t "com/example/nimble_gate/nimblegate/policy/Token" "line" "I" (.int 0)) (F_column : Fld Z h0 t "com/example/nimble_gate/nimblegate/policy/Token" "column" "I" (.int 0)) :
    own_Met l (⟨"com/example/nimble_gate/nimblegate/policy/Token", "<init>", "(Lcom/example/nimble_gate/nimblegate/policy/Token$Kind;Ljava/lang/String;II)V"⟩ : MethodName) prog_15_method_1_code 5 (none) [] ({ frames := 2, cells := 0, slots := 0, locals := 24 } : Room) Z #[(.ref t), (.ref kd), (.ref tx), (.int i), (.int j)] h0 (fun rv rh rL => rv = none ∧ Keep h0 rh [t] ∧ own_Fr h0.size t rL ∧ Fld Z rh t "com/example/nimble_gate/nimblegate/policy/Token" "kind" "Lcom/example/nimble_gate/nimblegate/policy/Token$Kind;" (.ref kd) ∧ Fld Z rh t "com/example/nimble_gate/nimblegate/policy/Token" "text" "Ljava/lang/String;" (.ref tx)) := by
  refine own_enter (plainFor_of_name pn_5) ?_
  intro p e s m below meth c T0 hx hby hml hret hlk hown hnm hZ X0 e0
  refine own_at (g' := (mkF m 0 #[oR t, oR kd, oR tx, oI i, oI j] [])) (by first | (simp [entryFrame, mkF, argsToLocals, Value.category]; done) | rfl) ?_
  show own_Go p e below _ T0 (mkF m 0 #[oR t, oR kd, oR tx, oI i, oI j] [])
  have lt1 : t < h0.size := Et.lt
  have K0 : Keep h0 h0 [t] := Keep.refl h0 _
  have N0 : own_Fr h0.size t [] := own_Fr.nil
  refine own_by (fun t_ k_ => XS.aloadN X0.here hx rfl (hb hby d10_0) rfl rfl  k_) ?_
  show own_Go p e below _ T0 (mkF m 1 #[oR t, oR kd, oR tx, oI i, oI j] [(.ref t)])
  refine own_callN X0 hx hZ rfl hown (hw _ (List.mem_of_getElem? (i := 54) rfl)) (hw _ (List.mem_of_getElem? (i := 55) rfl)) (hw _ (List.mem_of_getElem? (i := 58) rfl)) (hw _ (List.mem_of_getElem? (i := 57) rfl)) (by decide) e0 (b := t) (argsL := []) (rest := []) (own_rec l Z a0 hw t h0) 0 (by decide) (by decide) (by rw [hml]; rfl) (lenOf pd_9 rfl) (Nat.le_of_eq rfl) (hb hby d10_1) (by decide) (by decide) (st := [(.ref t)]) rfl ?_
  intro T2 LT2 vT2 XT2 hQT2
  obtain ⟨rfl, eT2, rfl⟩ := hQT2
  show own_Go p e below _ T2 (mkF m 4 #[oR t, oR kd, oR tx, oI i, oI j] [])
  have N3 := own_Fr.app N0 own_Fr.nil
  refine own_by (fun t_ k_ => XS.aloadN XT2.here hx rfl (hb hby d10_4) rfl rfl  k_) ?_
  show own_Go p e below _ T2 (mkF m 5 #[oR t, oR kd, oR tx, oI i, oI j] [(.ref t)])
  refine own_by (fun t_ k_ => XS.aloadN XT2.here hx rfl (hb hby d10_5) rfl rfl  k_) ?_
  show own_Go p e below _ T2 (mkF m 6 #[oR t, oR kd, oR tx, oI i, oI j] [(.ref kd), (.ref t)])
  refine own_putF XT2 hx hZ hown (hw _ (List.mem_of_getElem? (i := 60) rfl)) eT2 F_kind Et (Or.inr ⟨(hw _ (List.mem_of_getElem? (i := 61) rfl)), rfl, hnm⟩) (hw _ (List.mem_of_getElem? (i := 49) rfl)) (ty := (.object "com/example/nimble_gate/nimblegate/policy/Token$Kind")) (by decide +kernel) rfl rfl (hb hby d10_6) ?_
  intro T4 hT4 XT4 eT4 WT4
  have FT4_kind := Fld.same WT4 F_kind
  have FT4_text := Fld.other WT4 F_text (Or.inr (slot_ne (t := (.object "java/lang/String")) (t' := (.object "com/example/nimble_gate/nimblegate/policy/Token$Kind")) (Or.inr (hw _ (List.mem_of_getElem? (i := 63) rfl))) (Or.inr (hw _ (List.mem_of_getElem? (i := 61) rfl))) (by decide) (by decide +kernel) (by decide +kernel)))
  have FT4_line := Fld.other WT4 F_line (Or.inr (slot_ne (t := .int) (t' := (.object "com/example/nimble_gate/nimblegate/policy/Token$Kind")) (Or.inr (hw _ (List.mem_of_getElem? (i := 65) rfl))) (Or.inr (hw _ (List.mem_of_getElem? (i := 61) rfl))) (by decide) (by decide +kernel) (by decide +kernel)))
  have FT4_column := Fld.other WT4 F_column (Or.inr (slot_ne (t := .int) (t' := (.object "com/example/nimble_gate/nimblegate/policy/Token$Kind")) (Or.inr (hw _ (List.mem_of_getElem? (i := 67) rfl))) (Or.inr (hw _ (List.mem_of_getElem? (i := 61) rfl))) (by decide) (by decide +kernel) (by decide +kernel)))
  have fq5_1 := Et.keep (Keep.of_wr WT4)
  have lq5_0 := Nat.lt_of_lt_of_le lt1 (Keep.of_wr WT4).1
  have Kq5 := own_trans1 K0 (Keep.of_wr WT4) (Or.inl (List.mem_singleton.mpr rfl))
  have N6 := own_Fr.app N3 (own_Fr.one (i := (Jvm.RoadKit.slotOf Z "com/example/nimble_gate/nimblegate/policy/Token" "kind" "Lcom/example/nimble_gate/nimblegate/policy/Token$Kind;")))
  show own_Go p e below _ T4 (mkF m 9 #[oR t, oR kd, oR tx, oI i, oI j] [])
  refine own_by (fun t_ k_ => XS.aloadN XT4.here hx rfl (hb hby d10_9) rfl rfl  k_) ?_
  show own_Go p e below _ T4 (mkF m 10 #[oR t, oR kd, oR tx, oI i, oI j] [(.ref t)])
  refine own_by (fun t_ k_ => XS.aloadN XT4.here hx rfl (hb hby d10_10) rfl rfl  k_) ?_
  show own_Go p e below _ T4 (mkF m 11 #[oR t, oR kd, oR tx, oI i, oI j] [(.ref tx), (.ref t)])
  refine own_putF XT4 hx hZ hown (hw _ (List.mem_of_getElem? (i := 62) rfl)) eT4 FT4_text fq5_1 (Or.inr ⟨(hw _ (List.mem_of_getElem? (i := 63) rfl)), rfl, hnm⟩) (hw _ (List.mem_of_getElem? (i := 49) rfl)) (ty := (.object "java/lang/String")) (by decide +kernel) rfl rfl (hb hby d10_11) ?_
  intro T7 hT7 XT7 eT7 WT7
  have FT7_text := Fld.same WT7 FT4_text
  have FT7_kind := Fld.other WT7 FT4_kind (Or.inr (slot_ne (t := (.object "com/example/nimble_gate/nimblegate/policy/Token$Kind")) (t' := (.object "java/lang/String")) (Or.inr (hw _ (List.mem_of_getElem? (i := 61) rfl))) (Or.inr (hw _ (List.mem_of_getElem? (i := 63) rfl))) (by decide) (by decide +kernel) (by decide +kernel)))
  have FT7_line := Fld.other WT7 FT4_line (Or.inr (slot_ne (t := .int) (t' := (.object "java/lang/String")) (Or.inr (hw _ (List.mem_of_getElem? (i := 65) rfl))) (Or.inr (hw _ (List.mem_of_getElem? (i := 63) rfl))) (by decide) (by decide +kernel) (by decide +kernel)))
  have FT7_column := Fld.other WT7 FT4_column (Or.inr (slot_ne (t := .int) (t' := (.object "java/lang/String")) (Or.inr (hw _ (List.mem_of_getElem? (i := 67) rfl))) (Or.inr (hw _ (List.mem_of_getElem? (i := 63) rfl))) (by decide) (by decide +kernel) (by decide +kernel)))
  have fq8_1 := fq5_1.keep (Keep.of_wr WT7)
  have lq8_0 := Nat.lt_of_lt_of_le lq5_0 (Keep.of_wr WT7).1
  have Kq8 := own_trans1 Kq5 (Keep.of_wr WT7) (Or.inl (List.mem_singleton.mpr rfl))
  have N9 := own_Fr.app N6 (own_Fr.one (i := (Jvm.RoadKit.slotOf Z "com/example/nimble_gate/nimblegate/policy/Token" "text" "Ljava/lang/String;")))
  show own_Go p e below _ T7 (mkF m 14 #[oR t, oR kd, oR tx, oI i, oI j] [])
  refine own_by (fun t_ k_ => XS.aloadN XT7.here hx rfl (hb hby d10_14) rfl rfl  k_) ?_
  show own_Go p e below _ T7 (mkF m 15 #[oR t, oR kd, oR tx, oI i, oI j] [(.ref t)])
  refine own_by (fun t_ k_ => XS.iloadN XT7.here hx rfl (hb hby d10_15) rfl  k_) ?_
  show own_Go p e below _ T7 (mkF m 16 #[oR t, oR kd, oR tx, oI i, oI j] [(.int i), (.ref t)])
  refine own_putF XT7 hx hZ hown (hw _ (List.mem_of_getElem? (i := 64) rfl)) eT7 FT7_line fq8_1 (Or.inr ⟨(hw _ (List.mem_of_getElem? (i := 65) rfl)), rfl, hnm⟩) (hw _ (List.mem_of_getElem? (i := 49) rfl)) (ty := .int) (by decide +kernel) rfl rfl (hb hby d10_16) ?_
  intro T10 hT10 XT10 eT10 WT10
  have FT10_line := Fld.same WT10 FT7_line
  have FT10_text := Fld.other WT10 FT7_text (Or.inr (slot_ne (t := (.object "java/lang/String")) (t' := .int) (Or.inr (hw _ (List.mem_of_getElem? (i := 63) rfl))) (Or.inr (hw _ (List.mem_of_getElem? (i := 65) rfl))) (by decide) (by decide +kernel) (by decide +kernel)))
  have FT10_kind := Fld.other WT10 FT7_kind (Or.inr (slot_ne (t := (.object "com/example/nimble_gate/nimblegate/policy/Token$Kind")) (t' := .int) (Or.inr (hw _ (List.mem_of_getElem? (i := 61) rfl))) (Or.inr (hw _ (List.mem_of_getElem? (i := 65) rfl))) (by decide) (by decide +kernel) (by decide +kernel)))
  have FT10_column := Fld.other WT10 FT7_column (Or.inr (slot_ne (t := .int) (t' := .int) (Or.inr (hw _ (List.mem_of_getElem? (i := 67) rfl))) (Or.inr (hw _ (List.mem_of_getElem? (i := 65) rfl))) (by decide) (by decide +kernel) (by decide +kernel)))
  have fq11_1 := fq8_1.keep (Keep.of_wr WT10)
  have lq11_0 := Nat.lt_of_lt_of_le lq8_0 (Keep.of_wr WT10).1
  have Kq11 := own_trans1 Kq8 (Keep.of_wr WT10) (Or.inl (List.mem_singleton.mpr rfl))
  have N12 := own_Fr.app N9 (own_Fr.one (i := (Jvm.RoadKit.slotOf Z "com/example/nimble_gate/nimblegate/policy/Token" "line" "I")))
  show own_Go p e below _ T10 (mkF m 19 #[oR t, oR kd, oR tx, oI i, oI j] [])
  refine own_by (fun t_ k_ => XS.aloadN XT10.here hx rfl (hb hby d10_19) rfl rfl  k_) ?_
  show own_Go p e below _ T10 (mkF m 20 #[oR t, oR kd, oR tx, oI i, oI j] [(.ref t)])
  refine own_by (fun t_ k_ => XS.iload XT10.here hx rfl (hb hby d10_20) rfl  k_) ?_
  show own_Go p e below _ T10 (mkF m 22 #[oR t, oR kd, oR tx, oI i, oI j] [(.int j), (.ref t)])
  refine own_putF XT10 hx hZ hown (hw _ (List.mem_of_getElem? (i := 66) rfl)) eT10 FT10_column fq11_1 (Or.inr ⟨(hw _ (List.mem_of_getElem? (i := 67) rfl)), rfl, hnm⟩) (hw _ (List.mem_of_getElem? (i := 49) rfl)) (ty := .int) (by decide +kernel) rfl rfl (hb hby d10_22) ?_
  intro T13 hT13 XT13 eT13 WT13
  have FT13_column := Fld.same WT13 FT10_column
  have FT13_line := Fld.other WT13 FT10_line (Or.inr (slot_ne (t := .int) (t' := .int) (Or.inr (hw _ (List.mem_of_getElem? (i := 65) rfl))) (Or.inr (hw _ (List.mem_of_getElem? (i := 67) rfl))) (by decide) (by decide +kernel) (by decide +kernel)))
  have FT13_text := Fld.other WT13 FT10_text (Or.inr (slot_ne (t := (.object "java/lang/String")) (t' := .int) (Or.inr (hw _ (List.mem_of_getElem? (i := 63) rfl))) (Or.inr (hw _ (List.mem_of_getElem? (i := 67) rfl))) (by decide) (by decide +kernel) (by decide +kernel)))
  have FT13_kind := Fld.other WT13 FT10_kind (Or.inr (slot_ne (t := (.object "com/example/nimble_gate/nimblegate/policy/Token$Kind")) (t' := .int) (Or.inr (hw _ (List.mem_of_getElem? (i := 61) rfl))) (Or.inr (hw _ (List.mem_of_getElem? (i := 67) rfl))) (by decide) (by decide +kernel) (by decide +kernel)))
  have fq14_1 := fq11_1.keep (Keep.of_wr WT13)
  have lq14_0 := Nat.lt_of_lt_of_le lq11_0 (Keep.of_wr WT13).1
  have Kq14 := own_trans1 Kq11 (Keep.of_wr WT13) (Or.inl (List.mem_singleton.mpr rfl))
  have N15 := own_Fr.app N12 (own_Fr.one (i := (Jvm.RoadKit.slotOf Z "com/example/nimble_gate/nimblegate/policy/Token" "column" "I")))
  show own_Go p e below _ T13 (mkF m 25 #[oR t, oR kd, oR tx, oI i, oI j] [])
  subst eT13
  exact own_retV XT13 hx hlk hret (hb hby d10_25) (by decide) (by decide) (⟨rfl, Kq14, N15, FT13_kind, FT13_text⟩)
def own_le_0_0 (v1 : Addr) (v2 : Addr) (k1 k2 : ClassId) : Int32 := (1 : Int32)
theorem d14_0 : decode jdk_43_method_13_code 0 = .ok (.aload_n 0, 1) := by decide +kernel
theorem d14_1 : decode jdk_43_method_13_code 1 = .ok (.arraylength, 1) := by decide +kernel
theorem d14_2 : decode jdk_43_method_13_code 2 = .ok (.aload_n 1, 1) := by decide +kernel
theorem d14_3 : decode jdk_43_method_13_code 3 = .ok (.arraylength, 1) := by decide +kernel
theorem d14_4 : decode jdk_43_method_13_code 4 = .ok (.if_icmp .ne 30, 3) := by decide +kernel
theorem d14_7 : decode jdk_43_method_13_code 7 = .ok (.iconst 0, 1) := by decide +kernel
theorem d14_8 : decode jdk_43_method_13_code 8 = .ok (.istore_n 2, 1) := by decide +kernel
theorem d14_9 : decode jdk_43_method_13_code 9 = .ok (.iload_n 2, 1) := by decide +kernel
theorem d14_10 : decode jdk_43_method_13_code 10 = .ok (.aload_n 0, 1) := by decide +kernel
theorem d14_11 : decode jdk_43_method_13_code 11 = .ok (.arraylength, 1) := by decide +kernel
theorem d14_12 : decode jdk_43_method_13_code 12 = .ok (.if_icmp .ge 20, 3) := by decide +kernel
theorem d14_32 : decode jdk_43_method_13_code 32 = .ok (.iconst 1, 1) := by decide +kernel
theorem d14_33 : decode jdk_43_method_13_code 33 = .ok (.ireturn, 1) := by decide +kernel
set_option maxRecDepth 65536 in
set_option maxHeartbeats 40000000 in
theorem own_le_0_0_met (l : Launch) (Z : State) (a0 : Array Value) (hw : ∀ d ∈ tables_1, d.before a0 Z = true) (v1 : Addr) (v2 : Addr) (k1 k2 : ClassId) (h0 : Heap) (A1 : own_A Z h0 v1 .byte k1 []) (A2 : own_A Z h0 v2 .byte k2 []) :
    own_Met l (⟨"java/lang/StringLatin1", "equals", "([B[B)Z"⟩ : MethodName) jdk_43_method_13_code 3 (some .boolean) [] ({ frames := 0, cells := 0, slots := 0, locals := 0 } : Room) Z #[(.ref v1), (.ref v2)] h0 (fun rv rh rL => rv = some (.int (own_le_0_0 v1 v2 k1 k2 )) ∧ rh = h0 ∧ rL = []) := by
  refine own_enter (plainFor_of_name pn_3) ?_
  intro p e s m below meth c T0 hx hby hml hret hlk hown hnm hZ X0 e0
  refine own_at (g' := (mkF m 0 #[oR v1, oR v2, .unset] [])) (by first | (simp [entryFrame, mkF, argsToLocals, Value.category]; done) | rfl) ?_
  show own_Go p e below _ T0 (mkF m 0 #[oR v1, oR v2, .unset] [])
  have K0 : Keep h0 h0 [] := Keep.refl h0 _
  have N0 : own_Fr h0.size h0.size [] := own_Fr.nil
  refine own_by (fun t_ k_ => XS.aloadN X0.here hx rfl (hb hby d14_0) rfl rfl  k_) ?_
  show own_Go p e below _ T0 (mkF m 1 #[oR v1, oR v2, .unset] [(.ref v1)])
  refine own_len X0 hx hZ e0 A1 (0 : Int32) rfl (hb hby d14_1) ?_
  show own_Go p e below _ T0 (mkF m 2 #[oR v1, oR v2, .unset] [(.int (0 : Int32))])
  refine own_by (fun t_ k_ => XS.aloadN X0.here hx rfl (hb hby d14_2) rfl rfl  k_) ?_
  show own_Go p e below _ T0 (mkF m 3 #[oR v1, oR v2, .unset] [(.ref v2), (.int (0 : Int32))])
  refine own_len X0 hx hZ e0 A2 (0 : Int32) rfl (hb hby d14_3) ?_
  show own_Go p e below _ T0 (mkF m 4 #[oR v1, oR v2, .unset] [(.int (0 : Int32)), (.int (0 : Int32))])
  refine own_by (fun t_ k_ => XS.icmpNo X0.here hx rfl (hb hby d14_4) rfl (XT.ii_ne_f (by decide)) k_) ?_
  show own_Go p e below _ T0 (mkF m 7 #[oR v1, oR v2, .unset] [])
  refine own_by (fun t_ k_ => XT.iconstV X0.here hx rfl (0 : Int32) (hb hby d14_7) (by decide) k_) ?_
  show own_Go p e below _ T0 (mkF m 8 #[oR v1, oR v2, .unset] [(.int (0 : Int32))])
  refine own_by (fun t_ k_ => XS.istoreN X0.here hx rfl (hb hby d14_8) rfl (l' := #[oR v1, oR v2, oI (0 : Int32)]) rfl k_) ?_
  show own_Go p e below _ T0 (mkF m 9 #[oR v1, oR v2, oI (0 : Int32)] [])
  refine own_by (fun t_ k_ => XS.iloadN X0.here hx rfl (hb hby d14_9) rfl  k_) ?_
  show own_Go p e below _ T0 (mkF m 10 #[oR v1, oR v2, oI (0 : Int32)] [(.int (0 : Int32))])
  refine own_by (fun t_ k_ => XS.aloadN X0.here hx rfl (hb hby d14_10) rfl rfl  k_) ?_
  show own_Go p e below _ T0 (mkF m 11 #[oR v1, oR v2, oI (0 : Int32)] [(.ref v1), (.int (0 : Int32))])
  refine own_len X0 hx hZ e0 A1 (0 : Int32) rfl (hb hby d14_11) ?_
  show own_Go p e below _ T0 (mkF m 12 #[oR v1, oR v2, oI (0 : Int32)] [(.int (0 : Int32)), (.int (0 : Int32))])
  refine own_by (fun t_ k_ => XS.icmpYes X0.here hx rfl (pc0 := 12) (pc' := 32) rfl (hb hby d14_12) rfl (XT.ii_ge_t (by decide)) (by decide) (by decide) k_) ?_
  show own_Go p e below _ T0 (mkF m 32 #[oR v1, oR v2, oI (0 : Int32)] [])
  refine own_by (fun t_ k_ => XT.iconstV X0.here hx rfl (1 : Int32) (hb hby d14_32) (by decide) k_) ?_
  show own_Go p e below _ T0 (mkF m 33 #[oR v1, oR v2, oI (0 : Int32)] [(.int (1 : Int32))])
  exact own_retN X0 hx hlk hret (by simp) (w := (1 : Int32)) (hb hby d14_33) (by decide) (by decide) (by decide) (⟨by rw [own_le_0_0], e0, rfl⟩)
def own_eq_0_0 (a : Addr) (b : Addr) (v1 v2 : Addr) (k1 k2 : ClassId) : Int32 := (if (own_le_0_0 v1 v2 k1 k2 ) = (0 : Int32) then (0 : Int32) else (1 : Int32))
theorem d13_0 : decode jdk_42_method_66_code 0 = .ok (.aload_n 0, 1) := by decide +kernel
theorem d13_1 : decode jdk_42_method_66_code 1 = .ok (.aload_n 1, 1) := by decide +kernel
theorem d13_2 : decode jdk_42_method_66_code 2 = .ok (.if_acmp .ne 5, 3) := by decide +kernel
theorem d13_7 : decode jdk_42_method_66_code 7 = .ok (.aload_n 1, 1) := by decide +kernel
theorem d13_8 : decode jdk_42_method_66_code 8 = .ok (.instanceof 10, 3) := by decide +kernel
theorem d13_11 : decode jdk_42_method_66_code 11 = .ok (.ifCond .eq 43, 3) := by decide +kernel
theorem d13_14 : decode jdk_42_method_66_code 14 = .ok (.aload_n 1, 1) := by decide +kernel
theorem d13_15 : decode jdk_42_method_66_code 15 = .ok (.checkcast 10, 3) := by decide +kernel
theorem d13_18 : decode jdk_42_method_66_code 18 = .ok (.astore_n 2, 1) := by decide +kernel
theorem d13_19 : decode jdk_42_method_66_code 19 = .ok (.getstatic 38, 3) := by decide +kernel
theorem d13_22 : decode jdk_42_method_66_code 22 = .ok (.ifCond .eq 14, 3) := by decide +kernel
theorem d13_25 : decode jdk_42_method_66_code 25 = .ok (.aload_n 0, 1) := by decide +kernel
theorem d13_26 : decode jdk_42_method_66_code 26 = .ok (.getfield 15, 3) := by decide +kernel
theorem d13_29 : decode jdk_42_method_66_code 29 = .ok (.aload_n 2, 1) := by decide +kernel
theorem d13_30 : decode jdk_42_method_66_code 30 = .ok (.getfield 15, 3) := by decide +kernel
theorem d13_33 : decode jdk_42_method_66_code 33 = .ok (.if_icmp .ne 21, 3) := by decide +kernel
theorem d13_36 : decode jdk_42_method_66_code 36 = .ok (.aload_n 0, 1) := by decide +kernel
theorem d13_37 : decode jdk_42_method_66_code 37 = .ok (.getfield 9, 3) := by decide +kernel
theorem d13_40 : decode jdk_42_method_66_code 40 = .ok (.aload_n 2, 1) := by decide +kernel
theorem d13_41 : decode jdk_42_method_66_code 41 = .ok (.getfield 9, 3) := by decide +kernel
theorem d13_44 : decode jdk_42_method_66_code 44 = .ok (.invokestatic 541, 3) := by decide +kernel
theorem pd_10 : parseMethodDescriptor "([B[B)Z" = some ⟨[(.array .byte), (.array .byte)], some .boolean⟩ := by decide +kernel
theorem d13_47 : decode jdk_42_method_66_code 47 = .ok (.ifCond .eq 7, 3) := by decide +kernel
theorem d13_54 : decode jdk_42_method_66_code 54 = .ok (.iconst 0, 1) := by decide +kernel
theorem d13_55 : decode jdk_42_method_66_code 55 = .ok (.ireturn, 1) := by decide +kernel
theorem d13_50 : decode jdk_42_method_66_code 50 = .ok (.iconst 1, 1) := by decide +kernel
theorem d13_51 : decode jdk_42_method_66_code 51 = .ok (.goto 4, 3) := by decide +kernel
set_option maxRecDepth 65536 in
set_option maxHeartbeats 40000000 in
theorem own_eq_0_0_met (l : Launch) (Z : State) (a0 : Array Value) (hw : ∀ d ∈ tables_1, d.before a0 Z = true) (a : Addr) (b : Addr) (v1 v2 : Addr) (k1 k2 : ClassId) (h0 : Heap) (cs : Int32) (Cs : Sta Z h0 "java/lang/String" "COMPACT_STRINGS" "Z" (.int cs)) (hcs : ¬ cs = (0 : Int32)) (hne : a ≠ b) (E1 : Exa Z h0 a "java/lang/String") (V1 : Fld Z h0 a "java/lang/String" "value" "[B" (.ref v1)) (C1 : Fld Z h0 a "java/lang/String" "coder" "B" (.int 0)) (A1 : own_A Z h0 v1 .byte k1 [])(E2 : Exa Z h0 b "java/lang/String") (V2 : Fld Z h0 b "java/lang/String" "value" "[B" (.ref v2)) (C2 : Fld Z h0 b "java/lang/String" "coder" "B" (.int 0)) (A2 : own_A Z h0 v2 .byte k2 []) :
    own_Met l (⟨"java/lang/String", "equals", "(Ljava/lang/Object;)Z"⟩ : MethodName) jdk_42_method_66_code 3 (some .boolean) [] ({ frames := 1, cells := 0, slots := 0, locals := 14 } : Room) Z #[(.ref a), (.ref b)] h0 (fun rv rh rL => rv = some (.int (own_eq_0_0 a b v1 v2 k1 k2 )) ∧ rh = h0 ∧ rL = []) := by
  refine own_enter (plainFor_of_name pn_1) ?_
  intro p e s m below meth c T0 hx hby hml hret hlk hown hnm hZ X0 e0
  refine own_at (g' := (mkF m 0 #[oR a, oR b, .unset] [])) (by first | (simp [entryFrame, mkF, argsToLocals, Value.category]; done) | rfl) ?_
  show own_Go p e below _ T0 (mkF m 0 #[oR a, oR b, .unset] [])
  have K0 : Keep h0 h0 [] := Keep.refl h0 _
  have N0 : own_Fr h0.size h0.size [] := own_Fr.nil
  refine own_by (fun t_ k_ => XS.aloadN X0.here hx rfl (hb hby d13_0) rfl rfl  k_) ?_
  show own_Go p e below _ T0 (mkF m 1 #[oR a, oR b, .unset] [(.ref a)])
  refine own_by (fun t_ k_ => XS.aloadN X0.here hx rfl (hb hby d13_1) rfl rfl  k_) ?_
  show own_Go p e below _ T0 (mkF m 2 #[oR a, oR b, .unset] [(.ref b), (.ref a)])
  refine own_by (fun t_ k_ => Jvm.RoadKit.acmp (g := (mkF m 2 #[oR a, oR b, .unset] [(.ref b), (.ref a)])) X0 hx rfl rfl rfl (pc0 := 2) (pc' := 7) (same := false) rfl (hb hby d13_2) rfl (decide_eq_false fun q => (hne) (Value.ref.inj q)) (by decide) (by decide) k_) ?_
  show own_Go p e below _ T0 (mkF m 7 #[oR a, oR b, .unset] [])
  refine own_by (fun t_ k_ => XS.aloadN X0.here hx rfl (hb hby d13_7) rfl rfl  k_) ?_
  show own_Go p e below _ T0 (mkF m 8 #[oR a, oR b, .unset] [(.ref b)])
  refine own_inst X0 hx hZ hown (hw _ (List.mem_of_getElem? (i := 20) rfl)) e0 E2 (hb hby d13_8) ?_
  intro T1 XT1 eT1
  show own_Go p e below _ T1 (mkF m 11 #[oR a, oR b, .unset] [(.int (1 : Int32))])
  refine own_by (fun t_ k_ => XS.ifNo XT1.here hx rfl (hb hby d13_11) rfl (XT.i0_eq_f (by decide)) k_) ?_
  show own_Go p e below _ T1 (mkF m 14 #[oR a, oR b, .unset] [])
  refine own_by (fun t_ k_ => XS.aloadN XT1.here hx rfl (hb hby d13_14) rfl rfl  k_) ?_
  show own_Go p e below _ T1 (mkF m 15 #[oR a, oR b, .unset] [(.ref b)])
  refine own_cast XT1 hx hZ hown (hw _ (List.mem_of_getElem? (i := 20) rfl)) eT1 E2 (hb hby d13_15) ?_
  intro T2 XT2 eT2
  show own_Go p e below _ T2 (mkF m 18 #[oR a, oR b, .unset] [(.ref b)])
  refine own_by (fun t_ k_ => XS.astoreN XT2.here hx rfl (hb hby d13_18) rfl rfl (l' := #[oR a, oR b, oR b]) rfl k_) ?_
  show own_Go p e below _ T2 (mkF m 19 #[oR a, oR b, oR b] [])
  obtain ⟨T3, XT3, eT3, stT3⟩ := getS2 XT2 hx hZ hown (host := "") (Or.inl (hw _ (List.mem_of_getElem? (i := 15) rfl))) Via.refl eT2 Cs (g := (mkF m 19 #[oR a, oR b, oR b] [])) rfl (hb hby d13_19)
  refine own_by stT3 ?_
  show own_Go p e below _ T3 (mkF m 22 #[oR a, oR b, oR b] [(.int cs)])
  refine own_by (fun t_ k_ => XS.ifNo XT3.here hx rfl (hb hby d13_22) rfl (XT.i0_eq_f hcs) k_) ?_
  show own_Go p e below _ T3 (mkF m 25 #[oR a, oR b, oR b] [])
  refine own_by (fun t_ k_ => XS.aloadN XT3.here hx rfl (hb hby d13_25) rfl rfl  k_) ?_
  show own_Go p e below _ T3 (mkF m 26 #[oR a, oR b, oR b] [(.ref a)])
  refine own_getF XT3 hx hZ hown (hw _ (List.mem_of_getElem? (i := 35) rfl)) eT3 C1 (hb hby d13_26) ?_
  intro T4 XT4 eT4
  show own_Go p e below _ T4 (mkF m 29 #[oR a, oR b, oR b] [(.int (0 : Int32))])
  refine own_by (fun t_ k_ => XS.aloadN XT4.here hx rfl (hb hby d13_29) rfl rfl  k_) ?_
  show own_Go p e below _ T4 (mkF m 30 #[oR a, oR b, oR b] [(.ref b), (.int (0 : Int32))])
  refine own_getF XT4 hx hZ hown (hw _ (List.mem_of_getElem? (i := 35) rfl)) eT4 C2 (hb hby d13_30) ?_
  intro T5 XT5 eT5
  show own_Go p e below _ T5 (mkF m 33 #[oR a, oR b, oR b] [(.int (0 : Int32)), (.int (0 : Int32))])
  refine own_by (fun t_ k_ => XS.icmpNo XT5.here hx rfl (hb hby d13_33) rfl (XT.ii_ne_f (by decide)) k_) ?_
  show own_Go p e below _ T5 (mkF m 36 #[oR a, oR b, oR b] [])
  refine own_by (fun t_ k_ => XS.aloadN XT5.here hx rfl (hb hby d13_36) rfl rfl  k_) ?_
  show own_Go p e below _ T5 (mkF m 37 #[oR a, oR b, oR b] [(.ref a)])
  refine own_getF XT5 hx hZ hown (hw _ (List.mem_of_getElem? (i := 33) rfl)) eT5 V1 (hb hby d13_37) ?_
  intro T6 XT6 eT6
  show own_Go p e below _ T6 (mkF m 40 #[oR a, oR b, oR b] [(.ref v1)])
  refine own_by (fun t_ k_ => XS.aloadN XT6.here hx rfl (hb hby d13_40) rfl rfl  k_) ?_
  show own_Go p e below _ T6 (mkF m 41 #[oR a, oR b, oR b] [(.ref b), (.ref v1)])
  refine own_getF XT6 hx hZ hown (hw _ (List.mem_of_getElem? (i := 33) rfl)) eT6 V2 (hb hby d13_41) ?_
  intro T7 XT7 eT7
  show own_Go p e below _ T7 (mkF m 44 #[oR a, oR b, oR b] [(.ref v2), (.ref v1)])
  refine own_callS XT7 hx hZ hown (hw _ (List.mem_of_getElem? (i := 79) rfl)) (hw _ (List.mem_of_getElem? (i := 80) rfl)) (hw _ (List.mem_of_getElem? (i := 18) rfl)) (hw _ (List.mem_of_getElem? (i := 81) rfl)) (by decide) eT7 (argsL := [(.ref v1), (.ref v2)]) (rest := []) (own_le_0_0_met l Z a0 hw v1 v2 k1 k2  h0 A1 A2) 0 (by decide) (by decide) (by rw [hml]; rfl) (lenOf pd_10 rfl) (Nat.le_of_eq rfl) (hb hby d13_44) (by decide) (by decide) (st := [(.ref v2), (.ref v1)]) rfl ?_
  intro T8 LT8 vT8 XT8 hQT8
  obtain ⟨rfl, eT8, rfl⟩ := hQT8
  show own_Go p e below _ T8 (mkF m 47 #[oR a, oR b, oR b] [(.int (own_le_0_0 v1 v2 k1 k2 ))])
  have N9 := own_Fr.app N0 own_Fr.nil
  by_cases c47_9 : (own_le_0_0 v1 v2 k1 k2 ) = (0 : Int32)
  · refine own_by (fun t_ k_ => XS.ifYes XT8.here hx rfl (pc0 := 47) (pc' := 54) rfl (hb hby d13_47) rfl (XT.i0_eq_t c47_9) (by decide) (by decide) k_) ?_
    show own_Go p e below _ T8 (mkF m 54 #[oR a, oR b, oR b] [])
    refine own_by (fun t_ k_ => XT.iconstV XT8.here hx rfl (0 : Int32) (hb hby d13_54) (by decide) k_) ?_
    show own_Go p e below _ T8 (mkF m 55 #[oR a, oR b, oR b] [(.int (0 : Int32))])
    exact own_retN XT8 hx hlk hret (by simp) (w := (0 : Int32)) (hb hby d13_55) (by decide) (by decide) (by decide) (⟨by rw [own_eq_0_0, if_pos c47_9], eT8, rfl⟩)
  · refine own_by (fun t_ k_ => XS.ifNo XT8.here hx rfl (hb hby d13_47) rfl (XT.i0_eq_f c47_9) k_) ?_
    show own_Go p e below _ T8 (mkF m 50 #[oR a, oR b, oR b] [])
    refine own_by (fun t_ k_ => XT.iconstV XT8.here hx rfl (1 : Int32) (hb hby d13_50) (by decide) k_) ?_
    show own_Go p e below _ T8 (mkF m 51 #[oR a, oR b, oR b] [(.int (1 : Int32))])
    refine own_by (fun t_ k_ => XS.goto XT8.here hx rfl (pc0 := 51) (pc' := 55) rfl (hb hby d13_51) (by decide) (by decide) k_) ?_
    show own_Go p e below _ T8 (mkF m 55 #[oR a, oR b, oR b] [(.int (1 : Int32))])
    exact own_retN XT8 hx hlk hret (by simp) (w := (1 : Int32)) (hb hby d13_55) (by decide) (by decide) (by decide) (⟨by rw [own_eq_0_0, if_neg c47_9], eT8, rfl⟩)
def own_is_0_0 (a : Addr) (b : Addr) (kd wW tx : Addr) (v1 v2 : Addr) (k1 k2 : ClassId) : Int32 := (if kd = wW then (if (own_eq_0_0 tx b v1 v2 k1 k2 ) = (0 : Int32) then (0 : Int32) else (1 : Int32)) else (0 : Int32))
theorem d12_0 : decode prog_15_method_2_code 0 = .ok (.aload_n 0, 1) := by decide +kernel
theorem d12_1 : decode prog_15_method_2_code 1 = .ok (.getfield 7, 3) := by decide +kernel
theorem d12_4 : decode prog_15_method_2_code 4 = .ok (.getstatic 24, 3) := by decide +kernel
theorem d12_7 : decode prog_15_method_2_code 7 = .ok (.if_acmp .ne 18, 3) := by decide +kernel
theorem d12_10 : decode prog_15_method_2_code 10 = .ok (.aload_n 0, 1) := by decide +kernel
theorem d12_11 : decode prog_15_method_2_code 11 = .ok (.getfield 13, 3) := by decide +kernel
theorem d12_14 : decode prog_15_method_2_code 14 = .ok (.aload_n 1, 1) := by decide +kernel
theorem d12_15 : decode prog_15_method_2_code 15 = .ok (.invokevirtual 29, 3) := by decide +kernel
theorem pd_11 : parseMethodDescriptor "(Ljava/lang/Object;)Z" = some ⟨[(.object "java/lang/Object")], some .boolean⟩ := by decide +kernel
theorem d12_18 : decode prog_15_method_2_code 18 = .ok (.ifCond .eq 7, 3) := by decide +kernel
theorem d12_25 : decode prog_15_method_2_code 25 = .ok (.iconst 0, 1) := by decide +kernel
theorem d12_26 : decode prog_15_method_2_code 26 = .ok (.ireturn, 1) := by decide +kernel
theorem d12_21 : decode prog_15_method_2_code 21 = .ok (.iconst 1, 1) := by decide +kernel
theorem d12_22 : decode prog_15_method_2_code 22 = .ok (.goto 4, 3) := by decide +kernel
set_option maxRecDepth 65536 in
set_option maxHeartbeats 40000000 in
theorem own_is_0_0_met (l : Launch) (Z : State) (a0 : Array Value) (hw : ∀ d ∈ tables_1, d.before a0 Z = true) (a : Addr) (b : Addr) (kd wW tx : Addr) (v1 v2 : Addr) (k1 k2 : ClassId) (h0 : Heap) (cs : Int32) (Cs : Sta Z h0 "java/lang/String" "COMPACT_STRINGS" "Z" (.int cs)) (hcs : ¬ cs = (0 : Int32)) (hne : tx ≠ b) (SW : Sta Z h0 "com/example/nimble_gate/nimblegate/policy/Token$Kind" "WORD" "Lcom/example/nimble_gate/nimblegate/policy/Token$Kind;" (.ref wW)) (Fk : Fld Z h0 a "com/example/nimble_gate/nimblegate/policy/Token" "kind" "Lcom/example/nimble_gate/nimblegate/policy/Token$Kind;" (.ref kd)) (Ft : Fld Z h0 a "com/example/nimble_gate/nimblegate/policy/Token" "text" "Ljava/lang/String;" (.ref tx))(E1 : Exa Z h0 tx "java/lang/String") (V1 : Fld Z h0 tx "java/lang/String" "value" "[B" (.ref v1)) (C1 : Fld Z h0 tx "java/lang/String" "coder" "B" (.int 0)) (A1 : own_A Z h0 v1 .byte k1 [])(E2 : Exa Z h0 b "java/lang/String") (V2 : Fld Z h0 b "java/lang/String" "value" "[B" (.ref v2)) (C2 : Fld Z h0 b "java/lang/String" "coder" "B" (.int 0)) (A2 : own_A Z h0 v2 .byte k2 []) :
    own_Met l (⟨"com/example/nimble_gate/nimblegate/policy/Token", "isWord", "(Ljava/lang/String;)Z"⟩ : MethodName) prog_15_method_2_code 2 (some .boolean) [] ({ frames := 2, cells := 0, slots := 0, locals := 28 } : Room) Z #[(.ref a), (.ref b)] h0 (fun rv rh rL => rv = some (.int (own_is_0_0 a b kd wW tx v1 v2 k1 k2 )) ∧ rh = h0 ∧ rL = []) := by
  refine own_enter (plainFor_of_name pn_5) ?_
  intro p e s m below meth c T0 hx hby hml hret hlk hown hnm hZ X0 e0
  refine own_at (g' := (mkF m 0 #[oR a, oR b] [])) (by first | (simp [entryFrame, mkF, argsToLocals, Value.category]; done) | rfl) ?_
  show own_Go p e below _ T0 (mkF m 0 #[oR a, oR b] [])
  have K0 : Keep h0 h0 [] := Keep.refl h0 _
  have N0 : own_Fr h0.size h0.size [] := own_Fr.nil
  refine own_by (fun t_ k_ => XS.aloadN X0.here hx rfl (hb hby d12_0) rfl rfl  k_) ?_
  show own_Go p e below _ T0 (mkF m 1 #[oR a, oR b] [(.ref a)])
  refine own_getF X0 hx hZ hown (hw _ (List.mem_of_getElem? (i := 60) rfl)) e0 Fk (hb hby d12_1) ?_
  intro T1 XT1 eT1
  show own_Go p e below _ T1 (mkF m 4 #[oR a, oR b] [(.ref kd)])
  obtain ⟨T2, XT2, eT2, stT2⟩ := getS2 XT1 hx hZ hown (host := "") (Or.inl (hw _ (List.mem_of_getElem? (i := 73) rfl))) Via.refl eT1 SW (g := (mkF m 4 #[oR a, oR b] [(.ref kd)])) rfl (hb hby d12_4)
  refine own_by stT2 ?_
  show own_Go p e below _ T2 (mkF m 7 #[oR a, oR b] [(.ref wW), (.ref kd)])
  by_cases c7_2 : kd = wW
  · refine own_by (fun t_ k_ => Jvm.RoadKit.acmp (g := (mkF m 7 #[oR a, oR b] [(.ref wW), (.ref kd)])) XT2 hx rfl rfl rfl (pc0 := 7) (pc' := 10) (same := true) rfl (hb hby d12_7) rfl (decide_eq_true (congrArg Value.ref (c7_2))) (by decide) (by decide) k_) ?_
    show own_Go p e below _ T2 (mkF m 10 #[oR a, oR b] [])
    refine own_by (fun t_ k_ => XS.aloadN XT2.here hx rfl (hb hby d12_10) rfl rfl  k_) ?_
    show own_Go p e below _ T2 (mkF m 11 #[oR a, oR b] [(.ref a)])
    refine own_getF XT2 hx hZ hown (hw _ (List.mem_of_getElem? (i := 62) rfl)) eT2 Ft (hb hby d12_11) ?_
    intro T4 XT4 eT4
    show own_Go p e below _ T4 (mkF m 14 #[oR a, oR b] [(.ref tx)])
    refine own_by (fun t_ k_ => XS.aloadN XT4.here hx rfl (hb hby d12_14) rfl rfl  k_) ?_
    show own_Go p e below _ T4 (mkF m 15 #[oR a, oR b] [(.ref b), (.ref tx)])
    refine own_callV XT4 hx hZ hown (hw _ (List.mem_of_getElem? (i := 74) rfl)) (hw _ (List.mem_of_getElem? (i := 75) rfl)) (hw _ (List.mem_of_getElem? (i := 77) rfl)) (hw _ (List.mem_of_getElem? (i := 76) rfl)) (hw _ (List.mem_of_getElem? (i := 78) rfl)) (hw _ (List.mem_of_getElem? (i := 13) rfl)) (by decide) eT4 (b := tx) E1 (argsL := [(.ref b)]) (rest := []) (own_eq_0_0_met l Z a0 hw tx b v1 v2 k1 k2  h0 cs Cs hcs hne E1 V1 C1 A1 E2 V2 C2 A2) 0 (by decide) (by decide) (by rw [hml]; rfl) (lenOf pd_11 rfl) (Nat.le_of_eq rfl) (hb hby d12_15) (by decide) (by decide) (st := [(.ref b), (.ref tx)]) rfl ?_
    intro T5 LT5 vT5 XT5 hQT5
    obtain ⟨rfl, eT5, rfl⟩ := hQT5
    show own_Go p e below _ T5 (mkF m 18 #[oR a, oR b] [(.int (own_eq_0_0 tx b v1 v2 k1 k2 ))])
    have N6 := own_Fr.app N0 own_Fr.nil
    by_cases c18_6 : (own_eq_0_0 tx b v1 v2 k1 k2 ) = (0 : Int32)
    · refine own_by (fun t_ k_ => XS.ifYes XT5.here hx rfl (pc0 := 18) (pc' := 25) rfl (hb hby d12_18) rfl (XT.i0_eq_t c18_6) (by decide) (by decide) k_) ?_
      show own_Go p e below _ T5 (mkF m 25 #[oR a, oR b] [])
      refine own_by (fun t_ k_ => XT.iconstV XT5.here hx rfl (0 : Int32) (hb hby d12_25) (by decide) k_) ?_
      show own_Go p e below _ T5 (mkF m 26 #[oR a, oR b] [(.int (0 : Int32))])
      exact own_retN XT5 hx hlk hret (by simp) (w := (0 : Int32)) (hb hby d12_26) (by decide) (by decide) (by decide) (⟨by rw [own_is_0_0, if_pos c7_2, if_pos c18_6], eT5, rfl⟩)
    · refine own_by (fun t_ k_ => XS.ifNo XT5.here hx rfl (hb hby d12_18) rfl (XT.i0_eq_f c18_6) k_) ?_
      show own_Go p e below _ T5 (mkF m 21 #[oR a, oR b] [])
      refine own_by (fun t_ k_ => XT.iconstV XT5.here hx rfl (1 : Int32) (hb hby d12_21) (by decide) k_) ?_
      show own_Go p e below _ T5 (mkF m 22 #[oR a, oR b] [(.int (1 : Int32))])
      refine own_by (fun t_ k_ => XS.goto XT5.here hx rfl (pc0 := 22) (pc' := 26) rfl (hb hby d12_22) (by decide) (by decide) k_) ?_
      show own_Go p e below _ T5 (mkF m 26 #[oR a, oR b] [(.int (1 : Int32))])
      exact own_retN XT5 hx hlk hret (by simp) (w := (1 : Int32)) (hb hby d12_26) (by decide) (by decide) (by decide) (⟨by rw [own_is_0_0, if_pos c7_2, if_neg c18_6], eT5, rfl⟩)
  · refine own_by (fun t_ k_ => Jvm.RoadKit.acmp (g := (mkF m 7 #[oR a, oR b] [(.ref wW), (.ref kd)])) XT2 hx rfl rfl rfl (pc0 := 7) (pc' := 25) (same := false) rfl (hb hby d12_7) rfl (decide_eq_false fun q => (c7_2) (Value.ref.inj q)) (by decide) (by decide) k_) ?_
    show own_Go p e below _ T2 (mkF m 25 #[oR a, oR b] [])
    refine own_by (fun t_ k_ => XT.iconstV XT2.here hx rfl (0 : Int32) (hb hby d12_25) (by decide) k_) ?_
    show own_Go p e below _ T2 (mkF m 26 #[oR a, oR b] [(.int (0 : Int32))])
    exact own_retN XT2 hx hlk hret (by simp) (w := (0 : Int32)) (hb hby d12_26) (by decide) (by decide) (by decide) (⟨by rw [own_is_0_0, if_neg c7_2], eT2, rfl⟩)
def own_le_0_1 (v1 : Addr) (v2 : Addr) (k1 k2 : ClassId) (y0 : Int32) : Int32 := (0 : Int32)
theorem d14_34 : decode jdk_43_method_13_code 34 = .ok (.iconst 0, 1) := by decide +kernel
theorem d14_35 : decode jdk_43_method_13_code 35 = .ok (.ireturn, 1) := by decide +kernel
set_option maxRecDepth 65536 in
set_option maxHeartbeats 40000000 in
theorem own_le_0_1_met (l : Launch) (Z : State) (a0 : Array Value) (hw : ∀ d ∈ tables_1, d.before a0 Z = true) (v1 : Addr) (v2 : Addr) (k1 k2 : ClassId) (y0 : Int32) (h0 : Heap) (A1 : own_A Z h0 v1 .byte k1 []) (A2 : own_A Z h0 v2 .byte k2 [(.int y0)]) :
    own_Met l (⟨"java/lang/StringLatin1", "equals", "([B[B)Z"⟩ : MethodName) jdk_43_method_13_code 3 (some .boolean) [] ({ frames := 0, cells := 0, slots := 0, locals := 0 } : Room) Z #[(.ref v1), (.ref v2)] h0 (fun rv rh rL => rv = some (.int (own_le_0_1 v1 v2 k1 k2 y0)) ∧ rh = h0 ∧ rL = []) := by
  refine own_enter (plainFor_of_name pn_3) ?_
  intro p e s m below meth c T0 hx hby hml hret hlk hown hnm hZ X0 e0
  refine own_at (g' := (mkF m 0 #[oR v1, oR v2, .unset] [])) (by first | (simp [entryFrame, mkF, argsToLocals, Value.category]; done) | rfl) ?_
  show own_Go p e below _ T0 (mkF m 0 #[oR v1, oR v2, .unset] [])
  have K0 : Keep h0 h0 [] := Keep.refl h0 _
  have N0 : own_Fr h0.size h0.size [] := own_Fr.nil
  refine own_by (fun t_ k_ => XS.aloadN X0.here hx rfl (hb hby d14_0) rfl rfl  k_) ?_
  show own_Go p e below _ T0 (mkF m 1 #[oR v1, oR v2, .unset] [(.ref v1)])
  refine own_len X0 hx hZ e0 A1 (0 : Int32) rfl (hb hby d14_1) ?_
  show own_Go p e below _ T0 (mkF m 2 #[oR v1, oR v2, .unset] [(.int (0 : Int32))])
  refine own_by (fun t_ k_ => XS.aloadN X0.here hx rfl (hb hby d14_2) rfl rfl  k_) ?_
  show own_Go p e below _ T0 (mkF m 3 #[oR v1, oR v2, .unset] [(.ref v2), (.int (0 : Int32))])
  refine own_len X0 hx hZ e0 A2 (1 : Int32) rfl (hb hby d14_3) ?_
  show own_Go p e below _ T0 (mkF m 4 #[oR v1, oR v2, .unset] [(.int (1 : Int32)), (.int (0 : Int32))])
  refine own_by (fun t_ k_ => XS.icmpYes X0.here hx rfl (pc0 := 4) (pc' := 34) rfl (hb hby d14_4) rfl (XT.ii_ne_t (by decide)) (by decide) (by decide) k_) ?_
  show own_Go p e below _ T0 (mkF m 34 #[oR v1, oR v2, .unset] [])
  refine own_by (fun t_ k_ => XT.iconstV X0.here hx rfl (0 : Int32) (hb hby d14_34) (by decide) k_) ?_
  show own_Go p e below _ T0 (mkF m 35 #[oR v1, oR v2, .unset] [(.int (0 : Int32))])
  exact own_retN X0 hx hlk hret (by simp) (w := (0 : Int32)) (hb hby d14_35) (by decide) (by decide) (by decide) (⟨by rw [own_le_0_1], e0, rfl⟩)
def own_eq_0_1 (a : Addr) (b : Addr) (v1 v2 : Addr) (k1 k2 : ClassId) (y0 : Int32) : Int32 := (if (own_le_0_1 v1 v2 k1 k2 y0) = (0 : Int32) then (0 : Int32) else (1 : Int32))
set_option maxRecDepth 65536 in
set_option maxHeartbeats 40000000 in
theorem own_eq_0_1_met (l : Launch) (Z : State) (a0 : Array Value) (hw : ∀ d ∈ tables_1, d.before a0 Z = true) (a : Addr) (b : Addr) (v1 v2 : Addr) (k1 k2 : ClassId) (y0 : Int32) (h0 : Heap) (cs : Int32) (Cs : Sta Z h0 "java/lang/String" "COMPACT_STRINGS" "Z" (.int cs)) (hcs : ¬ cs = (0 : Int32)) (hne : a ≠ b) (E1 : Exa Z h0 a "java/lang/String") (V1 : Fld Z h0 a "java/lang/String" "value" "[B" (.ref v1)) (C1 : Fld Z h0 a "java/lang/String" "coder" "B" (.int 0)) (A1 : own_A Z h0 v1 .byte k1 [])(E2 : Exa Z h0 b "java/lang/String") (V2 : Fld Z h0 b "java/lang/String" "value" "[B" (.ref v2)) (C2 : Fld Z h0 b "java/lang/String" "coder" "B" (.int 0)) (A2 : own_A Z h0 v2 .byte k2 [(.int y0)]) :
    own_Met l (⟨"java/lang/String", "equals", "(Ljava/lang/Object;)Z"⟩ : MethodName) jdk_42_method_66_code 3 (some .boolean) [] ({ frames := 1, cells := 0, slots := 0, locals := 14 } : Room) Z #[(.ref a), (.ref b)] h0 (fun rv rh rL => rv = some (.int (own_eq_0_1 a b v1 v2 k1 k2 y0)) ∧ rh = h0 ∧ rL = []) := by
  refine own_enter (plainFor_of_name pn_1) ?_
  intro p e s m below meth c T0 hx hby hml hret hlk hown hnm hZ X0 e0
  refine own_at (g' := (mkF m 0 #[oR a, oR b, .unset] [])) (by first | (simp [entryFrame, mkF, argsToLocals, Value.category]; done) | rfl) ?_
  show own_Go p e below _ T0 (mkF m 0 #[oR a, oR b, .unset] [])
  have K0 : Keep h0 h0 [] := Keep.refl h0 _
  have N0 : own_Fr h0.size h0.size [] := own_Fr.nil
  refine own_by (fun t_ k_ => XS.aloadN X0.here hx rfl (hb hby d13_0) rfl rfl  k_) ?_
  show own_Go p e below _ T0 (mkF m 1 #[oR a, oR b, .unset] [(.ref a)])
  refine own_by (fun t_ k_ => XS.aloadN X0.here hx rfl (hb hby d13_1) rfl rfl  k_) ?_
  show own_Go p e below _ T0 (mkF m 2 #[oR a, oR b, .unset] [(.ref b), (.ref a)])
  refine own_by (fun t_ k_ => Jvm.RoadKit.acmp (g := (mkF m 2 #[oR a, oR b, .unset] [(.ref b), (.ref a)])) X0 hx rfl rfl rfl (pc0 := 2) (pc' := 7) (same := false) rfl (hb hby d13_2) rfl (decide_eq_false fun q => (hne) (Value.ref.inj q)) (by decide) (by decide) k_) ?_
  show own_Go p e below _ T0 (mkF m 7 #[oR a, oR b, .unset] [])
  refine own_by (fun t_ k_ => XS.aloadN X0.here hx rfl (hb hby d13_7) rfl rfl  k_) ?_
  show own_Go p e below _ T0 (mkF m 8 #[oR a, oR b, .unset] [(.ref b)])
  refine own_inst X0 hx hZ hown (hw _ (List.mem_of_getElem? (i := 20) rfl)) e0 E2 (hb hby d13_8) ?_
  intro T1 XT1 eT1
  show own_Go p e below _ T1 (mkF m 11 #[oR a, oR b, .unset] [(.int (1 : Int32))])
  refine own_by (fun t_ k_ => XS.ifNo XT1.here hx rfl (hb hby d13_11) rfl (XT.i0_eq_f (by decide)) k_) ?_
  show own_Go p e below _ T1 (mkF m 14 #[oR a, oR b, .unset] [])
  refine own_by (fun t_ k_ => XS.aloadN XT1.here hx rfl (hb hby d13_14) rfl rfl  k_) ?_
  show own_Go p e below _ T1 (mkF m 15 #[oR a, oR b, .unset] [(.ref b)])
  refine own_cast XT1 hx hZ hown (hw _ (List.mem_of_getElem? (i := 20) rfl)) eT1 E2 (hb hby d13_15) ?_
  intro T2 XT2 eT2
  show own_Go p e below _ T2 (mkF m 18 #[oR a, oR b, .unset] [(.ref b)])
  refine own_by (fun t_ k_ => XS.astoreN XT2.here hx rfl (hb hby d13_18) rfl rfl (l' := #[oR a, oR b, oR b]) rfl k_) ?_
  show own_Go p e below _ T2 (mkF m 19 #[oR a, oR b, oR b] [])
  obtain ⟨T3, XT3, eT3, stT3⟩ := getS2 XT2 hx hZ hown (host := "") (Or.inl (hw _ (List.mem_of_getElem? (i := 15) rfl))) Via.refl eT2 Cs (g := (mkF m 19 #[oR a, oR b, oR b] [])) rfl (hb hby d13_19)
  refine own_by stT3 ?_
  show own_Go p e below _ T3 (mkF m 22 #[oR a, oR b, oR b] [(.int cs)])
  refine own_by (fun t_ k_ => XS.ifNo XT3.here hx rfl (hb hby d13_22) rfl (XT.i0_eq_f hcs) k_) ?_
  show own_Go p e below _ T3 (mkF m 25 #[oR a, oR b, oR b] [])
  refine own_by (fun t_ k_ => XS.aloadN XT3.here hx rfl (hb hby d13_25) rfl rfl  k_) ?_
  show own_Go p e below _ T3 (mkF m 26 #[oR a, oR b, oR b] [(.ref a)])
  refine own_getF XT3 hx hZ hown (hw _ (List.mem_of_getElem? (i := 35) rfl)) eT3 C1 (hb hby d13_26) ?_
  intro T4 XT4 eT4
  show own_Go p e below _ T4 (mkF m 29 #[oR a, oR b, oR b] [(.int (0 : Int32))])
  refine own_by (fun t_ k_ => XS.aloadN XT4.here hx rfl (hb hby d13_29) rfl rfl  k_) ?_
  show own_Go p e below _ T4 (mkF m 30 #[oR a, oR b, oR b] [(.ref b), (.int (0 : Int32))])
  refine own_getF XT4 hx hZ hown (hw _ (List.mem_of_getElem? (i := 35) rfl)) eT4 C2 (hb hby d13_30) ?_
  intro T5 XT5 eT5
  show own_Go p e below _ T5 (mkF m 33 #[oR a, oR b, oR b] [(.int (0 : Int32)), (.int (0 : Int32))])
  refine own_by (fun t_ k_ => XS.icmpNo XT5.here hx rfl (hb hby d13_33) rfl (XT.ii_ne_f (by decide)) k_) ?_
  show own_Go p e below _ T5 (mkF m 36 #[oR a, oR b, oR b] [])
  refine own_by (fun t_ k_ => XS.aloadN XT5.here hx rfl (hb hby d13_36) rfl rfl  k_) ?_
  show own_Go p e below _ T5 (mkF m 37 #[oR a, oR b, oR b] [(.ref a)])
  refine own_getF XT5 hx hZ hown (hw _ (List.mem_of_getElem? (i := 33) rfl)) eT5 V1 (hb hby d13_37) ?_
  intro T6 XT6 eT6
  show own_Go p e below _ T6 (mkF m 40 #[oR a, oR b, oR b] [(.ref v1)])
  refine own_by (fun t_ k_ => XS.aloadN XT6.here hx rfl (hb hby d13_40) rfl rfl  k_) ?_
  show own_Go p e below _ T6 (mkF m 41 #[oR a, oR b, oR b] [(.ref b), (.ref v1)])
  refine own_getF XT6 hx hZ hown (hw _ (List.mem_of_getElem? (i := 33) rfl)) eT6 V2 (hb hby d13_41) ?_
  intro T7 XT7 eT7
  show own_Go p e below _ T7 (mkF m 44 #[oR a, oR b, oR b] [(.ref v2), (.ref v1)])
  refine own_callS XT7 hx hZ hown (hw _ (List.mem_of_getElem? (i := 79) rfl)) (hw _ (List.mem_of_getElem? (i := 80) rfl)) (hw _ (List.mem_of_getElem? (i := 18) rfl)) (hw _ (List.mem_of_getElem? (i := 81) rfl)) (by decide) eT7 (argsL := [(.ref v1), (.ref v2)]) (rest := []) (own_le_0_1_met l Z a0 hw v1 v2 k1 k2 y0 h0 A1 A2) 0 (by decide) (by decide) (by rw [hml]; rfl) (lenOf pd_10 rfl) (Nat.le_of_eq rfl) (hb hby d13_44) (by decide) (by decide) (st := [(.ref v2), (.ref v1)]) rfl ?_
  intro T8 LT8 vT8 XT8 hQT8
  obtain ⟨rfl, eT8, rfl⟩ := hQT8
  show own_Go p e below _ T8 (mkF m 47 #[oR a, oR b, oR b] [(.int (own_le_0_1 v1 v2 k1 k2 y0))])
  have N9 := own_Fr.app N0 own_Fr.nil
  by_cases c47_9 : (own_le_0_1 v1 v2 k1 k2 y0) = (0 : Int32)
  · refine own_by (fun t_ k_ => XS.ifYes XT8.here hx rfl (pc0 := 47) (pc' := 54) rfl (hb hby d13_47) rfl (XT.i0_eq_t c47_9) (by decide) (by decide) k_) ?_
    show own_Go p e below _ T8 (mkF m 54 #[oR a, oR b, oR b] [])
    refine own_by (fun t_ k_ => XT.iconstV XT8.here hx rfl (0 : Int32) (hb hby d13_54) (by decide) k_) ?_
    show own_Go p e below _ T8 (mkF m 55 #[oR a, oR b, oR b] [(.int (0 : Int32))])
    exact own_retN XT8 hx hlk hret (by simp) (w := (0 : Int32)) (hb hby d13_55) (by decide) (by decide) (by decide) (⟨by rw [own_eq_0_1, if_pos c47_9], eT8, rfl⟩)
  · refine own_by (fun t_ k_ => XS.ifNo XT8.here hx rfl (hb hby d13_47) rfl (XT.i0_eq_f c47_9) k_) ?_
    show own_Go p e below _ T8 (mkF m 50 #[oR a, oR b, oR b] [])
    refine own_by (fun t_ k_ => XT.iconstV XT8.here hx rfl (1 : Int32) (hb hby d13_50) (by decide) k_) ?_
    show own_Go p e below _ T8 (mkF m 51 #[oR a, oR b, oR b] [(.int (1 : Int32))])
    refine own_by (fun t_ k_ => XS.goto XT8.here hx rfl (pc0 := 51) (pc' := 55) rfl (hb hby d13_51) (by decide) (by decide) k_) ?_
    show own_Go p e below _ T8 (mkF m 55 #[oR a, oR b, oR b] [(.int (1 : Int32))])
    exact own_retN XT8 hx hlk hret (by simp) (w := (1 : Int32)) (hb hby d13_55) (by decide) (by decide) (by decide) (⟨by rw [own_eq_0_1, if_neg c47_9], eT8, rfl⟩)
def own_is_0_1 (a : Addr) (b : Addr) (kd wW tx : Addr) (v1 v2 : Addr) (k1 k2 : ClassId) (y0 : Int32) : Int32 := (if kd = wW then (if (own_eq_0_1 tx b v1 v2 k1 k2 y0) = (0 : Int32) then (0 : Int32) else (1 : Int32)) else (0 : Int32))
set_option maxRecDepth 65536 in
set_option maxHeartbeats 40000000 in
theorem own_is_0_1_met (l : Launch) (Z : State) (a0 : Array Value) (hw : ∀ d ∈ tables_1, d.before a0 Z = true) (a : Addr) (b : Addr) (kd wW tx : Addr) (v1 v2 : Addr) (k1 k2 : ClassId) (y0 : Int32) (h0 : Heap) (cs : Int32) (Cs : Sta Z h0 "java/lang/String" "COMPACT_STRINGS" "Z" (.int cs)) (hcs : ¬ cs = (0 : Int32)) (hne : tx ≠ b) (SW : Sta Z h0 "com/example/nimble_gate/nimblegate/policy/Token$Kind" "WORD" "Lcom/example/nimble_gate/nimblegate/policy/Token$Kind;" (.ref wW)) (Fk : Fld Z h0 a "com/example/nimble_gate/nimblegate/policy/Token" "kind" "Lcom/example/nimble_gate/nimblegate/policy/Token$Kind;" (.ref kd)) (Ft : Fld Z h0 a "com/example/nimble_gate/nimblegate/policy/Token" "text" "Ljava/lang/String;" (.ref tx))(E1 : Exa Z h0 tx "java/lang/String") (V1 : Fld Z h0 tx "java/lang/String" "value" "[B" (.ref v1)) (C1 : Fld Z h0 tx "java/lang/String" "coder" "B" (.int 0)) (A1 : own_A Z h0 v1 .byte k1 [])(E2 : Exa Z h0 b "java/lang/String") (V2 : Fld Z h0 b "java/lang/String" "value" "[B" (.ref v2)) (C2 : Fld Z h0 b "java/lang/String" "coder" "B" (.int 0)) (A2 : own_A Z h0 v2 .byte k2 [(.int y0)]) :
    own_Met l (⟨"com/example/nimble_gate/nimblegate/policy/Token", "isWord", "(Ljava/lang/String;)Z"⟩ : MethodName) prog_15_method_2_code 2 (some .boolean) [] ({ frames := 2, cells := 0, slots := 0, locals := 28 } : Room) Z #[(.ref a), (.ref b)] h0 (fun rv rh rL => rv = some (.int (own_is_0_1 a b kd wW tx v1 v2 k1 k2 y0)) ∧ rh = h0 ∧ rL = []) := by
  refine own_enter (plainFor_of_name pn_5) ?_
  intro p e s m below meth c T0 hx hby hml hret hlk hown hnm hZ X0 e0
  refine own_at (g' := (mkF m 0 #[oR a, oR b] [])) (by first | (simp [entryFrame, mkF, argsToLocals, Value.category]; done) | rfl) ?_
  show own_Go p e below _ T0 (mkF m 0 #[oR a, oR b] [])
  have K0 : Keep h0 h0 [] := Keep.refl h0 _
  have N0 : own_Fr h0.size h0.size [] := own_Fr.nil
  refine own_by (fun t_ k_ => XS.aloadN X0.here hx rfl (hb hby d12_0) rfl rfl  k_) ?_
  show own_Go p e below _ T0 (mkF m 1 #[oR a, oR b] [(.ref a)])
  refine own_getF X0 hx hZ hown (hw _ (List.mem_of_getElem? (i := 60) rfl)) e0 Fk (hb hby d12_1) ?_
  intro T1 XT1 eT1
  show own_Go p e below _ T1 (mkF m 4 #[oR a, oR b] [(.ref kd)])
  obtain ⟨T2, XT2, eT2, stT2⟩ := getS2 XT1 hx hZ hown (host := "") (Or.inl (hw _ (List.mem_of_getElem? (i := 73) rfl))) Via.refl eT1 SW (g := (mkF m 4 #[oR a, oR b] [(.ref kd)])) rfl (hb hby d12_4)
  refine own_by stT2 ?_
  show own_Go p e below _ T2 (mkF m 7 #[oR a, oR b] [(.ref wW), (.ref kd)])
  by_cases c7_2 : kd = wW
  · refine own_by (fun t_ k_ => Jvm.RoadKit.acmp (g := (mkF m 7 #[oR a, oR b] [(.ref wW), (.ref kd)])) XT2 hx rfl rfl rfl (pc0 := 7) (pc' := 10) (same := true) rfl (hb hby d12_7) rfl (decide_eq_true (congrArg Value.ref (c7_2))) (by decide) (by decide) k_) ?_
    show own_Go p e below _ T2 (mkF m 10 #[oR a, oR b] [])
    refine own_by (fun t_ k_ => XS.aloadN XT2.here hx rfl (hb hby d12_10) rfl rfl  k_) ?_
    show own_Go p e below _ T2 (mkF m 11 #[oR a, oR b] [(.ref a)])
    refine own_getF XT2 hx hZ hown (hw _ (List.mem_of_getElem? (i := 62) rfl)) eT2 Ft (hb hby d12_11) ?_
    intro T4 XT4 eT4
    show own_Go p e below _ T4 (mkF m 14 #[oR a, oR b] [(.ref tx)])
    refine own_by (fun t_ k_ => XS.aloadN XT4.here hx rfl (hb hby d12_14) rfl rfl  k_) ?_
    show own_Go p e below _ T4 (mkF m 15 #[oR a, oR b] [(.ref b), (.ref tx)])
    refine own_callV XT4 hx hZ hown (hw _ (List.mem_of_getElem? (i := 74) rfl)) (hw _ (List.mem_of_getElem? (i := 75) rfl)) (hw _ (List.mem_of_getElem? (i := 77) rfl)) (hw _ (List.mem_of_getElem? (i := 76) rfl)) (hw _ (List.mem_of_getElem? (i := 78) rfl)) (hw _ (List.mem_of_getElem? (i := 13) rfl)) (by decide) eT4 (b := tx) E1 (argsL := [(.ref b)]) (rest := []) (own_eq_0_1_met l Z a0 hw tx b v1 v2 k1 k2 y0 h0 cs Cs hcs hne E1 V1 C1 A1 E2 V2 C2 A2) 0 (by decide) (by decide) (by rw [hml]; rfl) (lenOf pd_11 rfl) (Nat.le_of_eq rfl) (hb hby d12_15) (by decide) (by decide) (st := [(.ref b), (.ref tx)]) rfl ?_
    intro T5 LT5 vT5 XT5 hQT5
    obtain ⟨rfl, eT5, rfl⟩ := hQT5
    show own_Go p e below _ T5 (mkF m 18 #[oR a, oR b] [(.int (own_eq_0_1 tx b v1 v2 k1 k2 y0))])
    have N6 := own_Fr.app N0 own_Fr.nil
    by_cases c18_6 : (own_eq_0_1 tx b v1 v2 k1 k2 y0) = (0 : Int32)
    · refine own_by (fun t_ k_ => XS.ifYes XT5.here hx rfl (pc0 := 18) (pc' := 25) rfl (hb hby d12_18) rfl (XT.i0_eq_t c18_6) (by decide) (by decide) k_) ?_
      show own_Go p e below _ T5 (mkF m 25 #[oR a, oR b] [])
      refine own_by (fun t_ k_ => XT.iconstV XT5.here hx rfl (0 : Int32) (hb hby d12_25) (by decide) k_) ?_
      show own_Go p e below _ T5 (mkF m 26 #[oR a, oR b] [(.int (0 : Int32))])
      exact own_retN XT5 hx hlk hret (by simp) (w := (0 : Int32)) (hb hby d12_26) (by decide) (by decide) (by decide) (⟨by rw [own_is_0_1, if_pos c7_2, if_pos c18_6], eT5, rfl⟩)
    · refine own_by (fun t_ k_ => XS.ifNo XT5.here hx rfl (hb hby d12_18) rfl (XT.i0_eq_f c18_6) k_) ?_
      show own_Go p e below _ T5 (mkF m 21 #[oR a, oR b] [])
      refine own_by (fun t_ k_ => XT.iconstV XT5.here hx rfl (1 : Int32) (hb hby d12_21) (by decide) k_) ?_
      show own_Go p e below _ T5 (mkF m 22 #[oR a, oR b] [(.int (1 : Int32))])
      refine own_by (fun t_ k_ => XS.goto XT5.here hx rfl (pc0 := 22) (pc' := 26) rfl (hb hby d12_22) (by decide) (by decide) k_) ?_
      show own_Go p e below _ T5 (mkF m 26 #[oR a, oR b] [(.int (1 : Int32))])
      exact own_retN XT5 hx hlk hret (by simp) (w := (1 : Int32)) (hb hby d12_26) (by decide) (by decide) (by decide) (⟨by rw [own_is_0_1, if_pos c7_2, if_neg c18_6], eT5, rfl⟩)
  · refine own_by (fun t_ k_ => Jvm.RoadKit.acmp (g := (mkF m 7 #[oR a, oR b] [(.ref wW), (.ref kd)])) XT2 hx rfl rfl rfl (pc0 := 7) (pc' := 25) (same := false) rfl (hb hby d12_7) rfl (decide_eq_false fun q => (c7_2) (Value.ref.inj q)) (by decide) (by decide) k_) ?_
    show own_Go p e below _ T2 (mkF m 25 #[oR a, oR b] [])
    refine own_by (fun t_ k_ => XT.iconstV XT2.here hx rfl (0 : Int32) (hb hby d12_25) (by decide) k_) ?_
    show own_Go p e below _ T2 (mkF m 26 #[oR a, oR b] [(.int (0 : Int32))])
    exact own_retN XT2 hx hlk hret (by simp) (w := (0 : Int32)) (hb hby d12_26) (by decide) (by decide) (by decide) (⟨by rw [own_is_0_1, if_neg c7_2], eT2, rfl⟩)
def own_le_0_2 (v1 : Addr) (v2 : Addr) (k1 k2 : ClassId) (y0 y1 : Int32) : Int32 := (0 : Int32)
set_option maxRecDepth 65536 in
set_option maxHeartbeats 40000000 in
theorem own_le_0_2_met (l : Launch) (Z : State) (a0 : Array Value) (hw : ∀ d ∈ tables_1, d.before a0 Z = true) (v1 : Addr) (v2 : Addr) (k1 k2 : ClassId) (y0 y1 : Int32) (h0 : Heap) (A1 : own_A Z h0 v1 .byte k1 []) (A2 : own_A Z h0 v2 .byte k2 [(.int y0), (.int y1)]) :
    own_Met l (⟨"java/lang/StringLatin1", "equals", "([B[B)Z"⟩ : MethodName) jdk_43_method_13_code 3 (some .boolean) [] ({ frames := 0, cells := 0, slots := 0, locals := 0 } : Room) Z #[(.ref v1), (.ref v2)] h0 (fun rv rh rL => rv = some (.int (own_le_0_2 v1 v2 k1 k2 y0 y1)) ∧ rh = h0 ∧ rL = []) := by
  refine own_enter (plainFor_of_name pn_3) ?_
  intro p e s m below meth c T0 hx hby hml hret hlk hown hnm hZ X0 e0
  refine own_at (g' := (mkF m 0 #[oR v1, oR v2, .unset] [])) (by first | (simp [entryFrame, mkF, argsToLocals, Value.category]; done) | rfl) ?_
  show own_Go p e below _ T0 (mkF m 0 #[oR v1, oR v2, .unset] [])
  have K0 : Keep h0 h0 [] := Keep.refl h0 _
  have N0 : own_Fr h0.size h0.size [] := own_Fr.nil
  refine own_by (fun t_ k_ => XS.aloadN X0.here hx rfl (hb hby d14_0) rfl rfl  k_) ?_
  show own_Go p e below _ T0 (mkF m 1 #[oR v1, oR v2, .unset] [(.ref v1)])
  refine own_len X0 hx hZ e0 A1 (0 : Int32) rfl (hb hby d14_1) ?_
  show own_Go p e below _ T0 (mkF m 2 #[oR v1, oR v2, .unset] [(.int (0 : Int32))])
  refine own_by (fun t_ k_ => XS.aloadN X0.here hx rfl (hb hby d14_2) rfl rfl  k_) ?_
  show own_Go p e below _ T0 (mkF m 3 #[oR v1, oR v2, .unset] [(.ref v2), (.int (0 : Int32))])
  refine own_len X0 hx hZ e0 A2 (2 : Int32) rfl (hb hby d14_3) ?_
  show own_Go p e below _ T0 (mkF m 4 #[oR v1, oR v2, .unset] [(.int (2 : Int32)), (.int (0 : Int32))])
  refine own_by (fun t_ k_ => XS.icmpYes X0.here hx rfl (pc0 := 4) (pc' := 34) rfl (hb hby d14_4) rfl (XT.ii_ne_t (by decide)) (by decide) (by decide) k_) ?_
  show own_Go p e below _ T0 (mkF m 34 #[oR v1, oR v2, .unset] [])
  refine own_by (fun t_ k_ => XT.iconstV X0.here hx rfl (0 : Int32) (hb hby d14_34) (by decide) k_) ?_
  show own_Go p e below _ T0 (mkF m 35 #[oR v1, oR v2, .unset] [(.int (0 : Int32))])
  exact own_retN X0 hx hlk hret (by simp) (w := (0 : Int32)) (hb hby d14_35) (by decide) (by decide) (by decide) (⟨by rw [own_le_0_2], e0, rfl⟩)
def own_eq_0_2 (a : Addr) (b : Addr) (v1 v2 : Addr) (k1 k2 : ClassId) (y0 y1 : Int32) : Int32 := (if (own_le_0_2 v1 v2 k1 k2 y0 y1) = (0 : Int32) then (0 : Int32) else (1 : Int32))
set_option maxRecDepth 65536 in
set_option maxHeartbeats 40000000 in
theorem own_eq_0_2_met (l : Launch) (Z : State) (a0 : Array Value) (hw : ∀ d ∈ tables_1, d.before a0 Z = true) (a : Addr) (b : Addr) (v1 v2 : Addr) (k1 k2 : ClassId) (y0 y1 : Int32) (h0 : Heap) (cs : Int32) (Cs : Sta Z h0 "java/lang/String" "COMPACT_STRINGS" "Z" (.int cs)) (hcs : ¬ cs = (0 : Int32)) (hne : a ≠ b) (E1 : Exa Z h0 a "java/lang/String") (V1 : Fld Z h0 a "java/lang/String" "value" "[B" (.ref v1)) (C1 : Fld Z h0 a "java/lang/String" "coder" "B" (.int 0)) (A1 : own_A Z h0 v1 .byte k1 [])(E2 : Exa Z h0 b "java/lang/String") (V2 : Fld Z h0 b "java/lang/String" "value" "[B" (.ref v2)) (C2 : Fld Z h0 b "java/lang/String" "coder" "B" (.int 0)) (A2 : own_A Z h0 v2 .byte k2 [(.int y0), (.int y1)]) :
    own_Met l (⟨"java/lang/String", "equals", "(Ljava/lang/Object;)Z"⟩ : MethodName) jdk_42_method_66_code 3 (some .boolean) [] ({ frames := 1, cells := 0, slots := 0, locals := 14 } : Room) Z #[(.ref a), (.ref b)] h0 (fun rv rh rL => rv = some (.int (own_eq_0_2 a b v1 v2 k1 k2 y0 y1)) ∧ rh = h0 ∧ rL = []) := by
  refine own_enter (plainFor_of_name pn_1) ?_
  intro p e s m below meth c T0 hx hby hml hret hlk hown hnm hZ X0 e0
  refine own_at (g' := (mkF m 0 #[oR a, oR b, .unset] [])) (by first | (simp [entryFrame, mkF, argsToLocals, Value.category]; done) | rfl) ?_
  show own_Go p e below _ T0 (mkF m 0 #[oR a, oR b, .unset] [])
  have K0 : Keep h0 h0 [] := Keep.refl h0 _
  have N0 : own_Fr h0.size h0.size [] := own_Fr.nil
  refine own_by (fun t_ k_ => XS.aloadN X0.here hx rfl (hb hby d13_0) rfl rfl  k_) ?_
  show own_Go p e below _ T0 (mkF m 1 #[oR a, oR b, .unset] [(.ref a)])
  refine own_by (fun t_ k_ => XS.aloadN X0.here hx rfl (hb hby d13_1) rfl rfl  k_) ?_
  show own_Go p e below _ T0 (mkF m 2 #[oR a, oR b, .unset] [(.ref b), (.ref a)])
  refine own_by (fun t_ k_ => Jvm.RoadKit.acmp (g := (mkF m 2 #[oR a, oR b, .unset] [(.ref b), (.ref a)])) X0 hx rfl rfl rfl (pc0 := 2) (pc' := 7) (same := false) rfl (hb hby d13_2) rfl (decide_eq_false fun q => (hne) (Value.ref.inj q)) (by decide) (by decide) k_) ?_
  show own_Go p e below _ T0 (mkF m 7 #[oR a, oR b, .unset] [])
  refine own_by (fun t_ k_ => XS.aloadN X0.here hx rfl (hb hby d13_7) rfl rfl  k_) ?_
  show own_Go p e below _ T0 (mkF m 8 #[oR a, oR b, .unset] [(.ref b)])
  refine own_inst X0 hx hZ hown (hw _ (List.mem_of_getElem? (i := 20) rfl)) e0 E2 (hb hby d13_8) ?_
  intro T1 XT1 eT1
  show own_Go p e below _ T1 (mkF m 11 #[oR a, oR b, .unset] [(.int (1 : Int32))])
  refine own_by (fun t_ k_ => XS.ifNo XT1.here hx rfl (hb hby d13_11) rfl (XT.i0_eq_f (by decide)) k_) ?_
  show own_Go p e below _ T1 (mkF m 14 #[oR a, oR b, .unset] [])
  refine own_by (fun t_ k_ => XS.aloadN XT1.here hx rfl (hb hby d13_14) rfl rfl  k_) ?_
  show own_Go p e below _ T1 (mkF m 15 #[oR a, oR b, .unset] [(.ref b)])
  refine own_cast XT1 hx hZ hown (hw _ (List.mem_of_getElem? (i := 20) rfl)) eT1 E2 (hb hby d13_15) ?_
  intro T2 XT2 eT2
  show own_Go p e below _ T2 (mkF m 18 #[oR a, oR b, .unset] [(.ref b)])
  refine own_by (fun t_ k_ => XS.astoreN XT2.here hx rfl (hb hby d13_18) rfl rfl (l' := #[oR a, oR b, oR b]) rfl k_) ?_
  show own_Go p e below _ T2 (mkF m 19 #[oR a, oR b, oR b] [])
  obtain ⟨T3, XT3, eT3, stT3⟩ := getS2 XT2 hx hZ hown (host := "") (Or.inl (hw _ (List.mem_of_getElem? (i := 15) rfl))) Via.refl eT2 Cs (g := (mkF m 19 #[oR a, oR b, oR b] [])) rfl (hb hby d13_19)
  refine own_by stT3 ?_
  show own_Go p e below _ T3 (mkF m 22 #[oR a, oR b, oR b] [(.int cs)])
  refine own_by (fun t_ k_ => XS.ifNo XT3.here hx rfl (hb hby d13_22) rfl (XT.i0_eq_f hcs) k_) ?_
  show own_Go p e below _ T3 (mkF m 25 #[oR a, oR b, oR b] [])
  refine own_by (fun t_ k_ => XS.aloadN XT3.here hx rfl (hb hby d13_25) rfl rfl  k_) ?_
  show own_Go p e below _ T3 (mkF m 26 #[oR a, oR b, oR b] [(.ref a)])
  refine own_getF XT3 hx hZ hown (hw _ (List.mem_of_getElem? (i := 35) rfl)) eT3 C1 (hb hby d13_26) ?_
  intro T4 XT4 eT4
  show own_Go p e below _ T4 (mkF m 29 #[oR a, oR b, oR b] [(.int (0 : Int32))])
  refine own_by (fun t_ k_ => XS.aloadN XT4.here hx rfl (hb hby d13_29) rfl rfl  k_) ?_
  show own_Go p e below _ T4 (mkF m 30 #[oR a, oR b, oR b] [(.ref b), (.int (0 : Int32))])
  refine own_getF XT4 hx hZ hown (hw _ (List.mem_of_getElem? (i := 35) rfl)) eT4 C2 (hb hby d13_30) ?_
  intro T5 XT5 eT5
  show own_Go p e below _ T5 (mkF m 33 #[oR a, oR b, oR b] [(.int (0 : Int32)), (.int (0 : Int32))])
  refine own_by (fun t_ k_ => XS.icmpNo XT5.here hx rfl (hb hby d13_33) rfl (XT.ii_ne_f (by decide)) k_) ?_
  show own_Go p e below _ T5 (mkF m 36 #[oR a, oR b, oR b] [])
  refine own_by (fun t_ k_ => XS.aloadN XT5.here hx rfl (hb hby d13_36) rfl rfl  k_) ?_
  show own_Go p e below _ T5 (mkF m 37 #[oR a, oR b, oR b] [(.ref a)])
  refine own_getF XT5 hx hZ hown (hw _ (List.mem_of_getElem? (i := 33) rfl)) eT5 V1 (hb hby d13_37) ?_
  intro T6 XT6 eT6
  show own_Go p e below _ T6 (mkF m 40 #[oR a, oR b, oR b] [(.ref v1)])
  refine own_by (fun t_ k_ => XS.aloadN XT6.here hx rfl (hb hby d13_40) rfl rfl  k_) ?_
  show own_Go p e below _ T6 (mkF m 41 #[oR a, oR b, oR b] [(.ref b), (.ref v1)])
  refine own_getF XT6 hx hZ hown (hw _ (List.mem_of_getElem? (i := 33) rfl)) eT6 V2 (hb hby d13_41) ?_
  intro T7 XT7 eT7
  show own_Go p e below _ T7 (mkF m 44 #[oR a, oR b, oR b] [(.ref v2), (.ref v1)])
  refine own_callS XT7 hx hZ hown (hw _ (List.mem_of_getElem? (i := 79) rfl)) (hw _ (List.mem_of_getElem? (i := 80) rfl)) (hw _ (List.mem_of_getElem? (i := 18) rfl)) (hw _ (List.mem_of_getElem? (i := 81) rfl)) (by decide) eT7 (argsL := [(.ref v1), (.ref v2)]) (rest := []) (own_le_0_2_met l Z a0 hw v1 v2 k1 k2 y0 y1 h0 A1 A2) 0 (by decide) (by decide) (by rw [hml]; rfl) (lenOf pd_10 rfl) (Nat.le_of_eq rfl) (hb hby d13_44) (by decide) (by decide) (st := [(.ref v2), (.ref v1)]) rfl ?_
  intro T8 LT8 vT8 XT8 hQT8
  obtain ⟨rfl, eT8, rfl⟩ := hQT8
  show own_Go p e below _ T8 (mkF m 47 #[oR a, oR b, oR b] [(.int (own_le_0_2 v1 v2 k1 k2 y0 y1))])
  have N9 := own_Fr.app N0 own_Fr.nil
  by_cases c47_9 : (own_le_0_2 v1 v2 k1 k2 y0 y1) = (0 : Int32)
  · refine own_by (fun t_ k_ => XS.ifYes XT8.here hx rfl (pc0 := 47) (pc' := 54) rfl (hb hby d13_47) rfl (XT.i0_eq_t c47_9) (by decide) (by decide) k_) ?_
    show own_Go p e below _ T8 (mkF m 54 #[oR a, oR b, oR b] [])
    refine own_by (fun t_ k_ => XT.iconstV XT8.here hx rfl (0 : Int32) (hb hby d13_54) (by decide) k_) ?_
    show own_Go p e below _ T8 (mkF m 55 #[oR a, oR b, oR b] [(.int (0 : Int32))])
    exact own_retN XT8 hx hlk hret (by simp) (w := (0 : Int32)) (hb hby d13_55) (by decide) (by decide) (by decide) (⟨by rw [own_eq_0_2, if_pos c47_9], eT8, rfl⟩)
  · refine own_by (fun t_ k_ => XS.ifNo XT8.here hx rfl (hb hby d13_47) rfl (XT.i0_eq_f c47_9) k_) ?_
    show own_Go p e below _ T8 (mkF m 50 #[oR a, oR b, oR b] [])
    refine own_by (fun t_ k_ => XT.iconstV XT8.here hx rfl (1 : Int32) (hb hby d13_50) (by decide) k_) ?_
    show own_Go p e below _ T8 (mkF m 51 #[oR a, oR b, oR b] [(.int (1 : Int32))])
    refine own_by (fun t_ k_ => XS.goto XT8.here hx rfl (pc0 := 51) (pc' := 55) rfl (hb hby d13_51) (by decide) (by decide) k_) ?_
    show own_Go p e below _ T8 (mkF m 55 #[oR a, oR b, oR b] [(.int (1 : Int32))])
    exact own_retN XT8 hx hlk hret (by simp) (w := (1 : Int32)) (hb hby d13_55) (by decide) (by decide) (by decide) (⟨by rw [own_eq_0_2, if_neg c47_9], eT8, rfl⟩)
def own_is_0_2 (a : Addr) (b : Addr) (kd wW tx : Addr) (v1 v2 : Addr) (k1 k2 : ClassId) (y0 y1 : Int32) : Int32 := (if kd = wW then (if (own_eq_0_2 tx b v1 v2 k1 k2 y0 y1) = (0 : Int32) then (0 : Int32) else (1 : Int32)) else (0 : Int32))
set_option maxRecDepth 65536 in
set_option maxHeartbeats 40000000 in
theorem own_is_0_2_met (l : Launch) (Z : State) (a0 : Array Value) (hw : ∀ d ∈ tables_1, d.before a0 Z = true) (a : Addr) (b : Addr) (kd wW tx : Addr) (v1 v2 : Addr) (k1 k2 : ClassId) (y0 y1 : Int32) (h0 : Heap) (cs : Int32) (Cs : Sta Z h0 "java/lang/String" "COMPACT_STRINGS" "Z" (.int cs)) (hcs : ¬ cs = (0 : Int32)) (hne : tx ≠ b) (SW : Sta Z h0 "com/example/nimble_gate/nimblegate/policy/Token$Kind" "WORD" "Lcom/example/nimble_gate/nimblegate/policy/Token$Kind;" (.ref wW)) (Fk : Fld Z h0 a "com/example/nimble_gate/nimblegate/policy/Token" "kind" "Lcom/example/nimble_gate/nimblegate/policy/Token$Kind;" (.ref kd)) (Ft : Fld Z h0 a "com/example/nimble_gate/nimblegate/policy/Token" "text" "Ljava/lang/String;" (.ref tx))(E1 : Exa Z h0 tx "java/lang/String") (V1 : Fld Z h0 tx "java/lang/String" "value" "[B" (.ref v1)) (C1 : Fld Z h0 tx "java/lang/String" "coder" "B" (.int 0)) (A1 : own_A Z h0 v1 .byte k1 [])(E2 : Exa Z h0 b "java/lang/String") (V2 : Fld Z h0 b "java/lang/String" "value" "[B" (.ref v2)) (C2 : Fld Z h0 b "java/lang/String" "coder" "B" (.int 0)) (A2 : own_A Z h0 v2 .byte k2 [(.int y0), (.int y1)]) :
    own_Met l (⟨"com/example/nimble_gate/nimblegate/policy/Token", "isWord", "(Ljava/lang/String;)Z"⟩ : MethodName) prog_15_method_2_code 2 (some .boolean) [] ({ frames := 2, cells := 0, slots := 0, locals := 28 } : Room) Z #[(.ref a), (.ref b)] h0 (fun rv rh rL => rv = some (.int (own_is_0_2 a b kd wW tx v1 v2 k1 k2 y0 y1)) ∧ rh = h0 ∧ rL = []) := by
  refine own_enter (plainFor_of_name pn_5) ?_
  intro p e s m below meth c T0 hx hby hml hret hlk hown hnm hZ X0 e0
  refine own_at (g' := (mkF m 0 #[oR a, oR b] [])) (by first | (simp [entryFrame, mkF, argsToLocals, Value.category]; done) | rfl) ?_
  show own_Go p e below _ T0 (mkF m 0 #[oR a, oR b] [])
  have K0 : Keep h0 h0 [] := Keep.refl h0 _
  have N0 : own_Fr h0.size h0.size [] := own_Fr.nil
  refine own_by (fun t_ k_ => XS.aloadN X0.here hx rfl (hb hby d12_0) rfl rfl  k_) ?_
  show own_Go p e below _ T0 (mkF m 1 #[oR a, oR b] [(.ref a)])
  refine own_getF X0 hx hZ hown (hw _ (List.mem_of_getElem? (i := 60) rfl)) e0 Fk (hb hby d12_1) ?_
  intro T1 XT1 eT1
  show own_Go p e below _ T1 (mkF m 4 #[oR a, oR b] [(.ref kd)])
  obtain ⟨T2, XT2, eT2, stT2⟩ := getS2 XT1 hx hZ hown (host := "") (Or.inl (hw _ (List.mem_of_getElem? (i := 73) rfl))) Via.refl eT1 SW (g := (mkF m 4 #[oR a, oR b] [(.ref kd)])) rfl (hb hby d12_4)
  refine own_by stT2 ?_
  show own_Go p e below _ T2 (mkF m 7 #[oR a, oR b] [(.ref wW), (.ref kd)])
  by_cases c7_2 : kd = wW
  · refine own_by (fun t_ k_ => Jvm.RoadKit.acmp (g := (mkF m 7 #[oR a, oR b] [(.ref wW), (.ref kd)])) XT2 hx rfl rfl rfl (pc0 := 7) (pc' := 10) (same := true) rfl (hb hby d12_7) rfl (decide_eq_true (congrArg Value.ref (c7_2))) (by decide) (by decide) k_) ?_
    show own_Go p e below _ T2 (mkF m 10 #[oR a, oR b] [])
    refine own_by (fun t_ k_ => XS.aloadN XT2.here hx rfl (hb hby d12_10) rfl rfl  k_) ?_
    show own_Go p e below _ T2 (mkF m 11 #[oR a, oR b] [(.ref a)])
    refine own_getF XT2 hx hZ hown (hw _ (List.mem_of_getElem? (i := 62) rfl)) eT2 Ft (hb hby d12_11) ?_
    intro T4 XT4 eT4
    show own_Go p e below _ T4 (mkF m 14 #[oR a, oR b] [(.ref tx)])
    refine own_by (fun t_ k_ => XS.aloadN XT4.here hx rfl (hb hby d12_14) rfl rfl  k_) ?_
    show own_Go p e below _ T4 (mkF m 15 #[oR a, oR b] [(.ref b), (.ref tx)])
    refine own_callV XT4 hx hZ hown (hw _ (List.mem_of_getElem? (i := 74) rfl)) (hw _ (List.mem_of_getElem? (i := 75) rfl)) (hw _ (List.mem_of_getElem? (i := 77) rfl)) (hw _ (List.mem_of_getElem? (i := 76) rfl)) (hw _ (List.mem_of_getElem? (i := 78) rfl)) (hw _ (List.mem_of_getElem? (i := 13) rfl)) (by decide) eT4 (b := tx) E1 (argsL := [(.ref b)]) (rest := []) (own_eq_0_2_met l Z a0 hw tx b v1 v2 k1 k2 y0 y1 h0 cs Cs hcs hne E1 V1 C1 A1 E2 V2 C2 A2) 0 (by decide) (by decide) (by rw [hml]; rfl) (lenOf pd_11 rfl) (Nat.le_of_eq rfl) (hb hby d12_15) (by decide) (by decide) (st := [(.ref b), (.ref tx)]) rfl ?_
    intro T5 LT5 vT5 XT5 hQT5
    obtain ⟨rfl, eT5, rfl⟩ := hQT5
    show own_Go p e below _ T5 (mkF m 18 #[oR a, oR b] [(.int (own_eq_0_2 tx b v1 v2 k1 k2 y0 y1))])
    have N6 := own_Fr.app N0 own_Fr.nil
    by_cases c18_6 : (own_eq_0_2 tx b v1 v2 k1 k2 y0 y1) = (0 : Int32)
    · refine own_by (fun t_ k_ => XS.ifYes XT5.here hx rfl (pc0 := 18) (pc' := 25) rfl (hb hby d12_18) rfl (XT.i0_eq_t c18_6) (by decide) (by decide) k_) ?_
      show own_Go p e below _ T5 (mkF m 25 #[oR a, oR b] [])
      refine own_by (fun t_ k_ => XT.iconstV XT5.here hx rfl (0 : Int32) (hb hby d12_25) (by decide) k_) ?_
      show own_Go p e below _ T5 (mkF m 26 #[oR a, oR b] [(.int (0 : Int32))])
      exact own_retN XT5 hx hlk hret (by simp) (w := (0 : Int32)) (hb hby d12_26) (by decide) (by decide) (by decide) (⟨by rw [own_is_0_2, if_pos c7_2, if_pos c18_6], eT5, rfl⟩)
    · refine own_by (fun t_ k_ => XS.ifNo XT5.here hx rfl (hb hby d12_18) rfl (XT.i0_eq_f c18_6) k_) ?_
      show own_Go p e below _ T5 (mkF m 21 #[oR a, oR b] [])
      refine own_by (fun t_ k_ => XT.iconstV XT5.here hx rfl (1 : Int32) (hb hby d12_21) (by decide) k_) ?_
      show own_Go p e below _ T5 (mkF m 22 #[oR a, oR b] [(.int (1 : Int32))])
      refine own_by (fun t_ k_ => XS.goto XT5.here hx rfl (pc0 := 22) (pc' := 26) rfl (hb hby d12_22) (by decide) (by decide) k_) ?_
      show own_Go p e below _ T5 (mkF m 26 #[oR a, oR b] [(.int (1 : Int32))])
      exact own_retN XT5 hx hlk hret (by simp) (w := (1 : Int32)) (hb hby d12_26) (by decide) (by decide) (by decide) (⟨by rw [own_is_0_2, if_pos c7_2, if_neg c18_6], eT5, rfl⟩)
  · refine own_by (fun t_ k_ => Jvm.RoadKit.acmp (g := (mkF m 7 #[oR a, oR b] [(.ref wW), (.ref kd)])) XT2 hx rfl rfl rfl (pc0 := 7) (pc' := 25) (same := false) rfl (hb hby d12_7) rfl (decide_eq_false fun q => (c7_2) (Value.ref.inj q)) (by decide) (by decide) k_) ?_
    show own_Go p e below _ T2 (mkF m 25 #[oR a, oR b] [])
    refine own_by (fun t_ k_ => XT.iconstV XT2.here hx rfl (0 : Int32) (hb hby d12_25) (by decide) k_) ?_
    show own_Go p e below _ T2 (mkF m 26 #[oR a, oR b] [(.int (0 : Int32))])
    exact own_retN XT2 hx hlk hret (by simp) (w := (0 : Int32)) (hb hby d12_26) (by decide) (by decide) (by decide) (⟨by rw [own_is_0_2, if_neg c7_2], eT2, rfl⟩)
def own_le_1_0 (v1 : Addr) (v2 : Addr) (k1 k2 : ClassId) (x0 : Int32) : Int32 := (0 : Int32)
set_option maxRecDepth 65536 in
set_option maxHeartbeats 40000000 in
theorem own_le_1_0_met (l : Launch) (Z : State) (a0 : Array Value) (hw : ∀ d ∈ tables_1, d.before a0 Z = true) (v1 : Addr) (v2 : Addr) (k1 k2 : ClassId) (x0 : Int32) (h0 : Heap) (A1 : own_A Z h0 v1 .byte k1 [(.int x0)]) (A2 : own_A Z h0 v2 .byte k2 []) :
    own_Met l (⟨"java/lang/StringLatin1", "equals", "([B[B)Z"⟩ : MethodName) jdk_43_method_13_code 3 (some .boolean) [] ({ frames := 0, cells := 0, slots := 0, locals := 0 } : Room) Z #[(.ref v1), (.ref v2)] h0 (fun rv rh rL => rv = some (.int (own_le_1_0 v1 v2 k1 k2 x0)) ∧ rh = h0 ∧ rL = []) := by
  refine own_enter (plainFor_of_name pn_3) ?_
  intro p e s m below meth c T0 hx hby hml hret hlk hown hnm hZ X0 e0
  refine own_at (g' := (mkF m 0 #[oR v1, oR v2, .unset] [])) (by first | (simp [entryFrame, mkF, argsToLocals, Value.category]; done) | rfl) ?_
  show own_Go p e below _ T0 (mkF m 0 #[oR v1, oR v2, .unset] [])
  have K0 : Keep h0 h0 [] := Keep.refl h0 _
  have N0 : own_Fr h0.size h0.size [] := own_Fr.nil
  refine own_by (fun t_ k_ => XS.aloadN X0.here hx rfl (hb hby d14_0) rfl rfl  k_) ?_
  show own_Go p e below _ T0 (mkF m 1 #[oR v1, oR v2, .unset] [(.ref v1)])
  refine own_len X0 hx hZ e0 A1 (1 : Int32) rfl (hb hby d14_1) ?_
  show own_Go p e below _ T0 (mkF m 2 #[oR v1, oR v2, .unset] [(.int (1 : Int32))])
  refine own_by (fun t_ k_ => XS.aloadN X0.here hx rfl (hb hby d14_2) rfl rfl  k_) ?_
  show own_Go p e below _ T0 (mkF m 3 #[oR v1, oR v2, .unset] [(.ref v2), (.int (1 : Int32))])
  refine own_len X0 hx hZ e0 A2 (0 : Int32) rfl (hb hby d14_3) ?_
  show own_Go p e below _ T0 (mkF m 4 #[oR v1, oR v2, .unset] [(.int (0 : Int32)), (.int (1 : Int32))])
  refine own_by (fun t_ k_ => XS.icmpYes X0.here hx rfl (pc0 := 4) (pc' := 34) rfl (hb hby d14_4) rfl (XT.ii_ne_t (by decide)) (by decide) (by decide) k_) ?_
  show own_Go p e below _ T0 (mkF m 34 #[oR v1, oR v2, .unset] [])
  refine own_by (fun t_ k_ => XT.iconstV X0.here hx rfl (0 : Int32) (hb hby d14_34) (by decide) k_) ?_
  show own_Go p e below _ T0 (mkF m 35 #[oR v1, oR v2, .unset] [(.int (0 : Int32))])
  exact own_retN X0 hx hlk hret (by simp) (w := (0 : Int32)) (hb hby d14_35) (by decide) (by decide) (by decide) (⟨by rw [own_le_1_0], e0, rfl⟩)
def own_eq_1_0 (a : Addr) (b : Addr) (v1 v2 : Addr) (k1 k2 : ClassId) (x0 : Int32) : Int32 := (if (own_le_1_0 v1 v2 k1 k2 x0) = (0 : Int32) then (0 : Int32) else (1 : Int32))
set_option maxRecDepth 65536 in
set_option maxHeartbeats 40000000 in
theorem own_eq_1_0_met (l : Launch) (Z : State) (a0 : Array Value) (hw : ∀ d ∈ tables_1, d.before a0 Z = true) (a : Addr) (b : Addr) (v1 v2 : Addr) (k1 k2 : ClassId) (x0 : Int32) (h0 : Heap) (cs : Int32) (Cs : Sta Z h0 "java/lang/String" "COMPACT_STRINGS" "Z" (.int cs)) (hcs : ¬ cs = (0 : Int32)) (hne : a ≠ b) (E1 : Exa Z h0 a "java/lang/String") (V1 : Fld Z h0 a "java/lang/String" "value" "[B" (.ref v1)) (C1 : Fld Z h0 a "java/lang/String" "coder" "B" (.int 0)) (A1 : own_A Z h0 v1 .byte k1 [(.int x0)])(E2 : Exa Z h0 b "java/lang/String") (V2 : Fld Z h0 b "java/lang/String" "value" "[B" (.ref v2)) (C2 : Fld Z h0 b "java/lang/String" "coder" "B" (.int 0)) (A2 : own_A Z h0 v2 .byte k2 []) :
    own_Met l (⟨"java/lang/String", "equals", "(Ljava/lang/Object;)Z"⟩ : MethodName) jdk_42_method_66_code 3 (some .boolean) [] ({ frames := 1, cells := 0, slots := 0, locals := 14 } : Room) Z #[(.ref a), (.ref b)] h0 (fun rv rh rL => rv = some (.int (own_eq_1_0 a b v1 v2 k1 k2 x0)) ∧ rh = h0 ∧ rL = []) := by
  refine own_enter (plainFor_of_name pn_1) ?_
  intro p e s m below meth c T0 hx hby hml hret hlk hown hnm hZ X0 e0
  refine own_at (g' := (mkF m 0 #[oR a, oR b, .unset] [])) (by first | (simp [entryFrame, mkF, argsToLocals, Value.category]; done) | rfl) ?_
  show own_Go p e below _ T0 (mkF m 0 #[oR a, oR b, .unset] [])
  have K0 : Keep h0 h0 [] := Keep.refl h0 _
  have N0 : own_Fr h0.size h0.size [] := own_Fr.nil
  refine own_by (fun t_ k_ => XS.aloadN X0.here hx rfl (hb hby d13_0) rfl rfl  k_) ?_
  show own_Go p e below _ T0 (mkF m 1 #[oR a, oR b, .unset] [(.ref a)])
  refine own_by (fun t_ k_ => XS.aloadN X0.here hx rfl (hb hby d13_1) rfl rfl  k_) ?_
  show own_Go p e below _ T0 (mkF m 2 #[oR a, oR b, .unset] [(.ref b), (.ref a)])
  refine own_by (fun t_ k_ => Jvm.RoadKit.acmp (g := (mkF m 2 #[oR a, oR b, .unset] [(.ref b), (.ref a)])) X0 hx rfl rfl rfl (pc0 := 2) (pc' := 7) (same := false) rfl (hb hby d13_2) rfl (decide_eq_false fun q => (hne) (Value.ref.inj q)) (by decide) (by decide) k_) ?_
  show own_Go p e below _ T0 (mkF m 7 #[oR a, oR b, .unset] [])
  refine own_by (fun t_ k_ => XS.aloadN X0.here hx rfl (hb hby d13_7) rfl rfl  k_) ?_
  show own_Go p e below _ T0 (mkF m 8 #[oR a, oR b, .unset] [(.ref b)])
  refine own_inst X0 hx hZ hown (hw _ (List.mem_of_getElem? (i := 20) rfl)) e0 E2 (hb hby d13_8) ?_
  intro T1 XT1 eT1
  show own_Go p e below _ T1 (mkF m 11 #[oR a, oR b, .unset] [(.int (1 : Int32))])
  refine own_by (fun t_ k_ => XS.ifNo XT1.here hx rfl (hb hby d13_11) rfl (XT.i0_eq_f (by decide)) k_) ?_
  show own_Go p e below _ T1 (mkF m 14 #[oR a, oR b, .unset] [])
  refine own_by (fun t_ k_ => XS.aloadN XT1.here hx rfl (hb hby d13_14) rfl rfl  k_) ?_
  show own_Go p e below _ T1 (mkF m 15 #[oR a, oR b, .unset] [(.ref b)])
  refine own_cast XT1 hx hZ hown (hw _ (List.mem_of_getElem? (i := 20) rfl)) eT1 E2 (hb hby d13_15) ?_
  intro T2 XT2 eT2
  show own_Go p e below _ T2 (mkF m 18 #[oR a, oR b, .unset] [(.ref b)])
  refine own_by (fun t_ k_ => XS.astoreN XT2.here hx rfl (hb hby d13_18) rfl rfl (l' := #[oR a, oR b, oR b]) rfl k_) ?_
  show own_Go p e below _ T2 (mkF m 19 #[oR a, oR b, oR b] [])
  obtain ⟨T3, XT3, eT3, stT3⟩ := getS2 XT2 hx hZ hown (host := "") (Or.inl (hw _ (List.mem_of_getElem? (i := 15) rfl))) Via.refl eT2 Cs (g := (mkF m 19 #[oR a, oR b, oR b] [])) rfl (hb hby d13_19)
  refine own_by stT3 ?_
  show own_Go p e below _ T3 (mkF m 22 #[oR a, oR b, oR b] [(.int cs)])
  refine own_by (fun t_ k_ => XS.ifNo XT3.here hx rfl (hb hby d13_22) rfl (XT.i0_eq_f hcs) k_) ?_
  show own_Go p e below _ T3 (mkF m 25 #[oR a, oR b, oR b] [])
  refine own_by (fun t_ k_ => XS.aloadN XT3.here hx rfl (hb hby d13_25) rfl rfl  k_) ?_
  show own_Go p e below _ T3 (mkF m 26 #[oR a, oR b, oR b] [(.ref a)])
  refine own_getF XT3 hx hZ hown (hw _ (List.mem_of_getElem? (i := 35) rfl)) eT3 C1 (hb hby d13_26) ?_
  intro T4 XT4 eT4
  show own_Go p e below _ T4 (mkF m 29 #[oR a, oR b, oR b] [(.int (0 : Int32))])
  refine own_by (fun t_ k_ => XS.aloadN XT4.here hx rfl (hb hby d13_29) rfl rfl  k_) ?_
  show own_Go p e below _ T4 (mkF m 30 #[oR a, oR b, oR b] [(.ref b), (.int (0 : Int32))])
  refine own_getF XT4 hx hZ hown (hw _ (List.mem_of_getElem? (i := 35) rfl)) eT4 C2 (hb hby d13_30) ?_
  intro T5 XT5 eT5
  show own_Go p e below _ T5 (mkF m 33 #[oR a, oR b, oR b] [(.int (0 : Int32)), (.int (0 : Int32))])
  refine own_by (fun t_ k_ => XS.icmpNo XT5.here hx rfl (hb hby d13_33) rfl (XT.ii_ne_f (by decide)) k_) ?_
  show own_Go p e below _ T5 (mkF m 36 #[oR a, oR b, oR b] [])
  refine own_by (fun t_ k_ => XS.aloadN XT5.here hx rfl (hb hby d13_36) rfl rfl  k_) ?_
  show own_Go p e below _ T5 (mkF m 37 #[oR a, oR b, oR b] [(.ref a)])
  refine own_getF XT5 hx hZ hown (hw _ (List.mem_of_getElem? (i := 33) rfl)) eT5 V1 (hb hby d13_37) ?_
  intro T6 XT6 eT6
  show own_Go p e below _ T6 (mkF m 40 #[oR a, oR b, oR b] [(.ref v1)])
  refine own_by (fun t_ k_ => XS.aloadN XT6.here hx rfl (hb hby d13_40) rfl rfl  k_) ?_
  show own_Go p e below _ T6 (mkF m 41 #[oR a, oR b, oR b] [(.ref b), (.ref v1)])
  refine own_getF XT6 hx hZ hown (hw _ (List.mem_of_getElem? (i := 33) rfl)) eT6 V2 (hb hby d13_41) ?_
  intro T7 XT7 eT7
  show own_Go p e below _ T7 (mkF m 44 #[oR a, oR b, oR b] [(.ref v2), (.ref v1)])
  refine own_callS XT7 hx hZ hown (hw _ (List.mem_of_getElem? (i := 79) rfl)) (hw _ (List.mem_of_getElem? (i := 80) rfl)) (hw _ (List.mem_of_getElem? (i := 18) rfl)) (hw _ (List.mem_of_getElem? (i := 81) rfl)) (by decide) eT7 (argsL := [(.ref v1), (.ref v2)]) (rest := []) (own_le_1_0_met l Z a0 hw v1 v2 k1 k2 x0 h0 A1 A2) 0 (by decide) (by decide) (by rw [hml]; rfl) (lenOf pd_10 rfl) (Nat.le_of_eq rfl) (hb hby d13_44) (by decide) (by decide) (st := [(.ref v2), (.ref v1)]) rfl ?_
  intro T8 LT8 vT8 XT8 hQT8
  obtain ⟨rfl, eT8, rfl⟩ := hQT8
  show own_Go p e below _ T8 (mkF m 47 #[oR a, oR b, oR b] [(.int (own_le_1_0 v1 v2 k1 k2 x0))])
  have N9 := own_Fr.app N0 own_Fr.nil
  by_cases c47_9 : (own_le_1_0 v1 v2 k1 k2 x0) = (0 : Int32)
  · refine own_by (fun t_ k_ => XS.ifYes XT8.here hx rfl (pc0 := 47) (pc' := 54) rfl (hb hby d13_47) rfl (XT.i0_eq_t c47_9) (by decide) (by decide) k_) ?_
    show own_Go p e below _ T8 (mkF m 54 #[oR a, oR b, oR b] [])
    refine own_by (fun t_ k_ => XT.iconstV XT8.here hx rfl (0 : Int32) (hb hby d13_54) (by decide) k_) ?_
    show own_Go p e below _ T8 (mkF m 55 #[oR a, oR b, oR b] [(.int (0 : Int32))])
    exact own_retN XT8 hx hlk hret (by simp) (w := (0 : Int32)) (hb hby d13_55) (by decide) (by decide) (by decide) (⟨by rw [own_eq_1_0, if_pos c47_9], eT8, rfl⟩)
  · refine own_by (fun t_ k_ => XS.ifNo XT8.here hx rfl (hb hby d13_47) rfl (XT.i0_eq_f c47_9) k_) ?_
    show own_Go p e below _ T8 (mkF m 50 #[oR a, oR b, oR b] [])
    refine own_by (fun t_ k_ => XT.iconstV XT8.here hx rfl (1 : Int32) (hb hby d13_50) (by decide) k_) ?_
    show own_Go p e below _ T8 (mkF m 51 #[oR a, oR b, oR b] [(.int (1 : Int32))])
    refine own_by (fun t_ k_ => XS.goto XT8.here hx rfl (pc0 := 51) (pc' := 55) rfl (hb hby d13_51) (by decide) (by decide) k_) ?_
    show own_Go p e below _ T8 (mkF m 55 #[oR a, oR b, oR b] [(.int (1 : Int32))])
    exact own_retN XT8 hx hlk hret (by simp) (w := (1 : Int32)) (hb hby d13_55) (by decide) (by decide) (by decide) (⟨by rw [own_eq_1_0, if_neg c47_9], eT8, rfl⟩)
def own_is_1_0 (a : Addr) (b : Addr) (kd wW tx : Addr) (v1 v2 : Addr) (k1 k2 : ClassId) (x0 : Int32) : Int32 := (if kd = wW then (if (own_eq_1_0 tx b v1 v2 k1 k2 x0) = (0 : Int32) then (0 : Int32) else (1 : Int32)) else (0 : Int32))
set_option maxRecDepth 65536 in
set_option maxHeartbeats 40000000 in
theorem own_is_1_0_met (l : Launch) (Z : State) (a0 : Array Value) (hw : ∀ d ∈ tables_1, d.before a0 Z = true) (a : Addr) (b : Addr) (kd wW tx : Addr) (v1 v2 : Addr) (k1 k2 : ClassId) (x0 : Int32) (h0 : Heap) (cs : Int32) (Cs : Sta Z h0 "java/lang/String" "COMPACT_STRINGS" "Z" (.int cs)) (hcs : ¬ cs = (0 : Int32)) (hne : tx ≠ b) (SW : Sta Z h0 "com/example/nimble_gate/nimblegate/policy/Token$Kind" "WORD" "Lcom/example/nimble_gate/nimblegate/policy/Token$Kind;" (.ref wW)) (Fk : Fld Z h0 a "com/example/nimble_gate/nimblegate/policy/Token" "kind" "Lcom/example/nimble_gate/nimblegate/policy/Token$Kind;" (.ref kd)) (Ft : Fld Z h0 a "com/example/nimble_gate/nimblegate/policy/Token" "text" "Ljava/lang/String;" (.ref tx))(E1 : Exa Z h0 tx "java/lang/String") (V1 : Fld Z h0 tx "java/lang/String" "value" "[B" (.ref v1)) (C1 : Fld Z h0 tx "java/lang/String" "coder" "B" (.int 0)) (A1 : own_A Z h0 v1 .byte k1 [(.int x0)])(E2 : Exa Z h0 b "java/lang/String") (V2 : Fld Z h0 b "java/lang/String" "value" "[B" (.ref v2)) (C2 : Fld Z h0 b "java/lang/String" "coder" "B" (.int 0)) (A2 : own_A Z h0 v2 .byte k2 []) :
    own_Met l (⟨"com/example/nimble_gate/nimblegate/policy/Token", "isWord", "(Ljava/lang/String;)Z"⟩ : MethodName) prog_15_method_2_code 2 (some .boolean) [] ({ frames := 2, cells := 0, slots := 0, locals := 28 } : Room) Z #[(.ref a), (.ref b)] h0 (fun rv rh rL => rv = some (.int (own_is_1_0 a b kd wW tx v1 v2 k1 k2 x0)) ∧ rh = h0 ∧ rL = []) := by
  refine own_enter (plainFor_of_name pn_5) ?_
  intro p e s m below meth c T0 hx hby hml hret hlk hown hnm hZ X0 e0
  refine own_at (g' := (mkF m 0 #[oR a, oR b] [])) (by first | (simp [entryFrame, mkF, argsToLocals, Value.category]; done) | rfl) ?_
  show own_Go p e below _ T0 (mkF m 0 #[oR a, oR b] [])
  have K0 : Keep h0 h0 [] := Keep.refl h0 _
  have N0 : own_Fr h0.size h0.size [] := own_Fr.nil
  refine own_by (fun t_ k_ => XS.aloadN X0.here hx rfl (hb hby d12_0) rfl rfl  k_) ?_
  show own_Go p e below _ T0 (mkF m 1 #[oR a, oR b] [(.ref a)])
  refine own_getF X0 hx hZ hown (hw _ (List.mem_of_getElem? (i := 60) rfl)) e0 Fk (hb hby d12_1) ?_
  intro T1 XT1 eT1
  show own_Go p e below _ T1 (mkF m 4 #[oR a, oR b] [(.ref kd)])
  obtain ⟨T2, XT2, eT2, stT2⟩ := getS2 XT1 hx hZ hown (host := "") (Or.inl (hw _ (List.mem_of_getElem? (i := 73) rfl))) Via.refl eT1 SW (g := (mkF m 4 #[oR a, oR b] [(.ref kd)])) rfl (hb hby d12_4)
  refine own_by stT2 ?_
  show own_Go p e below _ T2 (mkF m 7 #[oR a, oR b] [(.ref wW), (.ref kd)])
  by_cases c7_2 : kd = wW
  · refine own_by (fun t_ k_ => Jvm.RoadKit.acmp (g := (mkF m 7 #[oR a, oR b] [(.ref wW), (.ref kd)])) XT2 hx rfl rfl rfl (pc0 := 7) (pc' := 10) (same := true) rfl (hb hby d12_7) rfl (decide_eq_true (congrArg Value.ref (c7_2))) (by decide) (by decide) k_) ?_
    show own_Go p e below _ T2 (mkF m 10 #[oR a, oR b] [])
    refine own_by (fun t_ k_ => XS.aloadN XT2.here hx rfl (hb hby d12_10) rfl rfl  k_) ?_
    show own_Go p e below _ T2 (mkF m 11 #[oR a, oR b] [(.ref a)])
    refine own_getF XT2 hx hZ hown (hw _ (List.mem_of_getElem? (i := 62) rfl)) eT2 Ft (hb hby d12_11) ?_
    intro T4 XT4 eT4
    show own_Go p e below _ T4 (mkF m 14 #[oR a, oR b] [(.ref tx)])
    refine own_by (fun t_ k_ => XS.aloadN XT4.here hx rfl (hb hby d12_14) rfl rfl  k_) ?_
    show own_Go p e below _ T4 (mkF m 15 #[oR a, oR b] [(.ref b), (.ref tx)])
    refine own_callV XT4 hx hZ hown (hw _ (List.mem_of_getElem? (i := 74) rfl)) (hw _ (List.mem_of_getElem? (i := 75) rfl)) (hw _ (List.mem_of_getElem? (i := 77) rfl)) (hw _ (List.mem_of_getElem? (i := 76) rfl)) (hw _ (List.mem_of_getElem? (i := 78) rfl)) (hw _ (List.mem_of_getElem? (i := 13) rfl)) (by decide) eT4 (b := tx) E1 (argsL := [(.ref b)]) (rest := []) (own_eq_1_0_met l Z a0 hw tx b v1 v2 k1 k2 x0 h0 cs Cs hcs hne E1 V1 C1 A1 E2 V2 C2 A2) 0 (by decide) (by decide) (by rw [hml]; rfl) (lenOf pd_11 rfl) (Nat.le_of_eq rfl) (hb hby d12_15) (by decide) (by decide) (st := [(.ref b), (.ref tx)]) rfl ?_
    intro T5 LT5 vT5 XT5 hQT5
    obtain ⟨rfl, eT5, rfl⟩ := hQT5
    show own_Go p e below _ T5 (mkF m 18 #[oR a, oR b] [(.int (own_eq_1_0 tx b v1 v2 k1 k2 x0))])
    have N6 := own_Fr.app N0 own_Fr.nil
    by_cases c18_6 : (own_eq_1_0 tx b v1 v2 k1 k2 x0) = (0 : Int32)
    · refine own_by (fun t_ k_ => XS.ifYes XT5.here hx rfl (pc0 := 18) (pc' := 25) rfl (hb hby d12_18) rfl (XT.i0_eq_t c18_6) (by decide) (by decide) k_) ?_
      show own_Go p e below _ T5 (mkF m 25 #[oR a, oR b] [])
      refine own_by (fun t_ k_ => XT.iconstV XT5.here hx rfl (0 : Int32) (hb hby d12_25) (by decide) k_) ?_
      show own_Go p e below _ T5 (mkF m 26 #[oR a, oR b] [(.int (0 : Int32))])
      exact own_retN XT5 hx hlk hret (by simp) (w := (0 : Int32)) (hb hby d12_26) (by decide) (by decide) (by decide) (⟨by rw [own_is_1_0, if_pos c7_2, if_pos c18_6], eT5, rfl⟩)
    · refine own_by (fun t_ k_ => XS.ifNo XT5.here hx rfl (hb hby d12_18) rfl (XT.i0_eq_f c18_6) k_) ?_
      show own_Go p e below _ T5 (mkF m 21 #[oR a, oR b] [])
      refine own_by (fun t_ k_ => XT.iconstV XT5.here hx rfl (1 : Int32) (hb hby d12_21) (by decide) k_) ?_
      show own_Go p e below _ T5 (mkF m 22 #[oR a, oR b] [(.int (1 : Int32))])
      refine own_by (fun t_ k_ => XS.goto XT5.here hx rfl (pc0 := 22) (pc' := 26) rfl (hb hby d12_22) (by decide) (by decide) k_) ?_
      show own_Go p e below _ T5 (mkF m 26 #[oR a, oR b] [(.int (1 : Int32))])
      exact own_retN XT5 hx hlk hret (by simp) (w := (1 : Int32)) (hb hby d12_26) (by decide) (by decide) (by decide) (⟨by rw [own_is_1_0, if_pos c7_2, if_neg c18_6], eT5, rfl⟩)
  · refine own_by (fun t_ k_ => Jvm.RoadKit.acmp (g := (mkF m 7 #[oR a, oR b] [(.ref wW), (.ref kd)])) XT2 hx rfl rfl rfl (pc0 := 7) (pc' := 25) (same := false) rfl (hb hby d12_7) rfl (decide_eq_false fun q => (c7_2) (Value.ref.inj q)) (by decide) (by decide) k_) ?_
    show own_Go p e below _ T2 (mkF m 25 #[oR a, oR b] [])
    refine own_by (fun t_ k_ => XT.iconstV XT2.here hx rfl (0 : Int32) (hb hby d12_25) (by decide) k_) ?_
    show own_Go p e below _ T2 (mkF m 26 #[oR a, oR b] [(.int (0 : Int32))])
    exact own_retN XT2 hx hlk hret (by simp) (w := (0 : Int32)) (hb hby d12_26) (by decide) (by decide) (by decide) (⟨by rw [own_is_1_0, if_neg c7_2], eT2, rfl⟩)
def own_le_1_1 (v1 : Addr) (v2 : Addr) (k1 k2 : ClassId) (x0 y0 : Int32) : Int32 := (if x0 = y0 then (1 : Int32) else (0 : Int32))
theorem d14_15 : decode jdk_43_method_13_code 15 = .ok (.aload_n 0, 1) := by decide +kernel
theorem d14_16 : decode jdk_43_method_13_code 16 = .ok (.iload_n 2, 1) := by decide +kernel
theorem d14_17 : decode jdk_43_method_13_code 17 = .ok (.baload, 1) := by decide +kernel
theorem d14_18 : decode jdk_43_method_13_code 18 = .ok (.aload_n 1, 1) := by decide +kernel
theorem d14_19 : decode jdk_43_method_13_code 19 = .ok (.iload_n 2, 1) := by decide +kernel
theorem d14_20 : decode jdk_43_method_13_code 20 = .ok (.baload, 1) := by decide +kernel
theorem d14_21 : decode jdk_43_method_13_code 21 = .ok (.if_icmp .eq 5, 3) := by decide +kernel
theorem d14_26 : decode jdk_43_method_13_code 26 = .ok (.iinc 2 1, 3) := by decide +kernel
theorem d14_29 : decode jdk_43_method_13_code 29 = .ok (.goto (-20), 3) := by decide +kernel
theorem d14_24 : decode jdk_43_method_13_code 24 = .ok (.iconst 0, 1) := by decide +kernel
theorem d14_25 : decode jdk_43_method_13_code 25 = .ok (.ireturn, 1) := by decide +kernel
set_option maxRecDepth 65536 in
set_option maxHeartbeats 40000000 in
theorem own_le_1_1_met (l : Launch) (Z : State) (a0 : Array Value) (hw : ∀ d ∈ tables_1, d.before a0 Z = true) (v1 : Addr) (v2 : Addr) (k1 k2 : ClassId) (x0 y0 : Int32) (h0 : Heap) (A1 : own_A Z h0 v1 .byte k1 [(.int x0)]) (A2 : own_A Z h0 v2 .byte k2 [(.int y0)]) :
    own_Met l (⟨"java/lang/StringLatin1", "equals", "([B[B)Z"⟩ : MethodName) jdk_43_method_13_code 3 (some .boolean) [] ({ frames := 0, cells := 0, slots := 0, locals := 0 } : Room) Z #[(.ref v1), (.ref v2)] h0 (fun rv rh rL => rv = some (.int (own_le_1_1 v1 v2 k1 k2 x0 y0)) ∧ rh = h0 ∧ rL = []) := by
  refine own_enter (plainFor_of_name pn_3) ?_
  intro p e s m below meth c T0 hx hby hml hret hlk hown hnm hZ X0 e0
  refine own_at (g' := (mkF m 0 #[oR v1, oR v2, .unset] [])) (by first | (simp [entryFrame, mkF, argsToLocals, Value.category]; done) | rfl) ?_
  show own_Go p e below _ T0 (mkF m 0 #[oR v1, oR v2, .unset] [])
  have K0 : Keep h0 h0 [] := Keep.refl h0 _
  have N0 : own_Fr h0.size h0.size [] := own_Fr.nil
  refine own_by (fun t_ k_ => XS.aloadN X0.here hx rfl (hb hby d14_0) rfl rfl  k_) ?_
  show own_Go p e below _ T0 (mkF m 1 #[oR v1, oR v2, .unset] [(.ref v1)])
  refine own_len X0 hx hZ e0 A1 (1 : Int32) rfl (hb hby d14_1) ?_
  show own_Go p e below _ T0 (mkF m 2 #[oR v1, oR v2, .unset] [(.int (1 : Int32))])
  refine own_by (fun t_ k_ => XS.aloadN X0.here hx rfl (hb hby d14_2) rfl rfl  k_) ?_
  show own_Go p e below _ T0 (mkF m 3 #[oR v1, oR v2, .unset] [(.ref v2), (.int (1 : Int32))])
  refine own_len X0 hx hZ e0 A2 (1 : Int32) rfl (hb hby d14_3) ?_
  show own_Go p e below _ T0 (mkF m 4 #[oR v1, oR v2, .unset] [(.int (1 : Int32)), (.int (1 : Int32))])
  refine own_by (fun t_ k_ => XS.icmpNo X0.here hx rfl (hb hby d14_4) rfl (XT.ii_ne_f (by decide)) k_) ?_
  show own_Go p e below _ T0 (mkF m 7 #[oR v1, oR v2, .unset] [])
  refine own_by (fun t_ k_ => XT.iconstV X0.here hx rfl (0 : Int32) (hb hby d14_7) (by decide) k_) ?_
  show own_Go p e below _ T0 (mkF m 8 #[oR v1, oR v2, .unset] [(.int (0 : Int32))])
  refine own_by (fun t_ k_ => XS.istoreN X0.here hx rfl (hb hby d14_8) rfl (l' := #[oR v1, oR v2, oI (0 : Int32)]) rfl k_) ?_
  show own_Go p e below _ T0 (mkF m 9 #[oR v1, oR v2, oI (0 : Int32)] [])
  refine own_by (fun t_ k_ => XS.iloadN X0.here hx rfl (hb hby d14_9) rfl  k_) ?_
  show own_Go p e below _ T0 (mkF m 10 #[oR v1, oR v2, oI (0 : Int32)] [(.int (0 : Int32))])
  refine own_by (fun t_ k_ => XS.aloadN X0.here hx rfl (hb hby d14_10) rfl rfl  k_) ?_
  show own_Go p e below _ T0 (mkF m 11 #[oR v1, oR v2, oI (0 : Int32)] [(.ref v1), (.int (0 : Int32))])
  refine own_len X0 hx hZ e0 A1 (1 : Int32) rfl (hb hby d14_11) ?_
  show own_Go p e below _ T0 (mkF m 12 #[oR v1, oR v2, oI (0 : Int32)] [(.int (1 : Int32)), (.int (0 : Int32))])
  refine own_by (fun t_ k_ => XS.icmpNo X0.here hx rfl (hb hby d14_12) rfl (XT.ii_ge_f (by decide)) k_) ?_
  show own_Go p e below _ T0 (mkF m 15 #[oR v1, oR v2, oI (0 : Int32)] [])
  refine own_by (fun t_ k_ => XS.aloadN X0.here hx rfl (hb hby d14_15) rfl rfl  k_) ?_
  show own_Go p e below _ T0 (mkF m 16 #[oR v1, oR v2, oI (0 : Int32)] [(.ref v1)])
  refine own_by (fun t_ k_ => XS.iloadN X0.here hx rfl (hb hby d14_16) rfl  k_) ?_
  show own_Go p e below _ T0 (mkF m 17 #[oR v1, oR v2, oI (0 : Int32)] [(.int (0 : Int32)), (.ref v1)])
  refine own_ldB X0 hx hZ e0 A1 0 (by decide) (by decide) (v := (.int x0)) rfl (hb hby d14_17) ?_
  show own_Go p e below _ T0 (mkF m 18 #[oR v1, oR v2, oI (0 : Int32)] [(.int x0)])
  refine own_by (fun t_ k_ => XS.aloadN X0.here hx rfl (hb hby d14_18) rfl rfl  k_) ?_
  show own_Go p e below _ T0 (mkF m 19 #[oR v1, oR v2, oI (0 : Int32)] [(.ref v2), (.int x0)])
  refine own_by (fun t_ k_ => XS.iloadN X0.here hx rfl (hb hby d14_19) rfl  k_) ?_
  show own_Go p e below _ T0 (mkF m 20 #[oR v1, oR v2, oI (0 : Int32)] [(.int (0 : Int32)), (.ref v2), (.int x0)])
  refine own_ldB X0 hx hZ e0 A2 0 (by decide) (by decide) (v := (.int y0)) rfl (hb hby d14_20) ?_
  show own_Go p e below _ T0 (mkF m 21 #[oR v1, oR v2, oI (0 : Int32)] [(.int y0), (.int x0)])
  by_cases c21_0 : x0 = y0
  · refine own_by (fun t_ k_ => XS.icmpYes X0.here hx rfl (pc0 := 21) (pc' := 26) rfl (hb hby d14_21) rfl (XT.ii_eq_t c21_0) (by decide) (by decide) k_) ?_
    show own_Go p e below _ T0 (mkF m 26 #[oR v1, oR v2, oI (0 : Int32)] [])
    refine own_by (fun t_ k_ => XT.iincV X0.here hx rfl (1 : Int32) (hb hby d14_26) (by decide) rfl (l' := #[oR v1, oR v2, oI ((0 : Int32) + (1 : Int32))]) rfl k_) ?_
    show own_Go p e below _ T0 (mkF m 29 #[oR v1, oR v2, oI ((0 : Int32) + (1 : Int32))] [])
    rw [show ((0 : Int32) + (1 : Int32)) = (1 : Int32) by decide]
    show own_Go p e below _ T0 (mkF m 29 #[oR v1, oR v2, oI (1 : Int32)] [])
    refine own_by (fun t_ k_ => XS.goto X0.here hx rfl (pc0 := 29) (pc' := 9) rfl (hb hby d14_29) (by decide) (by decide) k_) ?_
    show own_Go p e below _ T0 (mkF m 9 #[oR v1, oR v2, oI (1 : Int32)] [])
    refine own_by (fun t_ k_ => XS.iloadN X0.here hx rfl (hb hby d14_9) rfl  k_) ?_
    show own_Go p e below _ T0 (mkF m 10 #[oR v1, oR v2, oI (1 : Int32)] [(.int (1 : Int32))])
    refine own_by (fun t_ k_ => XS.aloadN X0.here hx rfl (hb hby d14_10) rfl rfl  k_) ?_
    show own_Go p e below _ T0 (mkF m 11 #[oR v1, oR v2, oI (1 : Int32)] [(.ref v1), (.int (1 : Int32))])
    refine own_len X0 hx hZ e0 A1 (1 : Int32) rfl (hb hby d14_11) ?_
    show own_Go p e below _ T0 (mkF m 12 #[oR v1, oR v2, oI (1 : Int32)] [(.int (1 : Int32)), (.int (1 : Int32))])
    refine own_by (fun t_ k_ => XS.icmpYes X0.here hx rfl (pc0 := 12) (pc' := 32) rfl (hb hby d14_12) rfl (XT.ii_ge_t (by decide)) (by decide) (by decide) k_) ?_
    show own_Go p e below _ T0 (mkF m 32 #[oR v1, oR v2, oI (1 : Int32)] [])
    refine own_by (fun t_ k_ => XT.iconstV X0.here hx rfl (1 : Int32) (hb hby d14_32) (by decide) k_) ?_
    show own_Go p e below _ T0 (mkF m 33 #[oR v1, oR v2, oI (1 : Int32)] [(.int (1 : Int32))])
    exact own_retN X0 hx hlk hret (by simp) (w := (1 : Int32)) (hb hby d14_33) (by decide) (by decide) (by decide) (⟨by rw [own_le_1_1, if_pos c21_0], e0, rfl⟩)
  · refine own_by (fun t_ k_ => XS.icmpNo X0.here hx rfl (hb hby d14_21) rfl (XT.ii_eq_f c21_0) k_) ?_
    show own_Go p e below _ T0 (mkF m 24 #[oR v1, oR v2, oI (0 : Int32)] [])
    refine own_by (fun t_ k_ => XT.iconstV X0.here hx rfl (0 : Int32) (hb hby d14_24) (by decide) k_) ?_
    show own_Go p e below _ T0 (mkF m 25 #[oR v1, oR v2, oI (0 : Int32)] [(.int (0 : Int32))])
    exact own_retN X0 hx hlk hret (by simp) (w := (0 : Int32)) (hb hby d14_25) (by decide) (by decide) (by decide) (⟨by rw [own_le_1_1, if_neg c21_0], e0, rfl⟩)
def own_eq_1_1 (a : Addr) (b : Addr) (v1 v2 : Addr) (k1 k2 : ClassId) (x0 y0 : Int32) : Int32 := (if (own_le_1_1 v1 v2 k1 k2 x0 y0) = (0 : Int32) then (0 : Int32) else (1 : Int32))
set_option maxRecDepth 65536 in
set_option maxHeartbeats 40000000 in
theorem own_eq_1_1_met (l : Launch) (Z : State) (a0 : Array Value) (hw : ∀ d ∈ tables_1, d.before a0 Z = true) (a : Addr) (b : Addr) (v1 v2 : Addr) (k1 k2 : ClassId) (x0 y0 : Int32) (h0 : Heap) (cs : Int32) (Cs : Sta Z h0 "java/lang/String" "COMPACT_STRINGS" "Z" (.int cs)) (hcs : ¬ cs = (0 : Int32)) (hne : a ≠ b) (E1 : Exa Z h0 a "java/lang/String") (V1 : Fld Z h0 a "java/lang/String" "value" "[B" (.ref v1)) (C1 : Fld Z h0 a "java/lang/String" "coder" "B" (.int 0)) (A1 : own_A Z h0 v1 .byte k1 [(.int x0)])(E2 : Exa Z h0 b "java/lang/String") (V2 : Fld Z h0 b "java/lang/String" "value" "[B" (.ref v2)) (C2 : Fld Z h0 b "java/lang/String" "coder" "B" (.int 0)) (A2 : own_A Z h0 v2 .byte k2 [(.int y0)]) :
    own_Met l (⟨"java/lang/String", "equals", "(Ljava/lang/Object;)Z"⟩ : MethodName) jdk_42_method_66_code 3 (some .boolean) [] ({ frames := 1, cells := 0, slots := 0, locals := 14 } : Room) Z #[(.ref a), (.ref b)] h0 (fun rv rh rL => rv = some (.int (own_eq_1_1 a b v1 v2 k1 k2 x0 y0)) ∧ rh = h0 ∧ rL = []) := by
  refine own_enter (plainFor_of_name pn_1) ?_
  intro p e s m below meth c T0 hx hby hml hret hlk hown hnm hZ X0 e0
  refine own_at (g' := (mkF m 0 #[oR a, oR b, .unset] [])) (by first | (simp [entryFrame, mkF, argsToLocals, Value.category]; done) | rfl) ?_
  show own_Go p e below _ T0 (mkF m 0 #[oR a, oR b, .unset] [])
  have K0 : Keep h0 h0 [] := Keep.refl h0 _
  have N0 : own_Fr h0.size h0.size [] := own_Fr.nil
  refine own_by (fun t_ k_ => XS.aloadN X0.here hx rfl (hb hby d13_0) rfl rfl  k_) ?_
  show own_Go p e below _ T0 (mkF m 1 #[oR a, oR b, .unset] [(.ref a)])
  refine own_by (fun t_ k_ => XS.aloadN X0.here hx rfl (hb hby d13_1) rfl rfl  k_) ?_
  show own_Go p e below _ T0 (mkF m 2 #[oR a, oR b, .unset] [(.ref b), (.ref a)])
  refine own_by (fun t_ k_ => Jvm.RoadKit.acmp (g := (mkF m 2 #[oR a, oR b, .unset] [(.ref b), (.ref a)])) X0 hx rfl rfl rfl (pc0 := 2) (pc' := 7) (same := false) rfl (hb hby d13_2) rfl (decide_eq_false fun q => (hne) (Value.ref.inj q)) (by decide) (by decide) k_) ?_
  show own_Go p e below _ T0 (mkF m 7 #[oR a, oR b, .unset] [])
  refine own_by (fun t_ k_ => XS.aloadN X0.here hx rfl (hb hby d13_7) rfl rfl  k_) ?_
  show own_Go p e below _ T0 (mkF m 8 #[oR a, oR b, .unset] [(.ref b)])
  refine own_inst X0 hx hZ hown (hw _ (List.mem_of_getElem? (i := 20) rfl)) e0 E2 (hb hby d13_8) ?_
  intro T1 XT1 eT1
  show own_Go p e below _ T1 (mkF m 11 #[oR a, oR b, .unset] [(.int (1 : Int32))])
  refine own_by (fun t_ k_ => XS.ifNo XT1.here hx rfl (hb hby d13_11) rfl (XT.i0_eq_f (by decide)) k_) ?_
  show own_Go p e below _ T1 (mkF m 14 #[oR a, oR b, .unset] [])
  refine own_by (fun t_ k_ => XS.aloadN XT1.here hx rfl (hb hby d13_14) rfl rfl  k_) ?_
  show own_Go p e below _ T1 (mkF m 15 #[oR a, oR b, .unset] [(.ref b)])
  refine own_cast XT1 hx hZ hown (hw _ (List.mem_of_getElem? (i := 20) rfl)) eT1 E2 (hb hby d13_15) ?_
  intro T2 XT2 eT2
  show own_Go p e below _ T2 (mkF m 18 #[oR a, oR b, .unset] [(.ref b)])
  refine own_by (fun t_ k_ => XS.astoreN XT2.here hx rfl (hb hby d13_18) rfl rfl (l' := #[oR a, oR b, oR b]) rfl k_) ?_
  show own_Go p e below _ T2 (mkF m 19 #[oR a, oR b, oR b] [])
  obtain ⟨T3, XT3, eT3, stT3⟩ := getS2 XT2 hx hZ hown (host := "") (Or.inl (hw _ (List.mem_of_getElem? (i := 15) rfl))) Via.refl eT2 Cs (g := (mkF m 19 #[oR a, oR b, oR b] [])) rfl (hb hby d13_19)
  refine own_by stT3 ?_
  show own_Go p e below _ T3 (mkF m 22 #[oR a, oR b, oR b] [(.int cs)])
  refine own_by (fun t_ k_ => XS.ifNo XT3.here hx rfl (hb hby d13_22) rfl (XT.i0_eq_f hcs) k_) ?_
  show own_Go p e below _ T3 (mkF m 25 #[oR a, oR b, oR b] [])
  refine own_by (fun t_ k_ => XS.aloadN XT3.here hx rfl (hb hby d13_25) rfl rfl  k_) ?_
  show own_Go p e below _ T3 (mkF m 26 #[oR a, oR b, oR b] [(.ref a)])
  refine own_getF XT3 hx hZ hown (hw _ (List.mem_of_getElem? (i := 35) rfl)) eT3 C1 (hb hby d13_26) ?_
  intro T4 XT4 eT4
  show own_Go p e below _ T4 (mkF m 29 #[oR a, oR b, oR b] [(.int (0 : Int32))])
  refine own_by (fun t_ k_ => XS.aloadN XT4.here hx rfl (hb hby d13_29) rfl rfl  k_) ?_
  show own_Go p e below _ T4 (mkF m 30 #[oR a, oR b, oR b] [(.ref b), (.int (0 : Int32))])
  refine own_getF XT4 hx hZ hown (hw _ (List.mem_of_getElem? (i := 35) rfl)) eT4 C2 (hb hby d13_30) ?_
  intro T5 XT5 eT5
  show own_Go p e below _ T5 (mkF m 33 #[oR a, oR b, oR b] [(.int (0 : Int32)), (.int (0 : Int32))])
  refine own_by (fun t_ k_ => XS.icmpNo XT5.here hx rfl (hb hby d13_33) rfl (XT.ii_ne_f (by decide)) k_) ?_
  show own_Go p e below _ T5 (mkF m 36 #[oR a, oR b, oR b] [])
  refine own_by (fun t_ k_ => XS.aloadN XT5.here hx rfl (hb hby d13_36) rfl rfl  k_) ?_
  show own_Go p e below _ T5 (mkF m 37 #[oR a, oR b, oR b] [(.ref a)])
  refine own_getF XT5 hx hZ hown (hw _ (List.mem_of_getElem? (i := 33) rfl)) eT5 V1 (hb hby d13_37) ?_
  intro T6 XT6 eT6
  show own_Go p e below _ T6 (mkF m 40 #[oR a, oR b, oR b] [(.ref v1)])
  refine own_by (fun t_ k_ => XS.aloadN XT6.here hx rfl (hb hby d13_40) rfl rfl  k_) ?_
  show own_Go p e below _ T6 (mkF m 41 #[oR a, oR b, oR b] [(.ref b), (.ref v1)])
  refine own_getF XT6 hx hZ hown (hw _ (List.mem_of_getElem? (i := 33) rfl)) eT6 V2 (hb hby d13_41) ?_
  intro T7 XT7 eT7
  show own_Go p e below _ T7 (mkF m 44 #[oR a, oR b, oR b] [(.ref v2), (.ref v1)])
  refine own_callS XT7 hx hZ hown (hw _ (List.mem_of_getElem? (i := 79) rfl)) (hw _ (List.mem_of_getElem? (i := 80) rfl)) (hw _ (List.mem_of_getElem? (i := 18) rfl)) (hw _ (List.mem_of_getElem? (i := 81) rfl)) (by decide) eT7 (argsL := [(.ref v1), (.ref v2)]) (rest := []) (own_le_1_1_met l Z a0 hw v1 v2 k1 k2 x0 y0 h0 A1 A2) 0 (by decide) (by decide) (by rw [hml]; rfl) (lenOf pd_10 rfl) (Nat.le_of_eq rfl) (hb hby d13_44) (by decide) (by decide) (st := [(.ref v2), (.ref v1)]) rfl ?_
  intro T8 LT8 vT8 XT8 hQT8
  obtain ⟨rfl, eT8, rfl⟩ := hQT8
  show own_Go p e below _ T8 (mkF m 47 #[oR a, oR b, oR b] [(.int (own_le_1_1 v1 v2 k1 k2 x0 y0))])
  have N9 := own_Fr.app N0 own_Fr.nil
  by_cases c47_9 : (own_le_1_1 v1 v2 k1 k2 x0 y0) = (0 : Int32)
  · refine own_by (fun t_ k_ => XS.ifYes XT8.here hx rfl (pc0 := 47) (pc' := 54) rfl (hb hby d13_47) rfl (XT.i0_eq_t c47_9) (by decide) (by decide) k_) ?_
    show own_Go p e below _ T8 (mkF m 54 #[oR a, oR b, oR b] [])
    refine own_by (fun t_ k_ => XT.iconstV XT8.here hx rfl (0 : Int32) (hb hby d13_54) (by decide) k_) ?_
    show own_Go p e below _ T8 (mkF m 55 #[oR a, oR b, oR b] [(.int (0 : Int32))])
    exact own_retN XT8 hx hlk hret (by simp) (w := (0 : Int32)) (hb hby d13_55) (by decide) (by decide) (by decide) (⟨by rw [own_eq_1_1, if_pos c47_9], eT8, rfl⟩)
  · refine own_by (fun t_ k_ => XS.ifNo XT8.here hx rfl (hb hby d13_47) rfl (XT.i0_eq_f c47_9) k_) ?_
    show own_Go p e below _ T8 (mkF m 50 #[oR a, oR b, oR b] [])
    refine own_by (fun t_ k_ => XT.iconstV XT8.here hx rfl (1 : Int32) (hb hby d13_50) (by decide) k_) ?_
    show own_Go p e below _ T8 (mkF m 51 #[oR a, oR b, oR b] [(.int (1 : Int32))])
    refine own_by (fun t_ k_ => XS.goto XT8.here hx rfl (pc0 := 51) (pc' := 55) rfl (hb hby d13_51) (by decide) (by decide) k_) ?_
    show own_Go p e below _ T8 (mkF m 55 #[oR a, oR b, oR b] [(.int (1 : Int32))])
    exact own_retN XT8 hx hlk hret (by simp) (w := (1 : Int32)) (hb hby d13_55) (by decide) (by decide) (by decide) (⟨by rw [own_eq_1_1, if_neg c47_9], eT8, rfl⟩)
def own_is_1_1 (a : Addr) (b : Addr) (kd wW tx : Addr) (v1 v2 : Addr) (k1 k2 : ClassId) (x0 y0 : Int32) : Int32 := (if kd = wW then (if (own_eq_1_1 tx b v1 v2 k1 k2 x0 y0) = (0 : Int32) then (0 : Int32) else (1 : Int32)) else (0 : Int32))
set_option maxRecDepth 65536 in
set_option maxHeartbeats 40000000 in
theorem own_is_1_1_met (l : Launch) (Z : State) (a0 : Array Value) (hw : ∀ d ∈ tables_1, d.before a0 Z = true) (a : Addr) (b : Addr) (kd wW tx : Addr) (v1 v2 : Addr) (k1 k2 : ClassId) (x0 y0 : Int32) (h0 : Heap) (cs : Int32) (Cs : Sta Z h0 "java/lang/String" "COMPACT_STRINGS" "Z" (.int cs)) (hcs : ¬ cs = (0 : Int32)) (hne : tx ≠ b) (SW : Sta Z h0 "com/example/nimble_gate/nimblegate/policy/Token$Kind" "WORD" "Lcom/example/nimble_gate/nimblegate/policy/Token$Kind;" (.ref wW)) (Fk : Fld Z h0 a "com/example/nimble_gate/nimblegate/policy/Token" "kind" "Lcom/example/nimble_gate/nimblegate/policy/Token$Kind;" (.ref kd)) (Ft : Fld Z h0 a "com/example/nimble_gate/nimblegate/policy/Token" "text" "Ljava/lang/String;" (.ref tx))(E1 : Exa Z h0 tx "java/lang/String") (V1 : Fld Z h0 tx "java/lang/String" "value" "[B" (.ref v1)) (C1 : Fld Z h0 tx "java/lang/String" "coder" "B" (.int 0)) (A1 : own_A Z h0 v1 .byte k1 [(.int x0)])(E2 : Exa Z h0 b "java/lang/String") (V2 : Fld Z h0 b "java/lang/String" "value" "[B" (.ref v2)) (C2 : Fld Z h0 b "java/lang/String" "coder" "B" (.int 0)) (A2 : own_A Z h0 v2 .byte k2 [(.int y0)]) :
    own_Met l (⟨"com/example/nimble_gate/nimblegate/policy/Token", "isWord", "(Ljava/lang/String;)Z"⟩ : MethodName) prog_15_method_2_code 2 (some .boolean) [] ({ frames := 2, cells := 0, slots := 0, locals := 28 } : Room) Z #[(.ref a), (.ref b)] h0 (fun rv rh rL => rv = some (.int (own_is_1_1 a b kd wW tx v1 v2 k1 k2 x0 y0)) ∧ rh = h0 ∧ rL = []) := by
  refine own_enter (plainFor_of_name pn_5) ?_
  intro p e s m below meth c T0 hx hby hml hret hlk hown hnm hZ X0 e0
  refine own_at (g' := (mkF m 0 #[oR a, oR b] [])) (by first | (simp [entryFrame, mkF, argsToLocals, Value.category]; done) | rfl) ?_
  show own_Go p e below _ T0 (mkF m 0 #[oR a, oR b] [])
  have K0 : Keep h0 h0 [] := Keep.refl h0 _
  have N0 : own_Fr h0.size h0.size [] := own_Fr.nil
  refine own_by (fun t_ k_ => XS.aloadN X0.here hx rfl (hb hby d12_0) rfl rfl  k_) ?_
  show own_Go p e below _ T0 (mkF m 1 #[oR a, oR b] [(.ref a)])
  refine own_getF X0 hx hZ hown (hw _ (List.mem_of_getElem? (i := 60) rfl)) e0 Fk (hb hby d12_1) ?_
  intro T1 XT1 eT1
  show own_Go p e below _ T1 (mkF m 4 #[oR a, oR b] [(.ref kd)])
  obtain ⟨T2, XT2, eT2, stT2⟩ := getS2 XT1 hx hZ hown (host := "") (Or.inl (hw _ (List.mem_of_getElem? (i := 73) rfl))) Via.refl eT1 SW (g := (mkF m 4 #[oR a, oR b] [(.ref kd)])) rfl (hb hby d12_4)
  refine own_by stT2 ?_
  show own_Go p e below _ T2 (mkF m 7 #[oR a, oR b] [(.ref wW), (.ref kd)])
  by_cases c7_2 : kd = wW
  · refine own_by (fun t_ k_ => Jvm.RoadKit.acmp (g := (mkF m 7 #[oR a, oR b] [(.ref wW), (.ref kd)])) XT2 hx rfl rfl rfl (pc0 := 7) (pc' := 10) (same := true) rfl (hb hby d12_7) rfl (decide_eq_true (congrArg Value.ref (c7_2))) (by decide) (by decide) k_) ?_
    show own_Go p e below _ T2 (mkF m 10 #[oR a, oR b] [])
    refine own_by (fun t_ k_ => XS.aloadN XT2.here hx rfl (hb hby d12_10) rfl rfl  k_) ?_
    show own_Go p e below _ T2 (mkF m 11 #[oR a, oR b] [(.ref a)])
    refine own_getF XT2 hx hZ hown (hw _ (List.mem_of_getElem? (i := 62) rfl)) eT2 Ft (hb hby d12_11) ?_
    intro T4 XT4 eT4
    show own_Go p e below _ T4 (mkF m 14 #[oR a, oR b] [(.ref tx)])
    refine own_by (fun t_ k_ => XS.aloadN XT4.here hx rfl (hb hby d12_14) rfl rfl  k_) ?_
    show own_Go p e below _ T4 (mkF m 15 #[oR a, oR b] [(.ref b), (.ref tx)])
    refine own_callV XT4 hx hZ hown (hw _ (List.mem_of_getElem? (i := 74) rfl)) (hw _ (List.mem_of_getElem? (i := 75) rfl)) (hw _ (List.mem_of_getElem? (i := 77) rfl)) (hw _ (List.mem_of_getElem? (i := 76) rfl)) (hw _ (List.mem_of_getElem? (i := 78) rfl)) (hw _ (List.mem_of_getElem? (i := 13) rfl)) (by decide) eT4 (b := tx) E1 (argsL := [(.ref b)]) (rest := []) (own_eq_1_1_met l Z a0 hw tx b v1 v2 k1 k2 x0 y0 h0 cs Cs hcs hne E1 V1 C1 A1 E2 V2 C2 A2) 0 (by decide) (by decide) (by rw [hml]; rfl) (lenOf pd_11 rfl) (Nat.le_of_eq rfl) (hb hby d12_15) (by decide) (by decide) (st := [(.ref b), (.ref tx)]) rfl ?_
    intro T5 LT5 vT5 XT5 hQT5
    obtain ⟨rfl, eT5, rfl⟩ := hQT5
    show own_Go p e below _ T5 (mkF m 18 #[oR a, oR b] [(.int (own_eq_1_1 tx b v1 v2 k1 k2 x0 y0))])
    have N6 := own_Fr.app N0 own_Fr.nil
    by_cases c18_6 : (own_eq_1_1 tx b v1 v2 k1 k2 x0 y0) = (0 : Int32)
    · refine own_by (fun t_ k_ => XS.ifYes XT5.here hx rfl (pc0 := 18) (pc' := 25) rfl (hb hby d12_18) rfl (XT.i0_eq_t c18_6) (by decide) (by decide) k_) ?_
      show own_Go p e below _ T5 (mkF m 25 #[oR a, oR b] [])
      refine own_by (fun t_ k_ => XT.iconstV XT5.here hx rfl (0 : Int32) (hb hby d12_25) (by decide) k_) ?_
      show own_Go p e below _ T5 (mkF m 26 #[oR a, oR b] [(.int (0 : Int32))])
      exact own_retN XT5 hx hlk hret (by simp) (w := (0 : Int32)) (hb hby d12_26) (by decide) (by decide) (by decide) (⟨by rw [own_is_1_1, if_pos c7_2, if_pos c18_6], eT5, rfl⟩)
    · refine own_by (fun t_ k_ => XS.ifNo XT5.here hx rfl (hb hby d12_18) rfl (XT.i0_eq_f c18_6) k_) ?_
      show own_Go p e below _ T5 (mkF m 21 #[oR a, oR b] [])
      refine own_by (fun t_ k_ => XT.iconstV XT5.here hx rfl (1 : Int32) (hb hby d12_21) (by decide) k_) ?_
      show own_Go p e below _ T5 (mkF m 22 #[oR a, oR b] [(.int (1 : Int32))])
      refine own_by (fun t_ k_ => XS.goto XT5.here hx rfl (pc0 := 22) (pc' := 26) rfl (hb hby d12_22) (by decide) (by decide) k_) ?_
      show own_Go p e below _ T5 (mkF m 26 #[oR a, oR b] [(.int (1 : Int32))])
      exact own_retN XT5 hx hlk hret (by simp) (w := (1 : Int32)) (hb hby d12_26) (by decide) (by decide) (by decide) (⟨by rw [own_is_1_1, if_pos c7_2, if_neg c18_6], eT5, rfl⟩)
  · refine own_by (fun t_ k_ => Jvm.RoadKit.acmp (g := (mkF m 7 #[oR a, oR b] [(.ref wW), (.ref kd)])) XT2 hx rfl rfl rfl (pc0 := 7) (pc' := 25) (same := false) rfl (hb hby d12_7) rfl (decide_eq_false fun q => (c7_2) (Value.ref.inj q)) (by decide) (by decide) k_) ?_
    show own_Go p e below _ T2 (mkF m 25 #[oR a, oR b] [])
    refine own_by (fun t_ k_ => XT.iconstV XT2.here hx rfl (0 : Int32) (hb hby d12_25) (by decide) k_) ?_
    show own_Go p e below _ T2 (mkF m 26 #[oR a, oR b] [(.int (0 : Int32))])
    exact own_retN XT2 hx hlk hret (by simp) (w := (0 : Int32)) (hb hby d12_26) (by decide) (by decide) (by decide) (⟨by rw [own_is_1_1, if_neg c7_2], eT2, rfl⟩)
def own_le_1_2 (v1 : Addr) (v2 : Addr) (k1 k2 : ClassId) (x0 y0 y1 : Int32) : Int32 := (0 : Int32)
set_option maxRecDepth 65536 in
set_option maxHeartbeats 40000000 in
theorem own_le_1_2_met (l : Launch) (Z : State) (a0 : Array Value) (hw : ∀ d ∈ tables_1, d.before a0 Z = true) (v1 : Addr) (v2 : Addr) (k1 k2 : ClassId) (x0 y0 y1 : Int32) (h0 : Heap) (A1 : own_A Z h0 v1 .byte k1 [(.int x0)]) (A2 : own_A Z h0 v2 .byte k2 [(.int y0), (.int y1)]) :
    own_Met l (⟨"java/lang/StringLatin1", "equals", "([B[B)Z"⟩ : MethodName) jdk_43_method_13_code 3 (some .boolean) [] ({ frames := 0, cells := 0, slots := 0, locals := 0 } : Room) Z #[(.ref v1), (.ref v2)] h0 (fun rv rh rL => rv = some (.int (own_le_1_2 v1 v2 k1 k2 x0 y0 y1)) ∧ rh = h0 ∧ rL = []) := by
  refine own_enter (plainFor_of_name pn_3) ?_
  intro p e s m below meth c T0 hx hby hml hret hlk hown hnm hZ X0 e0
  refine own_at (g' := (mkF m 0 #[oR v1, oR v2, .unset] [])) (by first | (simp [entryFrame, mkF, argsToLocals, Value.category]; done) | rfl) ?_
  show own_Go p e below _ T0 (mkF m 0 #[oR v1, oR v2, .unset] [])
  have K0 : Keep h0 h0 [] := Keep.refl h0 _
  have N0 : own_Fr h0.size h0.size [] := own_Fr.nil
  refine own_by (fun t_ k_ => XS.aloadN X0.here hx rfl (hb hby d14_0) rfl rfl  k_) ?_
  show own_Go p e below _ T0 (mkF m 1 #[oR v1, oR v2, .unset] [(.ref v1)])
  refine own_len X0 hx hZ e0 A1 (1 : Int32) rfl (hb hby d14_1) ?_
  show own_Go p e below _ T0 (mkF m 2 #[oR v1, oR v2, .unset] [(.int (1 : Int32))])
  refine own_by (fun t_ k_ => XS.aloadN X0.here hx rfl (hb hby d14_2) rfl rfl  k_) ?_
  show own_Go p e below _ T0 (mkF m 3 #[oR v1, oR v2, .unset] [(.ref v2), (.int (1 : Int32))])
  refine own_len X0 hx hZ e0 A2 (2 : Int32) rfl (hb hby d14_3) ?_
  show own_Go p e below _ T0 (mkF m 4 #[oR v1, oR v2, .unset] [(.int (2 : Int32)), (.int (1 : Int32))])
  refine own_by (fun t_ k_ => XS.icmpYes X0.here hx rfl (pc0 := 4) (pc' := 34) rfl (hb hby d14_4) rfl (XT.ii_ne_t (by decide)) (by decide) (by decide) k_) ?_
  show own_Go p e below _ T0 (mkF m 34 #[oR v1, oR v2, .unset] [])
  refine own_by (fun t_ k_ => XT.iconstV X0.here hx rfl (0 : Int32) (hb hby d14_34) (by decide) k_) ?_
  show own_Go p e below _ T0 (mkF m 35 #[oR v1, oR v2, .unset] [(.int (0 : Int32))])
  exact own_retN X0 hx hlk hret (by simp) (w := (0 : Int32)) (hb hby d14_35) (by decide) (by decide) (by decide) (⟨by rw [own_le_1_2], e0, rfl⟩)
def own_eq_1_2 (a : Addr) (b : Addr) (v1 v2 : Addr) (k1 k2 : ClassId) (x0 y0 y1 : Int32) : Int32 := (if (own_le_1_2 v1 v2 k1 k2 x0 y0 y1) = (0 : Int32) then (0 : Int32) else (1 : Int32))
set_option maxRecDepth 65536 in
set_option maxHeartbeats 40000000 in
theorem own_eq_1_2_met (l : Launch) (Z : State) (a0 : Array Value) (hw : ∀ d ∈ tables_1, d.before a0 Z = true) (a : Addr) (b : Addr) (v1 v2 : Addr) (k1 k2 : ClassId) (x0 y0 y1 : Int32) (h0 : Heap) (cs : Int32) (Cs : Sta Z h0 "java/lang/String" "COMPACT_STRINGS" "Z" (.int cs)) (hcs : ¬ cs = (0 : Int32)) (hne : a ≠ b) (E1 : Exa Z h0 a "java/lang/String") (V1 : Fld Z h0 a "java/lang/String" "value" "[B" (.ref v1)) (C1 : Fld Z h0 a "java/lang/String" "coder" "B" (.int 0)) (A1 : own_A Z h0 v1 .byte k1 [(.int x0)])(E2 : Exa Z h0 b "java/lang/String") (V2 : Fld Z h0 b "java/lang/String" "value" "[B" (.ref v2)) (C2 : Fld Z h0 b "java/lang/String" "coder" "B" (.int 0)) (A2 : own_A Z h0 v2 .byte k2 [(.int y0), (.int y1)]) :
    own_Met l (⟨"java/lang/String", "equals", "(Ljava/lang/Object;)Z"⟩ : MethodName) jdk_42_method_66_code 3 (some .boolean) [] ({ frames := 1, cells := 0, slots := 0, locals := 14 } : Room) Z #[(.ref a), (.ref b)] h0 (fun rv rh rL => rv = some (.int (own_eq_1_2 a b v1 v2 k1 k2 x0 y0 y1)) ∧ rh = h0 ∧ rL = []) := by
  refine own_enter (plainFor_of_name pn_1) ?_
  intro p e s m below meth c T0 hx hby hml hret hlk hown hnm hZ X0 e0
  refine own_at (g' := (mkF m 0 #[oR a, oR b, .unset] [])) (by first | (simp [entryFrame, mkF, argsToLocals, Value.category]; done) | rfl) ?_
  show own_Go p e below _ T0 (mkF m 0 #[oR a, oR b, .unset] [])
  have K0 : Keep h0 h0 [] := Keep.refl h0 _
  have N0 : own_Fr h0.size h0.size [] := own_Fr.nil
  refine own_by (fun t_ k_ => XS.aloadN X0.here hx rfl (hb hby d13_0) rfl rfl  k_) ?_
  show own_Go p e below _ T0 (mkF m 1 #[oR a, oR b, .unset] [(.ref a)])
  refine own_by (fun t_ k_ => XS.aloadN X0.here hx rfl (hb hby d13_1) rfl rfl  k_) ?_
  show own_Go p e below _ T0 (mkF m 2 #[oR a, oR b, .unset] [(.ref b), (.ref a)])
  refine own_by (fun t_ k_ => Jvm.RoadKit.acmp (g := (mkF m 2 #[oR a, oR b, .unset] [(.ref b), (.ref a)])) X0 hx rfl rfl rfl (pc0 := 2) (pc' := 7) (same := false) rfl (hb hby d13_2) rfl (decide_eq_false fun q => (hne) (Value.ref.inj q)) (by decide) (by decide) k_) ?_
  show own_Go p e below _ T0 (mkF m 7 #[oR a, oR b, .unset] [])
  refine own_by (fun t_ k_ => XS.aloadN X0.here hx rfl (hb hby d13_7) rfl rfl  k_) ?_
  show own_Go p e below _ T0 (mkF m 8 #[oR a, oR b, .unset] [(.ref b)])
  refine own_inst X0 hx hZ hown (hw _ (List.mem_of_getElem? (i := 20) rfl)) e0 E2 (hb hby d13_8) ?_
  intro T1 XT1 eT1
  show own_Go p e below _ T1 (mkF m 11 #[oR a, oR b, .unset] [(.int (1 : Int32))])
  refine own_by (fun t_ k_ => XS.ifNo XT1.here hx rfl (hb hby d13_11) rfl (XT.i0_eq_f (by decide)) k_) ?_
  show own_Go p e below _ T1 (mkF m 14 #[oR a, oR b, .unset] [])
  refine own_by (fun t_ k_ => XS.aloadN XT1.here hx rfl (hb hby d13_14) rfl rfl  k_) ?_
  show own_Go p e below _ T1 (mkF m 15 #[oR a, oR b, .unset] [(.ref b)])
  refine own_cast XT1 hx hZ hown (hw _ (List.mem_of_getElem? (i := 20) rfl)) eT1 E2 (hb hby d13_15) ?_
  intro T2 XT2 eT2
  show own_Go p e below _ T2 (mkF m 18 #[oR a, oR b, .unset] [(.ref b)])
  refine own_by (fun t_ k_ => XS.astoreN XT2.here hx rfl (hb hby d13_18) rfl rfl (l' := #[oR a, oR b, oR b]) rfl k_) ?_
  show own_Go p e below _ T2 (mkF m 19 #[oR a, oR b, oR b] [])
  obtain ⟨T3, XT3, eT3, stT3⟩ := getS2 XT2 hx hZ hown (host := "") (Or.inl (hw _ (List.mem_of_getElem? (i := 15) rfl))) Via.refl eT2 Cs (g := (mkF m 19 #[oR a, oR b, oR b] [])) rfl (hb hby d13_19)
  refine own_by stT3 ?_
  show own_Go p e below _ T3 (mkF m 22 #[oR a, oR b, oR b] [(.int cs)])
  refine own_by (fun t_ k_ => XS.ifNo XT3.here hx rfl (hb hby d13_22) rfl (XT.i0_eq_f hcs) k_) ?_
  show own_Go p e below _ T3 (mkF m 25 #[oR a, oR b, oR b] [])
  refine own_by (fun t_ k_ => XS.aloadN XT3.here hx rfl (hb hby d13_25) rfl rfl  k_) ?_
  show own_Go p e below _ T3 (mkF m 26 #[oR a, oR b, oR b] [(.ref a)])
  refine own_getF XT3 hx hZ hown (hw _ (List.mem_of_getElem? (i := 35) rfl)) eT3 C1 (hb hby d13_26) ?_
  intro T4 XT4 eT4
  show own_Go p e below _ T4 (mkF m 29 #[oR a, oR b, oR b] [(.int (0 : Int32))])
  refine own_by (fun t_ k_ => XS.aloadN XT4.here hx rfl (hb hby d13_29) rfl rfl  k_) ?_
  show own_Go p e below _ T4 (mkF m 30 #[oR a, oR b, oR b] [(.ref b), (.int (0 : Int32))])
  refine own_getF XT4 hx hZ hown (hw _ (List.mem_of_getElem? (i := 35) rfl)) eT4 C2 (hb hby d13_30) ?_
  intro T5 XT5 eT5
  show own_Go p e below _ T5 (mkF m 33 #[oR a, oR b, oR b] [(.int (0 : Int32)), (.int (0 : Int32))])
  refine own_by (fun t_ k_ => XS.icmpNo XT5.here hx rfl (hb hby d13_33) rfl (XT.ii_ne_f (by decide)) k_) ?_
  show own_Go p e below _ T5 (mkF m 36 #[oR a, oR b, oR b] [])
  refine own_by (fun t_ k_ => XS.aloadN XT5.here hx rfl (hb hby d13_36) rfl rfl  k_) ?_
  show own_Go p e below _ T5 (mkF m 37 #[oR a, oR b, oR b] [(.ref a)])
  refine own_getF XT5 hx hZ hown (hw _ (List.mem_of_getElem? (i := 33) rfl)) eT5 V1 (hb hby d13_37) ?_
  intro T6 XT6 eT6
  show own_Go p e below _ T6 (mkF m 40 #[oR a, oR b, oR b] [(.ref v1)])
  refine own_by (fun t_ k_ => XS.aloadN XT6.here hx rfl (hb hby d13_40) rfl rfl  k_) ?_
  show own_Go p e below _ T6 (mkF m 41 #[oR a, oR b, oR b] [(.ref b), (.ref v1)])
  refine own_getF XT6 hx hZ hown (hw _ (List.mem_of_getElem? (i := 33) rfl)) eT6 V2 (hb hby d13_41) ?_
  intro T7 XT7 eT7
  show own_Go p e below _ T7 (mkF m 44 #[oR a, oR b, oR b] [(.ref v2), (.ref v1)])
  refine own_callS XT7 hx hZ hown (hw _ (List.mem_of_getElem? (i := 79) rfl)) (hw _ (List.mem_of_getElem? (i := 80) rfl)) (hw _ (List.mem_of_getElem? (i := 18) rfl)) (hw _ (List.mem_of_getElem? (i := 81) rfl)) (by decide) eT7 (argsL := [(.ref v1), (.ref v2)]) (rest := []) (own_le_1_2_met l Z a0 hw v1 v2 k1 k2 x0 y0 y1 h0 A1 A2) 0 (by decide) (by decide) (by rw [hml]; rfl) (lenOf pd_10 rfl) (Nat.le_of_eq rfl) (hb hby d13_44) (by decide) (by decide) (st := [(.ref v2), (.ref v1)]) rfl ?_
  intro T8 LT8 vT8 XT8 hQT8
  obtain ⟨rfl, eT8, rfl⟩ := hQT8
  show own_Go p e below _ T8 (mkF m 47 #[oR a, oR b, oR b] [(.int (own_le_1_2 v1 v2 k1 k2 x0 y0 y1))])
  have N9 := own_Fr.app N0 own_Fr.nil
  by_cases c47_9 : (own_le_1_2 v1 v2 k1 k2 x0 y0 y1) = (0 : Int32)
  · refine own_by (fun t_ k_ => XS.ifYes XT8.here hx rfl (pc0 := 47) (pc' := 54) rfl (hb hby d13_47) rfl (XT.i0_eq_t c47_9) (by decide) (by decide) k_) ?_
    show own_Go p e below _ T8 (mkF m 54 #[oR a, oR b, oR b] [])
    refine own_by (fun t_ k_ => XT.iconstV XT8.here hx rfl (0 : Int32) (hb hby d13_54) (by decide) k_) ?_
    show own_Go p e below _ T8 (mkF m 55 #[oR a, oR b, oR b] [(.int (0 : Int32))])
    exact own_retN XT8 hx hlk hret (by simp) (w := (0 : Int32)) (hb hby d13_55) (by decide) (by decide) (by decide) (⟨by rw [own_eq_1_2, if_pos c47_9], eT8, rfl⟩)
  · refine own_by (fun t_ k_ => XS.ifNo XT8.here hx rfl (hb hby d13_47) rfl (XT.i0_eq_f c47_9) k_) ?_
    show own_Go p e below _ T8 (mkF m 50 #[oR a, oR b, oR b] [])
    refine own_by (fun t_ k_ => XT.iconstV XT8.here hx rfl (1 : Int32) (hb hby d13_50) (by decide) k_) ?_
    show own_Go p e below _ T8 (mkF m 51 #[oR a, oR b, oR b] [(.int (1 : Int32))])
    refine own_by (fun t_ k_ => XS.goto XT8.here hx rfl (pc0 := 51) (pc' := 55) rfl (hb hby d13_51) (by decide) (by decide) k_) ?_
    show own_Go p e below _ T8 (mkF m 55 #[oR a, oR b, oR b] [(.int (1 : Int32))])
    exact own_retN XT8 hx hlk hret (by simp) (w := (1 : Int32)) (hb hby d13_55) (by decide) (by decide) (by decide) (⟨by rw [own_eq_1_2, if_neg c47_9], eT8, rfl⟩)
def own_is_1_2 (a : Addr) (b : Addr) (kd wW tx : Addr) (v1 v2 : Addr) (k1 k2 : ClassId) (x0 y0 y1 : Int32) : Int32 := (if kd = wW then (if (own_eq_1_2 tx b v1 v2 k1 k2 x0 y0 y1) = (0 : Int32) then (0 : Int32) else (1 : Int32)) else (0 : Int32))
set_option maxRecDepth 65536 in
set_option maxHeartbeats 40000000 in
theorem own_is_1_2_met (l : Launch) (Z : State) (a0 : Array Value) (hw : ∀ d ∈ tables_1, d.before a0 Z = true) (a : Addr) (b : Addr) (kd wW tx : Addr) (v1 v2 : Addr) (k1 k2 : ClassId) (x0 y0 y1 : Int32) (h0 : Heap) (cs : Int32) (Cs : Sta Z h0 "java/lang/String" "COMPACT_STRINGS" "Z" (.int cs)) (hcs : ¬ cs = (0 : Int32)) (hne : tx ≠ b) (SW : Sta Z h0 "com/example/nimble_gate/nimblegate/policy/Token$Kind" "WORD" "Lcom/example/nimble_gate/nimblegate/policy/Token$Kind;" (.ref wW)) (Fk : Fld Z h0 a "com/example/nimble_gate/nimblegate/policy/Token" "kind" "Lcom/example/nimble_gate/nimblegate/policy/Token$Kind;" (.ref kd)) (Ft : Fld Z h0 a "com/example/nimble_gate/nimblegate/policy/Token" "text" "Ljava/lang/String;" (.ref tx))(E1 : Exa Z h0 tx "java/lang/String") (V1 : Fld Z h0 tx "java/lang/String" "value" "[B" (.ref v1)) (C1 : Fld Z h0 tx "java/lang/String" "coder" "B" (.int 0)) (A1 : own_A Z h0 v1 .byte k1 [(.int x0)])(E2 : Exa Z h0 b "java/lang/String") (V2 : Fld Z h0 b "java/lang/String" "value" "[B" (.ref v2)) (C2 : Fld Z h0 b "java/lang/String" "coder" "B" (.int 0)) (A2 : own_A Z h0 v2 .byte k2 [(.int y0), (.int y1)]) :
    own_Met l (⟨"com/example/nimble_gate/nimblegate/policy/Token", "isWord", "(Ljava/lang/String;)Z"⟩ : MethodName) prog_15_method_2_code 2 (some .boolean) [] ({ frames := 2, cells := 0, slots := 0, locals := 28 } : Room) Z #[(.ref a), (.ref b)] h0 (fun rv rh rL => rv = some (.int (own_is_1_2 a b kd wW tx v1 v2 k1 k2 x0 y0 y1)) ∧ rh = h0 ∧ rL = []) := by
  refine own_enter (plainFor_of_name pn_5) ?_
  intro p e s m below meth c T0 hx hby hml hret hlk hown hnm hZ X0 e0
  refine own_at (g' := (mkF m 0 #[oR a, oR b] [])) (by first | (simp [entryFrame, mkF, argsToLocals, Value.category]; done) | rfl) ?_
  show own_Go p e below _ T0 (mkF m 0 #[oR a, oR b] [])
  have K0 : Keep h0 h0 [] := Keep.refl h0 _
  have N0 : own_Fr h0.size h0.size [] := own_Fr.nil
  refine own_by (fun t_ k_ => XS.aloadN X0.here hx rfl (hb hby d12_0) rfl rfl  k_) ?_
  show own_Go p e below _ T0 (mkF m 1 #[oR a, oR b] [(.ref a)])
  refine own_getF X0 hx hZ hown (hw _ (List.mem_of_getElem? (i := 60) rfl)) e0 Fk (hb hby d12_1) ?_
  intro T1 XT1 eT1
  show own_Go p e below _ T1 (mkF m 4 #[oR a, oR b] [(.ref kd)])
  obtain ⟨T2, XT2, eT2, stT2⟩ := getS2 XT1 hx hZ hown (host := "") (Or.inl (hw _ (List.mem_of_getElem? (i := 73) rfl))) Via.refl eT1 SW (g := (mkF m 4 #[oR a, oR b] [(.ref kd)])) rfl (hb hby d12_4)
  refine own_by stT2 ?_
  show own_Go p e below _ T2 (mkF m 7 #[oR a, oR b] [(.ref wW), (.ref kd)])
  by_cases c7_2 : kd = wW
  · refine own_by (fun t_ k_ => Jvm.RoadKit.acmp (g := (mkF m 7 #[oR a, oR b] [(.ref wW), (.ref kd)])) XT2 hx rfl rfl rfl (pc0 := 7) (pc' := 10) (same := true) rfl (hb hby d12_7) rfl (decide_eq_true (congrArg Value.ref (c7_2))) (by decide) (by decide) k_) ?_
    show own_Go p e below _ T2 (mkF m 10 #[oR a, oR b] [])
    refine own_by (fun t_ k_ => XS.aloadN XT2.here hx rfl (hb hby d12_10) rfl rfl  k_) ?_
    show own_Go p e below _ T2 (mkF m 11 #[oR a, oR b] [(.ref a)])
    refine own_getF XT2 hx hZ hown (hw _ (List.mem_of_getElem? (i := 62) rfl)) eT2 Ft (hb hby d12_11) ?_
    intro T4 XT4 eT4
    show own_Go p e below _ T4 (mkF m 14 #[oR a, oR b] [(.ref tx)])
    refine own_by (fun t_ k_ => XS.aloadN XT4.here hx rfl (hb hby d12_14) rfl rfl  k_) ?_
    show own_Go p e below _ T4 (mkF m 15 #[oR a, oR b] [(.ref b), (.ref tx)])
    refine own_callV XT4 hx hZ hown (hw _ (List.mem_of_getElem? (i := 74) rfl)) (hw _ (List.mem_of_getElem? (i := 75) rfl)) (hw _ (List.mem_of_getElem? (i := 77) rfl)) (hw _ (List.mem_of_getElem? (i := 76) rfl)) (hw _ (List.mem_of_getElem? (i := 78) rfl)) (hw _ (List.mem_of_getElem? (i := 13) rfl)) (by decide) eT4 (b := tx) E1 (argsL := [(.ref b)]) (rest := []) (own_eq_1_2_met l Z a0 hw tx b v1 v2 k1 k2 x0 y0 y1 h0 cs Cs hcs hne E1 V1 C1 A1 E2 V2 C2 A2) 0 (by decide) (by decide) (by rw [hml]; rfl) (lenOf pd_11 rfl) (Nat.le_of_eq rfl) (hb hby d12_15) (by decide) (by decide) (st := [(.ref b), (.ref tx)]) rfl ?_
    intro T5 LT5 vT5 XT5 hQT5
    obtain ⟨rfl, eT5, rfl⟩ := hQT5
    show own_Go p e below _ T5 (mkF m 18 #[oR a, oR b] [(.int (own_eq_1_2 tx b v1 v2 k1 k2 x0 y0 y1))])
    have N6 := own_Fr.app N0 own_Fr.nil
    by_cases c18_6 : (own_eq_1_2 tx b v1 v2 k1 k2 x0 y0 y1) = (0 : Int32)
    · refine own_by (fun t_ k_ => XS.ifYes XT5.here hx rfl (pc0 := 18) (pc' := 25) rfl (hb hby d12_18) rfl (XT.i0_eq_t c18_6) (by decide) (by decide) k_) ?_
      show own_Go p e below _ T5 (mkF m 25 #[oR a, oR b] [])
      refine own_by (fun t_ k_ => XT.iconstV XT5.here hx rfl (0 : Int32) (hb hby d12_25) (by decide) k_) ?_
      show own_Go p e below _ T5 (mkF m 26 #[oR a, oR b] [(.int (0 : Int32))])
      exact own_retN XT5 hx hlk hret (by simp) (w := (0 : Int32)) (hb hby d12_26) (by decide) (by decide) (by decide) (⟨by rw [own_is_1_2, if_pos c7_2, if_pos c18_6], eT5, rfl⟩)
    · refine own_by (fun t_ k_ => XS.ifNo XT5.here hx rfl (hb hby d12_18) rfl (XT.i0_eq_f c18_6) k_) ?_
      show own_Go p e below _ T5 (mkF m 21 #[oR a, oR b] [])
      refine own_by (fun t_ k_ => XT.iconstV XT5.here hx rfl (1 : Int32) (hb hby d12_21) (by decide) k_) ?_
      show own_Go p e below _ T5 (mkF m 22 #[oR a, oR b] [(.int (1 : Int32))])
      refine own_by (fun t_ k_ => XS.goto XT5.here hx rfl (pc0 := 22) (pc' := 26) rfl (hb hby d12_22) (by decide) (by decide) k_) ?_
      show own_Go p e below _ T5 (mkF m 26 #[oR a, oR b] [(.int (1 : Int32))])
      exact own_retN XT5 hx hlk hret (by simp) (w := (1 : Int32)) (hb hby d12_26) (by decide) (by decide) (by decide) (⟨by rw [own_is_1_2, if_pos c7_2, if_neg c18_6], eT5, rfl⟩)
  · refine own_by (fun t_ k_ => Jvm.RoadKit.acmp (g := (mkF m 7 #[oR a, oR b] [(.ref wW), (.ref kd)])) XT2 hx rfl rfl rfl (pc0 := 7) (pc' := 25) (same := false) rfl (hb hby d12_7) rfl (decide_eq_false fun q => (c7_2) (Value.ref.inj q)) (by decide) (by decide) k_) ?_
    show own_Go p e below _ T2 (mkF m 25 #[oR a, oR b] [])
    refine own_by (fun t_ k_ => XT.iconstV XT2.here hx rfl (0 : Int32) (hb hby d12_25) (by decide) k_) ?_
    show own_Go p e below _ T2 (mkF m 26 #[oR a, oR b] [(.int (0 : Int32))])
    exact own_retN XT2 hx hlk hret (by simp) (w := (0 : Int32)) (hb hby d12_26) (by decide) (by decide) (by decide) (⟨by rw [own_is_1_2, if_neg c7_2], eT2, rfl⟩)
def own_le_2_0 (v1 : Addr) (v2 : Addr) (k1 k2 : ClassId) (x0 x1 : Int32) : Int32 := (0 : Int32)
set_option maxRecDepth 65536 in
set_option maxHeartbeats 40000000 in
theorem own_le_2_0_met (l : Launch) (Z : State) (a0 : Array Value) (hw : ∀ d ∈ tables_1, d.before a0 Z = true) (v1 : Addr) (v2 : Addr) (k1 k2 : ClassId) (x0 x1 : Int32) (h0 : Heap) (A1 : own_A Z h0 v1 .byte k1 [(.int x0), (.int x1)]) (A2 : own_A Z h0 v2 .byte k2 []) :
    own_Met l (⟨"java/lang/StringLatin1", "equals", "([B[B)Z"⟩ : MethodName) jdk_43_method_13_code 3 (some .boolean) [] ({ frames := 0, cells := 0, slots := 0, locals := 0 } : Room) Z #[(.ref v1), (.ref v2)] h0 (fun rv rh rL => rv = some (.int (own_le_2_0 v1 v2 k1 k2 x0 x1)) ∧ rh = h0 ∧ rL = []) := by
  refine own_enter (plainFor_of_name pn_3) ?_
  intro p e s m below meth c T0 hx hby hml hret hlk hown hnm hZ X0 e0
  refine own_at (g' := (mkF m 0 #[oR v1, oR v2, .unset] [])) (by first | (simp [entryFrame, mkF, argsToLocals, Value.category]; done) | rfl) ?_
  show own_Go p e below _ T0 (mkF m 0 #[oR v1, oR v2, .unset] [])
  have K0 : Keep h0 h0 [] := Keep.refl h0 _
  have N0 : own_Fr h0.size h0.size [] := own_Fr.nil
  refine own_by (fun t_ k_ => XS.aloadN X0.here hx rfl (hb hby d14_0) rfl rfl  k_) ?_
  show own_Go p e below _ T0 (mkF m 1 #[oR v1, oR v2, .unset] [(.ref v1)])
  refine own_len X0 hx hZ e0 A1 (2 : Int32) rfl (hb hby d14_1) ?_
  show own_Go p e below _ T0 (mkF m 2 #[oR v1, oR v2, .unset] [(.int (2 : Int32))])
  refine own_by (fun t_ k_ => XS.aloadN X0.here hx rfl (hb hby d14_2) rfl rfl  k_) ?_
  show own_Go p e below _ T0 (mkF m 3 #[oR v1, oR v2, .unset] [(.ref v2), (.int (2 : Int32))])
  refine own_len X0 hx hZ e0 A2 (0 : Int32) rfl (hb hby d14_3) ?_
  show own_Go p e below _ T0 (mkF m 4 #[oR v1, oR v2, .unset] [(.int (0 : Int32)), (.int (2 : Int32))])
  refine own_by (fun t_ k_ => XS.icmpYes X0.here hx rfl (pc0 := 4) (pc' := 34) rfl (hb hby d14_4) rfl (XT.ii_ne_t (by decide)) (by decide) (by decide) k_) ?_
  show own_Go p e below _ T0 (mkF m 34 #[oR v1, oR v2, .unset] [])
  refine own_by (fun t_ k_ => XT.iconstV X0.here hx rfl (0 : Int32) (hb hby d14_34) (by decide) k_) ?_
  show own_Go p e below _ T0 (mkF m 35 #[oR v1, oR v2, .unset] [(.int (0 : Int32))])
  exact own_retN X0 hx hlk hret (by simp) (w := (0 : Int32)) (hb hby d14_35) (by decide) (by decide) (by decide) (⟨by rw [own_le_2_0], e0, rfl⟩)
def own_eq_2_0 (a : Addr) (b : Addr) (v1 v2 : Addr) (k1 k2 : ClassId) (x0 x1 : Int32) : Int32 := (if (own_le_2_0 v1 v2 k1 k2 x0 x1) = (0 : Int32) then (0 : Int32) else (1 : Int32))
set_option maxRecDepth 65536 in
set_option maxHeartbeats 40000000 in
theorem own_eq_2_0_met (l : Launch) (Z : State) (a0 : Array Value) (hw : ∀ d ∈ tables_1, d.before a0 Z = true) (a : Addr) (b : Addr) (v1 v2 : Addr) (k1 k2 : ClassId) (x0 x1 : Int32) (h0 : Heap) (cs : Int32) (Cs : Sta Z h0 "java/lang/String" "COMPACT_STRINGS" "Z" (.int cs)) (hcs : ¬ cs = (0 : Int32)) (hne : a ≠ b) (E1 : Exa Z h0 a "java/lang/String") (V1 : Fld Z h0 a "java/lang/String" "value" "[B" (.ref v1)) (C1 : Fld Z h0 a "java/lang/String" "coder" "B" (.int 0)) (A1 : own_A Z h0 v1 .byte k1 [(.int x0), (.int x1)])(E2 : Exa Z h0 b "java/lang/String") (V2 : Fld Z h0 b "java/lang/String" "value" "[B" (.ref v2)) (C2 : Fld Z h0 b "java/lang/String" "coder" "B" (.int 0)) (A2 : own_A Z h0 v2 .byte k2 []) :
    own_Met l (⟨"java/lang/String", "equals", "(Ljava/lang/Object;)Z"⟩ : MethodName) jdk_42_method_66_code 3 (some .boolean) [] ({ frames := 1, cells := 0, slots := 0, locals := 14 } : Room) Z #[(.ref a), (.ref b)] h0 (fun rv rh rL => rv = some (.int (own_eq_2_0 a b v1 v2 k1 k2 x0 x1)) ∧ rh = h0 ∧ rL = []) := by
  refine own_enter (plainFor_of_name pn_1) ?_
  intro p e s m below meth c T0 hx hby hml hret hlk hown hnm hZ X0 e0
  refine own_at (g' := (mkF m 0 #[oR a, oR b, .unset] [])) (by first | (simp [entryFrame, mkF, argsToLocals, Value.category]; done) | rfl) ?_
  show own_Go p e below _ T0 (mkF m 0 #[oR a, oR b, .unset] [])
  have K0 : Keep h0 h0 [] := Keep.refl h0 _
  have N0 : own_Fr h0.size h0.size [] := own_Fr.nil
  refine own_by (fun t_ k_ => XS.aloadN X0.here hx rfl (hb hby d13_0) rfl rfl  k_) ?_
  show own_Go p e below _ T0 (mkF m 1 #[oR a, oR b, .unset] [(.ref a)])
  refine own_by (fun t_ k_ => XS.aloadN X0.here hx rfl (hb hby d13_1) rfl rfl  k_) ?_
  show own_Go p e below _ T0 (mkF m 2 #[oR a, oR b, .unset] [(.ref b), (.ref a)])
  refine own_by (fun t_ k_ => Jvm.RoadKit.acmp (g := (mkF m 2 #[oR a, oR b, .unset] [(.ref b), (.ref a)])) X0 hx rfl rfl rfl (pc0 := 2) (pc' := 7) (same := false) rfl (hb hby d13_2) rfl (decide_eq_false fun q => (hne) (Value.ref.inj q)) (by decide) (by decide) k_) ?_
  show own_Go p e below _ T0 (mkF m 7 #[oR a, oR b, .unset] [])
  refine own_by (fun t_ k_ => XS.aloadN X0.here hx rfl (hb hby d13_7) rfl rfl  k_) ?_
  show own_Go p e below _ T0 (mkF m 8 #[oR a, oR b, .unset] [(.ref b)])
  refine own_inst X0 hx hZ hown (hw _ (List.mem_of_getElem? (i := 20) rfl)) e0 E2 (hb hby d13_8) ?_
  intro T1 XT1 eT1
  show own_Go p e below _ T1 (mkF m 11 #[oR a, oR b, .unset] [(.int (1 : Int32))])
  refine own_by (fun t_ k_ => XS.ifNo XT1.here hx rfl (hb hby d13_11) rfl (XT.i0_eq_f (by decide)) k_) ?_
  show own_Go p e below _ T1 (mkF m 14 #[oR a, oR b, .unset] [])
  refine own_by (fun t_ k_ => XS.aloadN XT1.here hx rfl (hb hby d13_14) rfl rfl  k_) ?_
  show own_Go p e below _ T1 (mkF m 15 #[oR a, oR b, .unset] [(.ref b)])
  refine own_cast XT1 hx hZ hown (hw _ (List.mem_of_getElem? (i := 20) rfl)) eT1 E2 (hb hby d13_15) ?_
  intro T2 XT2 eT2
  show own_Go p e below _ T2 (mkF m 18 #[oR a, oR b, .unset] [(.ref b)])
  refine own_by (fun t_ k_ => XS.astoreN XT2.here hx rfl (hb hby d13_18) rfl rfl (l' := #[oR a, oR b, oR b]) rfl k_) ?_
  show own_Go p e below _ T2 (mkF m 19 #[oR a, oR b, oR b] [])
  obtain ⟨T3, XT3, eT3, stT3⟩ := getS2 XT2 hx hZ hown (host := "") (Or.inl (hw _ (List.mem_of_getElem? (i := 15) rfl))) Via.refl eT2 Cs (g := (mkF m 19 #[oR a, oR b, oR b] [])) rfl (hb hby d13_19)
  refine own_by stT3 ?_
  show own_Go p e below _ T3 (mkF m 22 #[oR a, oR b, oR b] [(.int cs)])
  refine own_by (fun t_ k_ => XS.ifNo XT3.here hx rfl (hb hby d13_22) rfl (XT.i0_eq_f hcs) k_) ?_
  show own_Go p e below _ T3 (mkF m 25 #[oR a, oR b, oR b] [])
  refine own_by (fun t_ k_ => XS.aloadN XT3.here hx rfl (hb hby d13_25) rfl rfl  k_) ?_
  show own_Go p e below _ T3 (mkF m 26 #[oR a, oR b, oR b] [(.ref a)])
  refine own_getF XT3 hx hZ hown (hw _ (List.mem_of_getElem? (i := 35) rfl)) eT3 C1 (hb hby d13_26) ?_
  intro T4 XT4 eT4
  show own_Go p e below _ T4 (mkF m 29 #[oR a, oR b, oR b] [(.int (0 : Int32))])
  refine own_by (fun t_ k_ => XS.aloadN XT4.here hx rfl (hb hby d13_29) rfl rfl  k_) ?_
  show own_Go p e below _ T4 (mkF m 30 #[oR a, oR b, oR b] [(.ref b), (.int (0 : Int32))])
  refine own_getF XT4 hx hZ hown (hw _ (List.mem_of_getElem? (i := 35) rfl)) eT4 C2 (hb hby d13_30) ?_
  intro T5 XT5 eT5
  show own_Go p e below _ T5 (mkF m 33 #[oR a, oR b, oR b] [(.int (0 : Int32)), (.int (0 : Int32))])
  refine own_by (fun t_ k_ => XS.icmpNo XT5.here hx rfl (hb hby d13_33) rfl (XT.ii_ne_f (by decide)) k_) ?_
  show own_Go p e below _ T5 (mkF m 36 #[oR a, oR b, oR b] [])
  refine own_by (fun t_ k_ => XS.aloadN XT5.here hx rfl (hb hby d13_36) rfl rfl  k_) ?_
  show own_Go p e below _ T5 (mkF m 37 #[oR a, oR b, oR b] [(.ref a)])
  refine own_getF XT5 hx hZ hown (hw _ (List.mem_of_getElem? (i := 33) rfl)) eT5 V1 (hb hby d13_37) ?_
  intro T6 XT6 eT6
  show own_Go p e below _ T6 (mkF m 40 #[oR a, oR b, oR b] [(.ref v1)])
  refine own_by (fun t_ k_ => XS.aloadN XT6.here hx rfl (hb hby d13_40) rfl rfl  k_) ?_
  show own_Go p e below _ T6 (mkF m 41 #[oR a, oR b, oR b] [(.ref b), (.ref v1)])
  refine own_getF XT6 hx hZ hown (hw _ (List.mem_of_getElem? (i := 33) rfl)) eT6 V2 (hb hby d13_41) ?_
  intro T7 XT7 eT7
  show own_Go p e below _ T7 (mkF m 44 #[oR a, oR b, oR b] [(.ref v2), (.ref v1)])
  refine own_callS XT7 hx hZ hown (hw _ (List.mem_of_getElem? (i := 79) rfl)) (hw _ (List.mem_of_getElem? (i := 80) rfl)) (hw _ (List.mem_of_getElem? (i := 18) rfl)) (hw _ (List.mem_of_getElem? (i := 81) rfl)) (by decide) eT7 (argsL := [(.ref v1), (.ref v2)]) (rest := []) (own_le_2_0_met l Z a0 hw v1 v2 k1 k2 x0 x1 h0 A1 A2) 0 (by decide) (by decide) (by rw [hml]; rfl) (lenOf pd_10 rfl) (Nat.le_of_eq rfl) (hb hby d13_44) (by decide) (by decide) (st := [(.ref v2), (.ref v1)]) rfl ?_
  intro T8 LT8 vT8 XT8 hQT8
  obtain ⟨rfl, eT8, rfl⟩ := hQT8
  show own_Go p e below _ T8 (mkF m 47 #[oR a, oR b, oR b] [(.int (own_le_2_0 v1 v2 k1 k2 x0 x1))])
  have N9 := own_Fr.app N0 own_Fr.nil
  by_cases c47_9 : (own_le_2_0 v1 v2 k1 k2 x0 x1) = (0 : Int32)
  · refine own_by (fun t_ k_ => XS.ifYes XT8.here hx rfl (pc0 := 47) (pc' := 54) rfl (hb hby d13_47) rfl (XT.i0_eq_t c47_9) (by decide) (by decide) k_) ?_
    show own_Go p e below _ T8 (mkF m 54 #[oR a, oR b, oR b] [])
    refine own_by (fun t_ k_ => XT.iconstV XT8.here hx rfl (0 : Int32) (hb hby d13_54) (by decide) k_) ?_
    show own_Go p e below _ T8 (mkF m 55 #[oR a, oR b, oR b] [(.int (0 : Int32))])
    exact own_retN XT8 hx hlk hret (by simp) (w := (0 : Int32)) (hb hby d13_55) (by decide) (by decide) (by decide) (⟨by rw [own_eq_2_0, if_pos c47_9], eT8, rfl⟩)
  · refine own_by (fun t_ k_ => XS.ifNo XT8.here hx rfl (hb hby d13_47) rfl (XT.i0_eq_f c47_9) k_) ?_
    show own_Go p e below _ T8 (mkF m 50 #[oR a, oR b, oR b] [])
    refine own_by (fun t_ k_ => XT.iconstV XT8.here hx rfl (1 : Int32) (hb hby d13_50) (by decide) k_) ?_
    show own_Go p e below _ T8 (mkF m 51 #[oR a, oR b, oR b] [(.int (1 : Int32))])
    refine own_by (fun t_ k_ => XS.goto XT8.here hx rfl (pc0 := 51) (pc' := 55) rfl (hb hby d13_51) (by decide) (by decide) k_) ?_
    show own_Go p e below _ T8 (mkF m 55 #[oR a, oR b, oR b] [(.int (1 : Int32))])
    exact own_retN XT8 hx hlk hret (by simp) (w := (1 : Int32)) (hb hby d13_55) (by decide) (by decide) (by decide) (⟨by rw [own_eq_2_0, if_neg c47_9], eT8, rfl⟩)
def own_is_2_0 (a : Addr) (b : Addr) (kd wW tx : Addr) (v1 v2 : Addr) (k1 k2 : ClassId) (x0 x1 : Int32) : Int32 := (if kd = wW then (if (own_eq_2_0 tx b v1 v2 k1 k2 x0 x1) = (0 : Int32) then (0 : Int32) else (1 : Int32)) else (0 : Int32))
set_option maxRecDepth 65536 in
set_option maxHeartbeats 40000000 in
theorem own_is_2_0_met (l : Launch) (Z : State) (a0 : Array Value) (hw : ∀ d ∈ tables_1, d.before a0 Z = true) (a : Addr) (b : Addr) (kd wW tx : Addr) (v1 v2 : Addr) (k1 k2 : ClassId) (x0 x1 : Int32) (h0 : Heap) (cs : Int32) (Cs : Sta Z h0 "java/lang/String" "COMPACT_STRINGS" "Z" (.int cs)) (hcs : ¬ cs = (0 : Int32)) (hne : tx ≠ b) (SW : Sta Z h0 "com/example/nimble_gate/nimblegate/policy/Token$Kind" "WORD" "Lcom/example/nimble_gate/nimblegate/policy/Token$Kind;" (.ref wW)) (Fk : Fld Z h0 a "com/example/nimble_gate/nimblegate/policy/Token" "kind" "Lcom/example/nimble_gate/nimblegate/policy/Token$Kind;" (.ref kd)) (Ft : Fld Z h0 a "com/example/nimble_gate/nimblegate/policy/Token" "text" "Ljava/lang/String;" (.ref tx))(E1 : Exa Z h0 tx "java/lang/String") (V1 : Fld Z h0 tx "java/lang/String" "value" "[B" (.ref v1)) (C1 : Fld Z h0 tx "java/lang/String" "coder" "B" (.int 0)) (A1 : own_A Z h0 v1 .byte k1 [(.int x0), (.int x1)])(E2 : Exa Z h0 b "java/lang/String") (V2 : Fld Z h0 b "java/lang/String" "value" "[B" (.ref v2)) (C2 : Fld Z h0 b "java/lang/String" "coder" "B" (.int 0)) (A2 : own_A Z h0 v2 .byte k2 []) :
    own_Met l (⟨"com/example/nimble_gate/nimblegate/policy/Token", "isWord", "(Ljava/lang/String;)Z"⟩ : MethodName) prog_15_method_2_code 2 (some .boolean) [] ({ frames := 2, cells := 0, slots := 0, locals := 28 } : Room) Z #[(.ref a), (.ref b)] h0 (fun rv rh rL => rv = some (.int (own_is_2_0 a b kd wW tx v1 v2 k1 k2 x0 x1)) ∧ rh = h0 ∧ rL = []) := by
  refine own_enter (plainFor_of_name pn_5) ?_
  intro p e s m below meth c T0 hx hby hml hret hlk hown hnm hZ X0 e0
  refine own_at (g' := (mkF m 0 #[oR a, oR b] [])) (by first | (simp [entryFrame, mkF, argsToLocals, Value.category]; done) | rfl) ?_
  show own_Go p e below _ T0 (mkF m 0 #[oR a, oR b] [])
  have K0 : Keep h0 h0 [] := Keep.refl h0 _
  have N0 : own_Fr h0.size h0.size [] := own_Fr.nil
  refine own_by (fun t_ k_ => XS.aloadN X0.here hx rfl (hb hby d12_0) rfl rfl  k_) ?_
  show own_Go p e below _ T0 (mkF m 1 #[oR a, oR b] [(.ref a)])
  refine own_getF X0 hx hZ hown (hw _ (List.mem_of_getElem? (i := 60) rfl)) e0 Fk (hb hby d12_1) ?_
  intro T1 XT1 eT1
  show own_Go p e below _ T1 (mkF m 4 #[oR a, oR b] [(.ref kd)])
  obtain ⟨T2, XT2, eT2, stT2⟩ := getS2 XT1 hx hZ hown (host := "") (Or.inl (hw _ (List.mem_of_getElem? (i := 73) rfl))) Via.refl eT1 SW (g := (mkF m 4 #[oR a, oR b] [(.ref kd)])) rfl (hb hby d12_4)
  refine own_by stT2 ?_
  show own_Go p e below _ T2 (mkF m 7 #[oR a, oR b] [(.ref wW), (.ref kd)])
  by_cases c7_2 : kd = wW
  · refine own_by (fun t_ k_ => Jvm.RoadKit.acmp (g := (mkF m 7 #[oR a, oR b] [(.ref wW), (.ref kd)])) XT2 hx rfl rfl rfl (pc0 := 7) (pc' := 10) (same := true) rfl (hb hby d12_7) rfl (decide_eq_true (congrArg Value.ref (c7_2))) (by decide) (by decide) k_) ?_
    show own_Go p e below _ T2 (mkF m 10 #[oR a, oR b] [])
    refine own_by (fun t_ k_ => XS.aloadN XT2.here hx rfl (hb hby d12_10) rfl rfl  k_) ?_
    show own_Go p e below _ T2 (mkF m 11 #[oR a, oR b] [(.ref a)])
    refine own_getF XT2 hx hZ hown (hw _ (List.mem_of_getElem? (i := 62) rfl)) eT2 Ft (hb hby d12_11) ?_
    intro T4 XT4 eT4
    show own_Go p e below _ T4 (mkF m 14 #[oR a, oR b] [(.ref tx)])
    refine own_by (fun t_ k_ => XS.aloadN XT4.here hx rfl (hb hby d12_14) rfl rfl  k_) ?_
    show own_Go p e below _ T4 (mkF m 15 #[oR a, oR b] [(.ref b), (.ref tx)])
    refine own_callV XT4 hx hZ hown (hw _ (List.mem_of_getElem? (i := 74) rfl)) (hw _ (List.mem_of_getElem? (i := 75) rfl)) (hw _ (List.mem_of_getElem? (i := 77) rfl)) (hw _ (List.mem_of_getElem? (i := 76) rfl)) (hw _ (List.mem_of_getElem? (i := 78) rfl)) (hw _ (List.mem_of_getElem? (i := 13) rfl)) (by decide) eT4 (b := tx) E1 (argsL := [(.ref b)]) (rest := []) (own_eq_2_0_met l Z a0 hw tx b v1 v2 k1 k2 x0 x1 h0 cs Cs hcs hne E1 V1 C1 A1 E2 V2 C2 A2) 0 (by decide) (by decide) (by rw [hml]; rfl) (lenOf pd_11 rfl) (Nat.le_of_eq rfl) (hb hby d12_15) (by decide) (by decide) (st := [(.ref b), (.ref tx)]) rfl ?_
    intro T5 LT5 vT5 XT5 hQT5
    obtain ⟨rfl, eT5, rfl⟩ := hQT5
    show own_Go p e below _ T5 (mkF m 18 #[oR a, oR b] [(.int (own_eq_2_0 tx b v1 v2 k1 k2 x0 x1))])
    have N6 := own_Fr.app N0 own_Fr.nil
    by_cases c18_6 : (own_eq_2_0 tx b v1 v2 k1 k2 x0 x1) = (0 : Int32)
    · refine own_by (fun t_ k_ => XS.ifYes XT5.here hx rfl (pc0 := 18) (pc' := 25) rfl (hb hby d12_18) rfl (XT.i0_eq_t c18_6) (by decide) (by decide) k_) ?_
      show own_Go p e below _ T5 (mkF m 25 #[oR a, oR b] [])
      refine own_by (fun t_ k_ => XT.iconstV XT5.here hx rfl (0 : Int32) (hb hby d12_25) (by decide) k_) ?_
      show own_Go p e below _ T5 (mkF m 26 #[oR a, oR b] [(.int (0 : Int32))])
      exact own_retN XT5 hx hlk hret (by simp) (w := (0 : Int32)) (hb hby d12_26) (by decide) (by decide) (by decide) (⟨by rw [own_is_2_0, if_pos c7_2, if_pos c18_6], eT5, rfl⟩)
    · refine own_by (fun t_ k_ => XS.ifNo XT5.here hx rfl (hb hby d12_18) rfl (XT.i0_eq_f c18_6) k_) ?_
      show own_Go p e below _ T5 (mkF m 21 #[oR a, oR b] [])
      refine own_by (fun t_ k_ => XT.iconstV XT5.here hx rfl (1 : Int32) (hb hby d12_21) (by decide) k_) ?_
      show own_Go p e below _ T5 (mkF m 22 #[oR a, oR b] [(.int (1 : Int32))])
      refine own_by (fun t_ k_ => XS.goto XT5.here hx rfl (pc0 := 22) (pc' := 26) rfl (hb hby d12_22) (by decide) (by decide) k_) ?_
      show own_Go p e below _ T5 (mkF m 26 #[oR a, oR b] [(.int (1 : Int32))])
      exact own_retN XT5 hx hlk hret (by simp) (w := (1 : Int32)) (hb hby d12_26) (by decide) (by decide) (by decide) (⟨by rw [own_is_2_0, if_pos c7_2, if_neg c18_6], eT5, rfl⟩)
  · refine own_by (fun t_ k_ => Jvm.RoadKit.acmp (g := (mkF m 7 #[oR a, oR b] [(.ref wW), (.ref kd)])) XT2 hx rfl rfl rfl (pc0 := 7) (pc' := 25) (same := false) rfl (hb hby d12_7) rfl (decide_eq_false fun q => (c7_2) (Value.ref.inj q)) (by decide) (by decide) k_) ?_
    show own_Go p e below _ T2 (mkF m 25 #[oR a, oR b] [])
    refine own_by (fun t_ k_ => XT.iconstV XT2.here hx rfl (0 : Int32) (hb hby d12_25) (by decide) k_) ?_
    show own_Go p e below _ T2 (mkF m 26 #[oR a, oR b] [(.int (0 : Int32))])
    exact own_retN XT2 hx hlk hret (by simp) (w := (0 : Int32)) (hb hby d12_26) (by decide) (by decide) (by decide) (⟨by rw [own_is_2_0, if_neg c7_2], eT2, rfl⟩)
def own_le_2_1 (v1 : Addr) (v2 : Addr) (k1 k2 : ClassId) (x0 x1 y0 : Int32) : Int32 := (0 : Int32)
set_option maxRecDepth 65536 in
set_option maxHeartbeats 40000000 in
theorem own_le_2_1_met (l : Launch) (Z : State) (a0 : Array Value) (hw : ∀ d ∈ tables_1, d.before a0 Z = true) (v1 : Addr) (v2 : Addr) (k1 k2 : ClassId) (x0 x1 y0 : Int32) (h0 : Heap) (A1 : own_A Z h0 v1 .byte k1 [(.int x0), (.int x1)]) (A2 : own_A Z h0 v2 .byte k2 [(.int y0)]) :
    own_Met l (⟨"java/lang/StringLatin1", "equals", "([B[B)Z"⟩ : MethodName) jdk_43_method_13_code 3 (some .boolean) [] ({ frames := 0, cells := 0, slots := 0, locals := 0 } : Room) Z #[(.ref v1), (.ref v2)] h0 (fun rv rh rL => rv = some (.int (own_le_2_1 v1 v2 k1 k2 x0 x1 y0)) ∧ rh = h0 ∧ rL = []) := by
  refine own_enter (plainFor_of_name pn_3) ?_
  intro p e s m below meth c T0 hx hby hml hret hlk hown hnm hZ X0 e0
  refine own_at (g' := (mkF m 0 #[oR v1, oR v2, .unset] [])) (by first | (simp [entryFrame, mkF, argsToLocals, Value.category]; done) | rfl) ?_
  show own_Go p e below _ T0 (mkF m 0 #[oR v1, oR v2, .unset] [])
  have K0 : Keep h0 h0 [] := Keep.refl h0 _
  have N0 : own_Fr h0.size h0.size [] := own_Fr.nil
  refine own_by (fun t_ k_ => XS.aloadN X0.here hx rfl (hb hby d14_0) rfl rfl  k_) ?_
  show own_Go p e below _ T0 (mkF m 1 #[oR v1, oR v2, .unset] [(.ref v1)])
  refine own_len X0 hx hZ e0 A1 (2 : Int32) rfl (hb hby d14_1) ?_
  show own_Go p e below _ T0 (mkF m 2 #[oR v1, oR v2, .unset] [(.int (2 : Int32))])
  refine own_by (fun t_ k_ => XS.aloadN X0.here hx rfl (hb hby d14_2) rfl rfl  k_) ?_
  show own_Go p e below _ T0 (mkF m 3 #[oR v1, oR v2, .unset] [(.ref v2), (.int (2 : Int32))])
  refine own_len X0 hx hZ e0 A2 (1 : Int32) rfl (hb hby d14_3) ?_
  show own_Go p e below _ T0 (mkF m 4 #[oR v1, oR v2, .unset] [(.int (1 : Int32)), (.int (2 : Int32))])
  refine own_by (fun t_ k_ => XS.icmpYes X0.here hx rfl (pc0 := 4) (pc' := 34) rfl (hb hby d14_4) rfl (XT.ii_ne_t (by decide)) (by decide) (by decide) k_) ?_
  show own_Go p e below _ T0 (mkF m 34 #[oR v1, oR v2, .unset] [])
  refine own_by (fun t_ k_ => XT.iconstV X0.here hx rfl (0 : Int32) (hb hby d14_34) (by decide) k_) ?_
  show own_Go p e below _ T0 (mkF m 35 #[oR v1, oR v2, .unset] [(.int (0 : Int32))])
  exact own_retN X0 hx hlk hret (by simp) (w := (0 : Int32)) (hb hby d14_35) (by decide) (by decide) (by decide) (⟨by rw [own_le_2_1], e0, rfl⟩)
def own_eq_2_1 (a : Addr) (b : Addr) (v1 v2 : Addr) (k1 k2 : ClassId) (x0 x1 y0 : Int32) : Int32 := (if (own_le_2_1 v1 v2 k1 k2 x0 x1 y0) = (0 : Int32) then (0 : Int32) else (1 : Int32))
set_option maxRecDepth 65536 in
set_option maxHeartbeats 40000000 in
theorem own_eq_2_1_met (l : Launch) (Z : State) (a0 : Array Value) (hw : ∀ d ∈ tables_1, d.before a0 Z = true) (a : Addr) (b : Addr) (v1 v2 : Addr) (k1 k2 : ClassId) (x0 x1 y0 : Int32) (h0 : Heap) (cs : Int32) (Cs : Sta Z h0 "java/lang/String" "COMPACT_STRINGS" "Z" (.int cs)) (hcs : ¬ cs = (0 : Int32)) (hne : a ≠ b) (E1 : Exa Z h0 a "java/lang/String") (V1 : Fld Z h0 a "java/lang/String" "value" "[B" (.ref v1)) (C1 : Fld Z h0 a "java/lang/String" "coder" "B" (.int 0)) (A1 : own_A Z h0 v1 .byte k1 [(.int x0), (.int x1)])(E2 : Exa Z h0 b "java/lang/String") (V2 : Fld Z h0 b "java/lang/String" "value" "[B" (.ref v2)) (C2 : Fld Z h0 b "java/lang/String" "coder" "B" (.int 0)) (A2 : own_A Z h0 v2 .byte k2 [(.int y0)]) :
    own_Met l (⟨"java/lang/String", "equals", "(Ljava/lang/Object;)Z"⟩ : MethodName) jdk_42_method_66_code 3 (some .boolean) [] ({ frames := 1, cells := 0, slots := 0, locals := 14 } : Room) Z #[(.ref a), (.ref b)] h0 (fun rv rh rL => rv = some (.int (own_eq_2_1 a b v1 v2 k1 k2 x0 x1 y0)) ∧ rh = h0 ∧ rL = []) := by
  refine own_enter (plainFor_of_name pn_1) ?_
  intro p e s m below meth c T0 hx hby hml hret hlk hown hnm hZ X0 e0
  refine own_at (g' := (mkF m 0 #[oR a, oR b, .unset] [])) (by first | (simp [entryFrame, mkF, argsToLocals, Value.category]; done) | rfl) ?_
  show own_Go p e below _ T0 (mkF m 0 #[oR a, oR b, .unset] [])
  have K0 : Keep h0 h0 [] := Keep.refl h0 _
  have N0 : own_Fr h0.size h0.size [] := own_Fr.nil
  refine own_by (fun t_ k_ => XS.aloadN X0.here hx rfl (hb hby d13_0) rfl rfl  k_) ?_
  show own_Go p e below _ T0 (mkF m 1 #[oR a, oR b, .unset] [(.ref a)])
  refine own_by (fun t_ k_ => XS.aloadN X0.here hx rfl (hb hby d13_1) rfl rfl  k_) ?_
  show own_Go p e below _ T0 (mkF m 2 #[oR a, oR b, .unset] [(.ref b), (.ref a)])
  refine own_by (fun t_ k_ => Jvm.RoadKit.acmp (g := (mkF m 2 #[oR a, oR b, .unset] [(.ref b), (.ref a)])) X0 hx rfl rfl rfl (pc0 := 2) (pc' := 7) (same := false) rfl (hb hby d13_2) rfl (decide_eq_false fun q => (hne) (Value.ref.inj q)) (by decide) (by decide) k_) ?_
  show own_Go p e below _ T0 (mkF m 7 #[oR a, oR b, .unset] [])
  refine own_by (fun t_ k_ => XS.aloadN X0.here hx rfl (hb hby d13_7) rfl rfl  k_) ?_
  show own_Go p e below _ T0 (mkF m 8 #[oR a, oR b, .unset] [(.ref b)])
  refine own_inst X0 hx hZ hown (hw _ (List.mem_of_getElem? (i := 20) rfl)) e0 E2 (hb hby d13_8) ?_
  intro T1 XT1 eT1
  show own_Go p e below _ T1 (mkF m 11 #[oR a, oR b, .unset] [(.int (1 : Int32))])
  refine own_by (fun t_ k_ => XS.ifNo XT1.here hx rfl (hb hby d13_11) rfl (XT.i0_eq_f (by decide)) k_) ?_
  show own_Go p e below _ T1 (mkF m 14 #[oR a, oR b, .unset] [])
  refine own_by (fun t_ k_ => XS.aloadN XT1.here hx rfl (hb hby d13_14) rfl rfl  k_) ?_
  show own_Go p e below _ T1 (mkF m 15 #[oR a, oR b, .unset] [(.ref b)])
  refine own_cast XT1 hx hZ hown (hw _ (List.mem_of_getElem? (i := 20) rfl)) eT1 E2 (hb hby d13_15) ?_
  intro T2 XT2 eT2
  show own_Go p e below _ T2 (mkF m 18 #[oR a, oR b, .unset] [(.ref b)])
  refine own_by (fun t_ k_ => XS.astoreN XT2.here hx rfl (hb hby d13_18) rfl rfl (l' := #[oR a, oR b, oR b]) rfl k_) ?_
  show own_Go p e below _ T2 (mkF m 19 #[oR a, oR b, oR b] [])
  obtain ⟨T3, XT3, eT3, stT3⟩ := getS2 XT2 hx hZ hown (host := "") (Or.inl (hw _ (List.mem_of_getElem? (i := 15) rfl))) Via.refl eT2 Cs (g := (mkF m 19 #[oR a, oR b, oR b] [])) rfl (hb hby d13_19)
  refine own_by stT3 ?_
  show own_Go p e below _ T3 (mkF m 22 #[oR a, oR b, oR b] [(.int cs)])
  refine own_by (fun t_ k_ => XS.ifNo XT3.here hx rfl (hb hby d13_22) rfl (XT.i0_eq_f hcs) k_) ?_
  show own_Go p e below _ T3 (mkF m 25 #[oR a, oR b, oR b] [])
  refine own_by (fun t_ k_ => XS.aloadN XT3.here hx rfl (hb hby d13_25) rfl rfl  k_) ?_
  show own_Go p e below _ T3 (mkF m 26 #[oR a, oR b, oR b] [(.ref a)])
  refine own_getF XT3 hx hZ hown (hw _ (List.mem_of_getElem? (i := 35) rfl)) eT3 C1 (hb hby d13_26) ?_
  intro T4 XT4 eT4
  show own_Go p e below _ T4 (mkF m 29 #[oR a, oR b, oR b] [(.int (0 : Int32))])
  refine own_by (fun t_ k_ => XS.aloadN XT4.here hx rfl (hb hby d13_29) rfl rfl  k_) ?_
  show own_Go p e below _ T4 (mkF m 30 #[oR a, oR b, oR b] [(.ref b), (.int (0 : Int32))])
  refine own_getF XT4 hx hZ hown (hw _ (List.mem_of_getElem? (i := 35) rfl)) eT4 C2 (hb hby d13_30) ?_
  intro T5 XT5 eT5
  show own_Go p e below _ T5 (mkF m 33 #[oR a, oR b, oR b] [(.int (0 : Int32)), (.int (0 : Int32))])
  refine own_by (fun t_ k_ => XS.icmpNo XT5.here hx rfl (hb hby d13_33) rfl (XT.ii_ne_f (by decide)) k_) ?_
  show own_Go p e below _ T5 (mkF m 36 #[oR a, oR b, oR b] [])
  refine own_by (fun t_ k_ => XS.aloadN XT5.here hx rfl (hb hby d13_36) rfl rfl  k_) ?_
  show own_Go p e below _ T5 (mkF m 37 #[oR a, oR b, oR b] [(.ref a)])
  refine own_getF XT5 hx hZ hown (hw _ (List.mem_of_getElem? (i := 33) rfl)) eT5 V1 (hb hby d13_37) ?_
  intro T6 XT6 eT6
  show own_Go p e below _ T6 (mkF m 40 #[oR a, oR b, oR b] [(.ref v1)])
  refine own_by (fun t_ k_ => XS.aloadN XT6.here hx rfl (hb hby d13_40) rfl rfl  k_) ?_
  show own_Go p e below _ T6 (mkF m 41 #[oR a, oR b, oR b] [(.ref b), (.ref v1)])
  refine own_getF XT6 hx hZ hown (hw _ (List.mem_of_getElem? (i := 33) rfl)) eT6 V2 (hb hby d13_41) ?_
  intro T7 XT7 eT7
  show own_Go p e below _ T7 (mkF m 44 #[oR a, oR b, oR b] [(.ref v2), (.ref v1)])
  refine own_callS XT7 hx hZ hown (hw _ (List.mem_of_getElem? (i := 79) rfl)) (hw _ (List.mem_of_getElem? (i := 80) rfl)) (hw _ (List.mem_of_getElem? (i := 18) rfl)) (hw _ (List.mem_of_getElem? (i := 81) rfl)) (by decide) eT7 (argsL := [(.ref v1), (.ref v2)]) (rest := []) (own_le_2_1_met l Z a0 hw v1 v2 k1 k2 x0 x1 y0 h0 A1 A2) 0 (by decide) (by decide) (by rw [hml]; rfl) (lenOf pd_10 rfl) (Nat.le_of_eq rfl) (hb hby d13_44) (by decide) (by decide) (st := [(.ref v2), (.ref v1)]) rfl ?_
  intro T8 LT8 vT8 XT8 hQT8
  obtain ⟨rfl, eT8, rfl⟩ := hQT8
  show own_Go p e below _ T8 (mkF m 47 #[oR a, oR b, oR b] [(.int (own_le_2_1 v1 v2 k1 k2 x0 x1 y0))])
  have N9 := own_Fr.app N0 own_Fr.nil
  by_cases c47_9 : (own_le_2_1 v1 v2 k1 k2 x0 x1 y0) = (0 : Int32)
  · refine own_by (fun t_ k_ => XS.ifYes XT8.here hx rfl (pc0 := 47) (pc' := 54) rfl (hb hby d13_47) rfl (XT.i0_eq_t c47_9) (by decide) (by decide) k_) ?_
    show own_Go p e below _ T8 (mkF m 54 #[oR a, oR b, oR b] [])
    refine own_by (fun t_ k_ => XT.iconstV XT8.here hx rfl (0 : Int32) (hb hby d13_54) (by decide) k_) ?_
    show own_Go p e below _ T8 (mkF m 55 #[oR a, oR b, oR b] [(.int (0 : Int32))])
    exact own_retN XT8 hx hlk hret (by simp) (w := (0 : Int32)) (hb hby d13_55) (by decide) (by decide) (by decide) (⟨by rw [own_eq_2_1, if_pos c47_9], eT8, rfl⟩)
  · refine own_by (fun t_ k_ => XS.ifNo XT8.here hx rfl (hb hby d13_47) rfl (XT.i0_eq_f c47_9) k_) ?_
    show own_Go p e below _ T8 (mkF m 50 #[oR a, oR b, oR b] [])
    refine own_by (fun t_ k_ => XT.iconstV XT8.here hx rfl (1 : Int32) (hb hby d13_50) (by decide) k_) ?_
    show own_Go p e below _ T8 (mkF m 51 #[oR a, oR b, oR b] [(.int (1 : Int32))])
    refine own_by (fun t_ k_ => XS.goto XT8.here hx rfl (pc0 := 51) (pc' := 55) rfl (hb hby d13_51) (by decide) (by decide) k_) ?_
    show own_Go p e below _ T8 (mkF m 55 #[oR a, oR b, oR b] [(.int (1 : Int32))])
    exact own_retN XT8 hx hlk hret (by simp) (w := (1 : Int32)) (hb hby d13_55) (by decide) (by decide) (by decide) (⟨by rw [own_eq_2_1, if_neg c47_9], eT8, rfl⟩)
def own_is_2_1 (a : Addr) (b : Addr) (kd wW tx : Addr) (v1 v2 : Addr) (k1 k2 : ClassId) (x0 x1 y0 : Int32) : Int32 := (if kd = wW then (if (own_eq_2_1 tx b v1 v2 k1 k2 x0 x1 y0) = (0 : Int32) then (0 : Int32) else (1 : Int32)) else (0 : Int32))
set_option maxRecDepth 65536 in
set_option maxHeartbeats 40000000 in
theorem own_is_2_1_met (l : Launch) (Z : State) (a0 : Array Value) (hw : ∀ d ∈ tables_1, d.before a0 Z = true) (a : Addr) (b : Addr) (kd wW tx : Addr) (v1 v2 : Addr) (k1 k2 : ClassId) (x0 x1 y0 : Int32) (h0 : Heap) (cs : Int32) (Cs : Sta Z h0 "java/lang/String" "COMPACT_STRINGS" "Z" (.int cs)) (hcs : ¬ cs = (0 : Int32)) (hne : tx ≠ b) (SW : Sta Z h0 "com/example/nimble_gate/nimblegate/policy/Token$Kind" "WORD" "Lcom/example/nimble_gate/nimblegate/policy/Token$Kind;" (.ref wW)) (Fk : Fld Z h0 a "com/example/nimble_gate/nimblegate/policy/Token" "kind" "Lcom/example/nimble_gate/nimblegate/policy/Token$Kind;" (.ref kd)) (Ft : Fld Z h0 a "com/example/nimble_gate/nimblegate/policy/Token" "text" "Ljava/lang/String;" (.ref tx))(E1 : Exa Z h0 tx "java/lang/String") (V1 : Fld Z h0 tx "java/lang/String" "value" "[B" (.ref v1)) (C1 : Fld Z h0 tx "java/lang/String" "coder" "B" (.int 0)) (A1 : own_A Z h0 v1 .byte k1 [(.int x0), (.int x1)])(E2 : Exa Z h0 b "java/lang/String") (V2 : Fld Z h0 b "java/lang/String" "value" "[B" (.ref v2)) (C2 : Fld Z h0 b "java/lang/String" "coder" "B" (.int 0)) (A2 : own_A Z h0 v2 .byte k2 [(.int y0)]) :
    own_Met l (⟨"com/example/nimble_gate/nimblegate/policy/Token", "isWord", "(Ljava/lang/String;)Z"⟩ : MethodName) prog_15_method_2_code 2 (some .boolean) [] ({ frames := 2, cells := 0, slots := 0, locals := 28 } : Room) Z #[(.ref a), (.ref b)] h0 (fun rv rh rL => rv = some (.int (own_is_2_1 a b kd wW tx v1 v2 k1 k2 x0 x1 y0)) ∧ rh = h0 ∧ rL = []) := by
  refine own_enter (plainFor_of_name pn_5) ?_
  intro p e s m below meth c T0 hx hby hml hret hlk hown hnm hZ X0 e0
  refine own_at (g' := (mkF m 0 #[oR a, oR b] [])) (by first | (simp [entryFrame, mkF, argsToLocals, Value.category]; done) | rfl) ?_
  show own_Go p e below _ T0 (mkF m 0 #[oR a, oR b] [])
  have K0 : Keep h0 h0 [] := Keep.refl h0 _
  have N0 : own_Fr h0.size h0.size [] := own_Fr.nil
  refine own_by (fun t_ k_ => XS.aloadN X0.here hx rfl (hb hby d12_0) rfl rfl  k_) ?_
  show own_Go p e below _ T0 (mkF m 1 #[oR a, oR b] [(.ref a)])
  refine own_getF X0 hx hZ hown (hw _ (List.mem_of_getElem? (i := 60) rfl)) e0 Fk (hb hby d12_1) ?_
  intro T1 XT1 eT1
  show own_Go p e below _ T1 (mkF m 4 #[oR a, oR b] [(.ref kd)])
  obtain ⟨T2, XT2, eT2, stT2⟩ := getS2 XT1 hx hZ hown (host := "") (Or.inl (hw _ (List.mem_of_getElem? (i := 73) rfl))) Via.refl eT1 SW (g := (mkF m 4 #[oR a, oR b] [(.ref kd)])) rfl (hb hby d12_4)
  refine own_by stT2 ?_
  show own_Go p e below _ T2 (mkF m 7 #[oR a, oR b] [(.ref wW), (.ref kd)])
  by_cases c7_2 : kd = wW
  · refine own_by (fun t_ k_ => Jvm.RoadKit.acmp (g := (mkF m 7 #[oR a, oR b] [(.ref wW), (.ref kd)])) XT2 hx rfl rfl rfl (pc0 := 7) (pc' := 10) (same := true) rfl (hb hby d12_7) rfl (decide_eq_true (congrArg Value.ref (c7_2))) (by decide) (by decide) k_) ?_
    show own_Go p e below _ T2 (mkF m 10 #[oR a, oR b] [])
    refine own_by (fun t_ k_ => XS.aloadN XT2.here hx rfl (hb hby d12_10) rfl rfl  k_) ?_
    show own_Go p e below _ T2 (mkF m 11 #[oR a, oR b] [(.ref a)])
    refine own_getF XT2 hx hZ hown (hw _ (List.mem_of_getElem? (i := 62) rfl)) eT2 Ft (hb hby d12_11) ?_
    intro T4 XT4 eT4
    show own_Go p e below _ T4 (mkF m 14 #[oR a, oR b] [(.ref tx)])
    refine own_by (fun t_ k_ => XS.aloadN XT4.here hx rfl (hb hby d12_14) rfl rfl  k_) ?_
    show own_Go p e below _ T4 (mkF m 15 #[oR a, oR b] [(.ref b), (.ref tx)])
    refine own_callV XT4 hx hZ hown (hw _ (List.mem_of_getElem? (i := 74) rfl)) (hw _ (List.mem_of_getElem? (i := 75) rfl)) (hw _ (List.mem_of_getElem? (i := 77) rfl)) (hw _ (List.mem_of_getElem? (i := 76) rfl)) (hw _ (List.mem_of_getElem? (i := 78) rfl)) (hw _ (List.mem_of_getElem? (i := 13) rfl)) (by decide) eT4 (b := tx) E1 (argsL := [(.ref b)]) (rest := []) (own_eq_2_1_met l Z a0 hw tx b v1 v2 k1 k2 x0 x1 y0 h0 cs Cs hcs hne E1 V1 C1 A1 E2 V2 C2 A2) 0 (by decide) (by decide) (by rw [hml]; rfl) (lenOf pd_11 rfl) (Nat.le_of_eq rfl) (hb hby d12_15) (by decide) (by decide) (st := [(.ref b), (.ref tx)]) rfl ?_
    intro T5 LT5 vT5 XT5 hQT5
    obtain ⟨rfl, eT5, rfl⟩ := hQT5
    show own_Go p e below _ T5 (mkF m 18 #[oR a, oR b] [(.int (own_eq_2_1 tx b v1 v2 k1 k2 x0 x1 y0))])
    have N6 := own_Fr.app N0 own_Fr.nil
    by_cases c18_6 : (own_eq_2_1 tx b v1 v2 k1 k2 x0 x1 y0) = (0 : Int32)
    · refine own_by (fun t_ k_ => XS.ifYes XT5.here hx rfl (pc0 := 18) (pc' := 25) rfl (hb hby d12_18) rfl (XT.i0_eq_t c18_6) (by decide) (by decide) k_) ?_
      show own_Go p e below _ T5 (mkF m 25 #[oR a, oR b] [])
      refine own_by (fun t_ k_ => XT.iconstV XT5.here hx rfl (0 : Int32) (hb hby d12_25) (by decide) k_) ?_
      show own_Go p e below _ T5 (mkF m 26 #[oR a, oR b] [(.int (0 : Int32))])
      exact own_retN XT5 hx hlk hret (by simp) (w := (0 : Int32)) (hb hby d12_26) (by decide) (by decide) (by decide) (⟨by rw [own_is_2_1, if_pos c7_2, if_pos c18_6], eT5, rfl⟩)
    · refine own_by (fun t_ k_ => XS.ifNo XT5.here hx rfl (hb hby d12_18) rfl (XT.i0_eq_f c18_6) k_) ?_
      show own_Go p e below _ T5 (mkF m 21 #[oR a, oR b] [])
      refine own_by (fun t_ k_ => XT.iconstV XT5.here hx rfl (1 : Int32) (hb hby d12_21) (by decide) k_) ?_
      show own_Go p e below _ T5 (mkF m 22 #[oR a, oR b] [(.int (1 : Int32))])
      refine own_by (fun t_ k_ => XS.goto XT5.here hx rfl (pc0 := 22) (pc' := 26) rfl (hb hby d12_22) (by decide) (by decide) k_) ?_
      show own_Go p e below _ T5 (mkF m 26 #[oR a, oR b] [(.int (1 : Int32))])
      exact own_retN XT5 hx hlk hret (by simp) (w := (1 : Int32)) (hb hby d12_26) (by decide) (by decide) (by decide) (⟨by rw [own_is_2_1, if_pos c7_2, if_neg c18_6], eT5, rfl⟩)
  · refine own_by (fun t_ k_ => Jvm.RoadKit.acmp (g := (mkF m 7 #[oR a, oR b] [(.ref wW), (.ref kd)])) XT2 hx rfl rfl rfl (pc0 := 7) (pc' := 25) (same := false) rfl (hb hby d12_7) rfl (decide_eq_false fun q => (c7_2) (Value.ref.inj q)) (by decide) (by decide) k_) ?_
    show own_Go p e below _ T2 (mkF m 25 #[oR a, oR b] [])
    refine own_by (fun t_ k_ => XT.iconstV XT2.here hx rfl (0 : Int32) (hb hby d12_25) (by decide) k_) ?_
    show own_Go p e below _ T2 (mkF m 26 #[oR a, oR b] [(.int (0 : Int32))])
    exact own_retN XT2 hx hlk hret (by simp) (w := (0 : Int32)) (hb hby d12_26) (by decide) (by decide) (by decide) (⟨by rw [own_is_2_1, if_neg c7_2], eT2, rfl⟩)
def own_le_2_2 (v1 : Addr) (v2 : Addr) (k1 k2 : ClassId) (x0 x1 y0 y1 : Int32) : Int32 := (if x0 = y0 then (if x1 = y1 then (1 : Int32) else (0 : Int32)) else (0 : Int32))
set_option maxRecDepth 65536 in
set_option maxHeartbeats 40000000 in
theorem own_le_2_2_met (l : Launch) (Z : State) (a0 : Array Value) (hw : ∀ d ∈ tables_1, d.before a0 Z = true) (v1 : Addr) (v2 : Addr) (k1 k2 : ClassId) (x0 x1 y0 y1 : Int32) (h0 : Heap) (A1 : own_A Z h0 v1 .byte k1 [(.int x0), (.int x1)]) (A2 : own_A Z h0 v2 .byte k2 [(.int y0), (.int y1)]) :
    own_Met l (⟨"java/lang/StringLatin1", "equals", "([B[B)Z"⟩ : MethodName) jdk_43_method_13_code 3 (some .boolean) [] ({ frames := 0, cells := 0, slots := 0, locals := 0 } : Room) Z #[(.ref v1), (.ref v2)] h0 (fun rv rh rL => rv = some (.int (own_le_2_2 v1 v2 k1 k2 x0 x1 y0 y1)) ∧ rh = h0 ∧ rL = []) := by
  refine own_enter (plainFor_of_name pn_3) ?_
  intro p e s m below meth c T0 hx hby hml hret hlk hown hnm hZ X0 e0
  refine own_at (g' := (mkF m 0 #[oR v1, oR v2, .unset] [])) (by first | (simp [entryFrame, mkF, argsToLocals, Value.category]; done) | rfl) ?_
  show own_Go p e below _ T0 (mkF m 0 #[oR v1, oR v2, .unset] [])
  have K0 : Keep h0 h0 [] := Keep.refl h0 _
  have N0 : own_Fr h0.size h0.size [] := own_Fr.nil
  refine own_by (fun t_ k_ => XS.aloadN X0.here hx rfl (hb hby d14_0) rfl rfl  k_) ?_
  show own_Go p e below _ T0 (mkF m 1 #[oR v1, oR v2, .unset] [(.ref v1)])
  refine own_len X0 hx hZ e0 A1 (2 : Int32) rfl (hb hby d14_1) ?_
  show own_Go p e below _ T0 (mkF m 2 #[oR v1, oR v2, .unset] [(.int (2 : Int32))])
  refine own_by (fun t_ k_ => XS.aloadN X0.here hx rfl (hb hby d14_2) rfl rfl  k_) ?_
  show own_Go p e below _ T0 (mkF m 3 #[oR v1, oR v2, .unset] [(.ref v2), (.int (2 : Int32))])
  refine own_len X0 hx hZ e0 A2 (2 : Int32) rfl (hb hby d14_3) ?_
  show own_Go p e below _ T0 (mkF m 4 #[oR v1, oR v2, .unset] [(.int (2 : Int32)), (.int (2 : Int32))])
  refine own_by (fun t_ k_ => XS.icmpNo X0.here hx rfl (hb hby d14_4) rfl (XT.ii_ne_f (by decide)) k_) ?_
  show own_Go p e below _ T0 (mkF m 7 #[oR v1, oR v2, .unset] [])
  refine own_by (fun t_ k_ => XT.iconstV X0.here hx rfl (0 : Int32) (hb hby d14_7) (by decide) k_) ?_
  show own_Go p e below _ T0 (mkF m 8 #[oR v1, oR v2, .unset] [(.int (0 : Int32))])
  refine own_by (fun t_ k_ => XS.istoreN X0.here hx rfl (hb hby d14_8) rfl (l' := #[oR v1, oR v2, oI (0 : Int32)]) rfl k_) ?_
  show own_Go p e below _ T0 (mkF m 9 #[oR v1, oR v2, oI (0 : Int32)] [])
  refine own_by (fun t_ k_ => XS.iloadN X0.here hx rfl (hb hby d14_9) rfl  k_) ?_
  show own_Go p e below _ T0 (mkF m 10 #[oR v1, oR v2, oI (0 : Int32)] [(.int (0 : Int32))])
  refine own_by (fun t_ k_ => XS.aloadN X0.here hx rfl (hb hby d14_10) rfl rfl  k_) ?_
  show own_Go p e below _ T0 (mkF m 11 #[oR v1, oR v2, oI (0 : Int32)] [(.ref v1), (.int (0 : Int32))])
  refine own_len X0 hx hZ e0 A1 (2 : Int32) rfl (hb hby d14_11) ?_
  show own_Go p e below _ T0 (mkF m 12 #[oR v1, oR v2, oI (0 : Int32)] [(.int (2 : Int32)), (.int (0 : Int32))])
  refine own_by (fun t_ k_ => XS.icmpNo X0.here hx rfl (hb hby d14_12) rfl (XT.ii_ge_f (by decide)) k_) ?_
  show own_Go p e below _ T0 (mkF m 15 #[oR v1, oR v2, oI (0 : Int32)] [])
  refine own_by (fun t_ k_ => XS.aloadN X0.here hx rfl (hb hby d14_15) rfl rfl  k_) ?_
  show own_Go p e below _ T0 (mkF m 16 #[oR v1, oR v2, oI (0 : Int32)] [(.ref v1)])
  refine own_by (fun t_ k_ => XS.iloadN X0.here hx rfl (hb hby d14_16) rfl  k_) ?_
  show own_Go p e below _ T0 (mkF m 17 #[oR v1, oR v2, oI (0 : Int32)] [(.int (0 : Int32)), (.ref v1)])
  refine own_ldB X0 hx hZ e0 A1 0 (by decide) (by decide) (v := (.int x0)) rfl (hb hby d14_17) ?_
  show own_Go p e below _ T0 (mkF m 18 #[oR v1, oR v2, oI (0 : Int32)] [(.int x0)])
  refine own_by (fun t_ k_ => XS.aloadN X0.here hx rfl (hb hby d14_18) rfl rfl  k_) ?_
  show own_Go p e below _ T0 (mkF m 19 #[oR v1, oR v2, oI (0 : Int32)] [(.ref v2), (.int x0)])
  refine own_by (fun t_ k_ => XS.iloadN X0.here hx rfl (hb hby d14_19) rfl  k_) ?_
  show own_Go p e below _ T0 (mkF m 20 #[oR v1, oR v2, oI (0 : Int32)] [(.int (0 : Int32)), (.ref v2), (.int x0)])
  refine own_ldB X0 hx hZ e0 A2 0 (by decide) (by decide) (v := (.int y0)) rfl (hb hby d14_20) ?_
  show own_Go p e below _ T0 (mkF m 21 #[oR v1, oR v2, oI (0 : Int32)] [(.int y0), (.int x0)])
  by_cases c21_0 : x0 = y0
  · refine own_by (fun t_ k_ => XS.icmpYes X0.here hx rfl (pc0 := 21) (pc' := 26) rfl (hb hby d14_21) rfl (XT.ii_eq_t c21_0) (by decide) (by decide) k_) ?_
    show own_Go p e below _ T0 (mkF m 26 #[oR v1, oR v2, oI (0 : Int32)] [])
    refine own_by (fun t_ k_ => XT.iincV X0.here hx rfl (1 : Int32) (hb hby d14_26) (by decide) rfl (l' := #[oR v1, oR v2, oI ((0 : Int32) + (1 : Int32))]) rfl k_) ?_
    show own_Go p e below _ T0 (mkF m 29 #[oR v1, oR v2, oI ((0 : Int32) + (1 : Int32))] [])
    rw [show ((0 : Int32) + (1 : Int32)) = (1 : Int32) by decide]
    show own_Go p e below _ T0 (mkF m 29 #[oR v1, oR v2, oI (1 : Int32)] [])
    refine own_by (fun t_ k_ => XS.goto X0.here hx rfl (pc0 := 29) (pc' := 9) rfl (hb hby d14_29) (by decide) (by decide) k_) ?_
    show own_Go p e below _ T0 (mkF m 9 #[oR v1, oR v2, oI (1 : Int32)] [])
    refine own_by (fun t_ k_ => XS.iloadN X0.here hx rfl (hb hby d14_9) rfl  k_) ?_
    show own_Go p e below _ T0 (mkF m 10 #[oR v1, oR v2, oI (1 : Int32)] [(.int (1 : Int32))])
    refine own_by (fun t_ k_ => XS.aloadN X0.here hx rfl (hb hby d14_10) rfl rfl  k_) ?_
    show own_Go p e below _ T0 (mkF m 11 #[oR v1, oR v2, oI (1 : Int32)] [(.ref v1), (.int (1 : Int32))])
    refine own_len X0 hx hZ e0 A1 (2 : Int32) rfl (hb hby d14_11) ?_
    show own_Go p e below _ T0 (mkF m 12 #[oR v1, oR v2, oI (1 : Int32)] [(.int (2 : Int32)), (.int (1 : Int32))])
    refine own_by (fun t_ k_ => XS.icmpNo X0.here hx rfl (hb hby d14_12) rfl (XT.ii_ge_f (by decide)) k_) ?_
    show own_Go p e below _ T0 (mkF m 15 #[oR v1, oR v2, oI (1 : Int32)] [])
    refine own_by (fun t_ k_ => XS.aloadN X0.here hx rfl (hb hby d14_15) rfl rfl  k_) ?_
    show own_Go p e below _ T0 (mkF m 16 #[oR v1, oR v2, oI (1 : Int32)] [(.ref v1)])
    refine own_by (fun t_ k_ => XS.iloadN X0.here hx rfl (hb hby d14_16) rfl  k_) ?_
    show own_Go p e below _ T0 (mkF m 17 #[oR v1, oR v2, oI (1 : Int32)] [(.int (1 : Int32)), (.ref v1)])
    refine own_ldB X0 hx hZ e0 A1 1 (by decide) (by decide) (v := (.int x1)) rfl (hb hby d14_17) ?_
    show own_Go p e below _ T0 (mkF m 18 #[oR v1, oR v2, oI (1 : Int32)] [(.int x1)])
    refine own_by (fun t_ k_ => XS.aloadN X0.here hx rfl (hb hby d14_18) rfl rfl  k_) ?_
    show own_Go p e below _ T0 (mkF m 19 #[oR v1, oR v2, oI (1 : Int32)] [(.ref v2), (.int x1)])
    refine own_by (fun t_ k_ => XS.iloadN X0.here hx rfl (hb hby d14_19) rfl  k_) ?_
    show own_Go p e below _ T0 (mkF m 20 #[oR v1, oR v2, oI (1 : Int32)] [(.int (1 : Int32)), (.ref v2), (.int x1)])
    refine own_ldB X0 hx hZ e0 A2 1 (by decide) (by decide) (v := (.int y1)) rfl (hb hby d14_20) ?_
    show own_Go p e below _ T0 (mkF m 21 #[oR v1, oR v2, oI (1 : Int32)] [(.int y1), (.int x1)])
    by_cases c21_1 : x1 = y1
    · refine own_by (fun t_ k_ => XS.icmpYes X0.here hx rfl (pc0 := 21) (pc' := 26) rfl (hb hby d14_21) rfl (XT.ii_eq_t c21_1) (by decide) (by decide) k_) ?_
      show own_Go p e below _ T0 (mkF m 26 #[oR v1, oR v2, oI (1 : Int32)] [])
      refine own_by (fun t_ k_ => XT.iincV X0.here hx rfl (1 : Int32) (hb hby d14_26) (by decide) rfl (l' := #[oR v1, oR v2, oI ((1 : Int32) + (1 : Int32))]) rfl k_) ?_
      show own_Go p e below _ T0 (mkF m 29 #[oR v1, oR v2, oI ((1 : Int32) + (1 : Int32))] [])
      rw [show ((1 : Int32) + (1 : Int32)) = (2 : Int32) by decide]
      show own_Go p e below _ T0 (mkF m 29 #[oR v1, oR v2, oI (2 : Int32)] [])
      refine own_by (fun t_ k_ => XS.goto X0.here hx rfl (pc0 := 29) (pc' := 9) rfl (hb hby d14_29) (by decide) (by decide) k_) ?_
      show own_Go p e below _ T0 (mkF m 9 #[oR v1, oR v2, oI (2 : Int32)] [])
      refine own_by (fun t_ k_ => XS.iloadN X0.here hx rfl (hb hby d14_9) rfl  k_) ?_
      show own_Go p e below _ T0 (mkF m 10 #[oR v1, oR v2, oI (2 : Int32)] [(.int (2 : Int32))])
      refine own_by (fun t_ k_ => XS.aloadN X0.here hx rfl (hb hby d14_10) rfl rfl  k_) ?_
      show own_Go p e below _ T0 (mkF m 11 #[oR v1, oR v2, oI (2 : Int32)] [(.ref v1), (.int (2 : Int32))])
      refine own_len X0 hx hZ e0 A1 (2 : Int32) rfl (hb hby d14_11) ?_
      show own_Go p e below _ T0 (mkF m 12 #[oR v1, oR v2, oI (2 : Int32)] [(.int (2 : Int32)), (.int (2 : Int32))])
      refine own_by (fun t_ k_ => XS.icmpYes X0.here hx rfl (pc0 := 12) (pc' := 32) rfl (hb hby d14_12) rfl (XT.ii_ge_t (by decide)) (by decide) (by decide) k_) ?_
      show own_Go p e below _ T0 (mkF m 32 #[oR v1, oR v2, oI (2 : Int32)] [])
      refine own_by (fun t_ k_ => XT.iconstV X0.here hx rfl (1 : Int32) (hb hby d14_32) (by decide) k_) ?_
      show own_Go p e below _ T0 (mkF m 33 #[oR v1, oR v2, oI (2 : Int32)] [(.int (1 : Int32))])
      exact own_retN X0 hx hlk hret (by simp) (w := (1 : Int32)) (hb hby d14_33) (by decide) (by decide) (by decide) (⟨by rw [own_le_2_2, if_pos c21_0, if_pos c21_1], e0, rfl⟩)
    · refine own_by (fun t_ k_ => XS.icmpNo X0.here hx rfl (hb hby d14_21) rfl (XT.ii_eq_f c21_1) k_) ?_
      show own_Go p e below _ T0 (mkF m 24 #[oR v1, oR v2, oI (1 : Int32)] [])
      refine own_by (fun t_ k_ => XT.iconstV X0.here hx rfl (0 : Int32) (hb hby d14_24) (by decide) k_) ?_
      show own_Go p e below _ T0 (mkF m 25 #[oR v1, oR v2, oI (1 : Int32)] [(.int (0 : Int32))])
      exact own_retN X0 hx hlk hret (by simp) (w := (0 : Int32)) (hb hby d14_25) (by decide) (by decide) (by decide) (⟨by rw [own_le_2_2, if_pos c21_0, if_neg c21_1], e0, rfl⟩)
  · refine own_by (fun t_ k_ => XS.icmpNo X0.here hx rfl (hb hby d14_21) rfl (XT.ii_eq_f c21_0) k_) ?_
    show own_Go p e below _ T0 (mkF m 24 #[oR v1, oR v2, oI (0 : Int32)] [])
    refine own_by (fun t_ k_ => XT.iconstV X0.here hx rfl (0 : Int32) (hb hby d14_24) (by decide) k_) ?_
    show own_Go p e below _ T0 (mkF m 25 #[oR v1, oR v2, oI (0 : Int32)] [(.int (0 : Int32))])
    exact own_retN X0 hx hlk hret (by simp) (w := (0 : Int32)) (hb hby d14_25) (by decide) (by decide) (by decide) (⟨by rw [own_le_2_2, if_neg c21_0], e0, rfl⟩)
def own_eq_2_2 (a : Addr) (b : Addr) (v1 v2 : Addr) (k1 k2 : ClassId) (x0 x1 y0 y1 : Int32) : Int32 := (if (own_le_2_2 v1 v2 k1 k2 x0 x1 y0 y1) = (0 : Int32) then (0 : Int32) else (1 : Int32))
set_option maxRecDepth 65536 in
set_option maxHeartbeats 40000000 in
theorem own_eq_2_2_met (l : Launch) (Z : State) (a0 : Array Value) (hw : ∀ d ∈ tables_1, d.before a0 Z = true) (a : Addr) (b : Addr) (v1 v2 : Addr) (k1 k2 : ClassId) (x0 x1 y0 y1 : Int32) (h0 : Heap) (cs : Int32) (Cs : Sta Z h0 "java/lang/String" "COMPACT_STRINGS" "Z" (.int cs)) (hcs : ¬ cs = (0 : Int32)) (hne : a ≠ b) (E1 : Exa Z h0 a "java/lang/String") (V1 : Fld Z h0 a "java/lang/String" "value" "[B" (.ref v1)) (C1 : Fld Z h0 a "java/lang/String" "coder" "B" (.int 0)) (A1 : own_A Z h0 v1 .byte k1 [(.int x0), (.int x1)])(E2 : Exa Z h0 b "java/lang/String") (V2 : Fld Z h0 b "java/lang/String" "value" "[B" (.ref v2)) (C2 : Fld Z h0 b "java/lang/String" "coder" "B" (.int 0)) (A2 : own_A Z h0 v2 .byte k2 [(.int y0), (.int y1)]) :
    own_Met l (⟨"java/lang/String", "equals", "(Ljava/lang/Object;)Z"⟩ : MethodName) jdk_42_method_66_code 3 (some .boolean) [] ({ frames := 1, cells := 0, slots := 0, locals := 14 } : Room) Z #[(.ref a), (.ref b)] h0 (fun rv rh rL => rv = some (.int (own_eq_2_2 a b v1 v2 k1 k2 x0 x1 y0 y1)) ∧ rh = h0 ∧ rL = []) := by
  refine own_enter (plainFor_of_name pn_1) ?_
  intro p e s m below meth c T0 hx hby hml hret hlk hown hnm hZ X0 e0
  refine own_at (g' := (mkF m 0 #[oR a, oR b, .unset] [])) (by first | (simp [entryFrame, mkF, argsToLocals, Value.category]; done) | rfl) ?_
  show own_Go p e below _ T0 (mkF m 0 #[oR a, oR b, .unset] [])
  have K0 : Keep h0 h0 [] := Keep.refl h0 _
  have N0 : own_Fr h0.size h0.size [] := own_Fr.nil
  refine own_by (fun t_ k_ => XS.aloadN X0.here hx rfl (hb hby d13_0) rfl rfl  k_) ?_
  show own_Go p e below _ T0 (mkF m 1 #[oR a, oR b, .unset] [(.ref a)])
  refine own_by (fun t_ k_ => XS.aloadN X0.here hx rfl (hb hby d13_1) rfl rfl  k_) ?_
  show own_Go p e below _ T0 (mkF m 2 #[oR a, oR b, .unset] [(.ref b), (.ref a)])
  refine own_by (fun t_ k_ => Jvm.RoadKit.acmp (g := (mkF m 2 #[oR a, oR b, .unset] [(.ref b), (.ref a)])) X0 hx rfl rfl rfl (pc0 := 2) (pc' := 7) (same := false) rfl (hb hby d13_2) rfl (decide_eq_false fun q => (hne) (Value.ref.inj q)) (by decide) (by decide) k_) ?_
  show own_Go p e below _ T0 (mkF m 7 #[oR a, oR b, .unset] [])
  refine own_by (fun t_ k_ => XS.aloadN X0.here hx rfl (hb hby d13_7) rfl rfl  k_) ?_
  show own_Go p e below _ T0 (mkF m 8 #[oR a, oR b, .unset] [(.ref b)])
  refine own_inst X0 hx hZ hown (hw _ (List.mem_of_getElem? (i := 20) rfl)) e0 E2 (hb hby d13_8) ?_
  intro T1 XT1 eT1
  show own_Go p e below _ T1 (mkF m 11 #[oR a, oR b, .unset] [(.int (1 : Int32))])
  refine own_by (fun t_ k_ => XS.ifNo XT1.here hx rfl (hb hby d13_11) rfl (XT.i0_eq_f (by decide)) k_) ?_
  show own_Go p e below _ T1 (mkF m 14 #[oR a, oR b, .unset] [])
  refine own_by (fun t_ k_ => XS.aloadN XT1.here hx rfl (hb hby d13_14) rfl rfl  k_) ?_
  show own_Go p e below _ T1 (mkF m 15 #[oR a, oR b, .unset] [(.ref b)])
  refine own_cast XT1 hx hZ hown (hw _ (List.mem_of_getElem? (i := 20) rfl)) eT1 E2 (hb hby d13_15) ?_
  intro T2 XT2 eT2
  show own_Go p e below _ T2 (mkF m 18 #[oR a, oR b, .unset] [(.ref b)])
  refine own_by (fun t_ k_ => XS.astoreN XT2.here hx rfl (hb hby d13_18) rfl rfl (l' := #[oR a, oR b, oR b]) rfl k_) ?_
  show own_Go p e below _ T2 (mkF m 19 #[oR a, oR b, oR b] [])
  obtain ⟨T3, XT3, eT3, stT3⟩ := getS2 XT2 hx hZ hown (host := "") (Or.inl (hw _ (List.mem_of_getElem? (i := 15) rfl))) Via.refl eT2 Cs (g := (mkF m 19 #[oR a, oR b, oR b] [])) rfl (hb hby d13_19)
  refine own_by stT3 ?_
  show own_Go p e below _ T3 (mkF m 22 #[oR a, oR b, oR b] [(.int cs)])
  refine own_by (fun t_ k_ => XS.ifNo XT3.here hx rfl (hb hby d13_22) rfl (XT.i0_eq_f hcs) k_) ?_
  show own_Go p e below _ T3 (mkF m 25 #[oR a, oR b, oR b] [])
  refine own_by (fun t_ k_ => XS.aloadN XT3.here hx rfl (hb hby d13_25) rfl rfl  k_) ?_
  show own_Go p e below _ T3 (mkF m 26 #[oR a, oR b, oR b] [(.ref a)])
  refine own_getF XT3 hx hZ hown (hw _ (List.mem_of_getElem? (i := 35) rfl)) eT3 C1 (hb hby d13_26) ?_
  intro T4 XT4 eT4
  show own_Go p e below _ T4 (mkF m 29 #[oR a, oR b, oR b] [(.int (0 : Int32))])
  refine own_by (fun t_ k_ => XS.aloadN XT4.here hx rfl (hb hby d13_29) rfl rfl  k_) ?_
  show own_Go p e below _ T4 (mkF m 30 #[oR a, oR b, oR b] [(.ref b), (.int (0 : Int32))])
  refine own_getF XT4 hx hZ hown (hw _ (List.mem_of_getElem? (i := 35) rfl)) eT4 C2 (hb hby d13_30) ?_
  intro T5 XT5 eT5
  show own_Go p e below _ T5 (mkF m 33 #[oR a, oR b, oR b] [(.int (0 : Int32)), (.int (0 : Int32))])
  refine own_by (fun t_ k_ => XS.icmpNo XT5.here hx rfl (hb hby d13_33) rfl (XT.ii_ne_f (by decide)) k_) ?_
  show own_Go p e below _ T5 (mkF m 36 #[oR a, oR b, oR b] [])
  refine own_by (fun t_ k_ => XS.aloadN XT5.here hx rfl (hb hby d13_36) rfl rfl  k_) ?_
  show own_Go p e below _ T5 (mkF m 37 #[oR a, oR b, oR b] [(.ref a)])
  refine own_getF XT5 hx hZ hown (hw _ (List.mem_of_getElem? (i := 33) rfl)) eT5 V1 (hb hby d13_37) ?_
  intro T6 XT6 eT6
  show own_Go p e below _ T6 (mkF m 40 #[oR a, oR b, oR b] [(.ref v1)])
  refine own_by (fun t_ k_ => XS.aloadN XT6.here hx rfl (hb hby d13_40) rfl rfl  k_) ?_
  show own_Go p e below _ T6 (mkF m 41 #[oR a, oR b, oR b] [(.ref b), (.ref v1)])
  refine own_getF XT6 hx hZ hown (hw _ (List.mem_of_getElem? (i := 33) rfl)) eT6 V2 (hb hby d13_41) ?_
  intro T7 XT7 eT7
  show own_Go p e below _ T7 (mkF m 44 #[oR a, oR b, oR b] [(.ref v2), (.ref v1)])
  refine own_callS XT7 hx hZ hown (hw _ (List.mem_of_getElem? (i := 79) rfl)) (hw _ (List.mem_of_getElem? (i := 80) rfl)) (hw _ (List.mem_of_getElem? (i := 18) rfl)) (hw _ (List.mem_of_getElem? (i := 81) rfl)) (by decide) eT7 (argsL := [(.ref v1), (.ref v2)]) (rest := []) (own_le_2_2_met l Z a0 hw v1 v2 k1 k2 x0 x1 y0 y1 h0 A1 A2) 0 (by decide) (by decide) (by rw [hml]; rfl) (lenOf pd_10 rfl) (Nat.le_of_eq rfl) (hb hby d13_44) (by decide) (by decide) (st := [(.ref v2), (.ref v1)]) rfl ?_
  intro T8 LT8 vT8 XT8 hQT8
  obtain ⟨rfl, eT8, rfl⟩ := hQT8
  show own_Go p e below _ T8 (mkF m 47 #[oR a, oR b, oR b] [(.int (own_le_2_2 v1 v2 k1 k2 x0 x1 y0 y1))])
  have N9 := own_Fr.app N0 own_Fr.nil
  by_cases c47_9 : (own_le_2_2 v1 v2 k1 k2 x0 x1 y0 y1) = (0 : Int32)
  · refine own_by (fun t_ k_ => XS.ifYes XT8.here hx rfl (pc0 := 47) (pc' := 54) rfl (hb hby d13_47) rfl (XT.i0_eq_t c47_9) (by decide) (by decide) k_) ?_
    show own_Go p e below _ T8 (mkF m 54 #[oR a, oR b, oR b] [])
    refine own_by (fun t_ k_ => XT.iconstV XT8.here hx rfl (0 : Int32) (hb hby d13_54) (by decide) k_) ?_
    show own_Go p e below _ T8 (mkF m 55 #[oR a, oR b, oR b] [(.int (0 : Int32))])
    exact own_retN XT8 hx hlk hret (by simp) (w := (0 : Int32)) (hb hby d13_55) (by decide) (by decide) (by decide) (⟨by rw [own_eq_2_2, if_pos c47_9], eT8, rfl⟩)
  · refine own_by (fun t_ k_ => XS.ifNo XT8.here hx rfl (hb hby d13_47) rfl (XT.i0_eq_f c47_9) k_) ?_
    show own_Go p e below _ T8 (mkF m 50 #[oR a, oR b, oR b] [])
    refine own_by (fun t_ k_ => XT.iconstV XT8.here hx rfl (1 : Int32) (hb hby d13_50) (by decide) k_) ?_
    show own_Go p e below _ T8 (mkF m 51 #[oR a, oR b, oR b] [(.int (1 : Int32))])
    refine own_by (fun t_ k_ => XS.goto XT8.here hx rfl (pc0 := 51) (pc' := 55) rfl (hb hby d13_51) (by decide) (by decide) k_) ?_
    show own_Go p e below _ T8 (mkF m 55 #[oR a, oR b, oR b] [(.int (1 : Int32))])
    exact own_retN XT8 hx hlk hret (by simp) (w := (1 : Int32)) (hb hby d13_55) (by decide) (by decide) (by decide) (⟨by rw [own_eq_2_2, if_neg c47_9], eT8, rfl⟩)
def own_is_2_2 (a : Addr) (b : Addr) (kd wW tx : Addr) (v1 v2 : Addr) (k1 k2 : ClassId) (x0 x1 y0 y1 : Int32) : Int32 := (if kd = wW then (if (own_eq_2_2 tx b v1 v2 k1 k2 x0 x1 y0 y1) = (0 : Int32) then (0 : Int32) else (1 : Int32)) else (0 : Int32))
set_option maxRecDepth 65536 in
set_option maxHeartbeats 40000000 in
theorem own_is_2_2_met (l : Launch) (Z : State) (a0 : Array Value) (hw : ∀ d ∈ tables_1, d.before a0 Z = true) (a : Addr) (b : Addr) (kd wW tx : Addr) (v1 v2 : Addr) (k1 k2 : ClassId) (x0 x1 y0 y1 : Int32) (h0 : Heap) (cs : Int32) (Cs : Sta Z h0 "java/lang/String" "COMPACT_STRINGS" "Z" (.int cs)) (hcs : ¬ cs = (0 : Int32)) (hne : tx ≠ b) (SW : Sta Z h0 "com/example/nimble_gate/nimblegate/policy/Token$Kind" "WORD" "Lcom/example/nimble_gate/nimblegate/policy/Token$Kind;" (.ref wW)) (Fk : Fld Z h0 a "com/example/nimble_gate/nimblegate/policy/Token" "kind" "Lcom/example/nimble_gate/nimblegate/policy/Token$Kind;" (.ref kd)) (Ft : Fld Z h0 a "com/example/nimble_gate/nimblegate/policy/Token" "text" "Ljava/lang/String;" (.ref tx))(E1 : Exa Z h0 tx "java/lang/String") (V1 : Fld Z h0 tx "java/lang/String" "value" "[B" (.ref v1)) (C1 : Fld Z h0 tx "java/lang/String" "coder" "B" (.int 0)) (A1 : own_A Z h0 v1 .byte k1 [(.int x0), (.int x1)])(E2 : Exa Z h0 b "java/lang/String") (V2 : Fld Z h0 b "java/lang/String" "value" "[B" (.ref v2)) (C2 : Fld Z h0 b "java/lang/String" "coder" "B" (.int 0)) (A2 : own_A Z h0 v2 .byte k2 [(.int y0), (.int y1)]) :
    own_Met l (⟨"com/example/nimble_gate/nimblegate/policy/Token", "isWord", "(Ljava/lang/String;)Z"⟩ : MethodName) prog_15_method_2_code 2 (some .boolean) [] ({ frames := 2, cells := 0, slots := 0, locals := 28 } : Room) Z #[(.ref a), (.ref b)] h0 (fun rv rh rL => rv = some (.int (own_is_2_2 a b kd wW tx v1 v2 k1 k2 x0 x1 y0 y1)) ∧ rh = h0 ∧ rL = []) := by
  refine own_enter (plainFor_of_name pn_5) ?_
  intro p e s m below meth c T0 hx hby hml hret hlk hown hnm hZ X0 e0
  refine own_at (g' := (mkF m 0 #[oR a, oR b] [])) (by first | (simp [entryFrame, mkF, argsToLocals, Value.category]; done) | rfl) ?_
  show own_Go p e below _ T0 (mkF m 0 #[oR a, oR b] [])
  have K0 : Keep h0 h0 [] := Keep.refl h0 _
  have N0 : own_Fr h0.size h0.size [] := own_Fr.nil
  refine own_by (fun t_ k_ => XS.aloadN X0.here hx rfl (hb hby d12_0) rfl rfl  k_) ?_
  show own_Go p e below _ T0 (mkF m 1 #[oR a, oR b] [(.ref a)])
  refine own_getF X0 hx hZ hown (hw _ (List.mem_of_getElem? (i := 60) rfl)) e0 Fk (hb hby d12_1) ?_
  intro T1 XT1 eT1
  show own_Go p e below _ T1 (mkF m 4 #[oR a, oR b] [(.ref kd)])
  obtain ⟨T2, XT2, eT2, stT2⟩ := getS2 XT1 hx hZ hown (host := "") (Or.inl (hw _ (List.mem_of_getElem? (i := 73) rfl))) Via.refl eT1 SW (g := (mkF m 4 #[oR a, oR b] [(.ref kd)])) rfl (hb hby d12_4)
  refine own_by stT2 ?_
  show own_Go p e below _ T2 (mkF m 7 #[oR a, oR b] [(.ref wW), (.ref kd)])
  by_cases c7_2 : kd = wW
  · refine own_by (fun t_ k_ => Jvm.RoadKit.acmp (g := (mkF m 7 #[oR a, oR b] [(.ref wW), (.ref kd)])) XT2 hx rfl rfl rfl (pc0 := 7) (pc' := 10) (same := true) rfl (hb hby d12_7) rfl (decide_eq_true (congrArg Value.ref (c7_2))) (by decide) (by decide) k_) ?_
    show own_Go p e below _ T2 (mkF m 10 #[oR a, oR b] [])
    refine own_by (fun t_ k_ => XS.aloadN XT2.here hx rfl (hb hby d12_10) rfl rfl  k_) ?_
    show own_Go p e below _ T2 (mkF m 11 #[oR a, oR b] [(.ref a)])
    refine own_getF XT2 hx hZ hown (hw _ (List.mem_of_getElem? (i := 62) rfl)) eT2 Ft (hb hby d12_11) ?_
    intro T4 XT4 eT4
    show own_Go p e below _ T4 (mkF m 14 #[oR a, oR b] [(.ref tx)])
    refine own_by (fun t_ k_ => XS.aloadN XT4.here hx rfl (hb hby d12_14) rfl rfl  k_) ?_
    show own_Go p e below _ T4 (mkF m 15 #[oR a, oR b] [(.ref b), (.ref tx)])
    refine own_callV XT4 hx hZ hown (hw _ (List.mem_of_getElem? (i := 74) rfl)) (hw _ (List.mem_of_getElem? (i := 75) rfl)) (hw _ (List.mem_of_getElem? (i := 77) rfl)) (hw _ (List.mem_of_getElem? (i := 76) rfl)) (hw _ (List.mem_of_getElem? (i := 78) rfl)) (hw _ (List.mem_of_getElem? (i := 13) rfl)) (by decide) eT4 (b := tx) E1 (argsL := [(.ref b)]) (rest := []) (own_eq_2_2_met l Z a0 hw tx b v1 v2 k1 k2 x0 x1 y0 y1 h0 cs Cs hcs hne E1 V1 C1 A1 E2 V2 C2 A2) 0 (by decide) (by decide) (by rw [hml]; rfl) (lenOf pd_11 rfl) (Nat.le_of_eq rfl) (hb hby d12_15) (by decide) (by decide) (st := [(.ref b), (.ref tx)]) rfl ?_
    intro T5 LT5 vT5 XT5 hQT5
    obtain ⟨rfl, eT5, rfl⟩ := hQT5
    show own_Go p e below _ T5 (mkF m 18 #[oR a, oR b] [(.int (own_eq_2_2 tx b v1 v2 k1 k2 x0 x1 y0 y1))])
    have N6 := own_Fr.app N0 own_Fr.nil
    by_cases c18_6 : (own_eq_2_2 tx b v1 v2 k1 k2 x0 x1 y0 y1) = (0 : Int32)
    · refine own_by (fun t_ k_ => XS.ifYes XT5.here hx rfl (pc0 := 18) (pc' := 25) rfl (hb hby d12_18) rfl (XT.i0_eq_t c18_6) (by decide) (by decide) k_) ?_
      show own_Go p e below _ T5 (mkF m 25 #[oR a, oR b] [])
      refine own_by (fun t_ k_ => XT.iconstV XT5.here hx rfl (0 : Int32) (hb hby d12_25) (by decide) k_) ?_
      show own_Go p e below _ T5 (mkF m 26 #[oR a, oR b] [(.int (0 : Int32))])
      exact own_retN XT5 hx hlk hret (by simp) (w := (0 : Int32)) (hb hby d12_26) (by decide) (by decide) (by decide) (⟨by rw [own_is_2_2, if_pos c7_2, if_pos c18_6], eT5, rfl⟩)
    · refine own_by (fun t_ k_ => XS.ifNo XT5.here hx rfl (hb hby d12_18) rfl (XT.i0_eq_f c18_6) k_) ?_
      show own_Go p e below _ T5 (mkF m 21 #[oR a, oR b] [])
      refine own_by (fun t_ k_ => XT.iconstV XT5.here hx rfl (1 : Int32) (hb hby d12_21) (by decide) k_) ?_
      show own_Go p e below _ T5 (mkF m 22 #[oR a, oR b] [(.int (1 : Int32))])
      refine own_by (fun t_ k_ => XS.goto XT5.here hx rfl (pc0 := 22) (pc' := 26) rfl (hb hby d12_22) (by decide) (by decide) k_) ?_
      show own_Go p e below _ T5 (mkF m 26 #[oR a, oR b] [(.int (1 : Int32))])
      exact own_retN XT5 hx hlk hret (by simp) (w := (1 : Int32)) (hb hby d12_26) (by decide) (by decide) (by decide) (⟨by rw [own_is_2_2, if_pos c7_2, if_neg c18_6], eT5, rfl⟩)
  · refine own_by (fun t_ k_ => Jvm.RoadKit.acmp (g := (mkF m 7 #[oR a, oR b] [(.ref wW), (.ref kd)])) XT2 hx rfl rfl rfl (pc0 := 7) (pc' := 25) (same := false) rfl (hb hby d12_7) rfl (decide_eq_false fun q => (c7_2) (Value.ref.inj q)) (by decide) (by decide) k_) ?_
    show own_Go p e below _ T2 (mkF m 25 #[oR a, oR b] [])
    refine own_by (fun t_ k_ => XT.iconstV XT2.here hx rfl (0 : Int32) (hb hby d12_25) (by decide) k_) ?_
    show own_Go p e below _ T2 (mkF m 26 #[oR a, oR b] [(.int (0 : Int32))])
    exact own_retN XT2 hx hlk hret (by simp) (w := (0 : Int32)) (hb hby d12_26) (by decide) (by decide) (by decide) (⟨by rw [own_is_2_2, if_neg c7_2], eT2, rfl⟩)
theorem own_pick_ne (k : Int32) (w0 w1 w2 w3 w4 : Addr) (hk : ¬ k = (0 : Int32)) (nw1 : w1 ≠ w0) (nw2 : w2 ≠ w0) (nw3 : w3 ≠ w0) (nw4 : w4 ≠ w0) : own_pick k w0 w1 w2 w3 w4 ≠ w0 := by
  unfold own_pick
  repeat' split
  all_goals first | assumption | exact absurd (by assumption) hk
theorem own_n3 (x : Int32) : ((x &&& (3 : Int32)) % (3 : Int32)) = (0 : Int32) ∨ ((x &&& (3 : Int32)) % (3 : Int32)) = (1 : Int32) ∨ ((x &&& (3 : Int32)) % (3 : Int32)) = (2 : Int32) := by
  have h := c_mask x (3 : Int32) 2 (by decide) (by decide)
  have h1 := (c_irem (x &&& (3 : Int32)) (3 : Int32) 3 (by decide)).1 (by omega)
  have h2 : ((x &&& (3 : Int32)) % (3 : Int32)).toInt = 0 ∨ ((x &&& (3 : Int32)) % (3 : Int32)).toInt = 1 ∨ ((x &&& (3 : Int32)) % (3 : Int32)).toInt = 2 := by omega
  rcases h2 with q | q | q
  · exact Or.inl (Int32.toInt_inj.mp (q.trans (by decide)))
  · exact Or.inr (Or.inl (Int32.toInt_inj.mp (q.trans (by decide))))
  · exact Or.inr (Or.inr ((Int32.toInt_inj.mp (q.trans (by decide)))))
theorem own_m3 (x : Int32) : x &&& (3 : Int32) = (0 : Int32) ∨ x &&& (3 : Int32) = (1 : Int32) ∨ x &&& (3 : Int32) = (2 : Int32) ∨ x &&& (3 : Int32) = (3 : Int32) := by
  have h := c_mask x (3 : Int32) 2 (by decide) (by decide)
  have h2 : (x &&& (3 : Int32)).toInt = 0 ∨ (x &&& (3 : Int32)).toInt = 1 ∨ (x &&& (3 : Int32)).toInt = 2 ∨ (x &&& (3 : Int32)).toInt = 3 := by omega
  rcases h2 with q | q | q | q
  · exact Or.inl (Int32.toInt_inj.mp (q.trans (by decide)))
  · exact Or.inr (Or.inl (Int32.toInt_inj.mp (q.trans (by decide))))
  · exact Or.inr (Or.inr (Or.inl (Int32.toInt_inj.mp (q.trans (by decide)))))
  · exact Or.inr (Or.inr (Or.inr ((Int32.toInt_inj.mp (q.trans (by decide))))))
theorem pd_12 : parseMethodDescriptor "(I)Lcom/example/nimble_gate/nimblegate/policy/Token$Kind;" = some ⟨[.int], some (.object "com/example/nimble_gate/nimblegate/policy/Token$Kind")⟩ := by decide +kernel
theorem pd_13 : parseMethodDescriptor "(ICC)Ljava/lang/String;" = some ⟨[.int, .char, .char], some (.object "java/lang/String")⟩ := by decide +kernel
theorem pd_14 : parseMethodDescriptor "(Lcom/example/nimble_gate/nimblegate/policy/Token$Kind;Ljava/lang/String;II)V" = some ⟨[(.object "com/example/nimble_gate/nimblegate/policy/Token$Kind"), (.object "java/lang/String"), .int, .int], none⟩ := by decide +kernel
theorem pd_15 : parseMethodDescriptor "(Ljava/lang/String;)Z" = some ⟨[(.object "java/lang/String")], some .boolean⟩ := by decide +kernel
set_option maxRecDepth 65536 in
set_option maxHeartbeats 40000000 in
theorem own_law (l : Launch) (Z : State) (a0 : Array Value) (hw : ∀ d ∈ tables_1, d.before a0 Z = true) (EL : List (String × Nat)) (hEL : EW Z a0 EL) (w0 w1 w2 w3 w4 : Addr) (i0 i1 i2 i3 : Int32) (h0 : Heap) (cs : Int32) (Cs : Sta Z h0 "java/lang/String" "COMPACT_STRINGS" "Z" (.int cs)) (hcs : ¬ cs = (0 : Int32)) (hmem : ("java/lang/String", 7) ∈ EL) (S : own_S Z h0 w0 w1 w2 w3 w4) (E0 : Exa Z h0 w0 "com/example/nimble_gate/nimblegate/policy/Token$Kind") (E1 : Exa Z h0 w1 "com/example/nimble_gate/nimblegate/policy/Token$Kind") (E2 : Exa Z h0 w2 "com/example/nimble_gate/nimblegate/policy/Token$Kind") (E3 : Exa Z h0 w3 "com/example/nimble_gate/nimblegate/policy/Token$Kind") (E4 : Exa Z h0 w4 "com/example/nimble_gate/nimblegate/policy/Token$Kind") (F0 : Fld Z h0 w0 "java/lang/Enum" "ordinal" "I" (.int (0 : Int32))) (F1 : Fld Z h0 w1 "java/lang/Enum" "ordinal" "I" (.int (1 : Int32))) (F2 : Fld Z h0 w2 "java/lang/Enum" "ordinal" "I" (.int (2 : Int32))) (F3 : Fld Z h0 w3 "java/lang/Enum" "ordinal" "I" (.int (3 : Int32))) (F4 : Fld Z h0 w4 "java/lang/Enum" "ordinal" "I" (.int (4 : Int32))) :
    own_MetW l x code maxLocals ret tables_1 room_1 Z EL #[(.int i0), (.int i1), (.int i2), (.int i3)] h0 (fun v h L => v = some (.int (1 : Int32)) ∧ Fr h0.size L) := by
  refine own_enterW (plainFor_of_name pn_2) ?_
  intro p e s m below meth c T0 hx hby hml hret hlk hown hnm hZ X0 e0 hS hC
  refine own_at (g' := (mkF m 0 #[oI i0, oI i1, oI i2, oI i3, .unset, .unset, .unset, .unset, .unset, .unset, .unset, .unset, .unset, .unset, .unset, .unset] [])) (by first | (simp [entryFrame, mkF, argsToLocals, Value.category, maxLocals]; done) | rfl) ?_
  show own_Go p e below _ T0 (mkF m 0 #[oI i0, oI i1, oI i2, oI i3, .unset, .unset, .unset, .unset, .unset, .unset, .unset, .unset, .unset, .unset, .unset, .unset] [])
  obtain ⟨S0, S1, S2, S3, S4⟩ := S
  have K0 : Keep h0 h0 [] := Keep.refl h0 _
  have N0 : own_Fr h0.size h0.size [] := own_Fr.nil
  have hk0 : 0 ≤ h0.size := Nat.zero_le _
  refine own_by (fun t_ k_ => XS.iloadN X0.here hx rfl (hb hby at_0) rfl  k_) ?_
  show own_Go p e below _ T0 (mkF m 1 #[oI i0, oI i1, oI i2, oI i3, .unset, .unset, .unset, .unset, .unset, .unset, .unset, .unset, .unset, .unset, .unset, .unset] [(.int i0)])
  refine own_by (fun t_ k_ => X0.ldcI hx hown (mvT hZ (hw _ (List.mem_of_getElem? (i := 0) rfl))) rfl (hb hby at_1) k_) ?_
  show own_Go p e below _ T0 (mkF m 3 #[oI i0, oI i1, oI i2, oI i3, .unset, .unset, .unset, .unset, .unset, .unset, .unset, .unset, .unset, .unset, .unset, .unset] [(.int (2147483647 : Int32)), (.int i0)])
  refine own_by (fun t_ k_ => XS.iand X0.here hx rfl (hb hby at_3) rfl k_) ?_
  show own_Go p e below _ T0 (mkF m 4 #[oI i0, oI i1, oI i2, oI i3, .unset, .unset, .unset, .unset, .unset, .unset, .unset, .unset, .unset, .unset, .unset, .unset] [(.int (i0 &&& (2147483647 : Int32)))])
  refine own_by (fun t_ k_ => XT.iconstV X0.here hx rfl (5 : Int32) (hb hby at_4) (by decide) k_) ?_
  show own_Go p e below _ T0 (mkF m 5 #[oI i0, oI i1, oI i2, oI i3, .unset, .unset, .unset, .unset, .unset, .unset, .unset, .unset, .unset, .unset, .unset, .unset] [(.int (5 : Int32)), (.int (i0 &&& (2147483647 : Int32)))])
  refine own_by (fun t_ k_ => iremM X0 hx rfl (hb hby at_5) rfl (by decide) k_) ?_
  show own_Go p e below _ T0 (mkF m 6 #[oI i0, oI i1, oI i2, oI i3, .unset, .unset, .unset, .unset, .unset, .unset, .unset, .unset, .unset, .unset, .unset, .unset] [(.int ((i0 &&& (2147483647 : Int32)) % (5 : Int32)))])
  generalize ((i0 &&& (2147483647 : Int32)) % (5 : Int32)) = kk
  show own_Go p e below _ T0 (mkF m 6 #[oI i0, oI i1, oI i2, oI i3, .unset, .unset, .unset, .unset, .unset, .unset, .unset, .unset, .unset, .unset, .unset, .unset] [(.int kk)])
  refine own_by (fun t_ k_ => XS.istore X0.here hx rfl (hb hby at_6) rfl (l' := #[oI i0, oI i1, oI i2, oI i3, oI kk, .unset, .unset, .unset, .unset, .unset, .unset, .unset, .unset, .unset, .unset, .unset]) rfl k_) ?_
  show own_Go p e below _ T0 (mkF m 8 #[oI i0, oI i1, oI i2, oI i3, oI kk, .unset, .unset, .unset, .unset, .unset, .unset, .unset, .unset, .unset, .unset, .unset] [])
  refine own_by (fun t_ k_ => XS.iload X0.here hx rfl (hb hby at_8) rfl  k_) ?_
  show own_Go p e below _ T0 (mkF m 10 #[oI i0, oI i1, oI i2, oI i3, oI kk, .unset, .unset, .unset, .unset, .unset, .unset, .unset, .unset, .unset, .unset, .unset] [(.int kk)])
  refine own_callS X0 hx hZ hown (hw _ (List.mem_of_getElem? (i := 1) rfl)) (hw _ (List.mem_of_getElem? (i := 2) rfl)) (hw _ (List.mem_of_getElem? (i := 3) rfl)) (hw _ (List.mem_of_getElem? (i := 4) rfl)) (by decide) e0 (argsL := [(.int kk)]) (rest := []) (own_pick_met l Z a0 hw kk w0 w1 w2 w3 w4 h0 ⟨S0, S1, S2, S3, S4⟩) 0 (by decide) (by decide) (by rw [hml]; rfl) (lenOf pd_12 rfl) (Nat.le_of_eq rfl) (hb hby at_10) (by decide) (by decide) (st := [(.int kk)]) rfl ?_
  intro T1 LT1 vT1 XT1 hQT1
  obtain ⟨rfl, eT1, rfl⟩ := hQT1
  show own_Go p e below _ T1 (mkF m 13 #[oI i0, oI i1, oI i2, oI i3, oI kk, .unset, .unset, .unset, .unset, .unset, .unset, .unset, .unset, .unset, .unset, .unset] [(.ref (own_pick kk w0 w1 w2 w3 w4))])
  have N2 := own_Fr.app N0 own_Fr.nil
  generalize hkd : (own_pick kk w0 w1 w2 w3 w4) = kd
  show own_Go p e below _ T1 (mkF m 13 #[oI i0, oI i1, oI i2, oI i3, oI kk, .unset, .unset, .unset, .unset, .unset, .unset, .unset, .unset, .unset, .unset, .unset] [(.ref kd)])
  refine own_by (fun t_ k_ => XS.astore XT1.here hx rfl (hb hby at_13) rfl rfl (l' := #[oI i0, oI i1, oI i2, oI i3, oI kk, oR kd, .unset, .unset, .unset, .unset, .unset, .unset, .unset, .unset, .unset, .unset]) rfl k_) ?_
  show own_Go p e below _ T1 (mkF m 15 #[oI i0, oI i1, oI i2, oI i3, oI kk, oR kd, .unset, .unset, .unset, .unset, .unset, .unset, .unset, .unset, .unset, .unset] [])
  refine own_by (fun t_ k_ => XS.iloadN XT1.here hx rfl (hb hby at_15) rfl  k_) ?_
  show own_Go p e below _ T1 (mkF m 16 #[oI i0, oI i1, oI i2, oI i3, oI kk, oR kd, .unset, .unset, .unset, .unset, .unset, .unset, .unset, .unset, .unset, .unset] [(.int i3)])
  refine own_by (fun t_ k_ => XT.iconstV XT1.here hx rfl (3 : Int32) (hb hby at_16) (by decide) k_) ?_
  show own_Go p e below _ T1 (mkF m 17 #[oI i0, oI i1, oI i2, oI i3, oI kk, oR kd, .unset, .unset, .unset, .unset, .unset, .unset, .unset, .unset, .unset, .unset] [(.int (3 : Int32)), (.int i3)])
  refine own_by (fun t_ k_ => XS.iand XT1.here hx rfl (hb hby at_17) rfl k_) ?_
  show own_Go p e below _ T1 (mkF m 18 #[oI i0, oI i1, oI i2, oI i3, oI kk, oR kd, .unset, .unset, .unset, .unset, .unset, .unset, .unset, .unset, .unset, .unset] [(.int (i3 &&& (3 : Int32)))])
  refine own_by (fun t_ k_ => XT.iconstV XT1.here hx rfl (3 : Int32) (hb hby at_18) (by decide) k_) ?_
  show own_Go p e below _ T1 (mkF m 19 #[oI i0, oI i1, oI i2, oI i3, oI kk, oR kd, .unset, .unset, .unset, .unset, .unset, .unset, .unset, .unset, .unset, .unset] [(.int (3 : Int32)), (.int (i3 &&& (3 : Int32)))])
  refine own_by (fun t_ k_ => iremM XT1 hx rfl (hb hby at_19) rfl (by decide) k_) ?_
  show own_Go p e below _ T1 (mkF m 20 #[oI i0, oI i1, oI i2, oI i3, oI kk, oR kd, .unset, .unset, .unset, .unset, .unset, .unset, .unset, .unset, .unset, .unset] [(.int ((i3 &&& (3 : Int32)) % (3 : Int32)))])
  have htn := own_n3 i3
  generalize ((i3 &&& (3 : Int32)) % (3 : Int32)) = tn at htn ⊢
  show own_Go p e below _ T1 (mkF m 20 #[oI i0, oI i1, oI i2, oI i3, oI kk, oR kd, .unset, .unset, .unset, .unset, .unset, .unset, .unset, .unset, .unset, .unset] [(.int tn)])
  refine own_by (fun t_ k_ => XS.istore XT1.here hx rfl (hb hby at_20) rfl (l' := #[oI i0, oI i1, oI i2, oI i3, oI kk, oR kd, oI tn, .unset, .unset, .unset, .unset, .unset, .unset, .unset, .unset, .unset]) rfl k_) ?_
  show own_Go p e below _ T1 (mkF m 22 #[oI i0, oI i1, oI i2, oI i3, oI kk, oR kd, oI tn, .unset, .unset, .unset, .unset, .unset, .unset, .unset, .unset, .unset] [])
  refine own_by (fun t_ k_ => XS.iloadN XT1.here hx rfl (hb hby at_22) rfl  k_) ?_
  show own_Go p e below _ T1 (mkF m 23 #[oI i0, oI i1, oI i2, oI i3, oI kk, oR kd, oI tn, .unset, .unset, .unset, .unset, .unset, .unset, .unset, .unset, .unset] [(.int i3)])
  refine own_by (fun t_ k_ => XT.iconstV XT1.here hx rfl (2 : Int32) (hb hby at_23) (by decide) k_) ?_
  show own_Go p e below _ T1 (mkF m 24 #[oI i0, oI i1, oI i2, oI i3, oI kk, oR kd, oI tn, .unset, .unset, .unset, .unset, .unset, .unset, .unset, .unset, .unset] [(.int (2 : Int32)), (.int i3)])
  refine own_by (fun t_ k_ => XT.iushr XT1.here hx rfl (hb hby at_24) rfl k_) ?_
  show own_Go p e below _ T1 (mkF m 25 #[oI i0, oI i1, oI i2, oI i3, oI kk, oR kd, oI tn, .unset, .unset, .unset, .unset, .unset, .unset, .unset, .unset, .unset] [(.int ((i3.toUInt32 >>> ((2 : Int32) &&& 31).toUInt32).toInt32))])
  refine own_by (fun t_ k_ => XT.iconstV XT1.here hx rfl (3 : Int32) (hb hby at_25) (by decide) k_) ?_
  show own_Go p e below _ T1 (mkF m 26 #[oI i0, oI i1, oI i2, oI i3, oI kk, oR kd, oI tn, .unset, .unset, .unset, .unset, .unset, .unset, .unset, .unset, .unset] [(.int (3 : Int32)), (.int ((i3.toUInt32 >>> ((2 : Int32) &&& 31).toUInt32).toInt32))])
  refine own_by (fun t_ k_ => XS.iand XT1.here hx rfl (hb hby at_26) rfl k_) ?_
  show own_Go p e below _ T1 (mkF m 27 #[oI i0, oI i1, oI i2, oI i3, oI kk, oR kd, oI tn, .unset, .unset, .unset, .unset, .unset, .unset, .unset, .unset, .unset] [(.int (((i3.toUInt32 >>> ((2 : Int32) &&& 31).toUInt32).toInt32) &&& (3 : Int32)))])
  refine own_by (fun t_ k_ => XT.iconstV XT1.here hx rfl (3 : Int32) (hb hby at_27) (by decide) k_) ?_
  show own_Go p e below _ T1 (mkF m 28 #[oI i0, oI i1, oI i2, oI i3, oI kk, oR kd, oI tn, .unset, .unset, .unset, .unset, .unset, .unset, .unset, .unset, .unset] [(.int (3 : Int32)), (.int (((i3.toUInt32 >>> ((2 : Int32) &&& 31).toUInt32).toInt32) &&& (3 : Int32)))])
  refine own_by (fun t_ k_ => iremM XT1 hx rfl (hb hby at_28) rfl (by decide) k_) ?_
  show own_Go p e below _ T1 (mkF m 29 #[oI i0, oI i1, oI i2, oI i3, oI kk, oR kd, oI tn, .unset, .unset, .unset, .unset, .unset, .unset, .unset, .unset, .unset] [(.int ((((i3.toUInt32 >>> ((2 : Int32) &&& 31).toUInt32).toInt32) &&& (3 : Int32)) % (3 : Int32)))])
  have hwn := own_n3 ((i3.toUInt32 >>> ((2 : Int32) &&& 31).toUInt32).toInt32)
  generalize ((((i3.toUInt32 >>> ((2 : Int32) &&& 31).toUInt32).toInt32) &&& (3 : Int32)) % (3 : Int32)) = wn at hwn ⊢
  show own_Go p e below _ T1 (mkF m 29 #[oI i0, oI i1, oI i2, oI i3, oI kk, oR kd, oI tn, .unset, .unset, .unset, .unset, .unset, .unset, .unset, .unset, .unset] [(.int wn)])
  refine own_by (fun t_ k_ => XS.istore XT1.here hx rfl (hb hby at_29) rfl (l' := #[oI i0, oI i1, oI i2, oI i3, oI kk, oR kd, oI tn, oI wn, .unset, .unset, .unset, .unset, .unset, .unset, .unset, .unset]) rfl k_) ?_
  show own_Go p e below _ T1 (mkF m 31 #[oI i0, oI i1, oI i2, oI i3, oI kk, oR kd, oI tn, oI wn, .unset, .unset, .unset, .unset, .unset, .unset, .unset, .unset] [])
  refine own_by (fun t_ k_ => XS.iloadN XT1.here hx rfl (hb hby at_31) rfl  k_) ?_
  show own_Go p e below _ T1 (mkF m 32 #[oI i0, oI i1, oI i2, oI i3, oI kk, oR kd, oI tn, oI wn, .unset, .unset, .unset, .unset, .unset, .unset, .unset, .unset] [(.int i1)])
  refine own_by (fun t_ k_ => XT.sipushV XT1.here hx rfl (255 : Int32) (hb hby at_32) (by decide) k_) ?_
  show own_Go p e below _ T1 (mkF m 35 #[oI i0, oI i1, oI i2, oI i3, oI kk, oR kd, oI tn, oI wn, .unset, .unset, .unset, .unset, .unset, .unset, .unset, .unset] [(.int (255 : Int32)), (.int i1)])
  refine own_by (fun t_ k_ => XS.iand XT1.here hx rfl (hb hby at_35) rfl k_) ?_
  show own_Go p e below _ T1 (mkF m 36 #[oI i0, oI i1, oI i2, oI i3, oI kk, oR kd, oI tn, oI wn, .unset, .unset, .unset, .unset, .unset, .unset, .unset, .unset] [(.int (i1 &&& (255 : Int32)))])
  refine own_by (fun t_ k_ => XT.i2c XT1.here hx rfl (hb hby at_36) rfl k_) ?_
  show own_Go p e below _ T1 (mkF m 37 #[oI i0, oI i1, oI i2, oI i3, oI kk, oR kd, oI tn, oI wn, .unset, .unset, .unset, .unset, .unset, .unset, .unset, .unset] [(.int ((i1 &&& (255 : Int32)).toUInt32.toUInt16.toUInt32.toInt32))])
  rw [i2c_mask i1]
  show own_Go p e below _ T1 (mkF m 37 #[oI i0, oI i1, oI i2, oI i3, oI kk, oR kd, oI tn, oI wn, .unset, .unset, .unset, .unset, .unset, .unset, .unset, .unset] [(.int (i1 &&& (255 : Int32)))])
  have Bch0 := own_ch_mask i1
  generalize (i1 &&& (255 : Int32)) = ch0 at Bch0 ⊢
  show own_Go p e below _ T1 (mkF m 37 #[oI i0, oI i1, oI i2, oI i3, oI kk, oR kd, oI tn, oI wn, .unset, .unset, .unset, .unset, .unset, .unset, .unset, .unset] [(.int ch0)])
  refine own_by (fun t_ k_ => XS.istore XT1.here hx rfl (hb hby at_37) rfl (l' := #[oI i0, oI i1, oI i2, oI i3, oI kk, oR kd, oI tn, oI wn, oI ch0, .unset, .unset, .unset, .unset, .unset, .unset, .unset]) rfl k_) ?_
  show own_Go p e below _ T1 (mkF m 39 #[oI i0, oI i1, oI i2, oI i3, oI kk, oR kd, oI tn, oI wn, oI ch0, .unset, .unset, .unset, .unset, .unset, .unset, .unset] [])
  refine own_by (fun t_ k_ => XS.iloadN XT1.here hx rfl (hb hby at_39) rfl  k_) ?_
  show own_Go p e below _ T1 (mkF m 40 #[oI i0, oI i1, oI i2, oI i3, oI kk, oR kd, oI tn, oI wn, oI ch0, .unset, .unset, .unset, .unset, .unset, .unset, .unset] [(.int i1)])
  refine own_by (fun t_ k_ => XT.bipushV XT1.here hx rfl (8 : Int32) (hb hby at_40) (by decide) k_) ?_
  show own_Go p e below _ T1 (mkF m 42 #[oI i0, oI i1, oI i2, oI i3, oI kk, oR kd, oI tn, oI wn, oI ch0, .unset, .unset, .unset, .unset, .unset, .unset, .unset] [(.int (8 : Int32)), (.int i1)])
  refine own_by (fun t_ k_ => XT.iushr XT1.here hx rfl (hb hby at_42) rfl k_) ?_
  show own_Go p e below _ T1 (mkF m 43 #[oI i0, oI i1, oI i2, oI i3, oI kk, oR kd, oI tn, oI wn, oI ch0, .unset, .unset, .unset, .unset, .unset, .unset, .unset] [(.int ((i1.toUInt32 >>> ((8 : Int32) &&& 31).toUInt32).toInt32))])
  refine own_by (fun t_ k_ => XT.sipushV XT1.here hx rfl (255 : Int32) (hb hby at_43) (by decide) k_) ?_
  show own_Go p e below _ T1 (mkF m 46 #[oI i0, oI i1, oI i2, oI i3, oI kk, oR kd, oI tn, oI wn, oI ch0, .unset, .unset, .unset, .unset, .unset, .unset, .unset] [(.int (255 : Int32)), (.int ((i1.toUInt32 >>> ((8 : Int32) &&& 31).toUInt32).toInt32))])
  refine own_by (fun t_ k_ => XS.iand XT1.here hx rfl (hb hby at_46) rfl k_) ?_
  show own_Go p e below _ T1 (mkF m 47 #[oI i0, oI i1, oI i2, oI i3, oI kk, oR kd, oI tn, oI wn, oI ch0, .unset, .unset, .unset, .unset, .unset, .unset, .unset] [(.int (((i1.toUInt32 >>> ((8 : Int32) &&& 31).toUInt32).toInt32) &&& (255 : Int32)))])
  refine own_by (fun t_ k_ => XT.i2c XT1.here hx rfl (hb hby at_47) rfl k_) ?_
  show own_Go p e below _ T1 (mkF m 48 #[oI i0, oI i1, oI i2, oI i3, oI kk, oR kd, oI tn, oI wn, oI ch0, .unset, .unset, .unset, .unset, .unset, .unset, .unset] [(.int ((((i1.toUInt32 >>> ((8 : Int32) &&& 31).toUInt32).toInt32) &&& (255 : Int32)).toUInt32.toUInt16.toUInt32.toInt32))])
  rw [i2c_mask ((i1.toUInt32 >>> ((8 : Int32) &&& 31).toUInt32).toInt32)]
  show own_Go p e below _ T1 (mkF m 48 #[oI i0, oI i1, oI i2, oI i3, oI kk, oR kd, oI tn, oI wn, oI ch0, .unset, .unset, .unset, .unset, .unset, .unset, .unset] [(.int (((i1.toUInt32 >>> ((8 : Int32) &&& 31).toUInt32).toInt32) &&& (255 : Int32)))])
  have Bch1 := own_ch_mask ((i1.toUInt32 >>> ((8 : Int32) &&& 31).toUInt32).toInt32)
  generalize (((i1.toUInt32 >>> ((8 : Int32) &&& 31).toUInt32).toInt32) &&& (255 : Int32)) = ch1 at Bch1 ⊢
  show own_Go p e below _ T1 (mkF m 48 #[oI i0, oI i1, oI i2, oI i3, oI kk, oR kd, oI tn, oI wn, oI ch0, .unset, .unset, .unset, .unset, .unset, .unset, .unset] [(.int ch1)])
  refine own_by (fun t_ k_ => XS.istore XT1.here hx rfl (hb hby at_48) rfl (l' := #[oI i0, oI i1, oI i2, oI i3, oI kk, oR kd, oI tn, oI wn, oI ch0, oI ch1, .unset, .unset, .unset, .unset, .unset, .unset]) rfl k_) ?_
  show own_Go p e below _ T1 (mkF m 50 #[oI i0, oI i1, oI i2, oI i3, oI kk, oR kd, oI tn, oI wn, oI ch0, oI ch1, .unset, .unset, .unset, .unset, .unset, .unset] [])
  refine own_by (fun t_ k_ => XS.iloadN XT1.here hx rfl (hb hby at_50) rfl  k_) ?_
  show own_Go p e below _ T1 (mkF m 51 #[oI i0, oI i1, oI i2, oI i3, oI kk, oR kd, oI tn, oI wn, oI ch0, oI ch1, .unset, .unset, .unset, .unset, .unset, .unset] [(.int i2)])
  refine own_by (fun t_ k_ => XT.sipushV XT1.here hx rfl (255 : Int32) (hb hby at_51) (by decide) k_) ?_
  show own_Go p e below _ T1 (mkF m 54 #[oI i0, oI i1, oI i2, oI i3, oI kk, oR kd, oI tn, oI wn, oI ch0, oI ch1, .unset, .unset, .unset, .unset, .unset, .unset] [(.int (255 : Int32)), (.int i2)])
  refine own_by (fun t_ k_ => XS.iand XT1.here hx rfl (hb hby at_54) rfl k_) ?_
  show own_Go p e below _ T1 (mkF m 55 #[oI i0, oI i1, oI i2, oI i3, oI kk, oR kd, oI tn, oI wn, oI ch0, oI ch1, .unset, .unset, .unset, .unset, .unset, .unset] [(.int (i2 &&& (255 : Int32)))])
  refine own_by (fun t_ k_ => XT.i2c XT1.here hx rfl (hb hby at_55) rfl k_) ?_
  show own_Go p e below _ T1 (mkF m 56 #[oI i0, oI i1, oI i2, oI i3, oI kk, oR kd, oI tn, oI wn, oI ch0, oI ch1, .unset, .unset, .unset, .unset, .unset, .unset] [(.int ((i2 &&& (255 : Int32)).toUInt32.toUInt16.toUInt32.toInt32))])
  rw [i2c_mask i2]
  show own_Go p e below _ T1 (mkF m 56 #[oI i0, oI i1, oI i2, oI i3, oI kk, oR kd, oI tn, oI wn, oI ch0, oI ch1, .unset, .unset, .unset, .unset, .unset, .unset] [(.int (i2 &&& (255 : Int32)))])
  have Bdh0 := own_ch_mask i2
  generalize (i2 &&& (255 : Int32)) = dh0 at Bdh0 ⊢
  show own_Go p e below _ T1 (mkF m 56 #[oI i0, oI i1, oI i2, oI i3, oI kk, oR kd, oI tn, oI wn, oI ch0, oI ch1, .unset, .unset, .unset, .unset, .unset, .unset] [(.int dh0)])
  refine own_by (fun t_ k_ => XS.istore XT1.here hx rfl (hb hby at_56) rfl (l' := #[oI i0, oI i1, oI i2, oI i3, oI kk, oR kd, oI tn, oI wn, oI ch0, oI ch1, oI dh0, .unset, .unset, .unset, .unset, .unset]) rfl k_) ?_
  show own_Go p e below _ T1 (mkF m 58 #[oI i0, oI i1, oI i2, oI i3, oI kk, oR kd, oI tn, oI wn, oI ch0, oI ch1, oI dh0, .unset, .unset, .unset, .unset, .unset] [])
  refine own_by (fun t_ k_ => XS.iloadN XT1.here hx rfl (hb hby at_58) rfl  k_) ?_
  show own_Go p e below _ T1 (mkF m 59 #[oI i0, oI i1, oI i2, oI i3, oI kk, oR kd, oI tn, oI wn, oI ch0, oI ch1, oI dh0, .unset, .unset, .unset, .unset, .unset] [(.int i2)])
  refine own_by (fun t_ k_ => XT.bipushV XT1.here hx rfl (8 : Int32) (hb hby at_59) (by decide) k_) ?_
  show own_Go p e below _ T1 (mkF m 61 #[oI i0, oI i1, oI i2, oI i3, oI kk, oR kd, oI tn, oI wn, oI ch0, oI ch1, oI dh0, .unset, .unset, .unset, .unset, .unset] [(.int (8 : Int32)), (.int i2)])
  refine own_by (fun t_ k_ => XT.iushr XT1.here hx rfl (hb hby at_61) rfl k_) ?_
  show own_Go p e below _ T1 (mkF m 62 #[oI i0, oI i1, oI i2, oI i3, oI kk, oR kd, oI tn, oI wn, oI ch0, oI ch1, oI dh0, .unset, .unset, .unset, .unset, .unset] [(.int ((i2.toUInt32 >>> ((8 : Int32) &&& 31).toUInt32).toInt32))])
  refine own_by (fun t_ k_ => XT.sipushV XT1.here hx rfl (255 : Int32) (hb hby at_62) (by decide) k_) ?_
  show own_Go p e below _ T1 (mkF m 65 #[oI i0, oI i1, oI i2, oI i3, oI kk, oR kd, oI tn, oI wn, oI ch0, oI ch1, oI dh0, .unset, .unset, .unset, .unset, .unset] [(.int (255 : Int32)), (.int ((i2.toUInt32 >>> ((8 : Int32) &&& 31).toUInt32).toInt32))])
  refine own_by (fun t_ k_ => XS.iand XT1.here hx rfl (hb hby at_65) rfl k_) ?_
  show own_Go p e below _ T1 (mkF m 66 #[oI i0, oI i1, oI i2, oI i3, oI kk, oR kd, oI tn, oI wn, oI ch0, oI ch1, oI dh0, .unset, .unset, .unset, .unset, .unset] [(.int (((i2.toUInt32 >>> ((8 : Int32) &&& 31).toUInt32).toInt32) &&& (255 : Int32)))])
  refine own_by (fun t_ k_ => XT.i2c XT1.here hx rfl (hb hby at_66) rfl k_) ?_
  show own_Go p e below _ T1 (mkF m 67 #[oI i0, oI i1, oI i2, oI i3, oI kk, oR kd, oI tn, oI wn, oI ch0, oI ch1, oI dh0, .unset, .unset, .unset, .unset, .unset] [(.int ((((i2.toUInt32 >>> ((8 : Int32) &&& 31).toUInt32).toInt32) &&& (255 : Int32)).toUInt32.toUInt16.toUInt32.toInt32))])
  rw [i2c_mask ((i2.toUInt32 >>> ((8 : Int32) &&& 31).toUInt32).toInt32)]
  show own_Go p e below _ T1 (mkF m 67 #[oI i0, oI i1, oI i2, oI i3, oI kk, oR kd, oI tn, oI wn, oI ch0, oI ch1, oI dh0, .unset, .unset, .unset, .unset, .unset] [(.int (((i2.toUInt32 >>> ((8 : Int32) &&& 31).toUInt32).toInt32) &&& (255 : Int32)))])
  have Bdh1 := own_ch_mask ((i2.toUInt32 >>> ((8 : Int32) &&& 31).toUInt32).toInt32)
  generalize (((i2.toUInt32 >>> ((8 : Int32) &&& 31).toUInt32).toInt32) &&& (255 : Int32)) = dh1 at Bdh1 ⊢
  show own_Go p e below _ T1 (mkF m 67 #[oI i0, oI i1, oI i2, oI i3, oI kk, oR kd, oI tn, oI wn, oI ch0, oI ch1, oI dh0, .unset, .unset, .unset, .unset, .unset] [(.int dh1)])
  refine own_by (fun t_ k_ => XS.istore XT1.here hx rfl (hb hby at_67) rfl (l' := #[oI i0, oI i1, oI i2, oI i3, oI kk, oR kd, oI tn, oI wn, oI ch0, oI ch1, oI dh0, oI dh1, .unset, .unset, .unset, .unset]) rfl k_) ?_
  show own_Go p e below _ T1 (mkF m 69 #[oI i0, oI i1, oI i2, oI i3, oI kk, oR kd, oI tn, oI wn, oI ch0, oI ch1, oI dh0, oI dh1, .unset, .unset, .unset, .unset] [])
  rcases htn with hk | hk | hk
  · subst hk
    show own_Go p e below _ T1 (mkF m 69 #[oI i0, oI i1, oI i2, oI i3, oI kk, oR kd, oI (0 : Int32), oI wn, oI ch0, oI ch1, oI dh0, oI dh1, .unset, .unset, .unset, .unset] [])
    refine own_by (fun t_ k_ => XS.iload XT1.here hx rfl (hb hby at_69) rfl  k_) ?_
    show own_Go p e below _ T1 (mkF m 71 #[oI i0, oI i1, oI i2, oI i3, oI kk, oR kd, oI (0 : Int32), oI wn, oI ch0, oI ch1, oI dh0, oI dh1, .unset, .unset, .unset, .unset] [(.int (0 : Int32))])
    refine own_by (fun t_ k_ => XS.iload XT1.here hx rfl (hb hby at_71) rfl  k_) ?_
    show own_Go p e below _ T1 (mkF m 73 #[oI i0, oI i1, oI i2, oI i3, oI kk, oR kd, oI (0 : Int32), oI wn, oI ch0, oI ch1, oI dh0, oI dh1, .unset, .unset, .unset, .unset] [(.int ch0), (.int (0 : Int32))])
    refine own_by (fun t_ k_ => XS.iload XT1.here hx rfl (hb hby at_73) rfl  k_) ?_
    show own_Go p e below _ T1 (mkF m 75 #[oI i0, oI i1, oI i2, oI i3, oI kk, oR kd, oI (0 : Int32), oI wn, oI ch0, oI ch1, oI dh0, oI dh1, .unset, .unset, .unset, .unset] [(.int ch1), (.int ch0), (.int (0 : Int32))])
    have g3 : h0.size ≤ h0.size := K0.1
    refine own_callSW XT1 hx hZ hEL hS eT1 hk0 hC hown (hw _ (List.mem_of_getElem? (i := 8) rfl)) (hw _ (List.mem_of_getElem? (i := 9) rfl)) (hw _ (List.mem_of_getElem? (i := 3) rfl)) (hw _ (List.mem_of_getElem? (i := 10) rfl)) (by decide) (argsL := [(.int (0 : Int32)), (.int ch0), (.int ch1)]) (rest := []) (own_str_0 l Z a0 hw EL hEL ch0 ch1 h0 cs Cs hcs Bch0 Bch1 hmem) 0 (by decide) (by decide) (by rw [hml]; rfl) (lenOf pd_13 rfl) (Nat.le_of_eq rfl) (hb hby at_75) (by decide) (by decide) (st := [(.int ch1), (.int ch0), (.int (0 : Int32))]) rfl ?_
    rintro T4 LT4 vT4 ⟨XT4, hQT4, hS, hgT4, hZ, hown, hCT4⟩
    obtain ⟨rfl, KT4, NT4, ST4⟩ := hQT4
    show own_Go p e below _ T4 (mkF m 78 #[oI i0, oI i1, oI i2, oI i3, oI kk, oR kd, oI (0 : Int32), oI wn, oI ch0, oI ch1, oI dh0, oI dh1, .unset, .unset, .unset, .unset] [(.ref h0.size)])
    have fq5_1 := own_stak Cs KT4
    have fq5_2 := own_stak S0 KT4
    have fq5_3 := own_stak S1 KT4
    have fq5_4 := own_stak S2 KT4
    have fq5_5 := own_stak S3 KT4
    have fq5_6 := own_stak S4 KT4
    have Kq5 := own_trans0 K0 KT4
    have hC := hCT4
    have hk0 := Nat.le_refl T4.heap.size
    obtain ⟨bT4, kbT4, EsT4, FvT4, FcT4, VT4⟩ := ST4
    have lt6 := EsT4.lt
    have lt7 := VT4.lt
    have N8 := own_Fr.app N2 (own_Fr.of NT4 (K0).1)
    refine own_by (fun t_ k_ => XS.astore XT4.here hx rfl (hb hby at_78) rfl rfl (l' := #[oI i0, oI i1, oI i2, oI i3, oI kk, oR kd, oI (0 : Int32), oI wn, oI ch0, oI ch1, oI dh0, oI dh1, oR h0.size, .unset, .unset, .unset]) rfl k_) ?_
    show own_Go p e below _ T4 (mkF m 80 #[oI i0, oI i1, oI i2, oI i3, oI kk, oR kd, oI (0 : Int32), oI wn, oI ch0, oI ch1, oI dh0, oI dh1, oR h0.size, .unset, .unset, .unset] [])
    rcases hwn with hk | hk | hk
    · subst hk
      show own_Go p e below _ T4 (mkF m 80 #[oI i0, oI i1, oI i2, oI i3, oI kk, oR kd, oI (0 : Int32), oI (0 : Int32), oI ch0, oI ch1, oI dh0, oI dh1, oR h0.size, .unset, .unset, .unset] [])
      refine own_by (fun t_ k_ => XS.iload XT4.here hx rfl (hb hby at_80) rfl  k_) ?_
      show own_Go p e below _ T4 (mkF m 82 #[oI i0, oI i1, oI i2, oI i3, oI kk, oR kd, oI (0 : Int32), oI (0 : Int32), oI ch0, oI ch1, oI dh0, oI dh1, oR h0.size, .unset, .unset, .unset] [(.int (0 : Int32))])
      refine own_by (fun t_ k_ => XS.iload XT4.here hx rfl (hb hby at_82) rfl  k_) ?_
      show own_Go p e below _ T4 (mkF m 84 #[oI i0, oI i1, oI i2, oI i3, oI kk, oR kd, oI (0 : Int32), oI (0 : Int32), oI ch0, oI ch1, oI dh0, oI dh1, oR h0.size, .unset, .unset, .unset] [(.int dh0), (.int (0 : Int32))])
      refine own_by (fun t_ k_ => XS.iload XT4.here hx rfl (hb hby at_84) rfl  k_) ?_
      show own_Go p e below _ T4 (mkF m 86 #[oI i0, oI i1, oI i2, oI i3, oI kk, oR kd, oI (0 : Int32), oI (0 : Int32), oI ch0, oI ch1, oI dh0, oI dh1, oR h0.size, .unset, .unset, .unset] [(.int dh1), (.int dh0), (.int (0 : Int32))])
      have g9 : h0.size ≤ T4.heap.size := Kq5.1
      refine own_callSW XT4 hx hZ hEL hS (rfl : T4.heap = T4.heap) hk0 hC hown (hw _ (List.mem_of_getElem? (i := 8) rfl)) (hw _ (List.mem_of_getElem? (i := 9) rfl)) (hw _ (List.mem_of_getElem? (i := 3) rfl)) (hw _ (List.mem_of_getElem? (i := 10) rfl)) (by decide) (argsL := [(.int (0 : Int32)), (.int dh0), (.int dh1)]) (rest := []) (own_str_0 l Z a0 hw EL hEL dh0 dh1 T4.heap cs fq5_1 hcs Bdh0 Bdh1 hmem) 0 (by decide) (by decide) (by rw [hml]; rfl) (lenOf pd_13 rfl) (Nat.le_of_eq rfl) (hb hby at_86) (by decide) (by decide) (st := [(.int dh1), (.int dh0), (.int (0 : Int32))]) rfl ?_
      rintro T10 LT10 vT10 ⟨XT10, hQT10, hS, hgT10, hZ, hown, hCT10⟩
      obtain ⟨rfl, KT10, NT10, ST10⟩ := hQT10
      show own_Go p e below _ T10 (mkF m 89 #[oI i0, oI i1, oI i2, oI i3, oI kk, oR kd, oI (0 : Int32), oI (0 : Int32), oI ch0, oI ch1, oI dh0, oI dh1, oR h0.size, .unset, .unset, .unset] [(.ref T4.heap.size)])
      have fq11_1 := own_stak fq5_1 KT10
      have fq11_2 := own_stak fq5_2 KT10
      have fq11_3 := own_stak fq5_3 KT10
      have fq11_4 := own_stak fq5_4 KT10
      have fq11_5 := own_stak fq5_5 KT10
      have fq11_6 := own_stak fq5_6 KT10
      have fq11_7 := EsT4.keep KT10
      have fq11_8 := FvT4.keep KT10 nin0
      have fq11_9 := FcT4.keep KT10 nin0
      have fq11_10 := VT4.keep KT10 nin0
      have lq11_0 := Nat.lt_of_lt_of_le lt6 KT10.1
      have lq11_1 := Nat.lt_of_lt_of_le lt7 KT10.1
      have Kq11 := own_trans0 Kq5 KT10
      have hC := hCT10
      have hk0 := Nat.le_refl T10.heap.size
      obtain ⟨bT10, kbT10, EsT10, FvT10, FcT10, VT10⟩ := ST10
      have lt12 := EsT10.lt
      have lt13 := VT10.lt
      have z14 : h0.size ≠ T4.heap.size := Nat.ne_of_lt lt6
      have z15 : bT4 ≠ T4.heap.size := Nat.ne_of_lt lt7
      have N16 := own_Fr.app N8 (own_Fr.of NT10 (Kq5).1)
      refine own_by (fun t_ k_ => XS.astore XT10.here hx rfl (hb hby at_89) rfl rfl (l' := #[oI i0, oI i1, oI i2, oI i3, oI kk, oR kd, oI (0 : Int32), oI (0 : Int32), oI ch0, oI ch1, oI dh0, oI dh1, oR h0.size, oR T4.heap.size, .unset, .unset]) rfl k_) ?_
      show own_Go p e below _ T10 (mkF m 91 #[oI i0, oI i1, oI i2, oI i3, oI kk, oR kd, oI (0 : Int32), oI (0 : Int32), oI ch0, oI ch1, oI dh0, oI dh1, oR h0.size, oR T4.heap.size, .unset, .unset] [])
      have g18 : h0.size ≤ T10.heap.size := Kq11.1
      refine own_new XT10 hx hZ hown (hw _ (List.mem_of_getElem? (i := 48) rfl)) (hw _ (List.mem_of_getElem? (i := 49) rfl)) (hw _ (List.mem_of_getElem? (i := 50) rfl)) (rfl : T10.heap = T10.heap) (hb hby at_91) (by decide) (by decide) ?_
      intro T17 hT17 XT17 eT17 ET17 AT17 DT17
      have fq19_1 := own_stak fq11_1 (own_ek ET17)
      have fq19_2 := own_stak fq11_2 (own_ek ET17)
      have fq19_3 := own_stak fq11_3 (own_ek ET17)
      have fq19_4 := own_stak fq11_4 (own_ek ET17)
      have fq19_5 := own_stak fq11_5 (own_ek ET17)
      have fq19_6 := own_stak fq11_6 (own_ek ET17)
      have fq19_7 := fq11_7.keep (own_ek ET17)
      have fq19_8 := fq11_8.keep (own_ek ET17) nin0
      have fq19_9 := fq11_9.keep (own_ek ET17) nin0
      have fq19_10 := fq11_10.keep (own_ek ET17) nin0
      have fq19_11 := EsT10.keep (own_ek ET17)
      have fq19_12 := FvT10.keep (own_ek ET17) nin0
      have fq19_13 := FcT10.keep (own_ek ET17) nin0
      have fq19_14 := VT10.keep (own_ek ET17) nin0
      have lq19_0 := Nat.lt_of_lt_of_le lq11_0 (own_ek ET17).1
      have lq19_1 := Nat.lt_of_lt_of_le lq11_1 (own_ek ET17).1
      have lq19_2 := Nat.lt_of_lt_of_le lt12 (own_ek ET17).1
      have lq19_3 := Nat.lt_of_lt_of_le lt13 (own_ek ET17).1
      have hC := hC.trans (CHr.keep (own_ek ET17) (fun _ q => by cases q) hC.1)
      have hk0 := Nat.le_trans hk0 (own_ek ET17).1
      have Kq19 := own_trans0 Kq11 (own_ek ET17)
      have z20 : h0.size ≠ T10.heap.size := Nat.ne_of_lt lq11_0
      have z21 : bT4 ≠ T10.heap.size := Nat.ne_of_lt lq11_1
      have z22 : T4.heap.size ≠ T10.heap.size := Nat.ne_of_lt lt12
      have z23 : bT10 ≠ T10.heap.size := Nat.ne_of_lt lt13
      have FT17_kind : Fld Z hT17 T10.heap.size "com/example/nimble_gate/nimblegate/policy/Token" "kind" "Lcom/example/nimble_gate/nimblegate/policy/Token$Kind;" .null := DT17 (ty := (.object "com/example/nimble_gate/nimblegate/policy/Token$Kind")) (Or.inr (hw _ (List.mem_of_getElem? (i := 61) rfl))) (by decide +kernel)
      have FT17_text : Fld Z hT17 T10.heap.size "com/example/nimble_gate/nimblegate/policy/Token" "text" "Ljava/lang/String;" .null := DT17 (ty := (.object "java/lang/String")) (Or.inr (hw _ (List.mem_of_getElem? (i := 63) rfl))) (by decide +kernel)
      have FT17_line : Fld Z hT17 T10.heap.size "com/example/nimble_gate/nimblegate/policy/Token" "line" "I" (.int 0) := DT17 (ty := .int) (Or.inr (hw _ (List.mem_of_getElem? (i := 65) rfl))) (by decide +kernel)
      have FT17_column : Fld Z hT17 T10.heap.size "com/example/nimble_gate/nimblegate/policy/Token" "column" "I" (.int 0) := DT17 (ty := .int) (Or.inr (hw _ (List.mem_of_getElem? (i := 67) rfl))) (by decide +kernel)
      clear DT17
      have lt24 := AT17.lt
      show own_Go p e below _ T17 (mkF m 94 #[oI i0, oI i1, oI i2, oI i3, oI kk, oR kd, oI (0 : Int32), oI (0 : Int32), oI ch0, oI ch1, oI dh0, oI dh1, oR h0.size, oR T4.heap.size, .unset, .unset] [(.ref T10.heap.size)])
      refine own_by (fun t_ k_ => XS.dup XT17.here hx rfl (hb hby at_94) rfl rfl k_) ?_
      show own_Go p e below _ T17 (mkF m 95 #[oI i0, oI i1, oI i2, oI i3, oI kk, oR kd, oI (0 : Int32), oI (0 : Int32), oI ch0, oI ch1, oI dh0, oI dh1, oR h0.size, oR T4.heap.size, .unset, .unset] [(.ref T10.heap.size), (.ref T10.heap.size)])
      refine own_by (fun t_ k_ => XS.aload XT17.here hx rfl (hb hby at_95) rfl rfl  k_) ?_
      show own_Go p e below _ T17 (mkF m 97 #[oI i0, oI i1, oI i2, oI i3, oI kk, oR kd, oI (0 : Int32), oI (0 : Int32), oI ch0, oI ch1, oI dh0, oI dh1, oR h0.size, oR T4.heap.size, .unset, .unset] [(.ref kd), (.ref T10.heap.size), (.ref T10.heap.size)])
      refine own_by (fun t_ k_ => XS.aload XT17.here hx rfl (hb hby at_97) rfl rfl  k_) ?_
      show own_Go p e below _ T17 (mkF m 99 #[oI i0, oI i1, oI i2, oI i3, oI kk, oR kd, oI (0 : Int32), oI (0 : Int32), oI ch0, oI ch1, oI dh0, oI dh1, oR h0.size, oR T4.heap.size, .unset, .unset] [(.ref h0.size), (.ref kd), (.ref T10.heap.size), (.ref T10.heap.size)])
      refine own_by (fun t_ k_ => XS.iloadN XT17.here hx rfl (hb hby at_99) rfl  k_) ?_
      show own_Go p e below _ T17 (mkF m 100 #[oI i0, oI i1, oI i2, oI i3, oI kk, oR kd, oI (0 : Int32), oI (0 : Int32), oI ch0, oI ch1, oI dh0, oI dh1, oR h0.size, oR T4.heap.size, .unset, .unset] [(.int i1), (.ref h0.size), (.ref kd), (.ref T10.heap.size), (.ref T10.heap.size)])
      refine own_by (fun t_ k_ => XS.iloadN XT17.here hx rfl (hb hby at_100) rfl  k_) ?_
      show own_Go p e below _ T17 (mkF m 101 #[oI i0, oI i1, oI i2, oI i3, oI kk, oR kd, oI (0 : Int32), oI (0 : Int32), oI ch0, oI ch1, oI dh0, oI dh1, oR h0.size, oR T4.heap.size, .unset, .unset] [(.int i2), (.int i1), (.ref h0.size), (.ref kd), (.ref T10.heap.size), (.ref T10.heap.size)])
      refine own_callN XT17 hx hZ rfl hown (hw _ (List.mem_of_getElem? (i := 51) rfl)) (hw _ (List.mem_of_getElem? (i := 52) rfl)) (hw _ (List.mem_of_getElem? (i := 53) rfl)) (hw _ (List.mem_of_getElem? (i := 50) rfl)) (by decide) eT17 (b := T10.heap.size) (argsL := [(.ref kd), (.ref h0.size), (.int i1), (.int i2)]) (rest := [(.ref T10.heap.size)]) (own_tok l Z a0 hw T10.heap.size kd h0.size i1 i2 hT17 AT17 FT17_kind FT17_text FT17_line FT17_column) 1 (by decide) (by decide) (by rw [hml]; rfl) (lenOf pd_14 rfl) (Nat.le_of_eq rfl) (hb hby at_101) (by decide) (by decide) (st := [(.int i2), (.int i1), (.ref h0.size), (.ref kd), (.ref T10.heap.size), (.ref T10.heap.size)]) rfl ?_
      intro T25 LT25 vT25 XT25 hQT25
      obtain ⟨rfl, KT25, NT25, FkT25, FtT25⟩ := hQT25
      show own_Go p e below _ T25 (mkF m 104 #[oI i0, oI i1, oI i2, oI i3, oI kk, oR kd, oI (0 : Int32), oI (0 : Int32), oI ch0, oI ch1, oI dh0, oI dh1, oR h0.size, oR T4.heap.size, .unset, .unset] [(.ref T10.heap.size)])
      have fq26_1 := own_stak1 fq19_1 KT25 AT17
      have fq26_2 := own_stak1 fq19_2 KT25 AT17
      have fq26_3 := own_stak1 fq19_3 KT25 AT17
      have fq26_4 := own_stak1 fq19_4 KT25 AT17
      have fq26_5 := own_stak1 fq19_5 KT25 AT17
      have fq26_6 := own_stak1 fq19_6 KT25 AT17
      have fq26_7 := fq19_7.keep KT25
      have fq26_8 := fq19_8.keep KT25 (own_nin z20)
      have fq26_9 := fq19_9.keep KT25 (own_nin z20)
      have fq26_10 := fq19_10.keep KT25 (own_nin z21)
      have fq26_11 := fq19_11.keep KT25
      have fq26_12 := fq19_12.keep KT25 (own_nin z22)
      have fq26_13 := fq19_13.keep KT25 (own_nin z22)
      have fq26_14 := fq19_14.keep KT25 (own_nin z23)
      have fq26_15 := AT17.keep KT25
      have lq26_0 := Nat.lt_of_lt_of_le lq19_0 KT25.1
      have lq26_1 := Nat.lt_of_lt_of_le lq19_1 KT25.1
      have lq26_2 := Nat.lt_of_lt_of_le lq19_2 KT25.1
      have lq26_3 := Nat.lt_of_lt_of_le lq19_3 KT25.1
      have lq26_4 := Nat.lt_of_lt_of_le lt24 KT25.1
      have hC := hC.trans (CHr.keep KT25 (fun _ q => by cases List.mem_singleton.mp q; exact (Safe.exa hZ.alike AT17 (by decide) (by decide))) hC.1)
      have hk0 := Nat.le_trans hk0 KT25.1
      have Kq26 := own_trans1 Kq19 KT25 (Or.inr g18)
      have N27 := own_Fr.app N16 (own_Fr.of (own_Fr.new NT25 g18 (Kq19).1) (Nat.le_refl _))
      refine own_by (fun t_ k_ => XS.astore XT25.here hx rfl (hb hby at_104) rfl rfl (l' := #[oI i0, oI i1, oI i2, oI i3, oI kk, oR kd, oI (0 : Int32), oI (0 : Int32), oI ch0, oI ch1, oI dh0, oI dh1, oR h0.size, oR T4.heap.size, oR T10.heap.size, .unset]) rfl k_) ?_
      show own_Go p e below _ T25 (mkF m 106 #[oI i0, oI i1, oI i2, oI i3, oI kk, oR kd, oI (0 : Int32), oI (0 : Int32), oI ch0, oI ch1, oI dh0, oI dh1, oR h0.size, oR T4.heap.size, oR T10.heap.size, .unset] [])
      refine own_by (fun t_ k_ => XS.iload XT25.here hx rfl (hb hby at_106) rfl  k_) ?_
      show own_Go p e below _ T25 (mkF m 108 #[oI i0, oI i1, oI i2, oI i3, oI kk, oR kd, oI (0 : Int32), oI (0 : Int32), oI ch0, oI ch1, oI dh0, oI dh1, oR h0.size, oR T4.heap.size, oR T10.heap.size, .unset] [(.int kk)])
      by_cases c108_27 : kk = (0 : Int32)
      · refine own_by (fun t_ k_ => XS.ifNo XT25.here hx rfl (hb hby at_108) rfl (XT.i0_ne_f c108_27) k_) ?_
        show own_Go p e below _ T25 (mkF m 111 #[oI i0, oI i1, oI i2, oI i3, oI kk, oR kd, oI (0 : Int32), oI (0 : Int32), oI ch0, oI ch1, oI dh0, oI dh1, oR h0.size, oR T4.heap.size, oR T10.heap.size, .unset] [])
        refine own_by (fun t_ k_ => XS.iload XT25.here hx rfl (hb hby at_111) rfl  k_) ?_
        show own_Go p e below _ T25 (mkF m 113 #[oI i0, oI i1, oI i2, oI i3, oI kk, oR kd, oI (0 : Int32), oI (0 : Int32), oI ch0, oI ch1, oI dh0, oI dh1, oR h0.size, oR T4.heap.size, oR T10.heap.size, .unset] [(.int (0 : Int32))])
        refine own_by (fun t_ k_ => XS.iload XT25.here hx rfl (hb hby at_113) rfl  k_) ?_
        show own_Go p e below _ T25 (mkF m 115 #[oI i0, oI i1, oI i2, oI i3, oI kk, oR kd, oI (0 : Int32), oI (0 : Int32), oI ch0, oI ch1, oI dh0, oI dh1, oR h0.size, oR T4.heap.size, oR T10.heap.size, .unset] [(.int (0 : Int32)), (.int (0 : Int32))])
        refine own_by (fun t_ k_ => XS.icmpNo XT25.here hx rfl (hb hby at_115) rfl (XT.ii_ne_f (by decide)) k_) ?_
        show own_Go p e below _ T25 (mkF m 118 #[oI i0, oI i1, oI i2, oI i3, oI kk, oR kd, oI (0 : Int32), oI (0 : Int32), oI ch0, oI ch1, oI dh0, oI dh1, oR h0.size, oR T4.heap.size, oR T10.heap.size, .unset] [])
        refine own_by (fun t_ k_ => XS.iload XT25.here hx rfl (hb hby at_118) rfl  k_) ?_
        show own_Go p e below _ T25 (mkF m 120 #[oI i0, oI i1, oI i2, oI i3, oI kk, oR kd, oI (0 : Int32), oI (0 : Int32), oI ch0, oI ch1, oI dh0, oI dh1, oR h0.size, oR T4.heap.size, oR T10.heap.size, .unset] [(.int (0 : Int32))])
        refine own_by (fun t_ k_ => XT.iconstV XT25.here hx rfl (1 : Int32) (hb hby at_120) (by decide) k_) ?_
        show own_Go p e below _ T25 (mkF m 121 #[oI i0, oI i1, oI i2, oI i3, oI kk, oR kd, oI (0 : Int32), oI (0 : Int32), oI ch0, oI ch1, oI dh0, oI dh1, oR h0.size, oR T4.heap.size, oR T10.heap.size, .unset] [(.int (1 : Int32)), (.int (0 : Int32))])
        refine own_by (fun t_ k_ => XS.icmpYes XT25.here hx rfl (pc0 := 121) (pc' := 131) rfl (hb hby at_121) rfl (XT.ii_lt_t (by decide)) (by decide) (by decide) k_) ?_
        show own_Go p e below _ T25 (mkF m 131 #[oI i0, oI i1, oI i2, oI i3, oI kk, oR kd, oI (0 : Int32), oI (0 : Int32), oI ch0, oI ch1, oI dh0, oI dh1, oR h0.size, oR T4.heap.size, oR T10.heap.size, .unset] [])
        refine own_by (fun t_ k_ => XS.iload XT25.here hx rfl (hb hby at_131) rfl  k_) ?_
        show own_Go p e below _ T25 (mkF m 133 #[oI i0, oI i1, oI i2, oI i3, oI kk, oR kd, oI (0 : Int32), oI (0 : Int32), oI ch0, oI ch1, oI dh0, oI dh1, oR h0.size, oR T4.heap.size, oR T10.heap.size, .unset] [(.int (0 : Int32))])
        refine own_by (fun t_ k_ => XT.iconstV XT25.here hx rfl (2 : Int32) (hb hby at_133) (by decide) k_) ?_
        show own_Go p e below _ T25 (mkF m 134 #[oI i0, oI i1, oI i2, oI i3, oI kk, oR kd, oI (0 : Int32), oI (0 : Int32), oI ch0, oI ch1, oI dh0, oI dh1, oR h0.size, oR T4.heap.size, oR T10.heap.size, .unset] [(.int (2 : Int32)), (.int (0 : Int32))])
        refine own_by (fun t_ k_ => XS.icmpYes XT25.here hx rfl (pc0 := 134) (pc' := 144) rfl (hb hby at_134) rfl (XT.ii_lt_t (by decide)) (by decide) (by decide) k_) ?_
        show own_Go p e below _ T25 (mkF m 144 #[oI i0, oI i1, oI i2, oI i3, oI kk, oR kd, oI (0 : Int32), oI (0 : Int32), oI ch0, oI ch1, oI dh0, oI dh1, oR h0.size, oR T4.heap.size, oR T10.heap.size, .unset] [])
        refine own_by (fun t_ k_ => XT.iconstV XT25.here hx rfl (1 : Int32) (hb hby at_144) (by decide) k_) ?_
        show own_Go p e below _ T25 (mkF m 145 #[oI i0, oI i1, oI i2, oI i3, oI kk, oR kd, oI (0 : Int32), oI (0 : Int32), oI ch0, oI ch1, oI dh0, oI dh1, oR h0.size, oR T4.heap.size, oR T10.heap.size, .unset] [(.int (1 : Int32))])
        refine own_by (fun t_ k_ => XS.goto XT25.here hx rfl (pc0 := 145) (pc' := 149) rfl (hb hby at_145) (by decide) (by decide) k_) ?_
        show own_Go p e below _ T25 (mkF m 149 #[oI i0, oI i1, oI i2, oI i3, oI kk, oR kd, oI (0 : Int32), oI (0 : Int32), oI ch0, oI ch1, oI dh0, oI dh1, oR h0.size, oR T4.heap.size, oR T10.heap.size, .unset] [(.int (1 : Int32))])
        refine own_by (fun t_ k_ => XS.istore XT25.here hx rfl (hb hby at_149) rfl (l' := #[oI i0, oI i1, oI i2, oI i3, oI kk, oR kd, oI (0 : Int32), oI (0 : Int32), oI ch0, oI ch1, oI dh0, oI dh1, oR h0.size, oR T4.heap.size, oR T10.heap.size, oI (1 : Int32)]) rfl k_) ?_
        show own_Go p e below _ T25 (mkF m 151 #[oI i0, oI i1, oI i2, oI i3, oI kk, oR kd, oI (0 : Int32), oI (0 : Int32), oI ch0, oI ch1, oI dh0, oI dh1, oR h0.size, oR T4.heap.size, oR T10.heap.size, oI (1 : Int32)] [])
        refine own_by (fun t_ k_ => XS.aload XT25.here hx rfl (hb hby at_151) rfl rfl  k_) ?_
        show own_Go p e below _ T25 (mkF m 153 #[oI i0, oI i1, oI i2, oI i3, oI kk, oR kd, oI (0 : Int32), oI (0 : Int32), oI ch0, oI ch1, oI dh0, oI dh1, oR h0.size, oR T4.heap.size, oR T10.heap.size, oI (1 : Int32)] [(.ref T10.heap.size)])
        refine own_by (fun t_ k_ => XS.aload XT25.here hx rfl (hb hby at_153) rfl rfl  k_) ?_
        show own_Go p e below _ T25 (mkF m 155 #[oI i0, oI i1, oI i2, oI i3, oI kk, oR kd, oI (0 : Int32), oI (0 : Int32), oI ch0, oI ch1, oI dh0, oI dh1, oR h0.size, oR T4.heap.size, oR T10.heap.size, oI (1 : Int32)] [(.ref T4.heap.size), (.ref T10.heap.size)])
        refine own_callV XT25 hx hZ hown (hw _ (List.mem_of_getElem? (i := 68) rfl)) (hw _ (List.mem_of_getElem? (i := 69) rfl)) (hw _ (List.mem_of_getElem? (i := 71) rfl)) (hw _ (List.mem_of_getElem? (i := 70) rfl)) (hw _ (List.mem_of_getElem? (i := 72) rfl)) (hw _ (List.mem_of_getElem? (i := 50) rfl)) (by decide) (rfl : T25.heap = T25.heap) (b := T10.heap.size) fq26_15 (argsL := [(.ref T4.heap.size)]) (rest := []) (own_is_0_0_met l Z a0 hw T10.heap.size T4.heap.size kd w0 h0.size bT4 bT10 kbT4 kbT10 T25.heap cs fq26_1 hcs z14 fq26_2 FkT25 FtT25 fq26_7 fq26_8 fq26_9 fq26_10 fq26_11 fq26_12 fq26_13 fq26_14) 0 (by decide) (by decide) (by rw [hml]; rfl) (lenOf pd_15 rfl) (Nat.le_of_eq rfl) (hb hby at_155) (by decide) (by decide) (st := [(.ref T4.heap.size), (.ref T10.heap.size)]) rfl ?_
        intro T29 LT29 vT29 XT29 hQT29
        obtain ⟨rfl, eT29, rfl⟩ := hQT29
        show own_Go p e below _ T29 (mkF m 158 #[oI i0, oI i1, oI i2, oI i3, oI kk, oR kd, oI (0 : Int32), oI (0 : Int32), oI ch0, oI ch1, oI dh0, oI dh1, oR h0.size, oR T4.heap.size, oR T10.heap.size, oI (1 : Int32)] [(.int (own_is_0_0 T10.heap.size T4.heap.size kd w0 h0.size bT4 bT10 kbT4 kbT10))])
        have N30 := own_Fr.app N27 own_Fr.nil
        refine own_by (fun t_ k_ => XS.iload XT29.here hx rfl (hb hby at_158) rfl  k_) ?_
        show own_Go p e below _ T29 (mkF m 160 #[oI i0, oI i1, oI i2, oI i3, oI kk, oR kd, oI (0 : Int32), oI (0 : Int32), oI ch0, oI ch1, oI dh0, oI dh1, oR h0.size, oR T4.heap.size, oR T10.heap.size, oI (1 : Int32)] [(.int (1 : Int32)), (.int (own_is_0_0 T10.heap.size T4.heap.size kd w0 h0.size bT4 bT10 kbT4 kbT10))])
        have hW : kd = w0 := hkd.symm.trans (by rw [own_pick, c108_27, if_pos (by decide)])
        have hfin : (own_is_0_0 T10.heap.size T4.heap.size kd w0 h0.size bT4 bT10 kbT4 kbT10) = (1 : Int32) := by rw [show (own_is_0_0 T10.heap.size T4.heap.size kd w0 h0.size bT4 bT10 kbT4 kbT10) = (1 : Int32) by rw [own_is_0_0, if_pos hW, if_neg (by rw [show (own_eq_0_0 h0.size T4.heap.size bT4 bT10 kbT4 kbT10 ) = (1 : Int32) by rw [own_eq_0_0, if_neg (by rw [show (own_le_0_0 bT4 bT10 kbT4 kbT10 ) = (1 : Int32) by rw [own_le_0_0]]; decide)]]; decide)]]
        refine own_by (fun t_ k_ => XS.icmpNo XT29.here hx rfl (hb hby at_160) rfl (XT.ii_ne_f hfin) k_) ?_
        show own_Go p e below _ T29 (mkF m 163 #[oI i0, oI i1, oI i2, oI i3, oI kk, oR kd, oI (0 : Int32), oI (0 : Int32), oI ch0, oI ch1, oI dh0, oI dh1, oR h0.size, oR T4.heap.size, oR T10.heap.size, oI (1 : Int32)] [])
        refine own_by (fun t_ k_ => XT.iconstV XT29.here hx rfl (1 : Int32) (hb hby at_163) (by decide) k_) ?_
        show own_Go p e below _ T29 (mkF m 164 #[oI i0, oI i1, oI i2, oI i3, oI kk, oR kd, oI (0 : Int32), oI (0 : Int32), oI ch0, oI ch1, oI dh0, oI dh1, oR h0.size, oR T4.heap.size, oR T10.heap.size, oI (1 : Int32)] [(.int (1 : Int32))])
        refine own_by (fun t_ k_ => XS.goto XT29.here hx rfl (pc0 := 164) (pc' := 168) rfl (hb hby at_164) (by decide) (by decide) k_) ?_
        show own_Go p e below _ T29 (mkF m 168 #[oI i0, oI i1, oI i2, oI i3, oI kk, oR kd, oI (0 : Int32), oI (0 : Int32), oI ch0, oI ch1, oI dh0, oI dh1, oR h0.size, oR T4.heap.size, oR T10.heap.size, oI (1 : Int32)] [(.int (1 : Int32))])
        exact own_retNW XT29 hx hlk hZ hEL hS eT29 hk0 hC hret (by simp) (w := (1 : Int32)) (hb hby at_168) (by decide) (by decide) (by decide) (⟨rfl, (N30).to (Nat.le_refl _)⟩)
      · refine own_by (fun t_ k_ => XS.ifYes XT25.here hx rfl (pc0 := 108) (pc' := 148) rfl (hb hby at_108) rfl (XT.i0_ne_t c108_27) (by decide) (by decide) k_) ?_
        show own_Go p e below _ T25 (mkF m 148 #[oI i0, oI i1, oI i2, oI i3, oI kk, oR kd, oI (0 : Int32), oI (0 : Int32), oI ch0, oI ch1, oI dh0, oI dh1, oR h0.size, oR T4.heap.size, oR T10.heap.size, .unset] [])
        refine own_by (fun t_ k_ => XT.iconstV XT25.here hx rfl (0 : Int32) (hb hby at_148) (by decide) k_) ?_
        show own_Go p e below _ T25 (mkF m 149 #[oI i0, oI i1, oI i2, oI i3, oI kk, oR kd, oI (0 : Int32), oI (0 : Int32), oI ch0, oI ch1, oI dh0, oI dh1, oR h0.size, oR T4.heap.size, oR T10.heap.size, .unset] [(.int (0 : Int32))])
        refine own_by (fun t_ k_ => XS.istore XT25.here hx rfl (hb hby at_149) rfl (l' := #[oI i0, oI i1, oI i2, oI i3, oI kk, oR kd, oI (0 : Int32), oI (0 : Int32), oI ch0, oI ch1, oI dh0, oI dh1, oR h0.size, oR T4.heap.size, oR T10.heap.size, oI (0 : Int32)]) rfl k_) ?_
        show own_Go p e below _ T25 (mkF m 151 #[oI i0, oI i1, oI i2, oI i3, oI kk, oR kd, oI (0 : Int32), oI (0 : Int32), oI ch0, oI ch1, oI dh0, oI dh1, oR h0.size, oR T4.heap.size, oR T10.heap.size, oI (0 : Int32)] [])
        refine own_by (fun t_ k_ => XS.aload XT25.here hx rfl (hb hby at_151) rfl rfl  k_) ?_
        show own_Go p e below _ T25 (mkF m 153 #[oI i0, oI i1, oI i2, oI i3, oI kk, oR kd, oI (0 : Int32), oI (0 : Int32), oI ch0, oI ch1, oI dh0, oI dh1, oR h0.size, oR T4.heap.size, oR T10.heap.size, oI (0 : Int32)] [(.ref T10.heap.size)])
        refine own_by (fun t_ k_ => XS.aload XT25.here hx rfl (hb hby at_153) rfl rfl  k_) ?_
        show own_Go p e below _ T25 (mkF m 155 #[oI i0, oI i1, oI i2, oI i3, oI kk, oR kd, oI (0 : Int32), oI (0 : Int32), oI ch0, oI ch1, oI dh0, oI dh1, oR h0.size, oR T4.heap.size, oR T10.heap.size, oI (0 : Int32)] [(.ref T4.heap.size), (.ref T10.heap.size)])
        refine own_callV XT25 hx hZ hown (hw _ (List.mem_of_getElem? (i := 68) rfl)) (hw _ (List.mem_of_getElem? (i := 69) rfl)) (hw _ (List.mem_of_getElem? (i := 71) rfl)) (hw _ (List.mem_of_getElem? (i := 70) rfl)) (hw _ (List.mem_of_getElem? (i := 72) rfl)) (hw _ (List.mem_of_getElem? (i := 50) rfl)) (by decide) (rfl : T25.heap = T25.heap) (b := T10.heap.size) fq26_15 (argsL := [(.ref T4.heap.size)]) (rest := []) (own_is_0_0_met l Z a0 hw T10.heap.size T4.heap.size kd w0 h0.size bT4 bT10 kbT4 kbT10 T25.heap cs fq26_1 hcs z14 fq26_2 FkT25 FtT25 fq26_7 fq26_8 fq26_9 fq26_10 fq26_11 fq26_12 fq26_13 fq26_14) 0 (by decide) (by decide) (by rw [hml]; rfl) (lenOf pd_15 rfl) (Nat.le_of_eq rfl) (hb hby at_155) (by decide) (by decide) (st := [(.ref T4.heap.size), (.ref T10.heap.size)]) rfl ?_
        intro T31 LT31 vT31 XT31 hQT31
        obtain ⟨rfl, eT31, rfl⟩ := hQT31
        show own_Go p e below _ T31 (mkF m 158 #[oI i0, oI i1, oI i2, oI i3, oI kk, oR kd, oI (0 : Int32), oI (0 : Int32), oI ch0, oI ch1, oI dh0, oI dh1, oR h0.size, oR T4.heap.size, oR T10.heap.size, oI (0 : Int32)] [(.int (own_is_0_0 T10.heap.size T4.heap.size kd w0 h0.size bT4 bT10 kbT4 kbT10))])
        have N32 := own_Fr.app N27 own_Fr.nil
        refine own_by (fun t_ k_ => XS.iload XT31.here hx rfl (hb hby at_158) rfl  k_) ?_
        show own_Go p e below _ T31 (mkF m 160 #[oI i0, oI i1, oI i2, oI i3, oI kk, oR kd, oI (0 : Int32), oI (0 : Int32), oI ch0, oI ch1, oI dh0, oI dh1, oR h0.size, oR T4.heap.size, oR T10.heap.size, oI (0 : Int32)] [(.int (0 : Int32)), (.int (own_is_0_0 T10.heap.size T4.heap.size kd w0 h0.size bT4 bT10 kbT4 kbT10))])
        have hW : ¬ kd = w0 := fun q => own_pick_ne kk w0 w1 w2 w3 w4 c108_27 (F1.ne F0 (by decide)) (F2.ne F0 (by decide)) (F3.ne F0 (by decide)) (F4.ne F0 (by decide)) (hkd.trans q)
        have hfin : (own_is_0_0 T10.heap.size T4.heap.size kd w0 h0.size bT4 bT10 kbT4 kbT10) = (0 : Int32) := by rw [show (own_is_0_0 T10.heap.size T4.heap.size kd w0 h0.size bT4 bT10 kbT4 kbT10) = (0 : Int32) by rw [own_is_0_0, if_neg hW]]
        refine own_by (fun t_ k_ => XS.icmpNo XT31.here hx rfl (hb hby at_160) rfl (XT.ii_ne_f hfin) k_) ?_
        show own_Go p e below _ T31 (mkF m 163 #[oI i0, oI i1, oI i2, oI i3, oI kk, oR kd, oI (0 : Int32), oI (0 : Int32), oI ch0, oI ch1, oI dh0, oI dh1, oR h0.size, oR T4.heap.size, oR T10.heap.size, oI (0 : Int32)] [])
        refine own_by (fun t_ k_ => XT.iconstV XT31.here hx rfl (1 : Int32) (hb hby at_163) (by decide) k_) ?_
        show own_Go p e below _ T31 (mkF m 164 #[oI i0, oI i1, oI i2, oI i3, oI kk, oR kd, oI (0 : Int32), oI (0 : Int32), oI ch0, oI ch1, oI dh0, oI dh1, oR h0.size, oR T4.heap.size, oR T10.heap.size, oI (0 : Int32)] [(.int (1 : Int32))])
        refine own_by (fun t_ k_ => XS.goto XT31.here hx rfl (pc0 := 164) (pc' := 168) rfl (hb hby at_164) (by decide) (by decide) k_) ?_
        show own_Go p e below _ T31 (mkF m 168 #[oI i0, oI i1, oI i2, oI i3, oI kk, oR kd, oI (0 : Int32), oI (0 : Int32), oI ch0, oI ch1, oI dh0, oI dh1, oR h0.size, oR T4.heap.size, oR T10.heap.size, oI (0 : Int32)] [(.int (1 : Int32))])
        exact own_retNW XT31 hx hlk hZ hEL hS eT31 hk0 hC hret (by simp) (w := (1 : Int32)) (hb hby at_168) (by decide) (by decide) (by decide) (⟨rfl, (N32).to (Nat.le_refl _)⟩)
    · subst hk
      show own_Go p e below _ T4 (mkF m 80 #[oI i0, oI i1, oI i2, oI i3, oI kk, oR kd, oI (0 : Int32), oI (1 : Int32), oI ch0, oI ch1, oI dh0, oI dh1, oR h0.size, .unset, .unset, .unset] [])
      refine own_by (fun t_ k_ => XS.iload XT4.here hx rfl (hb hby at_80) rfl  k_) ?_
      show own_Go p e below _ T4 (mkF m 82 #[oI i0, oI i1, oI i2, oI i3, oI kk, oR kd, oI (0 : Int32), oI (1 : Int32), oI ch0, oI ch1, oI dh0, oI dh1, oR h0.size, .unset, .unset, .unset] [(.int (1 : Int32))])
      refine own_by (fun t_ k_ => XS.iload XT4.here hx rfl (hb hby at_82) rfl  k_) ?_
      show own_Go p e below _ T4 (mkF m 84 #[oI i0, oI i1, oI i2, oI i3, oI kk, oR kd, oI (0 : Int32), oI (1 : Int32), oI ch0, oI ch1, oI dh0, oI dh1, oR h0.size, .unset, .unset, .unset] [(.int dh0), (.int (1 : Int32))])
      refine own_by (fun t_ k_ => XS.iload XT4.here hx rfl (hb hby at_84) rfl  k_) ?_
      show own_Go p e below _ T4 (mkF m 86 #[oI i0, oI i1, oI i2, oI i3, oI kk, oR kd, oI (0 : Int32), oI (1 : Int32), oI ch0, oI ch1, oI dh0, oI dh1, oR h0.size, .unset, .unset, .unset] [(.int dh1), (.int dh0), (.int (1 : Int32))])
      have g33 : h0.size ≤ T4.heap.size := Kq5.1
      refine own_callSW XT4 hx hZ hEL hS (rfl : T4.heap = T4.heap) hk0 hC hown (hw _ (List.mem_of_getElem? (i := 8) rfl)) (hw _ (List.mem_of_getElem? (i := 9) rfl)) (hw _ (List.mem_of_getElem? (i := 3) rfl)) (hw _ (List.mem_of_getElem? (i := 10) rfl)) (by decide) (argsL := [(.int (1 : Int32)), (.int dh0), (.int dh1)]) (rest := []) (own_str_1 l Z a0 hw EL hEL dh0 dh1 T4.heap cs fq5_1 hcs Bdh0 Bdh1 hmem) 0 (by decide) (by decide) (by rw [hml]; rfl) (lenOf pd_13 rfl) (Nat.le_of_eq rfl) (hb hby at_86) (by decide) (by decide) (st := [(.int dh1), (.int dh0), (.int (1 : Int32))]) rfl ?_
      rintro T34 LT34 vT34 ⟨XT34, hQT34, hS, hgT34, hZ, hown, hCT34⟩
      obtain ⟨rfl, KT34, NT34, ST34⟩ := hQT34
      show own_Go p e below _ T34 (mkF m 89 #[oI i0, oI i1, oI i2, oI i3, oI kk, oR kd, oI (0 : Int32), oI (1 : Int32), oI ch0, oI ch1, oI dh0, oI dh1, oR h0.size, .unset, .unset, .unset] [(.ref T4.heap.size)])
      have fq35_1 := own_stak fq5_1 KT34
      have fq35_2 := own_stak fq5_2 KT34
      have fq35_3 := own_stak fq5_3 KT34
      have fq35_4 := own_stak fq5_4 KT34
      have fq35_5 := own_stak fq5_5 KT34
      have fq35_6 := own_stak fq5_6 KT34
      have fq35_7 := EsT4.keep KT34
      have fq35_8 := FvT4.keep KT34 nin0
      have fq35_9 := FcT4.keep KT34 nin0
      have fq35_10 := VT4.keep KT34 nin0
      have lq35_0 := Nat.lt_of_lt_of_le lt6 KT34.1
      have lq35_1 := Nat.lt_of_lt_of_le lt7 KT34.1
      have Kq35 := own_trans0 Kq5 KT34
      have hC := hCT34
      have hk0 := Nat.le_refl T34.heap.size
      obtain ⟨bT34, kbT34, EsT34, FvT34, FcT34, VT34⟩ := ST34
      have lt36 := EsT34.lt
      have lt37 := VT34.lt
      have z38 : h0.size ≠ T4.heap.size := Nat.ne_of_lt lt6
      have z39 : bT4 ≠ T4.heap.size := Nat.ne_of_lt lt7
      have N40 := own_Fr.app N8 (own_Fr.of NT34 (Kq5).1)
      refine own_by (fun t_ k_ => XS.astore XT34.here hx rfl (hb hby at_89) rfl rfl (l' := #[oI i0, oI i1, oI i2, oI i3, oI kk, oR kd, oI (0 : Int32), oI (1 : Int32), oI ch0, oI ch1, oI dh0, oI dh1, oR h0.size, oR T4.heap.size, .unset, .unset]) rfl k_) ?_
      show own_Go p e below _ T34 (mkF m 91 #[oI i0, oI i1, oI i2, oI i3, oI kk, oR kd, oI (0 : Int32), oI (1 : Int32), oI ch0, oI ch1, oI dh0, oI dh1, oR h0.size, oR T4.heap.size, .unset, .unset] [])
      have g42 : h0.size ≤ T34.heap.size := Kq35.1
      refine own_new XT34 hx hZ hown (hw _ (List.mem_of_getElem? (i := 48) rfl)) (hw _ (List.mem_of_getElem? (i := 49) rfl)) (hw _ (List.mem_of_getElem? (i := 50) rfl)) (rfl : T34.heap = T34.heap) (hb hby at_91) (by decide) (by decide) ?_
      intro T41 hT41 XT41 eT41 ET41 AT41 DT41
      have fq43_1 := own_stak fq35_1 (own_ek ET41)
      have fq43_2 := own_stak fq35_2 (own_ek ET41)
      have fq43_3 := own_stak fq35_3 (own_ek ET41)
      have fq43_4 := own_stak fq35_4 (own_ek ET41)
      have fq43_5 := own_stak fq35_5 (own_ek ET41)
      have fq43_6 := own_stak fq35_6 (own_ek ET41)
      have fq43_7 := fq35_7.keep (own_ek ET41)
      have fq43_8 := fq35_8.keep (own_ek ET41) nin0
      have fq43_9 := fq35_9.keep (own_ek ET41) nin0
      have fq43_10 := fq35_10.keep (own_ek ET41) nin0
      have fq43_11 := EsT34.keep (own_ek ET41)
      have fq43_12 := FvT34.keep (own_ek ET41) nin0
      have fq43_13 := FcT34.keep (own_ek ET41) nin0
      have fq43_14 := VT34.keep (own_ek ET41) nin0
      have lq43_0 := Nat.lt_of_lt_of_le lq35_0 (own_ek ET41).1
      have lq43_1 := Nat.lt_of_lt_of_le lq35_1 (own_ek ET41).1
      have lq43_2 := Nat.lt_of_lt_of_le lt36 (own_ek ET41).1
      have lq43_3 := Nat.lt_of_lt_of_le lt37 (own_ek ET41).1
      have hC := hC.trans (CHr.keep (own_ek ET41) (fun _ q => by cases q) hC.1)
      have hk0 := Nat.le_trans hk0 (own_ek ET41).1
      have Kq43 := own_trans0 Kq35 (own_ek ET41)
      have z44 : h0.size ≠ T34.heap.size := Nat.ne_of_lt lq35_0
      have z45 : bT4 ≠ T34.heap.size := Nat.ne_of_lt lq35_1
      have z46 : T4.heap.size ≠ T34.heap.size := Nat.ne_of_lt lt36
      have z47 : bT34 ≠ T34.heap.size := Nat.ne_of_lt lt37
      have FT41_kind : Fld Z hT41 T34.heap.size "com/example/nimble_gate/nimblegate/policy/Token" "kind" "Lcom/example/nimble_gate/nimblegate/policy/Token$Kind;" .null := DT41 (ty := (.object "com/example/nimble_gate/nimblegate/policy/Token$Kind")) (Or.inr (hw _ (List.mem_of_getElem? (i := 61) rfl))) (by decide +kernel)
      have FT41_text : Fld Z hT41 T34.heap.size "com/example/nimble_gate/nimblegate/policy/Token" "text" "Ljava/lang/String;" .null := DT41 (ty := (.object "java/lang/String")) (Or.inr (hw _ (List.mem_of_getElem? (i := 63) rfl))) (by decide +kernel)
      have FT41_line : Fld Z hT41 T34.heap.size "com/example/nimble_gate/nimblegate/policy/Token" "line" "I" (.int 0) := DT41 (ty := .int) (Or.inr (hw _ (List.mem_of_getElem? (i := 65) rfl))) (by decide +kernel)
      have FT41_column : Fld Z hT41 T34.heap.size "com/example/nimble_gate/nimblegate/policy/Token" "column" "I" (.int 0) := DT41 (ty := .int) (Or.inr (hw _ (List.mem_of_getElem? (i := 67) rfl))) (by decide +kernel)
      clear DT41
      have lt48 := AT41.lt
      show own_Go p e below _ T41 (mkF m 94 #[oI i0, oI i1, oI i2, oI i3, oI kk, oR kd, oI (0 : Int32), oI (1 : Int32), oI ch0, oI ch1, oI dh0, oI dh1, oR h0.size, oR T4.heap.size, .unset, .unset] [(.ref T34.heap.size)])
      refine own_by (fun t_ k_ => XS.dup XT41.here hx rfl (hb hby at_94) rfl rfl k_) ?_
      show own_Go p e below _ T41 (mkF m 95 #[oI i0, oI i1, oI i2, oI i3, oI kk, oR kd, oI (0 : Int32), oI (1 : Int32), oI ch0, oI ch1, oI dh0, oI dh1, oR h0.size, oR T4.heap.size, .unset, .unset] [(.ref T34.heap.size), (.ref T34.heap.size)])
      refine own_by (fun t_ k_ => XS.aload XT41.here hx rfl (hb hby at_95) rfl rfl  k_) ?_
      show own_Go p e below _ T41 (mkF m 97 #[oI i0, oI i1, oI i2, oI i3, oI kk, oR kd, oI (0 : Int32), oI (1 : Int32), oI ch0, oI ch1, oI dh0, oI dh1, oR h0.size, oR T4.heap.size, .unset, .unset] [(.ref kd), (.ref T34.heap.size), (.ref T34.heap.size)])
      refine own_by (fun t_ k_ => XS.aload XT41.here hx rfl (hb hby at_97) rfl rfl  k_) ?_
      show own_Go p e below _ T41 (mkF m 99 #[oI i0, oI i1, oI i2, oI i3, oI kk, oR kd, oI (0 : Int32), oI (1 : Int32), oI ch0, oI ch1, oI dh0, oI dh1, oR h0.size, oR T4.heap.size, .unset, .unset] [(.ref h0.size), (.ref kd), (.ref T34.heap.size), (.ref T34.heap.size)])
      refine own_by (fun t_ k_ => XS.iloadN XT41.here hx rfl (hb hby at_99) rfl  k_) ?_
      show own_Go p e below _ T41 (mkF m 100 #[oI i0, oI i1, oI i2, oI i3, oI kk, oR kd, oI (0 : Int32), oI (1 : Int32), oI ch0, oI ch1, oI dh0, oI dh1, oR h0.size, oR T4.heap.size, .unset, .unset] [(.int i1), (.ref h0.size), (.ref kd), (.ref T34.heap.size), (.ref T34.heap.size)])
      refine own_by (fun t_ k_ => XS.iloadN XT41.here hx rfl (hb hby at_100) rfl  k_) ?_
      show own_Go p e below _ T41 (mkF m 101 #[oI i0, oI i1, oI i2, oI i3, oI kk, oR kd, oI (0 : Int32), oI (1 : Int32), oI ch0, oI ch1, oI dh0, oI dh1, oR h0.size, oR T4.heap.size, .unset, .unset] [(.int i2), (.int i1), (.ref h0.size), (.ref kd), (.ref T34.heap.size), (.ref T34.heap.size)])
      refine own_callN XT41 hx hZ rfl hown (hw _ (List.mem_of_getElem? (i := 51) rfl)) (hw _ (List.mem_of_getElem? (i := 52) rfl)) (hw _ (List.mem_of_getElem? (i := 53) rfl)) (hw _ (List.mem_of_getElem? (i := 50) rfl)) (by decide) eT41 (b := T34.heap.size) (argsL := [(.ref kd), (.ref h0.size), (.int i1), (.int i2)]) (rest := [(.ref T34.heap.size)]) (own_tok l Z a0 hw T34.heap.size kd h0.size i1 i2 hT41 AT41 FT41_kind FT41_text FT41_line FT41_column) 1 (by decide) (by decide) (by rw [hml]; rfl) (lenOf pd_14 rfl) (Nat.le_of_eq rfl) (hb hby at_101) (by decide) (by decide) (st := [(.int i2), (.int i1), (.ref h0.size), (.ref kd), (.ref T34.heap.size), (.ref T34.heap.size)]) rfl ?_
      intro T49 LT49 vT49 XT49 hQT49
      obtain ⟨rfl, KT49, NT49, FkT49, FtT49⟩ := hQT49
      show own_Go p e below _ T49 (mkF m 104 #[oI i0, oI i1, oI i2, oI i3, oI kk, oR kd, oI (0 : Int32), oI (1 : Int32), oI ch0, oI ch1, oI dh0, oI dh1, oR h0.size, oR T4.heap.size, .unset, .unset] [(.ref T34.heap.size)])
      have fq50_1 := own_stak1 fq43_1 KT49 AT41
      have fq50_2 := own_stak1 fq43_2 KT49 AT41
      have fq50_3 := own_stak1 fq43_3 KT49 AT41
      have fq50_4 := own_stak1 fq43_4 KT49 AT41
      have fq50_5 := own_stak1 fq43_5 KT49 AT41
      have fq50_6 := own_stak1 fq43_6 KT49 AT41
      have fq50_7 := fq43_7.keep KT49
      have fq50_8 := fq43_8.keep KT49 (own_nin z44)
      have fq50_9 := fq43_9.keep KT49 (own_nin z44)
      have fq50_10 := fq43_10.keep KT49 (own_nin z45)
      have fq50_11 := fq43_11.keep KT49
      have fq50_12 := fq43_12.keep KT49 (own_nin z46)
      have fq50_13 := fq43_13.keep KT49 (own_nin z46)
      have fq50_14 := fq43_14.keep KT49 (own_nin z47)
      have fq50_15 := AT41.keep KT49
      have lq50_0 := Nat.lt_of_lt_of_le lq43_0 KT49.1
      have lq50_1 := Nat.lt_of_lt_of_le lq43_1 KT49.1
      have lq50_2 := Nat.lt_of_lt_of_le lq43_2 KT49.1
      have lq50_3 := Nat.lt_of_lt_of_le lq43_3 KT49.1
      have lq50_4 := Nat.lt_of_lt_of_le lt48 KT49.1
      have hC := hC.trans (CHr.keep KT49 (fun _ q => by cases List.mem_singleton.mp q; exact (Safe.exa hZ.alike AT41 (by decide) (by decide))) hC.1)
      have hk0 := Nat.le_trans hk0 KT49.1
      have Kq50 := own_trans1 Kq43 KT49 (Or.inr g42)
      have N51 := own_Fr.app N40 (own_Fr.of (own_Fr.new NT49 g42 (Kq43).1) (Nat.le_refl _))
      refine own_by (fun t_ k_ => XS.astore XT49.here hx rfl (hb hby at_104) rfl rfl (l' := #[oI i0, oI i1, oI i2, oI i3, oI kk, oR kd, oI (0 : Int32), oI (1 : Int32), oI ch0, oI ch1, oI dh0, oI dh1, oR h0.size, oR T4.heap.size, oR T34.heap.size, .unset]) rfl k_) ?_
      show own_Go p e below _ T49 (mkF m 106 #[oI i0, oI i1, oI i2, oI i3, oI kk, oR kd, oI (0 : Int32), oI (1 : Int32), oI ch0, oI ch1, oI dh0, oI dh1, oR h0.size, oR T4.heap.size, oR T34.heap.size, .unset] [])
      refine own_by (fun t_ k_ => XS.iload XT49.here hx rfl (hb hby at_106) rfl  k_) ?_
      show own_Go p e below _ T49 (mkF m 108 #[oI i0, oI i1, oI i2, oI i3, oI kk, oR kd, oI (0 : Int32), oI (1 : Int32), oI ch0, oI ch1, oI dh0, oI dh1, oR h0.size, oR T4.heap.size, oR T34.heap.size, .unset] [(.int kk)])
      by_cases c108_51 : kk = (0 : Int32)
      · refine own_by (fun t_ k_ => XS.ifNo XT49.here hx rfl (hb hby at_108) rfl (XT.i0_ne_f c108_51) k_) ?_
        show own_Go p e below _ T49 (mkF m 111 #[oI i0, oI i1, oI i2, oI i3, oI kk, oR kd, oI (0 : Int32), oI (1 : Int32), oI ch0, oI ch1, oI dh0, oI dh1, oR h0.size, oR T4.heap.size, oR T34.heap.size, .unset] [])
        refine own_by (fun t_ k_ => XS.iload XT49.here hx rfl (hb hby at_111) rfl  k_) ?_
        show own_Go p e below _ T49 (mkF m 113 #[oI i0, oI i1, oI i2, oI i3, oI kk, oR kd, oI (0 : Int32), oI (1 : Int32), oI ch0, oI ch1, oI dh0, oI dh1, oR h0.size, oR T4.heap.size, oR T34.heap.size, .unset] [(.int (0 : Int32))])
        refine own_by (fun t_ k_ => XS.iload XT49.here hx rfl (hb hby at_113) rfl  k_) ?_
        show own_Go p e below _ T49 (mkF m 115 #[oI i0, oI i1, oI i2, oI i3, oI kk, oR kd, oI (0 : Int32), oI (1 : Int32), oI ch0, oI ch1, oI dh0, oI dh1, oR h0.size, oR T4.heap.size, oR T34.heap.size, .unset] [(.int (1 : Int32)), (.int (0 : Int32))])
        refine own_by (fun t_ k_ => XS.icmpYes XT49.here hx rfl (pc0 := 115) (pc' := 148) rfl (hb hby at_115) rfl (XT.ii_ne_t (by decide)) (by decide) (by decide) k_) ?_
        show own_Go p e below _ T49 (mkF m 148 #[oI i0, oI i1, oI i2, oI i3, oI kk, oR kd, oI (0 : Int32), oI (1 : Int32), oI ch0, oI ch1, oI dh0, oI dh1, oR h0.size, oR T4.heap.size, oR T34.heap.size, .unset] [])
        refine own_by (fun t_ k_ => XT.iconstV XT49.here hx rfl (0 : Int32) (hb hby at_148) (by decide) k_) ?_
        show own_Go p e below _ T49 (mkF m 149 #[oI i0, oI i1, oI i2, oI i3, oI kk, oR kd, oI (0 : Int32), oI (1 : Int32), oI ch0, oI ch1, oI dh0, oI dh1, oR h0.size, oR T4.heap.size, oR T34.heap.size, .unset] [(.int (0 : Int32))])
        refine own_by (fun t_ k_ => XS.istore XT49.here hx rfl (hb hby at_149) rfl (l' := #[oI i0, oI i1, oI i2, oI i3, oI kk, oR kd, oI (0 : Int32), oI (1 : Int32), oI ch0, oI ch1, oI dh0, oI dh1, oR h0.size, oR T4.heap.size, oR T34.heap.size, oI (0 : Int32)]) rfl k_) ?_
        show own_Go p e below _ T49 (mkF m 151 #[oI i0, oI i1, oI i2, oI i3, oI kk, oR kd, oI (0 : Int32), oI (1 : Int32), oI ch0, oI ch1, oI dh0, oI dh1, oR h0.size, oR T4.heap.size, oR T34.heap.size, oI (0 : Int32)] [])
        refine own_by (fun t_ k_ => XS.aload XT49.here hx rfl (hb hby at_151) rfl rfl  k_) ?_
        show own_Go p e below _ T49 (mkF m 153 #[oI i0, oI i1, oI i2, oI i3, oI kk, oR kd, oI (0 : Int32), oI (1 : Int32), oI ch0, oI ch1, oI dh0, oI dh1, oR h0.size, oR T4.heap.size, oR T34.heap.size, oI (0 : Int32)] [(.ref T34.heap.size)])
        refine own_by (fun t_ k_ => XS.aload XT49.here hx rfl (hb hby at_153) rfl rfl  k_) ?_
        show own_Go p e below _ T49 (mkF m 155 #[oI i0, oI i1, oI i2, oI i3, oI kk, oR kd, oI (0 : Int32), oI (1 : Int32), oI ch0, oI ch1, oI dh0, oI dh1, oR h0.size, oR T4.heap.size, oR T34.heap.size, oI (0 : Int32)] [(.ref T4.heap.size), (.ref T34.heap.size)])
        refine own_callV XT49 hx hZ hown (hw _ (List.mem_of_getElem? (i := 68) rfl)) (hw _ (List.mem_of_getElem? (i := 69) rfl)) (hw _ (List.mem_of_getElem? (i := 71) rfl)) (hw _ (List.mem_of_getElem? (i := 70) rfl)) (hw _ (List.mem_of_getElem? (i := 72) rfl)) (hw _ (List.mem_of_getElem? (i := 50) rfl)) (by decide) (rfl : T49.heap = T49.heap) (b := T34.heap.size) fq50_15 (argsL := [(.ref T4.heap.size)]) (rest := []) (own_is_0_1_met l Z a0 hw T34.heap.size T4.heap.size kd w0 h0.size bT4 bT34 kbT4 kbT34 (dh0.toInt8.toInt32) T49.heap cs fq50_1 hcs z38 fq50_2 FkT49 FtT49 fq50_7 fq50_8 fq50_9 fq50_10 fq50_11 fq50_12 fq50_13 fq50_14) 0 (by decide) (by decide) (by rw [hml]; rfl) (lenOf pd_15 rfl) (Nat.le_of_eq rfl) (hb hby at_155) (by decide) (by decide) (st := [(.ref T4.heap.size), (.ref T34.heap.size)]) rfl ?_
        intro T53 LT53 vT53 XT53 hQT53
        obtain ⟨rfl, eT53, rfl⟩ := hQT53
        show own_Go p e below _ T53 (mkF m 158 #[oI i0, oI i1, oI i2, oI i3, oI kk, oR kd, oI (0 : Int32), oI (1 : Int32), oI ch0, oI ch1, oI dh0, oI dh1, oR h0.size, oR T4.heap.size, oR T34.heap.size, oI (0 : Int32)] [(.int (own_is_0_1 T34.heap.size T4.heap.size kd w0 h0.size bT4 bT34 kbT4 kbT34 (dh0.toInt8.toInt32)))])
        have N54 := own_Fr.app N51 own_Fr.nil
        refine own_by (fun t_ k_ => XS.iload XT53.here hx rfl (hb hby at_158) rfl  k_) ?_
        show own_Go p e below _ T53 (mkF m 160 #[oI i0, oI i1, oI i2, oI i3, oI kk, oR kd, oI (0 : Int32), oI (1 : Int32), oI ch0, oI ch1, oI dh0, oI dh1, oR h0.size, oR T4.heap.size, oR T34.heap.size, oI (0 : Int32)] [(.int (0 : Int32)), (.int (own_is_0_1 T34.heap.size T4.heap.size kd w0 h0.size bT4 bT34 kbT4 kbT34 (dh0.toInt8.toInt32)))])
        have hW : kd = w0 := hkd.symm.trans (by rw [own_pick, c108_51, if_pos (by decide)])
        have hfin : (own_is_0_1 T34.heap.size T4.heap.size kd w0 h0.size bT4 bT34 kbT4 kbT34 (dh0.toInt8.toInt32)) = (0 : Int32) := by rw [show (own_is_0_1 T34.heap.size T4.heap.size kd w0 h0.size bT4 bT34 kbT4 kbT34 (dh0.toInt8.toInt32)) = (0 : Int32) by rw [own_is_0_1, if_pos hW, if_pos (by rw [show (own_eq_0_1 h0.size T4.heap.size bT4 bT34 kbT4 kbT34 (dh0.toInt8.toInt32)) = (0 : Int32) by rw [own_eq_0_1, if_pos (by rw [show (own_le_0_1 bT4 bT34 kbT4 kbT34 (dh0.toInt8.toInt32)) = (0 : Int32) by rw [own_le_0_1]])]])]]
        refine own_by (fun t_ k_ => XS.icmpNo XT53.here hx rfl (hb hby at_160) rfl (XT.ii_ne_f hfin) k_) ?_
        show own_Go p e below _ T53 (mkF m 163 #[oI i0, oI i1, oI i2, oI i3, oI kk, oR kd, oI (0 : Int32), oI (1 : Int32), oI ch0, oI ch1, oI dh0, oI dh1, oR h0.size, oR T4.heap.size, oR T34.heap.size, oI (0 : Int32)] [])
        refine own_by (fun t_ k_ => XT.iconstV XT53.here hx rfl (1 : Int32) (hb hby at_163) (by decide) k_) ?_
        show own_Go p e below _ T53 (mkF m 164 #[oI i0, oI i1, oI i2, oI i3, oI kk, oR kd, oI (0 : Int32), oI (1 : Int32), oI ch0, oI ch1, oI dh0, oI dh1, oR h0.size, oR T4.heap.size, oR T34.heap.size, oI (0 : Int32)] [(.int (1 : Int32))])
        refine own_by (fun t_ k_ => XS.goto XT53.here hx rfl (pc0 := 164) (pc' := 168) rfl (hb hby at_164) (by decide) (by decide) k_) ?_
        show own_Go p e below _ T53 (mkF m 168 #[oI i0, oI i1, oI i2, oI i3, oI kk, oR kd, oI (0 : Int32), oI (1 : Int32), oI ch0, oI ch1, oI dh0, oI dh1, oR h0.size, oR T4.heap.size, oR T34.heap.size, oI (0 : Int32)] [(.int (1 : Int32))])
        exact own_retNW XT53 hx hlk hZ hEL hS eT53 hk0 hC hret (by simp) (w := (1 : Int32)) (hb hby at_168) (by decide) (by decide) (by decide) (⟨rfl, (N54).to (Nat.le_refl _)⟩)
      · refine own_by (fun t_ k_ => XS.ifYes XT49.here hx rfl (pc0 := 108) (pc' := 148) rfl (hb hby at_108) rfl (XT.i0_ne_t c108_51) (by decide) (by decide) k_) ?_
        show own_Go p e below _ T49 (mkF m 148 #[oI i0, oI i1, oI i2, oI i3, oI kk, oR kd, oI (0 : Int32), oI (1 : Int32), oI ch0, oI ch1, oI dh0, oI dh1, oR h0.size, oR T4.heap.size, oR T34.heap.size, .unset] [])
        refine own_by (fun t_ k_ => XT.iconstV XT49.here hx rfl (0 : Int32) (hb hby at_148) (by decide) k_) ?_
        show own_Go p e below _ T49 (mkF m 149 #[oI i0, oI i1, oI i2, oI i3, oI kk, oR kd, oI (0 : Int32), oI (1 : Int32), oI ch0, oI ch1, oI dh0, oI dh1, oR h0.size, oR T4.heap.size, oR T34.heap.size, .unset] [(.int (0 : Int32))])
        refine own_by (fun t_ k_ => XS.istore XT49.here hx rfl (hb hby at_149) rfl (l' := #[oI i0, oI i1, oI i2, oI i3, oI kk, oR kd, oI (0 : Int32), oI (1 : Int32), oI ch0, oI ch1, oI dh0, oI dh1, oR h0.size, oR T4.heap.size, oR T34.heap.size, oI (0 : Int32)]) rfl k_) ?_
        show own_Go p e below _ T49 (mkF m 151 #[oI i0, oI i1, oI i2, oI i3, oI kk, oR kd, oI (0 : Int32), oI (1 : Int32), oI ch0, oI ch1, oI dh0, oI dh1, oR h0.size, oR T4.heap.size, oR T34.heap.size, oI (0 : Int32)] [])
        refine own_by (fun t_ k_ => XS.aload XT49.here hx rfl (hb hby at_151) rfl rfl  k_) ?_
        show own_Go p e below _ T49 (mkF m 153 #[oI i0, oI i1, oI i2, oI i3, oI kk, oR kd, oI (0 : Int32), oI (1 : Int32), oI ch0, oI ch1, oI dh0, oI dh1, oR h0.size, oR T4.heap.size, oR T34.heap.size, oI (0 : Int32)] [(.ref T34.heap.size)])
        refine own_by (fun t_ k_ => XS.aload XT49.here hx rfl (hb hby at_153) rfl rfl  k_) ?_
        show own_Go p e below _ T49 (mkF m 155 #[oI i0, oI i1, oI i2, oI i3, oI kk, oR kd, oI (0 : Int32), oI (1 : Int32), oI ch0, oI ch1, oI dh0, oI dh1, oR h0.size, oR T4.heap.size, oR T34.heap.size, oI (0 : Int32)] [(.ref T4.heap.size), (.ref T34.heap.size)])
        refine own_callV XT49 hx hZ hown (hw _ (List.mem_of_getElem? (i := 68) rfl)) (hw _ (List.mem_of_getElem? (i := 69) rfl)) (hw _ (List.mem_of_getElem? (i := 71) rfl)) (hw _ (List.mem_of_getElem? (i := 70) rfl)) (hw _ (List.mem_of_getElem? (i := 72) rfl)) (hw _ (List.mem_of_getElem? (i := 50) rfl)) (by decide) (rfl : T49.heap = T49.heap) (b := T34.heap.size) fq50_15 (argsL := [(.ref T4.heap.size)]) (rest := []) (own_is_0_1_met l Z a0 hw T34.heap.size T4.heap.size kd w0 h0.size bT4 bT34 kbT4 kbT34 (dh0.toInt8.toInt32) T49.heap cs fq50_1 hcs z38 fq50_2 FkT49 FtT49 fq50_7 fq50_8 fq50_9 fq50_10 fq50_11 fq50_12 fq50_13 fq50_14) 0 (by decide) (by decide) (by rw [hml]; rfl) (lenOf pd_15 rfl) (Nat.le_of_eq rfl) (hb hby at_155) (by decide) (by decide) (st := [(.ref T4.heap.size), (.ref T34.heap.size)]) rfl ?_
        intro T55 LT55 vT55 XT55 hQT55
        obtain ⟨rfl, eT55, rfl⟩ := hQT55
        show own_Go p e below _ T55 (mkF m 158 #[oI i0, oI i1, oI i2, oI i3, oI kk, oR kd, oI (0 : Int32), oI (1 : Int32), oI ch0, oI ch1, oI dh0, oI dh1, oR h0.size, oR T4.heap.size, oR T34.heap.size, oI (0 : Int32)] [(.int (own_is_0_1 T34.heap.size T4.heap.size kd w0 h0.size bT4 bT34 kbT4 kbT34 (dh0.toInt8.toInt32)))])
        have N56 := own_Fr.app N51 own_Fr.nil
        refine own_by (fun t_ k_ => XS.iload XT55.here hx rfl (hb hby at_158) rfl  k_) ?_
        show own_Go p e below _ T55 (mkF m 160 #[oI i0, oI i1, oI i2, oI i3, oI kk, oR kd, oI (0 : Int32), oI (1 : Int32), oI ch0, oI ch1, oI dh0, oI dh1, oR h0.size, oR T4.heap.size, oR T34.heap.size, oI (0 : Int32)] [(.int (0 : Int32)), (.int (own_is_0_1 T34.heap.size T4.heap.size kd w0 h0.size bT4 bT34 kbT4 kbT34 (dh0.toInt8.toInt32)))])
        have hW : ¬ kd = w0 := fun q => own_pick_ne kk w0 w1 w2 w3 w4 c108_51 (F1.ne F0 (by decide)) (F2.ne F0 (by decide)) (F3.ne F0 (by decide)) (F4.ne F0 (by decide)) (hkd.trans q)
        have hfin : (own_is_0_1 T34.heap.size T4.heap.size kd w0 h0.size bT4 bT34 kbT4 kbT34 (dh0.toInt8.toInt32)) = (0 : Int32) := by rw [show (own_is_0_1 T34.heap.size T4.heap.size kd w0 h0.size bT4 bT34 kbT4 kbT34 (dh0.toInt8.toInt32)) = (0 : Int32) by rw [own_is_0_1, if_neg hW]]
        refine own_by (fun t_ k_ => XS.icmpNo XT55.here hx rfl (hb hby at_160) rfl (XT.ii_ne_f hfin) k_) ?_
        show own_Go p e below _ T55 (mkF m 163 #[oI i0, oI i1, oI i2, oI i3, oI kk, oR kd, oI (0 : Int32), oI (1 : Int32), oI ch0, oI ch1, oI dh0, oI dh1, oR h0.size, oR T4.heap.size, oR T34.heap.size, oI (0 : Int32)] [])
        refine own_by (fun t_ k_ => XT.iconstV XT55.here hx rfl (1 : Int32) (hb hby at_163) (by decide) k_) ?_
        show own_Go p e below _ T55 (mkF m 164 #[oI i0, oI i1, oI i2, oI i3, oI kk, oR kd, oI (0 : Int32), oI (1 : Int32), oI ch0, oI ch1, oI dh0, oI dh1, oR h0.size, oR T4.heap.size, oR T34.heap.size, oI (0 : Int32)] [(.int (1 : Int32))])
        refine own_by (fun t_ k_ => XS.goto XT55.here hx rfl (pc0 := 164) (pc' := 168) rfl (hb hby at_164) (by decide) (by decide) k_) ?_
        show own_Go p e below _ T55 (mkF m 168 #[oI i0, oI i1, oI i2, oI i3, oI kk, oR kd, oI (0 : Int32), oI (1 : Int32), oI ch0, oI ch1, oI dh0, oI dh1, oR h0.size, oR T4.heap.size, oR T34.heap.size, oI (0 : Int32)] [(.int (1 : Int32))])
        exact own_retNW XT55 hx hlk hZ hEL hS eT55 hk0 hC hret (by simp) (w := (1 : Int32)) (hb hby at_168) (by decide) (by decide) (by decide) (⟨rfl, (N56).to (Nat.le_refl _)⟩)
    · subst hk
      show own_Go p e below _ T4 (mkF m 80 #[oI i0, oI i1, oI i2, oI i3, oI kk, oR kd, oI (0 : Int32), oI (2 : Int32), oI ch0, oI ch1, oI dh0, oI dh1, oR h0.size, .unset, .unset, .unset] [])
      refine own_by (fun t_ k_ => XS.iload XT4.here hx rfl (hb hby at_80) rfl  k_) ?_
      show own_Go p e below _ T4 (mkF m 82 #[oI i0, oI i1, oI i2, oI i3, oI kk, oR kd, oI (0 : Int32), oI (2 : Int32), oI ch0, oI ch1, oI dh0, oI dh1, oR h0.size, .unset, .unset, .unset] [(.int (2 : Int32))])
      refine own_by (fun t_ k_ => XS.iload XT4.here hx rfl (hb hby at_82) rfl  k_) ?_
      show own_Go p e below _ T4 (mkF m 84 #[oI i0, oI i1, oI i2, oI i3, oI kk, oR kd, oI (0 : Int32), oI (2 : Int32), oI ch0, oI ch1, oI dh0, oI dh1, oR h0.size, .unset, .unset, .unset] [(.int dh0), (.int (2 : Int32))])
      refine own_by (fun t_ k_ => XS.iload XT4.here hx rfl (hb hby at_84) rfl  k_) ?_
      show own_Go p e below _ T4 (mkF m 86 #[oI i0, oI i1, oI i2, oI i3, oI kk, oR kd, oI (0 : Int32), oI (2 : Int32), oI ch0, oI ch1, oI dh0, oI dh1, oR h0.size, .unset, .unset, .unset] [(.int dh1), (.int dh0), (.int (2 : Int32))])
      have g57 : h0.size ≤ T4.heap.size := Kq5.1
      refine own_callSW XT4 hx hZ hEL hS (rfl : T4.heap = T4.heap) hk0 hC hown (hw _ (List.mem_of_getElem? (i := 8) rfl)) (hw _ (List.mem_of_getElem? (i := 9) rfl)) (hw _ (List.mem_of_getElem? (i := 3) rfl)) (hw _ (List.mem_of_getElem? (i := 10) rfl)) (by decide) (argsL := [(.int (2 : Int32)), (.int dh0), (.int dh1)]) (rest := []) (own_str_2 l Z a0 hw EL hEL dh0 dh1 T4.heap cs fq5_1 hcs Bdh0 Bdh1 hmem) 0 (by decide) (by decide) (by rw [hml]; rfl) (lenOf pd_13 rfl) (Nat.le_of_eq rfl) (hb hby at_86) (by decide) (by decide) (st := [(.int dh1), (.int dh0), (.int (2 : Int32))]) rfl ?_
      rintro T58 LT58 vT58 ⟨XT58, hQT58, hS, hgT58, hZ, hown, hCT58⟩
      obtain ⟨rfl, KT58, NT58, ST58⟩ := hQT58
      show own_Go p e below _ T58 (mkF m 89 #[oI i0, oI i1, oI i2, oI i3, oI kk, oR kd, oI (0 : Int32), oI (2 : Int32), oI ch0, oI ch1, oI dh0, oI dh1, oR h0.size, .unset, .unset, .unset] [(.ref T4.heap.size)])
      have fq59_1 := own_stak fq5_1 KT58
      have fq59_2 := own_stak fq5_2 KT58
      have fq59_3 := own_stak fq5_3 KT58
      have fq59_4 := own_stak fq5_4 KT58
      have fq59_5 := own_stak fq5_5 KT58
      have fq59_6 := own_stak fq5_6 KT58
      have fq59_7 := EsT4.keep KT58
      have fq59_8 := FvT4.keep KT58 nin0
      have fq59_9 := FcT4.keep KT58 nin0
      have fq59_10 := VT4.keep KT58 nin0
      have lq59_0 := Nat.lt_of_lt_of_le lt6 KT58.1
      have lq59_1 := Nat.lt_of_lt_of_le lt7 KT58.1
      have Kq59 := own_trans0 Kq5 KT58
      have hC := hCT58
      have hk0 := Nat.le_refl T58.heap.size
      obtain ⟨bT58, kbT58, EsT58, FvT58, FcT58, VT58⟩ := ST58
      have lt60 := EsT58.lt
      have lt61 := VT58.lt
      have z62 : h0.size ≠ T4.heap.size := Nat.ne_of_lt lt6
      have z63 : bT4 ≠ T4.heap.size := Nat.ne_of_lt lt7
      have N64 := own_Fr.app N8 (own_Fr.of NT58 (Kq5).1)
      refine own_by (fun t_ k_ => XS.astore XT58.here hx rfl (hb hby at_89) rfl rfl (l' := #[oI i0, oI i1, oI i2, oI i3, oI kk, oR kd, oI (0 : Int32), oI (2 : Int32), oI ch0, oI ch1, oI dh0, oI dh1, oR h0.size, oR T4.heap.size, .unset, .unset]) rfl k_) ?_
      show own_Go p e below _ T58 (mkF m 91 #[oI i0, oI i1, oI i2, oI i3, oI kk, oR kd, oI (0 : Int32), oI (2 : Int32), oI ch0, oI ch1, oI dh0, oI dh1, oR h0.size, oR T4.heap.size, .unset, .unset] [])
      have g66 : h0.size ≤ T58.heap.size := Kq59.1
      refine own_new XT58 hx hZ hown (hw _ (List.mem_of_getElem? (i := 48) rfl)) (hw _ (List.mem_of_getElem? (i := 49) rfl)) (hw _ (List.mem_of_getElem? (i := 50) rfl)) (rfl : T58.heap = T58.heap) (hb hby at_91) (by decide) (by decide) ?_
      intro T65 hT65 XT65 eT65 ET65 AT65 DT65
      have fq67_1 := own_stak fq59_1 (own_ek ET65)
      have fq67_2 := own_stak fq59_2 (own_ek ET65)
      have fq67_3 := own_stak fq59_3 (own_ek ET65)
      have fq67_4 := own_stak fq59_4 (own_ek ET65)
      have fq67_5 := own_stak fq59_5 (own_ek ET65)
      have fq67_6 := own_stak fq59_6 (own_ek ET65)
      have fq67_7 := fq59_7.keep (own_ek ET65)
      have fq67_8 := fq59_8.keep (own_ek ET65) nin0
      have fq67_9 := fq59_9.keep (own_ek ET65) nin0
      have fq67_10 := fq59_10.keep (own_ek ET65) nin0
      have fq67_11 := EsT58.keep (own_ek ET65)
      have fq67_12 := FvT58.keep (own_ek ET65) nin0
      have fq67_13 := FcT58.keep (own_ek ET65) nin0
      have fq67_14 := VT58.keep (own_ek ET65) nin0
      have lq67_0 := Nat.lt_of_lt_of_le lq59_0 (own_ek ET65).1
      have lq67_1 := Nat.lt_of_lt_of_le lq59_1 (own_ek ET65).1
      have lq67_2 := Nat.lt_of_lt_of_le lt60 (own_ek ET65).1
      have lq67_3 := Nat.lt_of_lt_of_le lt61 (own_ek ET65).1
      have hC := hC.trans (CHr.keep (own_ek ET65) (fun _ q => by cases q) hC.1)
      have hk0 := Nat.le_trans hk0 (own_ek ET65).1
      have Kq67 := own_trans0 Kq59 (own_ek ET65)
      have z68 : h0.size ≠ T58.heap.size := Nat.ne_of_lt lq59_0
      have z69 : bT4 ≠ T58.heap.size := Nat.ne_of_lt lq59_1
      have z70 : T4.heap.size ≠ T58.heap.size := Nat.ne_of_lt lt60
      have z71 : bT58 ≠ T58.heap.size := Nat.ne_of_lt lt61
      have FT65_kind : Fld Z hT65 T58.heap.size "com/example/nimble_gate/nimblegate/policy/Token" "kind" "Lcom/example/nimble_gate/nimblegate/policy/Token$Kind;" .null := DT65 (ty := (.object "com/example/nimble_gate/nimblegate/policy/Token$Kind")) (Or.inr (hw _ (List.mem_of_getElem? (i := 61) rfl))) (by decide +kernel)
      have FT65_text : Fld Z hT65 T58.heap.size "com/example/nimble_gate/nimblegate/policy/Token" "text" "Ljava/lang/String;" .null := DT65 (ty := (.object "java/lang/String")) (Or.inr (hw _ (List.mem_of_getElem? (i := 63) rfl))) (by decide +kernel)
      have FT65_line : Fld Z hT65 T58.heap.size "com/example/nimble_gate/nimblegate/policy/Token" "line" "I" (.int 0) := DT65 (ty := .int) (Or.inr (hw _ (List.mem_of_getElem? (i := 65) rfl))) (by decide +kernel)
      have FT65_column : Fld Z hT65 T58.heap.size "com/example/nimble_gate/nimblegate/policy/Token" "column" "I" (.int 0) := DT65 (ty := .int) (Or.inr (hw _ (List.mem_of_getElem? (i := 67) rfl))) (by decide +kernel)
      clear DT65
      have lt72 := AT65.lt
      show own_Go p e below _ T65 (mkF m 94 #[oI i0, oI i1, oI i2, oI i3, oI kk, oR kd, oI (0 : Int32), oI (2 : Int32), oI ch0, oI ch1, oI dh0, oI dh1, oR h0.size, oR T4.heap.size, .unset, .unset] [(.ref T58.heap.size)])
      refine own_by (fun t_ k_ => XS.dup XT65.here hx rfl (hb hby at_94) rfl rfl k_) ?_
      show own_Go p e below _ T65 (mkF m 95 #[oI i0, oI i1, oI i2, oI i3, oI kk, oR kd, oI (0 : Int32), oI (2 : Int32), oI ch0, oI ch1, oI dh0, oI dh1, oR h0.size, oR T4.heap.size, .unset, .unset] [(.ref T58.heap.size), (.ref T58.heap.size)])
      refine own_by (fun t_ k_ => XS.aload XT65.here hx rfl (hb hby at_95) rfl rfl  k_) ?_
      show own_Go p e below _ T65 (mkF m 97 #[oI i0, oI i1, oI i2, oI i3, oI kk, oR kd, oI (0 : Int32), oI (2 : Int32), oI ch0, oI ch1, oI dh0, oI dh1, oR h0.size, oR T4.heap.size, .unset, .unset] [(.ref kd), (.ref T58.heap.size), (.ref T58.heap.size)])
      refine own_by (fun t_ k_ => XS.aload XT65.here hx rfl (hb hby at_97) rfl rfl  k_) ?_
      show own_Go p e below _ T65 (mkF m 99 #[oI i0, oI i1, oI i2, oI i3, oI kk, oR kd, oI (0 : Int32), oI (2 : Int32), oI ch0, oI ch1, oI dh0, oI dh1, oR h0.size, oR T4.heap.size, .unset, .unset] [(.ref h0.size), (.ref kd), (.ref T58.heap.size), (.ref T58.heap.size)])
      refine own_by (fun t_ k_ => XS.iloadN XT65.here hx rfl (hb hby at_99) rfl  k_) ?_
      show own_Go p e below _ T65 (mkF m 100 #[oI i0, oI i1, oI i2, oI i3, oI kk, oR kd, oI (0 : Int32), oI (2 : Int32), oI ch0, oI ch1, oI dh0, oI dh1, oR h0.size, oR T4.heap.size, .unset, .unset] [(.int i1), (.ref h0.size), (.ref kd), (.ref T58.heap.size), (.ref T58.heap.size)])
      refine own_by (fun t_ k_ => XS.iloadN XT65.here hx rfl (hb hby at_100) rfl  k_) ?_
      show own_Go p e below _ T65 (mkF m 101 #[oI i0, oI i1, oI i2, oI i3, oI kk, oR kd, oI (0 : Int32), oI (2 : Int32), oI ch0, oI ch1, oI dh0, oI dh1, oR h0.size, oR T4.heap.size, .unset, .unset] [(.int i2), (.int i1), (.ref h0.size), (.ref kd), (.ref T58.heap.size), (.ref T58.heap.size)])
      refine own_callN XT65 hx hZ rfl hown (hw _ (List.mem_of_getElem? (i := 51) rfl)) (hw _ (List.mem_of_getElem? (i := 52) rfl)) (hw _ (List.mem_of_getElem? (i := 53) rfl)) (hw _ (List.mem_of_getElem? (i := 50) rfl)) (by decide) eT65 (b := T58.heap.size) (argsL := [(.ref kd), (.ref h0.size), (.int i1), (.int i2)]) (rest := [(.ref T58.heap.size)]) (own_tok l Z a0 hw T58.heap.size kd h0.size i1 i2 hT65 AT65 FT65_kind FT65_text FT65_line FT65_column) 1 (by decide) (by decide) (by rw [hml]; rfl) (lenOf pd_14 rfl) (Nat.le_of_eq rfl) (hb hby at_101) (by decide) (by decide) (st := [(.int i2), (.int i1), (.ref h0.size), (.ref kd), (.ref T58.heap.size), (.ref T58.heap.size)]) rfl ?_
      intro T73 LT73 vT73 XT73 hQT73
      obtain ⟨rfl, KT73, NT73, FkT73, FtT73⟩ := hQT73
      show own_Go p e below _ T73 (mkF m 104 #[oI i0, oI i1, oI i2, oI i3, oI kk, oR kd, oI (0 : Int32), oI (2 : Int32), oI ch0, oI ch1, oI dh0, oI dh1, oR h0.size, oR T4.heap.size, .unset, .unset] [(.ref T58.heap.size)])
      have fq74_1 := own_stak1 fq67_1 KT73 AT65
      have fq74_2 := own_stak1 fq67_2 KT73 AT65
      have fq74_3 := own_stak1 fq67_3 KT73 AT65
      have fq74_4 := own_stak1 fq67_4 KT73 AT65
      have fq74_5 := own_stak1 fq67_5 KT73 AT65
      have fq74_6 := own_stak1 fq67_6 KT73 AT65
      have fq74_7 := fq67_7.keep KT73
      have fq74_8 := fq67_8.keep KT73 (own_nin z68)
      have fq74_9 := fq67_9.keep KT73 (own_nin z68)
      have fq74_10 := fq67_10.keep KT73 (own_nin z69)
      have fq74_11 := fq67_11.keep KT73
      have fq74_12 := fq67_12.keep KT73 (own_nin z70)
      have fq74_13 := fq67_13.keep KT73 (own_nin z70)
      have fq74_14 := fq67_14.keep KT73 (own_nin z71)
      have fq74_15 := AT65.keep KT73
      have lq74_0 := Nat.lt_of_lt_of_le lq67_0 KT73.1
      have lq74_1 := Nat.lt_of_lt_of_le lq67_1 KT73.1
      have lq74_2 := Nat.lt_of_lt_of_le lq67_2 KT73.1
      have lq74_3 := Nat.lt_of_lt_of_le lq67_3 KT73.1
      have lq74_4 := Nat.lt_of_lt_of_le lt72 KT73.1
      have hC := hC.trans (CHr.keep KT73 (fun _ q => by cases List.mem_singleton.mp q; exact (Safe.exa hZ.alike AT65 (by decide) (by decide))) hC.1)
      have hk0 := Nat.le_trans hk0 KT73.1
      have Kq74 := own_trans1 Kq67 KT73 (Or.inr g66)
      have N75 := own_Fr.app N64 (own_Fr.of (own_Fr.new NT73 g66 (Kq67).1) (Nat.le_refl _))
      refine own_by (fun t_ k_ => XS.astore XT73.here hx rfl (hb hby at_104) rfl rfl (l' := #[oI i0, oI i1, oI i2, oI i3, oI kk, oR kd, oI (0 : Int32), oI (2 : Int32), oI ch0, oI ch1, oI dh0, oI dh1, oR h0.size, oR T4.heap.size, oR T58.heap.size, .unset]) rfl k_) ?_
      show own_Go p e below _ T73 (mkF m 106 #[oI i0, oI i1, oI i2, oI i3, oI kk, oR kd, oI (0 : Int32), oI (2 : Int32), oI ch0, oI ch1, oI dh0, oI dh1, oR h0.size, oR T4.heap.size, oR T58.heap.size, .unset] [])
      refine own_by (fun t_ k_ => XS.iload XT73.here hx rfl (hb hby at_106) rfl  k_) ?_
      show own_Go p e below _ T73 (mkF m 108 #[oI i0, oI i1, oI i2, oI i3, oI kk, oR kd, oI (0 : Int32), oI (2 : Int32), oI ch0, oI ch1, oI dh0, oI dh1, oR h0.size, oR T4.heap.size, oR T58.heap.size, .unset] [(.int kk)])
      by_cases c108_75 : kk = (0 : Int32)
      · refine own_by (fun t_ k_ => XS.ifNo XT73.here hx rfl (hb hby at_108) rfl (XT.i0_ne_f c108_75) k_) ?_
        show own_Go p e below _ T73 (mkF m 111 #[oI i0, oI i1, oI i2, oI i3, oI kk, oR kd, oI (0 : Int32), oI (2 : Int32), oI ch0, oI ch1, oI dh0, oI dh1, oR h0.size, oR T4.heap.size, oR T58.heap.size, .unset] [])
        refine own_by (fun t_ k_ => XS.iload XT73.here hx rfl (hb hby at_111) rfl  k_) ?_
        show own_Go p e below _ T73 (mkF m 113 #[oI i0, oI i1, oI i2, oI i3, oI kk, oR kd, oI (0 : Int32), oI (2 : Int32), oI ch0, oI ch1, oI dh0, oI dh1, oR h0.size, oR T4.heap.size, oR T58.heap.size, .unset] [(.int (0 : Int32))])
        refine own_by (fun t_ k_ => XS.iload XT73.here hx rfl (hb hby at_113) rfl  k_) ?_
        show own_Go p e below _ T73 (mkF m 115 #[oI i0, oI i1, oI i2, oI i3, oI kk, oR kd, oI (0 : Int32), oI (2 : Int32), oI ch0, oI ch1, oI dh0, oI dh1, oR h0.size, oR T4.heap.size, oR T58.heap.size, .unset] [(.int (2 : Int32)), (.int (0 : Int32))])
        refine own_by (fun t_ k_ => XS.icmpYes XT73.here hx rfl (pc0 := 115) (pc' := 148) rfl (hb hby at_115) rfl (XT.ii_ne_t (by decide)) (by decide) (by decide) k_) ?_
        show own_Go p e below _ T73 (mkF m 148 #[oI i0, oI i1, oI i2, oI i3, oI kk, oR kd, oI (0 : Int32), oI (2 : Int32), oI ch0, oI ch1, oI dh0, oI dh1, oR h0.size, oR T4.heap.size, oR T58.heap.size, .unset] [])
        refine own_by (fun t_ k_ => XT.iconstV XT73.here hx rfl (0 : Int32) (hb hby at_148) (by decide) k_) ?_
        show own_Go p e below _ T73 (mkF m 149 #[oI i0, oI i1, oI i2, oI i3, oI kk, oR kd, oI (0 : Int32), oI (2 : Int32), oI ch0, oI ch1, oI dh0, oI dh1, oR h0.size, oR T4.heap.size, oR T58.heap.size, .unset] [(.int (0 : Int32))])
        refine own_by (fun t_ k_ => XS.istore XT73.here hx rfl (hb hby at_149) rfl (l' := #[oI i0, oI i1, oI i2, oI i3, oI kk, oR kd, oI (0 : Int32), oI (2 : Int32), oI ch0, oI ch1, oI dh0, oI dh1, oR h0.size, oR T4.heap.size, oR T58.heap.size, oI (0 : Int32)]) rfl k_) ?_
        show own_Go p e below _ T73 (mkF m 151 #[oI i0, oI i1, oI i2, oI i3, oI kk, oR kd, oI (0 : Int32), oI (2 : Int32), oI ch0, oI ch1, oI dh0, oI dh1, oR h0.size, oR T4.heap.size, oR T58.heap.size, oI (0 : Int32)] [])
        refine own_by (fun t_ k_ => XS.aload XT73.here hx rfl (hb hby at_151) rfl rfl  k_) ?_
        show own_Go p e below _ T73 (mkF m 153 #[oI i0, oI i1, oI i2, oI i3, oI kk, oR kd, oI (0 : Int32), oI (2 : Int32), oI ch0, oI ch1, oI dh0, oI dh1, oR h0.size, oR T4.heap.size, oR T58.heap.size, oI (0 : Int32)] [(.ref T58.heap.size)])
        refine own_by (fun t_ k_ => XS.aload XT73.here hx rfl (hb hby at_153) rfl rfl  k_) ?_
        show own_Go p e below _ T73 (mkF m 155 #[oI i0, oI i1, oI i2, oI i3, oI kk, oR kd, oI (0 : Int32), oI (2 : Int32), oI ch0, oI ch1, oI dh0, oI dh1, oR h0.size, oR T4.heap.size, oR T58.heap.size, oI (0 : Int32)] [(.ref T4.heap.size), (.ref T58.heap.size)])
        refine own_callV XT73 hx hZ hown (hw _ (List.mem_of_getElem? (i := 68) rfl)) (hw _ (List.mem_of_getElem? (i := 69) rfl)) (hw _ (List.mem_of_getElem? (i := 71) rfl)) (hw _ (List.mem_of_getElem? (i := 70) rfl)) (hw _ (List.mem_of_getElem? (i := 72) rfl)) (hw _ (List.mem_of_getElem? (i := 50) rfl)) (by decide) (rfl : T73.heap = T73.heap) (b := T58.heap.size) fq74_15 (argsL := [(.ref T4.heap.size)]) (rest := []) (own_is_0_2_met l Z a0 hw T58.heap.size T4.heap.size kd w0 h0.size bT4 bT58 kbT4 kbT58 (dh0.toInt8.toInt32) (dh1.toInt8.toInt32) T73.heap cs fq74_1 hcs z62 fq74_2 FkT73 FtT73 fq74_7 fq74_8 fq74_9 fq74_10 fq74_11 fq74_12 fq74_13 fq74_14) 0 (by decide) (by decide) (by rw [hml]; rfl) (lenOf pd_15 rfl) (Nat.le_of_eq rfl) (hb hby at_155) (by decide) (by decide) (st := [(.ref T4.heap.size), (.ref T58.heap.size)]) rfl ?_
        intro T77 LT77 vT77 XT77 hQT77
        obtain ⟨rfl, eT77, rfl⟩ := hQT77
        show own_Go p e below _ T77 (mkF m 158 #[oI i0, oI i1, oI i2, oI i3, oI kk, oR kd, oI (0 : Int32), oI (2 : Int32), oI ch0, oI ch1, oI dh0, oI dh1, oR h0.size, oR T4.heap.size, oR T58.heap.size, oI (0 : Int32)] [(.int (own_is_0_2 T58.heap.size T4.heap.size kd w0 h0.size bT4 bT58 kbT4 kbT58 (dh0.toInt8.toInt32) (dh1.toInt8.toInt32)))])
        have N78 := own_Fr.app N75 own_Fr.nil
        refine own_by (fun t_ k_ => XS.iload XT77.here hx rfl (hb hby at_158) rfl  k_) ?_
        show own_Go p e below _ T77 (mkF m 160 #[oI i0, oI i1, oI i2, oI i3, oI kk, oR kd, oI (0 : Int32), oI (2 : Int32), oI ch0, oI ch1, oI dh0, oI dh1, oR h0.size, oR T4.heap.size, oR T58.heap.size, oI (0 : Int32)] [(.int (0 : Int32)), (.int (own_is_0_2 T58.heap.size T4.heap.size kd w0 h0.size bT4 bT58 kbT4 kbT58 (dh0.toInt8.toInt32) (dh1.toInt8.toInt32)))])
        have hW : kd = w0 := hkd.symm.trans (by rw [own_pick, c108_75, if_pos (by decide)])
        have hfin : (own_is_0_2 T58.heap.size T4.heap.size kd w0 h0.size bT4 bT58 kbT4 kbT58 (dh0.toInt8.toInt32) (dh1.toInt8.toInt32)) = (0 : Int32) := by rw [show (own_is_0_2 T58.heap.size T4.heap.size kd w0 h0.size bT4 bT58 kbT4 kbT58 (dh0.toInt8.toInt32) (dh1.toInt8.toInt32)) = (0 : Int32) by rw [own_is_0_2, if_pos hW, if_pos (by rw [show (own_eq_0_2 h0.size T4.heap.size bT4 bT58 kbT4 kbT58 (dh0.toInt8.toInt32) (dh1.toInt8.toInt32)) = (0 : Int32) by rw [own_eq_0_2, if_pos (by rw [show (own_le_0_2 bT4 bT58 kbT4 kbT58 (dh0.toInt8.toInt32) (dh1.toInt8.toInt32)) = (0 : Int32) by rw [own_le_0_2]])]])]]
        refine own_by (fun t_ k_ => XS.icmpNo XT77.here hx rfl (hb hby at_160) rfl (XT.ii_ne_f hfin) k_) ?_
        show own_Go p e below _ T77 (mkF m 163 #[oI i0, oI i1, oI i2, oI i3, oI kk, oR kd, oI (0 : Int32), oI (2 : Int32), oI ch0, oI ch1, oI dh0, oI dh1, oR h0.size, oR T4.heap.size, oR T58.heap.size, oI (0 : Int32)] [])
        refine own_by (fun t_ k_ => XT.iconstV XT77.here hx rfl (1 : Int32) (hb hby at_163) (by decide) k_) ?_
        show own_Go p e below _ T77 (mkF m 164 #[oI i0, oI i1, oI i2, oI i3, oI kk, oR kd, oI (0 : Int32), oI (2 : Int32), oI ch0, oI ch1, oI dh0, oI dh1, oR h0.size, oR T4.heap.size, oR T58.heap.size, oI (0 : Int32)] [(.int (1 : Int32))])
        refine own_by (fun t_ k_ => XS.goto XT77.here hx rfl (pc0 := 164) (pc' := 168) rfl (hb hby at_164) (by decide) (by decide) k_) ?_
        show own_Go p e below _ T77 (mkF m 168 #[oI i0, oI i1, oI i2, oI i3, oI kk, oR kd, oI (0 : Int32), oI (2 : Int32), oI ch0, oI ch1, oI dh0, oI dh1, oR h0.size, oR T4.heap.size, oR T58.heap.size, oI (0 : Int32)] [(.int (1 : Int32))])
        exact own_retNW XT77 hx hlk hZ hEL hS eT77 hk0 hC hret (by simp) (w := (1 : Int32)) (hb hby at_168) (by decide) (by decide) (by decide) (⟨rfl, (N78).to (Nat.le_refl _)⟩)
      · refine own_by (fun t_ k_ => XS.ifYes XT73.here hx rfl (pc0 := 108) (pc' := 148) rfl (hb hby at_108) rfl (XT.i0_ne_t c108_75) (by decide) (by decide) k_) ?_
        show own_Go p e below _ T73 (mkF m 148 #[oI i0, oI i1, oI i2, oI i3, oI kk, oR kd, oI (0 : Int32), oI (2 : Int32), oI ch0, oI ch1, oI dh0, oI dh1, oR h0.size, oR T4.heap.size, oR T58.heap.size, .unset] [])
        refine own_by (fun t_ k_ => XT.iconstV XT73.here hx rfl (0 : Int32) (hb hby at_148) (by decide) k_) ?_
        show own_Go p e below _ T73 (mkF m 149 #[oI i0, oI i1, oI i2, oI i3, oI kk, oR kd, oI (0 : Int32), oI (2 : Int32), oI ch0, oI ch1, oI dh0, oI dh1, oR h0.size, oR T4.heap.size, oR T58.heap.size, .unset] [(.int (0 : Int32))])
        refine own_by (fun t_ k_ => XS.istore XT73.here hx rfl (hb hby at_149) rfl (l' := #[oI i0, oI i1, oI i2, oI i3, oI kk, oR kd, oI (0 : Int32), oI (2 : Int32), oI ch0, oI ch1, oI dh0, oI dh1, oR h0.size, oR T4.heap.size, oR T58.heap.size, oI (0 : Int32)]) rfl k_) ?_
        show own_Go p e below _ T73 (mkF m 151 #[oI i0, oI i1, oI i2, oI i3, oI kk, oR kd, oI (0 : Int32), oI (2 : Int32), oI ch0, oI ch1, oI dh0, oI dh1, oR h0.size, oR T4.heap.size, oR T58.heap.size, oI (0 : Int32)] [])
        refine own_by (fun t_ k_ => XS.aload XT73.here hx rfl (hb hby at_151) rfl rfl  k_) ?_
        show own_Go p e below _ T73 (mkF m 153 #[oI i0, oI i1, oI i2, oI i3, oI kk, oR kd, oI (0 : Int32), oI (2 : Int32), oI ch0, oI ch1, oI dh0, oI dh1, oR h0.size, oR T4.heap.size, oR T58.heap.size, oI (0 : Int32)] [(.ref T58.heap.size)])
        refine own_by (fun t_ k_ => XS.aload XT73.here hx rfl (hb hby at_153) rfl rfl  k_) ?_
        show own_Go p e below _ T73 (mkF m 155 #[oI i0, oI i1, oI i2, oI i3, oI kk, oR kd, oI (0 : Int32), oI (2 : Int32), oI ch0, oI ch1, oI dh0, oI dh1, oR h0.size, oR T4.heap.size, oR T58.heap.size, oI (0 : Int32)] [(.ref T4.heap.size), (.ref T58.heap.size)])
        refine own_callV XT73 hx hZ hown (hw _ (List.mem_of_getElem? (i := 68) rfl)) (hw _ (List.mem_of_getElem? (i := 69) rfl)) (hw _ (List.mem_of_getElem? (i := 71) rfl)) (hw _ (List.mem_of_getElem? (i := 70) rfl)) (hw _ (List.mem_of_getElem? (i := 72) rfl)) (hw _ (List.mem_of_getElem? (i := 50) rfl)) (by decide) (rfl : T73.heap = T73.heap) (b := T58.heap.size) fq74_15 (argsL := [(.ref T4.heap.size)]) (rest := []) (own_is_0_2_met l Z a0 hw T58.heap.size T4.heap.size kd w0 h0.size bT4 bT58 kbT4 kbT58 (dh0.toInt8.toInt32) (dh1.toInt8.toInt32) T73.heap cs fq74_1 hcs z62 fq74_2 FkT73 FtT73 fq74_7 fq74_8 fq74_9 fq74_10 fq74_11 fq74_12 fq74_13 fq74_14) 0 (by decide) (by decide) (by rw [hml]; rfl) (lenOf pd_15 rfl) (Nat.le_of_eq rfl) (hb hby at_155) (by decide) (by decide) (st := [(.ref T4.heap.size), (.ref T58.heap.size)]) rfl ?_
        intro T79 LT79 vT79 XT79 hQT79
        obtain ⟨rfl, eT79, rfl⟩ := hQT79
        show own_Go p e below _ T79 (mkF m 158 #[oI i0, oI i1, oI i2, oI i3, oI kk, oR kd, oI (0 : Int32), oI (2 : Int32), oI ch0, oI ch1, oI dh0, oI dh1, oR h0.size, oR T4.heap.size, oR T58.heap.size, oI (0 : Int32)] [(.int (own_is_0_2 T58.heap.size T4.heap.size kd w0 h0.size bT4 bT58 kbT4 kbT58 (dh0.toInt8.toInt32) (dh1.toInt8.toInt32)))])
        have N80 := own_Fr.app N75 own_Fr.nil
        refine own_by (fun t_ k_ => XS.iload XT79.here hx rfl (hb hby at_158) rfl  k_) ?_
        show own_Go p e below _ T79 (mkF m 160 #[oI i0, oI i1, oI i2, oI i3, oI kk, oR kd, oI (0 : Int32), oI (2 : Int32), oI ch0, oI ch1, oI dh0, oI dh1, oR h0.size, oR T4.heap.size, oR T58.heap.size, oI (0 : Int32)] [(.int (0 : Int32)), (.int (own_is_0_2 T58.heap.size T4.heap.size kd w0 h0.size bT4 bT58 kbT4 kbT58 (dh0.toInt8.toInt32) (dh1.toInt8.toInt32)))])
        have hW : ¬ kd = w0 := fun q => own_pick_ne kk w0 w1 w2 w3 w4 c108_75 (F1.ne F0 (by decide)) (F2.ne F0 (by decide)) (F3.ne F0 (by decide)) (F4.ne F0 (by decide)) (hkd.trans q)
        have hfin : (own_is_0_2 T58.heap.size T4.heap.size kd w0 h0.size bT4 bT58 kbT4 kbT58 (dh0.toInt8.toInt32) (dh1.toInt8.toInt32)) = (0 : Int32) := by rw [show (own_is_0_2 T58.heap.size T4.heap.size kd w0 h0.size bT4 bT58 kbT4 kbT58 (dh0.toInt8.toInt32) (dh1.toInt8.toInt32)) = (0 : Int32) by rw [own_is_0_2, if_neg hW]]
        refine own_by (fun t_ k_ => XS.icmpNo XT79.here hx rfl (hb hby at_160) rfl (XT.ii_ne_f hfin) k_) ?_
        show own_Go p e below _ T79 (mkF m 163 #[oI i0, oI i1, oI i2, oI i3, oI kk, oR kd, oI (0 : Int32), oI (2 : Int32), oI ch0, oI ch1, oI dh0, oI dh1, oR h0.size, oR T4.heap.size, oR T58.heap.size, oI (0 : Int32)] [])
        refine own_by (fun t_ k_ => XT.iconstV XT79.here hx rfl (1 : Int32) (hb hby at_163) (by decide) k_) ?_
        show own_Go p e below _ T79 (mkF m 164 #[oI i0, oI i1, oI i2, oI i3, oI kk, oR kd, oI (0 : Int32), oI (2 : Int32), oI ch0, oI ch1, oI dh0, oI dh1, oR h0.size, oR T4.heap.size, oR T58.heap.size, oI (0 : Int32)] [(.int (1 : Int32))])
        refine own_by (fun t_ k_ => XS.goto XT79.here hx rfl (pc0 := 164) (pc' := 168) rfl (hb hby at_164) (by decide) (by decide) k_) ?_
        show own_Go p e below _ T79 (mkF m 168 #[oI i0, oI i1, oI i2, oI i3, oI kk, oR kd, oI (0 : Int32), oI (2 : Int32), oI ch0, oI ch1, oI dh0, oI dh1, oR h0.size, oR T4.heap.size, oR T58.heap.size, oI (0 : Int32)] [(.int (1 : Int32))])
        exact own_retNW XT79 hx hlk hZ hEL hS eT79 hk0 hC hret (by simp) (w := (1 : Int32)) (hb hby at_168) (by decide) (by decide) (by decide) (⟨rfl, (N80).to (Nat.le_refl _)⟩)
  · subst hk
    show own_Go p e below _ T1 (mkF m 69 #[oI i0, oI i1, oI i2, oI i3, oI kk, oR kd, oI (1 : Int32), oI wn, oI ch0, oI ch1, oI dh0, oI dh1, .unset, .unset, .unset, .unset] [])
    refine own_by (fun t_ k_ => XS.iload XT1.here hx rfl (hb hby at_69) rfl  k_) ?_
    show own_Go p e below _ T1 (mkF m 71 #[oI i0, oI i1, oI i2, oI i3, oI kk, oR kd, oI (1 : Int32), oI wn, oI ch0, oI ch1, oI dh0, oI dh1, .unset, .unset, .unset, .unset] [(.int (1 : Int32))])
    refine own_by (fun t_ k_ => XS.iload XT1.here hx rfl (hb hby at_71) rfl  k_) ?_
    show own_Go p e below _ T1 (mkF m 73 #[oI i0, oI i1, oI i2, oI i3, oI kk, oR kd, oI (1 : Int32), oI wn, oI ch0, oI ch1, oI dh0, oI dh1, .unset, .unset, .unset, .unset] [(.int ch0), (.int (1 : Int32))])
    refine own_by (fun t_ k_ => XS.iload XT1.here hx rfl (hb hby at_73) rfl  k_) ?_
    show own_Go p e below _ T1 (mkF m 75 #[oI i0, oI i1, oI i2, oI i3, oI kk, oR kd, oI (1 : Int32), oI wn, oI ch0, oI ch1, oI dh0, oI dh1, .unset, .unset, .unset, .unset] [(.int ch1), (.int ch0), (.int (1 : Int32))])
    have g81 : h0.size ≤ h0.size := K0.1
    refine own_callSW XT1 hx hZ hEL hS eT1 hk0 hC hown (hw _ (List.mem_of_getElem? (i := 8) rfl)) (hw _ (List.mem_of_getElem? (i := 9) rfl)) (hw _ (List.mem_of_getElem? (i := 3) rfl)) (hw _ (List.mem_of_getElem? (i := 10) rfl)) (by decide) (argsL := [(.int (1 : Int32)), (.int ch0), (.int ch1)]) (rest := []) (own_str_1 l Z a0 hw EL hEL ch0 ch1 h0 cs Cs hcs Bch0 Bch1 hmem) 0 (by decide) (by decide) (by rw [hml]; rfl) (lenOf pd_13 rfl) (Nat.le_of_eq rfl) (hb hby at_75) (by decide) (by decide) (st := [(.int ch1), (.int ch0), (.int (1 : Int32))]) rfl ?_
    rintro T82 LT82 vT82 ⟨XT82, hQT82, hS, hgT82, hZ, hown, hCT82⟩
    obtain ⟨rfl, KT82, NT82, ST82⟩ := hQT82
    show own_Go p e below _ T82 (mkF m 78 #[oI i0, oI i1, oI i2, oI i3, oI kk, oR kd, oI (1 : Int32), oI wn, oI ch0, oI ch1, oI dh0, oI dh1, .unset, .unset, .unset, .unset] [(.ref h0.size)])
    have fq83_1 := own_stak Cs KT82
    have fq83_2 := own_stak S0 KT82
    have fq83_3 := own_stak S1 KT82
    have fq83_4 := own_stak S2 KT82
    have fq83_5 := own_stak S3 KT82
    have fq83_6 := own_stak S4 KT82
    have Kq83 := own_trans0 K0 KT82
    have hC := hCT82
    have hk0 := Nat.le_refl T82.heap.size
    obtain ⟨bT82, kbT82, EsT82, FvT82, FcT82, VT82⟩ := ST82
    have lt84 := EsT82.lt
    have lt85 := VT82.lt
    have N86 := own_Fr.app N2 (own_Fr.of NT82 (K0).1)
    refine own_by (fun t_ k_ => XS.astore XT82.here hx rfl (hb hby at_78) rfl rfl (l' := #[oI i0, oI i1, oI i2, oI i3, oI kk, oR kd, oI (1 : Int32), oI wn, oI ch0, oI ch1, oI dh0, oI dh1, oR h0.size, .unset, .unset, .unset]) rfl k_) ?_
    show own_Go p e below _ T82 (mkF m 80 #[oI i0, oI i1, oI i2, oI i3, oI kk, oR kd, oI (1 : Int32), oI wn, oI ch0, oI ch1, oI dh0, oI dh1, oR h0.size, .unset, .unset, .unset] [])
    rcases hwn with hk | hk | hk
    · subst hk
      show own_Go p e below _ T82 (mkF m 80 #[oI i0, oI i1, oI i2, oI i3, oI kk, oR kd, oI (1 : Int32), oI (0 : Int32), oI ch0, oI ch1, oI dh0, oI dh1, oR h0.size, .unset, .unset, .unset] [])
      refine own_by (fun t_ k_ => XS.iload XT82.here hx rfl (hb hby at_80) rfl  k_) ?_
      show own_Go p e below _ T82 (mkF m 82 #[oI i0, oI i1, oI i2, oI i3, oI kk, oR kd, oI (1 : Int32), oI (0 : Int32), oI ch0, oI ch1, oI dh0, oI dh1, oR h0.size, .unset, .unset, .unset] [(.int (0 : Int32))])
      refine own_by (fun t_ k_ => XS.iload XT82.here hx rfl (hb hby at_82) rfl  k_) ?_
      show own_Go p e below _ T82 (mkF m 84 #[oI i0, oI i1, oI i2, oI i3, oI kk, oR kd, oI (1 : Int32), oI (0 : Int32), oI ch0, oI ch1, oI dh0, oI dh1, oR h0.size, .unset, .unset, .unset] [(.int dh0), (.int (0 : Int32))])
      refine own_by (fun t_ k_ => XS.iload XT82.here hx rfl (hb hby at_84) rfl  k_) ?_
      show own_Go p e below _ T82 (mkF m 86 #[oI i0, oI i1, oI i2, oI i3, oI kk, oR kd, oI (1 : Int32), oI (0 : Int32), oI ch0, oI ch1, oI dh0, oI dh1, oR h0.size, .unset, .unset, .unset] [(.int dh1), (.int dh0), (.int (0 : Int32))])
      have g87 : h0.size ≤ T82.heap.size := Kq83.1
      refine own_callSW XT82 hx hZ hEL hS (rfl : T82.heap = T82.heap) hk0 hC hown (hw _ (List.mem_of_getElem? (i := 8) rfl)) (hw _ (List.mem_of_getElem? (i := 9) rfl)) (hw _ (List.mem_of_getElem? (i := 3) rfl)) (hw _ (List.mem_of_getElem? (i := 10) rfl)) (by decide) (argsL := [(.int (0 : Int32)), (.int dh0), (.int dh1)]) (rest := []) (own_str_0 l Z a0 hw EL hEL dh0 dh1 T82.heap cs fq83_1 hcs Bdh0 Bdh1 hmem) 0 (by decide) (by decide) (by rw [hml]; rfl) (lenOf pd_13 rfl) (Nat.le_of_eq rfl) (hb hby at_86) (by decide) (by decide) (st := [(.int dh1), (.int dh0), (.int (0 : Int32))]) rfl ?_
      rintro T88 LT88 vT88 ⟨XT88, hQT88, hS, hgT88, hZ, hown, hCT88⟩
      obtain ⟨rfl, KT88, NT88, ST88⟩ := hQT88
      show own_Go p e below _ T88 (mkF m 89 #[oI i0, oI i1, oI i2, oI i3, oI kk, oR kd, oI (1 : Int32), oI (0 : Int32), oI ch0, oI ch1, oI dh0, oI dh1, oR h0.size, .unset, .unset, .unset] [(.ref T82.heap.size)])
      have fq89_1 := own_stak fq83_1 KT88
      have fq89_2 := own_stak fq83_2 KT88
      have fq89_3 := own_stak fq83_3 KT88
      have fq89_4 := own_stak fq83_4 KT88
      have fq89_5 := own_stak fq83_5 KT88
      have fq89_6 := own_stak fq83_6 KT88
      have fq89_7 := EsT82.keep KT88
      have fq89_8 := FvT82.keep KT88 nin0
      have fq89_9 := FcT82.keep KT88 nin0
      have fq89_10 := VT82.keep KT88 nin0
      have lq89_0 := Nat.lt_of_lt_of_le lt84 KT88.1
      have lq89_1 := Nat.lt_of_lt_of_le lt85 KT88.1
      have Kq89 := own_trans0 Kq83 KT88
      have hC := hCT88
      have hk0 := Nat.le_refl T88.heap.size
      obtain ⟨bT88, kbT88, EsT88, FvT88, FcT88, VT88⟩ := ST88
      have lt90 := EsT88.lt
      have lt91 := VT88.lt
      have z92 : h0.size ≠ T82.heap.size := Nat.ne_of_lt lt84
      have z93 : bT82 ≠ T82.heap.size := Nat.ne_of_lt lt85
      have N94 := own_Fr.app N86 (own_Fr.of NT88 (Kq83).1)
      refine own_by (fun t_ k_ => XS.astore XT88.here hx rfl (hb hby at_89) rfl rfl (l' := #[oI i0, oI i1, oI i2, oI i3, oI kk, oR kd, oI (1 : Int32), oI (0 : Int32), oI ch0, oI ch1, oI dh0, oI dh1, oR h0.size, oR T82.heap.size, .unset, .unset]) rfl k_) ?_
      show own_Go p e below _ T88 (mkF m 91 #[oI i0, oI i1, oI i2, oI i3, oI kk, oR kd, oI (1 : Int32), oI (0 : Int32), oI ch0, oI ch1, oI dh0, oI dh1, oR h0.size, oR T82.heap.size, .unset, .unset] [])
      have g96 : h0.size ≤ T88.heap.size := Kq89.1
      refine own_new XT88 hx hZ hown (hw _ (List.mem_of_getElem? (i := 48) rfl)) (hw _ (List.mem_of_getElem? (i := 49) rfl)) (hw _ (List.mem_of_getElem? (i := 50) rfl)) (rfl : T88.heap = T88.heap) (hb hby at_91) (by decide) (by decide) ?_
      intro T95 hT95 XT95 eT95 ET95 AT95 DT95
      have fq97_1 := own_stak fq89_1 (own_ek ET95)
      have fq97_2 := own_stak fq89_2 (own_ek ET95)
      have fq97_3 := own_stak fq89_3 (own_ek ET95)
      have fq97_4 := own_stak fq89_4 (own_ek ET95)
      have fq97_5 := own_stak fq89_5 (own_ek ET95)
      have fq97_6 := own_stak fq89_6 (own_ek ET95)
      have fq97_7 := fq89_7.keep (own_ek ET95)
      have fq97_8 := fq89_8.keep (own_ek ET95) nin0
      have fq97_9 := fq89_9.keep (own_ek ET95) nin0
      have fq97_10 := fq89_10.keep (own_ek ET95) nin0
      have fq97_11 := EsT88.keep (own_ek ET95)
      have fq97_12 := FvT88.keep (own_ek ET95) nin0
      have fq97_13 := FcT88.keep (own_ek ET95) nin0
      have fq97_14 := VT88.keep (own_ek ET95) nin0
      have lq97_0 := Nat.lt_of_lt_of_le lq89_0 (own_ek ET95).1
      have lq97_1 := Nat.lt_of_lt_of_le lq89_1 (own_ek ET95).1
      have lq97_2 := Nat.lt_of_lt_of_le lt90 (own_ek ET95).1
      have lq97_3 := Nat.lt_of_lt_of_le lt91 (own_ek ET95).1
      have hC := hC.trans (CHr.keep (own_ek ET95) (fun _ q => by cases q) hC.1)
      have hk0 := Nat.le_trans hk0 (own_ek ET95).1
      have Kq97 := own_trans0 Kq89 (own_ek ET95)
      have z98 : h0.size ≠ T88.heap.size := Nat.ne_of_lt lq89_0
      have z99 : bT82 ≠ T88.heap.size := Nat.ne_of_lt lq89_1
      have z100 : T82.heap.size ≠ T88.heap.size := Nat.ne_of_lt lt90
      have z101 : bT88 ≠ T88.heap.size := Nat.ne_of_lt lt91
      have FT95_kind : Fld Z hT95 T88.heap.size "com/example/nimble_gate/nimblegate/policy/Token" "kind" "Lcom/example/nimble_gate/nimblegate/policy/Token$Kind;" .null := DT95 (ty := (.object "com/example/nimble_gate/nimblegate/policy/Token$Kind")) (Or.inr (hw _ (List.mem_of_getElem? (i := 61) rfl))) (by decide +kernel)
      have FT95_text : Fld Z hT95 T88.heap.size "com/example/nimble_gate/nimblegate/policy/Token" "text" "Ljava/lang/String;" .null := DT95 (ty := (.object "java/lang/String")) (Or.inr (hw _ (List.mem_of_getElem? (i := 63) rfl))) (by decide +kernel)
      have FT95_line : Fld Z hT95 T88.heap.size "com/example/nimble_gate/nimblegate/policy/Token" "line" "I" (.int 0) := DT95 (ty := .int) (Or.inr (hw _ (List.mem_of_getElem? (i := 65) rfl))) (by decide +kernel)
      have FT95_column : Fld Z hT95 T88.heap.size "com/example/nimble_gate/nimblegate/policy/Token" "column" "I" (.int 0) := DT95 (ty := .int) (Or.inr (hw _ (List.mem_of_getElem? (i := 67) rfl))) (by decide +kernel)
      clear DT95
      have lt102 := AT95.lt
      show own_Go p e below _ T95 (mkF m 94 #[oI i0, oI i1, oI i2, oI i3, oI kk, oR kd, oI (1 : Int32), oI (0 : Int32), oI ch0, oI ch1, oI dh0, oI dh1, oR h0.size, oR T82.heap.size, .unset, .unset] [(.ref T88.heap.size)])
      refine own_by (fun t_ k_ => XS.dup XT95.here hx rfl (hb hby at_94) rfl rfl k_) ?_
      show own_Go p e below _ T95 (mkF m 95 #[oI i0, oI i1, oI i2, oI i3, oI kk, oR kd, oI (1 : Int32), oI (0 : Int32), oI ch0, oI ch1, oI dh0, oI dh1, oR h0.size, oR T82.heap.size, .unset, .unset] [(.ref T88.heap.size), (.ref T88.heap.size)])
      refine own_by (fun t_ k_ => XS.aload XT95.here hx rfl (hb hby at_95) rfl rfl  k_) ?_
      show own_Go p e below _ T95 (mkF m 97 #[oI i0, oI i1, oI i2, oI i3, oI kk, oR kd, oI (1 : Int32), oI (0 : Int32), oI ch0, oI ch1, oI dh0, oI dh1, oR h0.size, oR T82.heap.size, .unset, .unset] [(.ref kd), (.ref T88.heap.size), (.ref T88.heap.size)])
      refine own_by (fun t_ k_ => XS.aload XT95.here hx rfl (hb hby at_97) rfl rfl  k_) ?_
      show own_Go p e below _ T95 (mkF m 99 #[oI i0, oI i1, oI i2, oI i3, oI kk, oR kd, oI (1 : Int32), oI (0 : Int32), oI ch0, oI ch1, oI dh0, oI dh1, oR h0.size, oR T82.heap.size, .unset, .unset] [(.ref h0.size), (.ref kd), (.ref T88.heap.size), (.ref T88.heap.size)])
      refine own_by (fun t_ k_ => XS.iloadN XT95.here hx rfl (hb hby at_99) rfl  k_) ?_
      show own_Go p e below _ T95 (mkF m 100 #[oI i0, oI i1, oI i2, oI i3, oI kk, oR kd, oI (1 : Int32), oI (0 : Int32), oI ch0, oI ch1, oI dh0, oI dh1, oR h0.size, oR T82.heap.size, .unset, .unset] [(.int i1), (.ref h0.size), (.ref kd), (.ref T88.heap.size), (.ref T88.heap.size)])
      refine own_by (fun t_ k_ => XS.iloadN XT95.here hx rfl (hb hby at_100) rfl  k_) ?_
      show own_Go p e below _ T95 (mkF m 101 #[oI i0, oI i1, oI i2, oI i3, oI kk, oR kd, oI (1 : Int32), oI (0 : Int32), oI ch0, oI ch1, oI dh0, oI dh1, oR h0.size, oR T82.heap.size, .unset, .unset] [(.int i2), (.int i1), (.ref h0.size), (.ref kd), (.ref T88.heap.size), (.ref T88.heap.size)])
      refine own_callN XT95 hx hZ rfl hown (hw _ (List.mem_of_getElem? (i := 51) rfl)) (hw _ (List.mem_of_getElem? (i := 52) rfl)) (hw _ (List.mem_of_getElem? (i := 53) rfl)) (hw _ (List.mem_of_getElem? (i := 50) rfl)) (by decide) eT95 (b := T88.heap.size) (argsL := [(.ref kd), (.ref h0.size), (.int i1), (.int i2)]) (rest := [(.ref T88.heap.size)]) (own_tok l Z a0 hw T88.heap.size kd h0.size i1 i2 hT95 AT95 FT95_kind FT95_text FT95_line FT95_column) 1 (by decide) (by decide) (by rw [hml]; rfl) (lenOf pd_14 rfl) (Nat.le_of_eq rfl) (hb hby at_101) (by decide) (by decide) (st := [(.int i2), (.int i1), (.ref h0.size), (.ref kd), (.ref T88.heap.size), (.ref T88.heap.size)]) rfl ?_
      intro T103 LT103 vT103 XT103 hQT103
      obtain ⟨rfl, KT103, NT103, FkT103, FtT103⟩ := hQT103
      show own_Go p e below _ T103 (mkF m 104 #[oI i0, oI i1, oI i2, oI i3, oI kk, oR kd, oI (1 : Int32), oI (0 : Int32), oI ch0, oI ch1, oI dh0, oI dh1, oR h0.size, oR T82.heap.size, .unset, .unset] [(.ref T88.heap.size)])
      have fq104_1 := own_stak1 fq97_1 KT103 AT95
      have fq104_2 := own_stak1 fq97_2 KT103 AT95
      have fq104_3 := own_stak1 fq97_3 KT103 AT95
      have fq104_4 := own_stak1 fq97_4 KT103 AT95
      have fq104_5 := own_stak1 fq97_5 KT103 AT95
      have fq104_6 := own_stak1 fq97_6 KT103 AT95
      have fq104_7 := fq97_7.keep KT103
      have fq104_8 := fq97_8.keep KT103 (own_nin z98)
      have fq104_9 := fq97_9.keep KT103 (own_nin z98)
      have fq104_10 := fq97_10.keep KT103 (own_nin z99)
      have fq104_11 := fq97_11.keep KT103
      have fq104_12 := fq97_12.keep KT103 (own_nin z100)
      have fq104_13 := fq97_13.keep KT103 (own_nin z100)
      have fq104_14 := fq97_14.keep KT103 (own_nin z101)
      have fq104_15 := AT95.keep KT103
      have lq104_0 := Nat.lt_of_lt_of_le lq97_0 KT103.1
      have lq104_1 := Nat.lt_of_lt_of_le lq97_1 KT103.1
      have lq104_2 := Nat.lt_of_lt_of_le lq97_2 KT103.1
      have lq104_3 := Nat.lt_of_lt_of_le lq97_3 KT103.1
      have lq104_4 := Nat.lt_of_lt_of_le lt102 KT103.1
      have hC := hC.trans (CHr.keep KT103 (fun _ q => by cases List.mem_singleton.mp q; exact (Safe.exa hZ.alike AT95 (by decide) (by decide))) hC.1)
      have hk0 := Nat.le_trans hk0 KT103.1
      have Kq104 := own_trans1 Kq97 KT103 (Or.inr g96)
      have N105 := own_Fr.app N94 (own_Fr.of (own_Fr.new NT103 g96 (Kq97).1) (Nat.le_refl _))
      refine own_by (fun t_ k_ => XS.astore XT103.here hx rfl (hb hby at_104) rfl rfl (l' := #[oI i0, oI i1, oI i2, oI i3, oI kk, oR kd, oI (1 : Int32), oI (0 : Int32), oI ch0, oI ch1, oI dh0, oI dh1, oR h0.size, oR T82.heap.size, oR T88.heap.size, .unset]) rfl k_) ?_
      show own_Go p e below _ T103 (mkF m 106 #[oI i0, oI i1, oI i2, oI i3, oI kk, oR kd, oI (1 : Int32), oI (0 : Int32), oI ch0, oI ch1, oI dh0, oI dh1, oR h0.size, oR T82.heap.size, oR T88.heap.size, .unset] [])
      refine own_by (fun t_ k_ => XS.iload XT103.here hx rfl (hb hby at_106) rfl  k_) ?_
      show own_Go p e below _ T103 (mkF m 108 #[oI i0, oI i1, oI i2, oI i3, oI kk, oR kd, oI (1 : Int32), oI (0 : Int32), oI ch0, oI ch1, oI dh0, oI dh1, oR h0.size, oR T82.heap.size, oR T88.heap.size, .unset] [(.int kk)])
      by_cases c108_105 : kk = (0 : Int32)
      · refine own_by (fun t_ k_ => XS.ifNo XT103.here hx rfl (hb hby at_108) rfl (XT.i0_ne_f c108_105) k_) ?_
        show own_Go p e below _ T103 (mkF m 111 #[oI i0, oI i1, oI i2, oI i3, oI kk, oR kd, oI (1 : Int32), oI (0 : Int32), oI ch0, oI ch1, oI dh0, oI dh1, oR h0.size, oR T82.heap.size, oR T88.heap.size, .unset] [])
        refine own_by (fun t_ k_ => XS.iload XT103.here hx rfl (hb hby at_111) rfl  k_) ?_
        show own_Go p e below _ T103 (mkF m 113 #[oI i0, oI i1, oI i2, oI i3, oI kk, oR kd, oI (1 : Int32), oI (0 : Int32), oI ch0, oI ch1, oI dh0, oI dh1, oR h0.size, oR T82.heap.size, oR T88.heap.size, .unset] [(.int (1 : Int32))])
        refine own_by (fun t_ k_ => XS.iload XT103.here hx rfl (hb hby at_113) rfl  k_) ?_
        show own_Go p e below _ T103 (mkF m 115 #[oI i0, oI i1, oI i2, oI i3, oI kk, oR kd, oI (1 : Int32), oI (0 : Int32), oI ch0, oI ch1, oI dh0, oI dh1, oR h0.size, oR T82.heap.size, oR T88.heap.size, .unset] [(.int (0 : Int32)), (.int (1 : Int32))])
        refine own_by (fun t_ k_ => XS.icmpYes XT103.here hx rfl (pc0 := 115) (pc' := 148) rfl (hb hby at_115) rfl (XT.ii_ne_t (by decide)) (by decide) (by decide) k_) ?_
        show own_Go p e below _ T103 (mkF m 148 #[oI i0, oI i1, oI i2, oI i3, oI kk, oR kd, oI (1 : Int32), oI (0 : Int32), oI ch0, oI ch1, oI dh0, oI dh1, oR h0.size, oR T82.heap.size, oR T88.heap.size, .unset] [])
        refine own_by (fun t_ k_ => XT.iconstV XT103.here hx rfl (0 : Int32) (hb hby at_148) (by decide) k_) ?_
        show own_Go p e below _ T103 (mkF m 149 #[oI i0, oI i1, oI i2, oI i3, oI kk, oR kd, oI (1 : Int32), oI (0 : Int32), oI ch0, oI ch1, oI dh0, oI dh1, oR h0.size, oR T82.heap.size, oR T88.heap.size, .unset] [(.int (0 : Int32))])
        refine own_by (fun t_ k_ => XS.istore XT103.here hx rfl (hb hby at_149) rfl (l' := #[oI i0, oI i1, oI i2, oI i3, oI kk, oR kd, oI (1 : Int32), oI (0 : Int32), oI ch0, oI ch1, oI dh0, oI dh1, oR h0.size, oR T82.heap.size, oR T88.heap.size, oI (0 : Int32)]) rfl k_) ?_
        show own_Go p e below _ T103 (mkF m 151 #[oI i0, oI i1, oI i2, oI i3, oI kk, oR kd, oI (1 : Int32), oI (0 : Int32), oI ch0, oI ch1, oI dh0, oI dh1, oR h0.size, oR T82.heap.size, oR T88.heap.size, oI (0 : Int32)] [])
        refine own_by (fun t_ k_ => XS.aload XT103.here hx rfl (hb hby at_151) rfl rfl  k_) ?_
        show own_Go p e below _ T103 (mkF m 153 #[oI i0, oI i1, oI i2, oI i3, oI kk, oR kd, oI (1 : Int32), oI (0 : Int32), oI ch0, oI ch1, oI dh0, oI dh1, oR h0.size, oR T82.heap.size, oR T88.heap.size, oI (0 : Int32)] [(.ref T88.heap.size)])
        refine own_by (fun t_ k_ => XS.aload XT103.here hx rfl (hb hby at_153) rfl rfl  k_) ?_
        show own_Go p e below _ T103 (mkF m 155 #[oI i0, oI i1, oI i2, oI i3, oI kk, oR kd, oI (1 : Int32), oI (0 : Int32), oI ch0, oI ch1, oI dh0, oI dh1, oR h0.size, oR T82.heap.size, oR T88.heap.size, oI (0 : Int32)] [(.ref T82.heap.size), (.ref T88.heap.size)])
        refine own_callV XT103 hx hZ hown (hw _ (List.mem_of_getElem? (i := 68) rfl)) (hw _ (List.mem_of_getElem? (i := 69) rfl)) (hw _ (List.mem_of_getElem? (i := 71) rfl)) (hw _ (List.mem_of_getElem? (i := 70) rfl)) (hw _ (List.mem_of_getElem? (i := 72) rfl)) (hw _ (List.mem_of_getElem? (i := 50) rfl)) (by decide) (rfl : T103.heap = T103.heap) (b := T88.heap.size) fq104_15 (argsL := [(.ref T82.heap.size)]) (rest := []) (own_is_1_0_met l Z a0 hw T88.heap.size T82.heap.size kd w0 h0.size bT82 bT88 kbT82 kbT88 (ch0.toInt8.toInt32) T103.heap cs fq104_1 hcs z92 fq104_2 FkT103 FtT103 fq104_7 fq104_8 fq104_9 fq104_10 fq104_11 fq104_12 fq104_13 fq104_14) 0 (by decide) (by decide) (by rw [hml]; rfl) (lenOf pd_15 rfl) (Nat.le_of_eq rfl) (hb hby at_155) (by decide) (by decide) (st := [(.ref T82.heap.size), (.ref T88.heap.size)]) rfl ?_
        intro T107 LT107 vT107 XT107 hQT107
        obtain ⟨rfl, eT107, rfl⟩ := hQT107
        show own_Go p e below _ T107 (mkF m 158 #[oI i0, oI i1, oI i2, oI i3, oI kk, oR kd, oI (1 : Int32), oI (0 : Int32), oI ch0, oI ch1, oI dh0, oI dh1, oR h0.size, oR T82.heap.size, oR T88.heap.size, oI (0 : Int32)] [(.int (own_is_1_0 T88.heap.size T82.heap.size kd w0 h0.size bT82 bT88 kbT82 kbT88 (ch0.toInt8.toInt32)))])
        have N108 := own_Fr.app N105 own_Fr.nil
        refine own_by (fun t_ k_ => XS.iload XT107.here hx rfl (hb hby at_158) rfl  k_) ?_
        show own_Go p e below _ T107 (mkF m 160 #[oI i0, oI i1, oI i2, oI i3, oI kk, oR kd, oI (1 : Int32), oI (0 : Int32), oI ch0, oI ch1, oI dh0, oI dh1, oR h0.size, oR T82.heap.size, oR T88.heap.size, oI (0 : Int32)] [(.int (0 : Int32)), (.int (own_is_1_0 T88.heap.size T82.heap.size kd w0 h0.size bT82 bT88 kbT82 kbT88 (ch0.toInt8.toInt32)))])
        have hW : kd = w0 := hkd.symm.trans (by rw [own_pick, c108_105, if_pos (by decide)])
        have hfin : (own_is_1_0 T88.heap.size T82.heap.size kd w0 h0.size bT82 bT88 kbT82 kbT88 (ch0.toInt8.toInt32)) = (0 : Int32) := by rw [show (own_is_1_0 T88.heap.size T82.heap.size kd w0 h0.size bT82 bT88 kbT82 kbT88 (ch0.toInt8.toInt32)) = (0 : Int32) by rw [own_is_1_0, if_pos hW, if_pos (by rw [show (own_eq_1_0 h0.size T82.heap.size bT82 bT88 kbT82 kbT88 (ch0.toInt8.toInt32)) = (0 : Int32) by rw [own_eq_1_0, if_pos (by rw [show (own_le_1_0 bT82 bT88 kbT82 kbT88 (ch0.toInt8.toInt32)) = (0 : Int32) by rw [own_le_1_0]])]])]]
        refine own_by (fun t_ k_ => XS.icmpNo XT107.here hx rfl (hb hby at_160) rfl (XT.ii_ne_f hfin) k_) ?_
        show own_Go p e below _ T107 (mkF m 163 #[oI i0, oI i1, oI i2, oI i3, oI kk, oR kd, oI (1 : Int32), oI (0 : Int32), oI ch0, oI ch1, oI dh0, oI dh1, oR h0.size, oR T82.heap.size, oR T88.heap.size, oI (0 : Int32)] [])
        refine own_by (fun t_ k_ => XT.iconstV XT107.here hx rfl (1 : Int32) (hb hby at_163) (by decide) k_) ?_
        show own_Go p e below _ T107 (mkF m 164 #[oI i0, oI i1, oI i2, oI i3, oI kk, oR kd, oI (1 : Int32), oI (0 : Int32), oI ch0, oI ch1, oI dh0, oI dh1, oR h0.size, oR T82.heap.size, oR T88.heap.size, oI (0 : Int32)] [(.int (1 : Int32))])
        refine own_by (fun t_ k_ => XS.goto XT107.here hx rfl (pc0 := 164) (pc' := 168) rfl (hb hby at_164) (by decide) (by decide) k_) ?_
        show own_Go p e below _ T107 (mkF m 168 #[oI i0, oI i1, oI i2, oI i3, oI kk, oR kd, oI (1 : Int32), oI (0 : Int32), oI ch0, oI ch1, oI dh0, oI dh1, oR h0.size, oR T82.heap.size, oR T88.heap.size, oI (0 : Int32)] [(.int (1 : Int32))])
        exact own_retNW XT107 hx hlk hZ hEL hS eT107 hk0 hC hret (by simp) (w := (1 : Int32)) (hb hby at_168) (by decide) (by decide) (by decide) (⟨rfl, (N108).to (Nat.le_refl _)⟩)
      · refine own_by (fun t_ k_ => XS.ifYes XT103.here hx rfl (pc0 := 108) (pc' := 148) rfl (hb hby at_108) rfl (XT.i0_ne_t c108_105) (by decide) (by decide) k_) ?_
        show own_Go p e below _ T103 (mkF m 148 #[oI i0, oI i1, oI i2, oI i3, oI kk, oR kd, oI (1 : Int32), oI (0 : Int32), oI ch0, oI ch1, oI dh0, oI dh1, oR h0.size, oR T82.heap.size, oR T88.heap.size, .unset] [])
        refine own_by (fun t_ k_ => XT.iconstV XT103.here hx rfl (0 : Int32) (hb hby at_148) (by decide) k_) ?_
        show own_Go p e below _ T103 (mkF m 149 #[oI i0, oI i1, oI i2, oI i3, oI kk, oR kd, oI (1 : Int32), oI (0 : Int32), oI ch0, oI ch1, oI dh0, oI dh1, oR h0.size, oR T82.heap.size, oR T88.heap.size, .unset] [(.int (0 : Int32))])
        refine own_by (fun t_ k_ => XS.istore XT103.here hx rfl (hb hby at_149) rfl (l' := #[oI i0, oI i1, oI i2, oI i3, oI kk, oR kd, oI (1 : Int32), oI (0 : Int32), oI ch0, oI ch1, oI dh0, oI dh1, oR h0.size, oR T82.heap.size, oR T88.heap.size, oI (0 : Int32)]) rfl k_) ?_
        show own_Go p e below _ T103 (mkF m 151 #[oI i0, oI i1, oI i2, oI i3, oI kk, oR kd, oI (1 : Int32), oI (0 : Int32), oI ch0, oI ch1, oI dh0, oI dh1, oR h0.size, oR T82.heap.size, oR T88.heap.size, oI (0 : Int32)] [])
        refine own_by (fun t_ k_ => XS.aload XT103.here hx rfl (hb hby at_151) rfl rfl  k_) ?_
        show own_Go p e below _ T103 (mkF m 153 #[oI i0, oI i1, oI i2, oI i3, oI kk, oR kd, oI (1 : Int32), oI (0 : Int32), oI ch0, oI ch1, oI dh0, oI dh1, oR h0.size, oR T82.heap.size, oR T88.heap.size, oI (0 : Int32)] [(.ref T88.heap.size)])
        refine own_by (fun t_ k_ => XS.aload XT103.here hx rfl (hb hby at_153) rfl rfl  k_) ?_
        show own_Go p e below _ T103 (mkF m 155 #[oI i0, oI i1, oI i2, oI i3, oI kk, oR kd, oI (1 : Int32), oI (0 : Int32), oI ch0, oI ch1, oI dh0, oI dh1, oR h0.size, oR T82.heap.size, oR T88.heap.size, oI (0 : Int32)] [(.ref T82.heap.size), (.ref T88.heap.size)])
        refine own_callV XT103 hx hZ hown (hw _ (List.mem_of_getElem? (i := 68) rfl)) (hw _ (List.mem_of_getElem? (i := 69) rfl)) (hw _ (List.mem_of_getElem? (i := 71) rfl)) (hw _ (List.mem_of_getElem? (i := 70) rfl)) (hw _ (List.mem_of_getElem? (i := 72) rfl)) (hw _ (List.mem_of_getElem? (i := 50) rfl)) (by decide) (rfl : T103.heap = T103.heap) (b := T88.heap.size) fq104_15 (argsL := [(.ref T82.heap.size)]) (rest := []) (own_is_1_0_met l Z a0 hw T88.heap.size T82.heap.size kd w0 h0.size bT82 bT88 kbT82 kbT88 (ch0.toInt8.toInt32) T103.heap cs fq104_1 hcs z92 fq104_2 FkT103 FtT103 fq104_7 fq104_8 fq104_9 fq104_10 fq104_11 fq104_12 fq104_13 fq104_14) 0 (by decide) (by decide) (by rw [hml]; rfl) (lenOf pd_15 rfl) (Nat.le_of_eq rfl) (hb hby at_155) (by decide) (by decide) (st := [(.ref T82.heap.size), (.ref T88.heap.size)]) rfl ?_
        intro T109 LT109 vT109 XT109 hQT109
        obtain ⟨rfl, eT109, rfl⟩ := hQT109
        show own_Go p e below _ T109 (mkF m 158 #[oI i0, oI i1, oI i2, oI i3, oI kk, oR kd, oI (1 : Int32), oI (0 : Int32), oI ch0, oI ch1, oI dh0, oI dh1, oR h0.size, oR T82.heap.size, oR T88.heap.size, oI (0 : Int32)] [(.int (own_is_1_0 T88.heap.size T82.heap.size kd w0 h0.size bT82 bT88 kbT82 kbT88 (ch0.toInt8.toInt32)))])
        have N110 := own_Fr.app N105 own_Fr.nil
        refine own_by (fun t_ k_ => XS.iload XT109.here hx rfl (hb hby at_158) rfl  k_) ?_
        show own_Go p e below _ T109 (mkF m 160 #[oI i0, oI i1, oI i2, oI i3, oI kk, oR kd, oI (1 : Int32), oI (0 : Int32), oI ch0, oI ch1, oI dh0, oI dh1, oR h0.size, oR T82.heap.size, oR T88.heap.size, oI (0 : Int32)] [(.int (0 : Int32)), (.int (own_is_1_0 T88.heap.size T82.heap.size kd w0 h0.size bT82 bT88 kbT82 kbT88 (ch0.toInt8.toInt32)))])
        have hW : ¬ kd = w0 := fun q => own_pick_ne kk w0 w1 w2 w3 w4 c108_105 (F1.ne F0 (by decide)) (F2.ne F0 (by decide)) (F3.ne F0 (by decide)) (F4.ne F0 (by decide)) (hkd.trans q)
        have hfin : (own_is_1_0 T88.heap.size T82.heap.size kd w0 h0.size bT82 bT88 kbT82 kbT88 (ch0.toInt8.toInt32)) = (0 : Int32) := by rw [show (own_is_1_0 T88.heap.size T82.heap.size kd w0 h0.size bT82 bT88 kbT82 kbT88 (ch0.toInt8.toInt32)) = (0 : Int32) by rw [own_is_1_0, if_neg hW]]
        refine own_by (fun t_ k_ => XS.icmpNo XT109.here hx rfl (hb hby at_160) rfl (XT.ii_ne_f hfin) k_) ?_
        show own_Go p e below _ T109 (mkF m 163 #[oI i0, oI i1, oI i2, oI i3, oI kk, oR kd, oI (1 : Int32), oI (0 : Int32), oI ch0, oI ch1, oI dh0, oI dh1, oR h0.size, oR T82.heap.size, oR T88.heap.size, oI (0 : Int32)] [])
        refine own_by (fun t_ k_ => XT.iconstV XT109.here hx rfl (1 : Int32) (hb hby at_163) (by decide) k_) ?_
        show own_Go p e below _ T109 (mkF m 164 #[oI i0, oI i1, oI i2, oI i3, oI kk, oR kd, oI (1 : Int32), oI (0 : Int32), oI ch0, oI ch1, oI dh0, oI dh1, oR h0.size, oR T82.heap.size, oR T88.heap.size, oI (0 : Int32)] [(.int (1 : Int32))])
        refine own_by (fun t_ k_ => XS.goto XT109.here hx rfl (pc0 := 164) (pc' := 168) rfl (hb hby at_164) (by decide) (by decide) k_) ?_
        show own_Go p e below _ T109 (mkF m 168 #[oI i0, oI i1, oI i2, oI i3, oI kk, oR kd, oI (1 : Int32), oI (0 : Int32), oI ch0, oI ch1, oI dh0, oI dh1, oR h0.size, oR T82.heap.size, oR T88.heap.size, oI (0 : Int32)] [(.int (1 : Int32))])
        exact own_retNW XT109 hx hlk hZ hEL hS eT109 hk0 hC hret (by simp) (w := (1 : Int32)) (hb hby at_168) (by decide) (by decide) (by decide) (⟨rfl, (N110).to (Nat.le_refl _)⟩)
    · subst hk
      show own_Go p e below _ T82 (mkF m 80 #[oI i0, oI i1, oI i2, oI i3, oI kk, oR kd, oI (1 : Int32), oI (1 : Int32), oI ch0, oI ch1, oI dh0, oI dh1, oR h0.size, .unset, .unset, .unset] [])
      refine own_by (fun t_ k_ => XS.iload XT82.here hx rfl (hb hby at_80) rfl  k_) ?_
      show own_Go p e below _ T82 (mkF m 82 #[oI i0, oI i1, oI i2, oI i3, oI kk, oR kd, oI (1 : Int32), oI (1 : Int32), oI ch0, oI ch1, oI dh0, oI dh1, oR h0.size, .unset, .unset, .unset] [(.int (1 : Int32))])
      refine own_by (fun t_ k_ => XS.iload XT82.here hx rfl (hb hby at_82) rfl  k_) ?_
      show own_Go p e below _ T82 (mkF m 84 #[oI i0, oI i1, oI i2, oI i3, oI kk, oR kd, oI (1 : Int32), oI (1 : Int32), oI ch0, oI ch1, oI dh0, oI dh1, oR h0.size, .unset, .unset, .unset] [(.int dh0), (.int (1 : Int32))])
      refine own_by (fun t_ k_ => XS.iload XT82.here hx rfl (hb hby at_84) rfl  k_) ?_
      show own_Go p e below _ T82 (mkF m 86 #[oI i0, oI i1, oI i2, oI i3, oI kk, oR kd, oI (1 : Int32), oI (1 : Int32), oI ch0, oI ch1, oI dh0, oI dh1, oR h0.size, .unset, .unset, .unset] [(.int dh1), (.int dh0), (.int (1 : Int32))])
      have g111 : h0.size ≤ T82.heap.size := Kq83.1
      refine own_callSW XT82 hx hZ hEL hS (rfl : T82.heap = T82.heap) hk0 hC hown (hw _ (List.mem_of_getElem? (i := 8) rfl)) (hw _ (List.mem_of_getElem? (i := 9) rfl)) (hw _ (List.mem_of_getElem? (i := 3) rfl)) (hw _ (List.mem_of_getElem? (i := 10) rfl)) (by decide) (argsL := [(.int (1 : Int32)), (.int dh0), (.int dh1)]) (rest := []) (own_str_1 l Z a0 hw EL hEL dh0 dh1 T82.heap cs fq83_1 hcs Bdh0 Bdh1 hmem) 0 (by decide) (by decide) (by rw [hml]; rfl) (lenOf pd_13 rfl) (Nat.le_of_eq rfl) (hb hby at_86) (by decide) (by decide) (st := [(.int dh1), (.int dh0), (.int (1 : Int32))]) rfl ?_
      rintro T112 LT112 vT112 ⟨XT112, hQT112, hS, hgT112, hZ, hown, hCT112⟩
      obtain ⟨rfl, KT112, NT112, ST112⟩ := hQT112
      show own_Go p e below _ T112 (mkF m 89 #[oI i0, oI i1, oI i2, oI i3, oI kk, oR kd, oI (1 : Int32), oI (1 : Int32), oI ch0, oI ch1, oI dh0, oI dh1, oR h0.size, .unset, .unset, .unset] [(.ref T82.heap.size)])
      have fq113_1 := own_stak fq83_1 KT112
      have fq113_2 := own_stak fq83_2 KT112
      have fq113_3 := own_stak fq83_3 KT112
      have fq113_4 := own_stak fq83_4 KT112
      have fq113_5 := own_stak fq83_5 KT112
      have fq113_6 := own_stak fq83_6 KT112
      have fq113_7 := EsT82.keep KT112
      have fq113_8 := FvT82.keep KT112 nin0
      have fq113_9 := FcT82.keep KT112 nin0
      have fq113_10 := VT82.keep KT112 nin0
      have lq113_0 := Nat.lt_of_lt_of_le lt84 KT112.1
      have lq113_1 := Nat.lt_of_lt_of_le lt85 KT112.1
      have Kq113 := own_trans0 Kq83 KT112
      have hC := hCT112
      have hk0 := Nat.le_refl T112.heap.size
      obtain ⟨bT112, kbT112, EsT112, FvT112, FcT112, VT112⟩ := ST112
      have lt114 := EsT112.lt
      have lt115 := VT112.lt
      have z116 : h0.size ≠ T82.heap.size := Nat.ne_of_lt lt84
      have z117 : bT82 ≠ T82.heap.size := Nat.ne_of_lt lt85
      have N118 := own_Fr.app N86 (own_Fr.of NT112 (Kq83).1)
      refine own_by (fun t_ k_ => XS.astore XT112.here hx rfl (hb hby at_89) rfl rfl (l' := #[oI i0, oI i1, oI i2, oI i3, oI kk, oR kd, oI (1 : Int32), oI (1 : Int32), oI ch0, oI ch1, oI dh0, oI dh1, oR h0.size, oR T82.heap.size, .unset, .unset]) rfl k_) ?_
      show own_Go p e below _ T112 (mkF m 91 #[oI i0, oI i1, oI i2, oI i3, oI kk, oR kd, oI (1 : Int32), oI (1 : Int32), oI ch0, oI ch1, oI dh0, oI dh1, oR h0.size, oR T82.heap.size, .unset, .unset] [])
      have g120 : h0.size ≤ T112.heap.size := Kq113.1
      refine own_new XT112 hx hZ hown (hw _ (List.mem_of_getElem? (i := 48) rfl)) (hw _ (List.mem_of_getElem? (i := 49) rfl)) (hw _ (List.mem_of_getElem? (i := 50) rfl)) (rfl : T112.heap = T112.heap) (hb hby at_91) (by decide) (by decide) ?_
      intro T119 hT119 XT119 eT119 ET119 AT119 DT119
      have fq121_1 := own_stak fq113_1 (own_ek ET119)
      have fq121_2 := own_stak fq113_2 (own_ek ET119)
      have fq121_3 := own_stak fq113_3 (own_ek ET119)
      have fq121_4 := own_stak fq113_4 (own_ek ET119)
      have fq121_5 := own_stak fq113_5 (own_ek ET119)
      have fq121_6 := own_stak fq113_6 (own_ek ET119)
      have fq121_7 := fq113_7.keep (own_ek ET119)
      have fq121_8 := fq113_8.keep (own_ek ET119) nin0
      have fq121_9 := fq113_9.keep (own_ek ET119) nin0
      have fq121_10 := fq113_10.keep (own_ek ET119) nin0
      have fq121_11 := EsT112.keep (own_ek ET119)
      have fq121_12 := FvT112.keep (own_ek ET119) nin0
      have fq121_13 := FcT112.keep (own_ek ET119) nin0
      have fq121_14 := VT112.keep (own_ek ET119) nin0
      have lq121_0 := Nat.lt_of_lt_of_le lq113_0 (own_ek ET119).1
      have lq121_1 := Nat.lt_of_lt_of_le lq113_1 (own_ek ET119).1
      have lq121_2 := Nat.lt_of_lt_of_le lt114 (own_ek ET119).1
      have lq121_3 := Nat.lt_of_lt_of_le lt115 (own_ek ET119).1
      have hC := hC.trans (CHr.keep (own_ek ET119) (fun _ q => by cases q) hC.1)
      have hk0 := Nat.le_trans hk0 (own_ek ET119).1
      have Kq121 := own_trans0 Kq113 (own_ek ET119)
      have z122 : h0.size ≠ T112.heap.size := Nat.ne_of_lt lq113_0
      have z123 : bT82 ≠ T112.heap.size := Nat.ne_of_lt lq113_1
      have z124 : T82.heap.size ≠ T112.heap.size := Nat.ne_of_lt lt114
      have z125 : bT112 ≠ T112.heap.size := Nat.ne_of_lt lt115
      have FT119_kind : Fld Z hT119 T112.heap.size "com/example/nimble_gate/nimblegate/policy/Token" "kind" "Lcom/example/nimble_gate/nimblegate/policy/Token$Kind;" .null := DT119 (ty := (.object "com/example/nimble_gate/nimblegate/policy/Token$Kind")) (Or.inr (hw _ (List.mem_of_getElem? (i := 61) rfl))) (by decide +kernel)
      have FT119_text : Fld Z hT119 T112.heap.size "com/example/nimble_gate/nimblegate/policy/Token" "text" "Ljava/lang/String;" .null := DT119 (ty := (.object "java/lang/String")) (Or.inr (hw _ (List.mem_of_getElem? (i := 63) rfl))) (by decide +kernel)
      have FT119_line : Fld Z hT119 T112.heap.size "com/example/nimble_gate/nimblegate/policy/Token" "line" "I" (.int 0) := DT119 (ty := .int) (Or.inr (hw _ (List.mem_of_getElem? (i := 65) rfl))) (by decide +kernel)
      have FT119_column : Fld Z hT119 T112.heap.size "com/example/nimble_gate/nimblegate/policy/Token" "column" "I" (.int 0) := DT119 (ty := .int) (Or.inr (hw _ (List.mem_of_getElem? (i := 67) rfl))) (by decide +kernel)
      clear DT119
      have lt126 := AT119.lt
      show own_Go p e below _ T119 (mkF m 94 #[oI i0, oI i1, oI i2, oI i3, oI kk, oR kd, oI (1 : Int32), oI (1 : Int32), oI ch0, oI ch1, oI dh0, oI dh1, oR h0.size, oR T82.heap.size, .unset, .unset] [(.ref T112.heap.size)])
      refine own_by (fun t_ k_ => XS.dup XT119.here hx rfl (hb hby at_94) rfl rfl k_) ?_
      show own_Go p e below _ T119 (mkF m 95 #[oI i0, oI i1, oI i2, oI i3, oI kk, oR kd, oI (1 : Int32), oI (1 : Int32), oI ch0, oI ch1, oI dh0, oI dh1, oR h0.size, oR T82.heap.size, .unset, .unset] [(.ref T112.heap.size), (.ref T112.heap.size)])
      refine own_by (fun t_ k_ => XS.aload XT119.here hx rfl (hb hby at_95) rfl rfl  k_) ?_
      show own_Go p e below _ T119 (mkF m 97 #[oI i0, oI i1, oI i2, oI i3, oI kk, oR kd, oI (1 : Int32), oI (1 : Int32), oI ch0, oI ch1, oI dh0, oI dh1, oR h0.size, oR T82.heap.size, .unset, .unset] [(.ref kd), (.ref T112.heap.size), (.ref T112.heap.size)])
      refine own_by (fun t_ k_ => XS.aload XT119.here hx rfl (hb hby at_97) rfl rfl  k_) ?_
      show own_Go p e below _ T119 (mkF m 99 #[oI i0, oI i1, oI i2, oI i3, oI kk, oR kd, oI (1 : Int32), oI (1 : Int32), oI ch0, oI ch1, oI dh0, oI dh1, oR h0.size, oR T82.heap.size, .unset, .unset] [(.ref h0.size), (.ref kd), (.ref T112.heap.size), (.ref T112.heap.size)])
      refine own_by (fun t_ k_ => XS.iloadN XT119.here hx rfl (hb hby at_99) rfl  k_) ?_
      show own_Go p e below _ T119 (mkF m 100 #[oI i0, oI i1, oI i2, oI i3, oI kk, oR kd, oI (1 : Int32), oI (1 : Int32), oI ch0, oI ch1, oI dh0, oI dh1, oR h0.size, oR T82.heap.size, .unset, .unset] [(.int i1), (.ref h0.size), (.ref kd), (.ref T112.heap.size), (.ref T112.heap.size)])
      refine own_by (fun t_ k_ => XS.iloadN XT119.here hx rfl (hb hby at_100) rfl  k_) ?_
      show own_Go p e below _ T119 (mkF m 101 #[oI i0, oI i1, oI i2, oI i3, oI kk, oR kd, oI (1 : Int32), oI (1 : Int32), oI ch0, oI ch1, oI dh0, oI dh1, oR h0.size, oR T82.heap.size, .unset, .unset] [(.int i2), (.int i1), (.ref h0.size), (.ref kd), (.ref T112.heap.size), (.ref T112.heap.size)])
      refine own_callN XT119 hx hZ rfl hown (hw _ (List.mem_of_getElem? (i := 51) rfl)) (hw _ (List.mem_of_getElem? (i := 52) rfl)) (hw _ (List.mem_of_getElem? (i := 53) rfl)) (hw _ (List.mem_of_getElem? (i := 50) rfl)) (by decide) eT119 (b := T112.heap.size) (argsL := [(.ref kd), (.ref h0.size), (.int i1), (.int i2)]) (rest := [(.ref T112.heap.size)]) (own_tok l Z a0 hw T112.heap.size kd h0.size i1 i2 hT119 AT119 FT119_kind FT119_text FT119_line FT119_column) 1 (by decide) (by decide) (by rw [hml]; rfl) (lenOf pd_14 rfl) (Nat.le_of_eq rfl) (hb hby at_101) (by decide) (by decide) (st := [(.int i2), (.int i1), (.ref h0.size), (.ref kd), (.ref T112.heap.size), (.ref T112.heap.size)]) rfl ?_
      intro T127 LT127 vT127 XT127 hQT127
      obtain ⟨rfl, KT127, NT127, FkT127, FtT127⟩ := hQT127
      show own_Go p e below _ T127 (mkF m 104 #[oI i0, oI i1, oI i2, oI i3, oI kk, oR kd, oI (1 : Int32), oI (1 : Int32), oI ch0, oI ch1, oI dh0, oI dh1, oR h0.size, oR T82.heap.size, .unset, .unset] [(.ref T112.heap.size)])
      have fq128_1 := own_stak1 fq121_1 KT127 AT119
      have fq128_2 := own_stak1 fq121_2 KT127 AT119
      have fq128_3 := own_stak1 fq121_3 KT127 AT119
      have fq128_4 := own_stak1 fq121_4 KT127 AT119
      have fq128_5 := own_stak1 fq121_5 KT127 AT119
      have fq128_6 := own_stak1 fq121_6 KT127 AT119
      have fq128_7 := fq121_7.keep KT127
      have fq128_8 := fq121_8.keep KT127 (own_nin z122)
      have fq128_9 := fq121_9.keep KT127 (own_nin z122)
      have fq128_10 := fq121_10.keep KT127 (own_nin z123)
      have fq128_11 := fq121_11.keep KT127
      have fq128_12 := fq121_12.keep KT127 (own_nin z124)
      have fq128_13 := fq121_13.keep KT127 (own_nin z124)
      have fq128_14 := fq121_14.keep KT127 (own_nin z125)
      have fq128_15 := AT119.keep KT127
      have lq128_0 := Nat.lt_of_lt_of_le lq121_0 KT127.1
      have lq128_1 := Nat.lt_of_lt_of_le lq121_1 KT127.1
      have lq128_2 := Nat.lt_of_lt_of_le lq121_2 KT127.1
      have lq128_3 := Nat.lt_of_lt_of_le lq121_3 KT127.1
      have lq128_4 := Nat.lt_of_lt_of_le lt126 KT127.1
      have hC := hC.trans (CHr.keep KT127 (fun _ q => by cases List.mem_singleton.mp q; exact (Safe.exa hZ.alike AT119 (by decide) (by decide))) hC.1)
      have hk0 := Nat.le_trans hk0 KT127.1
      have Kq128 := own_trans1 Kq121 KT127 (Or.inr g120)
      have N129 := own_Fr.app N118 (own_Fr.of (own_Fr.new NT127 g120 (Kq121).1) (Nat.le_refl _))
      refine own_by (fun t_ k_ => XS.astore XT127.here hx rfl (hb hby at_104) rfl rfl (l' := #[oI i0, oI i1, oI i2, oI i3, oI kk, oR kd, oI (1 : Int32), oI (1 : Int32), oI ch0, oI ch1, oI dh0, oI dh1, oR h0.size, oR T82.heap.size, oR T112.heap.size, .unset]) rfl k_) ?_
      show own_Go p e below _ T127 (mkF m 106 #[oI i0, oI i1, oI i2, oI i3, oI kk, oR kd, oI (1 : Int32), oI (1 : Int32), oI ch0, oI ch1, oI dh0, oI dh1, oR h0.size, oR T82.heap.size, oR T112.heap.size, .unset] [])
      refine own_by (fun t_ k_ => XS.iload XT127.here hx rfl (hb hby at_106) rfl  k_) ?_
      show own_Go p e below _ T127 (mkF m 108 #[oI i0, oI i1, oI i2, oI i3, oI kk, oR kd, oI (1 : Int32), oI (1 : Int32), oI ch0, oI ch1, oI dh0, oI dh1, oR h0.size, oR T82.heap.size, oR T112.heap.size, .unset] [(.int kk)])
      by_cases c108_129 : kk = (0 : Int32)
      · refine own_by (fun t_ k_ => XS.ifNo XT127.here hx rfl (hb hby at_108) rfl (XT.i0_ne_f c108_129) k_) ?_
        show own_Go p e below _ T127 (mkF m 111 #[oI i0, oI i1, oI i2, oI i3, oI kk, oR kd, oI (1 : Int32), oI (1 : Int32), oI ch0, oI ch1, oI dh0, oI dh1, oR h0.size, oR T82.heap.size, oR T112.heap.size, .unset] [])
        refine own_by (fun t_ k_ => XS.iload XT127.here hx rfl (hb hby at_111) rfl  k_) ?_
        show own_Go p e below _ T127 (mkF m 113 #[oI i0, oI i1, oI i2, oI i3, oI kk, oR kd, oI (1 : Int32), oI (1 : Int32), oI ch0, oI ch1, oI dh0, oI dh1, oR h0.size, oR T82.heap.size, oR T112.heap.size, .unset] [(.int (1 : Int32))])
        refine own_by (fun t_ k_ => XS.iload XT127.here hx rfl (hb hby at_113) rfl  k_) ?_
        show own_Go p e below _ T127 (mkF m 115 #[oI i0, oI i1, oI i2, oI i3, oI kk, oR kd, oI (1 : Int32), oI (1 : Int32), oI ch0, oI ch1, oI dh0, oI dh1, oR h0.size, oR T82.heap.size, oR T112.heap.size, .unset] [(.int (1 : Int32)), (.int (1 : Int32))])
        refine own_by (fun t_ k_ => XS.icmpNo XT127.here hx rfl (hb hby at_115) rfl (XT.ii_ne_f (by decide)) k_) ?_
        show own_Go p e below _ T127 (mkF m 118 #[oI i0, oI i1, oI i2, oI i3, oI kk, oR kd, oI (1 : Int32), oI (1 : Int32), oI ch0, oI ch1, oI dh0, oI dh1, oR h0.size, oR T82.heap.size, oR T112.heap.size, .unset] [])
        refine own_by (fun t_ k_ => XS.iload XT127.here hx rfl (hb hby at_118) rfl  k_) ?_
        show own_Go p e below _ T127 (mkF m 120 #[oI i0, oI i1, oI i2, oI i3, oI kk, oR kd, oI (1 : Int32), oI (1 : Int32), oI ch0, oI ch1, oI dh0, oI dh1, oR h0.size, oR T82.heap.size, oR T112.heap.size, .unset] [(.int (1 : Int32))])
        refine own_by (fun t_ k_ => XT.iconstV XT127.here hx rfl (1 : Int32) (hb hby at_120) (by decide) k_) ?_
        show own_Go p e below _ T127 (mkF m 121 #[oI i0, oI i1, oI i2, oI i3, oI kk, oR kd, oI (1 : Int32), oI (1 : Int32), oI ch0, oI ch1, oI dh0, oI dh1, oR h0.size, oR T82.heap.size, oR T112.heap.size, .unset] [(.int (1 : Int32)), (.int (1 : Int32))])
        refine own_by (fun t_ k_ => XS.icmpNo XT127.here hx rfl (hb hby at_121) rfl (XT.ii_lt_f (by decide)) k_) ?_
        show own_Go p e below _ T127 (mkF m 124 #[oI i0, oI i1, oI i2, oI i3, oI kk, oR kd, oI (1 : Int32), oI (1 : Int32), oI ch0, oI ch1, oI dh0, oI dh1, oR h0.size, oR T82.heap.size, oR T112.heap.size, .unset] [])
        refine own_by (fun t_ k_ => XS.iload XT127.here hx rfl (hb hby at_124) rfl  k_) ?_
        show own_Go p e below _ T127 (mkF m 126 #[oI i0, oI i1, oI i2, oI i3, oI kk, oR kd, oI (1 : Int32), oI (1 : Int32), oI ch0, oI ch1, oI dh0, oI dh1, oR h0.size, oR T82.heap.size, oR T112.heap.size, .unset] [(.int ch0)])
        refine own_by (fun t_ k_ => XS.iload XT127.here hx rfl (hb hby at_126) rfl  k_) ?_
        show own_Go p e below _ T127 (mkF m 128 #[oI i0, oI i1, oI i2, oI i3, oI kk, oR kd, oI (1 : Int32), oI (1 : Int32), oI ch0, oI ch1, oI dh0, oI dh1, oR h0.size, oR T82.heap.size, oR T112.heap.size, .unset] [(.int dh0), (.int ch0)])
        by_cases c128_130 : ch0 = dh0
        · refine own_by (fun t_ k_ => XS.icmpNo XT127.here hx rfl (hb hby at_128) rfl (XT.ii_ne_f c128_130) k_) ?_
          show own_Go p e below _ T127 (mkF m 131 #[oI i0, oI i1, oI i2, oI i3, oI kk, oR kd, oI (1 : Int32), oI (1 : Int32), oI ch0, oI ch1, oI dh0, oI dh1, oR h0.size, oR T82.heap.size, oR T112.heap.size, .unset] [])
          refine own_by (fun t_ k_ => XS.iload XT127.here hx rfl (hb hby at_131) rfl  k_) ?_
          show own_Go p e below _ T127 (mkF m 133 #[oI i0, oI i1, oI i2, oI i3, oI kk, oR kd, oI (1 : Int32), oI (1 : Int32), oI ch0, oI ch1, oI dh0, oI dh1, oR h0.size, oR T82.heap.size, oR T112.heap.size, .unset] [(.int (1 : Int32))])
          refine own_by (fun t_ k_ => XT.iconstV XT127.here hx rfl (2 : Int32) (hb hby at_133) (by decide) k_) ?_
          show own_Go p e below _ T127 (mkF m 134 #[oI i0, oI i1, oI i2, oI i3, oI kk, oR kd, oI (1 : Int32), oI (1 : Int32), oI ch0, oI ch1, oI dh0, oI dh1, oR h0.size, oR T82.heap.size, oR T112.heap.size, .unset] [(.int (2 : Int32)), (.int (1 : Int32))])
          refine own_by (fun t_ k_ => XS.icmpYes XT127.here hx rfl (pc0 := 134) (pc' := 144) rfl (hb hby at_134) rfl (XT.ii_lt_t (by decide)) (by decide) (by decide) k_) ?_
          show own_Go p e below _ T127 (mkF m 144 #[oI i0, oI i1, oI i2, oI i3, oI kk, oR kd, oI (1 : Int32), oI (1 : Int32), oI ch0, oI ch1, oI dh0, oI dh1, oR h0.size, oR T82.heap.size, oR T112.heap.size, .unset] [])
          refine own_by (fun t_ k_ => XT.iconstV XT127.here hx rfl (1 : Int32) (hb hby at_144) (by decide) k_) ?_
          show own_Go p e below _ T127 (mkF m 145 #[oI i0, oI i1, oI i2, oI i3, oI kk, oR kd, oI (1 : Int32), oI (1 : Int32), oI ch0, oI ch1, oI dh0, oI dh1, oR h0.size, oR T82.heap.size, oR T112.heap.size, .unset] [(.int (1 : Int32))])
          refine own_by (fun t_ k_ => XS.goto XT127.here hx rfl (pc0 := 145) (pc' := 149) rfl (hb hby at_145) (by decide) (by decide) k_) ?_
          show own_Go p e below _ T127 (mkF m 149 #[oI i0, oI i1, oI i2, oI i3, oI kk, oR kd, oI (1 : Int32), oI (1 : Int32), oI ch0, oI ch1, oI dh0, oI dh1, oR h0.size, oR T82.heap.size, oR T112.heap.size, .unset] [(.int (1 : Int32))])
          refine own_by (fun t_ k_ => XS.istore XT127.here hx rfl (hb hby at_149) rfl (l' := #[oI i0, oI i1, oI i2, oI i3, oI kk, oR kd, oI (1 : Int32), oI (1 : Int32), oI ch0, oI ch1, oI dh0, oI dh1, oR h0.size, oR T82.heap.size, oR T112.heap.size, oI (1 : Int32)]) rfl k_) ?_
          show own_Go p e below _ T127 (mkF m 151 #[oI i0, oI i1, oI i2, oI i3, oI kk, oR kd, oI (1 : Int32), oI (1 : Int32), oI ch0, oI ch1, oI dh0, oI dh1, oR h0.size, oR T82.heap.size, oR T112.heap.size, oI (1 : Int32)] [])
          refine own_by (fun t_ k_ => XS.aload XT127.here hx rfl (hb hby at_151) rfl rfl  k_) ?_
          show own_Go p e below _ T127 (mkF m 153 #[oI i0, oI i1, oI i2, oI i3, oI kk, oR kd, oI (1 : Int32), oI (1 : Int32), oI ch0, oI ch1, oI dh0, oI dh1, oR h0.size, oR T82.heap.size, oR T112.heap.size, oI (1 : Int32)] [(.ref T112.heap.size)])
          refine own_by (fun t_ k_ => XS.aload XT127.here hx rfl (hb hby at_153) rfl rfl  k_) ?_
          show own_Go p e below _ T127 (mkF m 155 #[oI i0, oI i1, oI i2, oI i3, oI kk, oR kd, oI (1 : Int32), oI (1 : Int32), oI ch0, oI ch1, oI dh0, oI dh1, oR h0.size, oR T82.heap.size, oR T112.heap.size, oI (1 : Int32)] [(.ref T82.heap.size), (.ref T112.heap.size)])
          refine own_callV XT127 hx hZ hown (hw _ (List.mem_of_getElem? (i := 68) rfl)) (hw _ (List.mem_of_getElem? (i := 69) rfl)) (hw _ (List.mem_of_getElem? (i := 71) rfl)) (hw _ (List.mem_of_getElem? (i := 70) rfl)) (hw _ (List.mem_of_getElem? (i := 72) rfl)) (hw _ (List.mem_of_getElem? (i := 50) rfl)) (by decide) (rfl : T127.heap = T127.heap) (b := T112.heap.size) fq128_15 (argsL := [(.ref T82.heap.size)]) (rest := []) (own_is_1_1_met l Z a0 hw T112.heap.size T82.heap.size kd w0 h0.size bT82 bT112 kbT82 kbT112 (ch0.toInt8.toInt32) (dh0.toInt8.toInt32) T127.heap cs fq128_1 hcs z116 fq128_2 FkT127 FtT127 fq128_7 fq128_8 fq128_9 fq128_10 fq128_11 fq128_12 fq128_13 fq128_14) 0 (by decide) (by decide) (by rw [hml]; rfl) (lenOf pd_15 rfl) (Nat.le_of_eq rfl) (hb hby at_155) (by decide) (by decide) (st := [(.ref T82.heap.size), (.ref T112.heap.size)]) rfl ?_
          intro T132 LT132 vT132 XT132 hQT132
          obtain ⟨rfl, eT132, rfl⟩ := hQT132
          show own_Go p e below _ T132 (mkF m 158 #[oI i0, oI i1, oI i2, oI i3, oI kk, oR kd, oI (1 : Int32), oI (1 : Int32), oI ch0, oI ch1, oI dh0, oI dh1, oR h0.size, oR T82.heap.size, oR T112.heap.size, oI (1 : Int32)] [(.int (own_is_1_1 T112.heap.size T82.heap.size kd w0 h0.size bT82 bT112 kbT82 kbT112 (ch0.toInt8.toInt32) (dh0.toInt8.toInt32)))])
          have N133 := own_Fr.app N129 own_Fr.nil
          refine own_by (fun t_ k_ => XS.iload XT132.here hx rfl (hb hby at_158) rfl  k_) ?_
          show own_Go p e below _ T132 (mkF m 160 #[oI i0, oI i1, oI i2, oI i3, oI kk, oR kd, oI (1 : Int32), oI (1 : Int32), oI ch0, oI ch1, oI dh0, oI dh1, oR h0.size, oR T82.heap.size, oR T112.heap.size, oI (1 : Int32)] [(.int (1 : Int32)), (.int (own_is_1_1 T112.heap.size T82.heap.size kd w0 h0.size bT82 bT112 kbT82 kbT112 (ch0.toInt8.toInt32) (dh0.toInt8.toInt32)))])
          have hW : kd = w0 := hkd.symm.trans (by rw [own_pick, c108_129, if_pos (by decide)])
          have hfin : (own_is_1_1 T112.heap.size T82.heap.size kd w0 h0.size bT82 bT112 kbT82 kbT112 (ch0.toInt8.toInt32) (dh0.toInt8.toInt32)) = (1 : Int32) := by rw [show (own_is_1_1 T112.heap.size T82.heap.size kd w0 h0.size bT82 bT112 kbT82 kbT112 (ch0.toInt8.toInt32) (dh0.toInt8.toInt32)) = (1 : Int32) by rw [own_is_1_1, if_pos hW, if_neg (by rw [show (own_eq_1_1 h0.size T82.heap.size bT82 bT112 kbT82 kbT112 (ch0.toInt8.toInt32) (dh0.toInt8.toInt32)) = (1 : Int32) by rw [own_eq_1_1, if_neg (by rw [show (own_le_1_1 bT82 bT112 kbT82 kbT112 (ch0.toInt8.toInt32) (dh0.toInt8.toInt32)) = (1 : Int32) by rw [own_le_1_1, if_pos (by rw [c128_130])]]; decide)]]; decide)]]
          refine own_by (fun t_ k_ => XS.icmpNo XT132.here hx rfl (hb hby at_160) rfl (XT.ii_ne_f hfin) k_) ?_
          show own_Go p e below _ T132 (mkF m 163 #[oI i0, oI i1, oI i2, oI i3, oI kk, oR kd, oI (1 : Int32), oI (1 : Int32), oI ch0, oI ch1, oI dh0, oI dh1, oR h0.size, oR T82.heap.size, oR T112.heap.size, oI (1 : Int32)] [])
          refine own_by (fun t_ k_ => XT.iconstV XT132.here hx rfl (1 : Int32) (hb hby at_163) (by decide) k_) ?_
          show own_Go p e below _ T132 (mkF m 164 #[oI i0, oI i1, oI i2, oI i3, oI kk, oR kd, oI (1 : Int32), oI (1 : Int32), oI ch0, oI ch1, oI dh0, oI dh1, oR h0.size, oR T82.heap.size, oR T112.heap.size, oI (1 : Int32)] [(.int (1 : Int32))])
          refine own_by (fun t_ k_ => XS.goto XT132.here hx rfl (pc0 := 164) (pc' := 168) rfl (hb hby at_164) (by decide) (by decide) k_) ?_
          show own_Go p e below _ T132 (mkF m 168 #[oI i0, oI i1, oI i2, oI i3, oI kk, oR kd, oI (1 : Int32), oI (1 : Int32), oI ch0, oI ch1, oI dh0, oI dh1, oR h0.size, oR T82.heap.size, oR T112.heap.size, oI (1 : Int32)] [(.int (1 : Int32))])
          exact own_retNW XT132 hx hlk hZ hEL hS eT132 hk0 hC hret (by simp) (w := (1 : Int32)) (hb hby at_168) (by decide) (by decide) (by decide) (⟨rfl, (N133).to (Nat.le_refl _)⟩)
        · refine own_by (fun t_ k_ => XS.icmpYes XT127.here hx rfl (pc0 := 128) (pc' := 148) rfl (hb hby at_128) rfl (XT.ii_ne_t c128_130) (by decide) (by decide) k_) ?_
          show own_Go p e below _ T127 (mkF m 148 #[oI i0, oI i1, oI i2, oI i3, oI kk, oR kd, oI (1 : Int32), oI (1 : Int32), oI ch0, oI ch1, oI dh0, oI dh1, oR h0.size, oR T82.heap.size, oR T112.heap.size, .unset] [])
          refine own_by (fun t_ k_ => XT.iconstV XT127.here hx rfl (0 : Int32) (hb hby at_148) (by decide) k_) ?_
          show own_Go p e below _ T127 (mkF m 149 #[oI i0, oI i1, oI i2, oI i3, oI kk, oR kd, oI (1 : Int32), oI (1 : Int32), oI ch0, oI ch1, oI dh0, oI dh1, oR h0.size, oR T82.heap.size, oR T112.heap.size, .unset] [(.int (0 : Int32))])
          refine own_by (fun t_ k_ => XS.istore XT127.here hx rfl (hb hby at_149) rfl (l' := #[oI i0, oI i1, oI i2, oI i3, oI kk, oR kd, oI (1 : Int32), oI (1 : Int32), oI ch0, oI ch1, oI dh0, oI dh1, oR h0.size, oR T82.heap.size, oR T112.heap.size, oI (0 : Int32)]) rfl k_) ?_
          show own_Go p e below _ T127 (mkF m 151 #[oI i0, oI i1, oI i2, oI i3, oI kk, oR kd, oI (1 : Int32), oI (1 : Int32), oI ch0, oI ch1, oI dh0, oI dh1, oR h0.size, oR T82.heap.size, oR T112.heap.size, oI (0 : Int32)] [])
          refine own_by (fun t_ k_ => XS.aload XT127.here hx rfl (hb hby at_151) rfl rfl  k_) ?_
          show own_Go p e below _ T127 (mkF m 153 #[oI i0, oI i1, oI i2, oI i3, oI kk, oR kd, oI (1 : Int32), oI (1 : Int32), oI ch0, oI ch1, oI dh0, oI dh1, oR h0.size, oR T82.heap.size, oR T112.heap.size, oI (0 : Int32)] [(.ref T112.heap.size)])
          refine own_by (fun t_ k_ => XS.aload XT127.here hx rfl (hb hby at_153) rfl rfl  k_) ?_
          show own_Go p e below _ T127 (mkF m 155 #[oI i0, oI i1, oI i2, oI i3, oI kk, oR kd, oI (1 : Int32), oI (1 : Int32), oI ch0, oI ch1, oI dh0, oI dh1, oR h0.size, oR T82.heap.size, oR T112.heap.size, oI (0 : Int32)] [(.ref T82.heap.size), (.ref T112.heap.size)])
          refine own_callV XT127 hx hZ hown (hw _ (List.mem_of_getElem? (i := 68) rfl)) (hw _ (List.mem_of_getElem? (i := 69) rfl)) (hw _ (List.mem_of_getElem? (i := 71) rfl)) (hw _ (List.mem_of_getElem? (i := 70) rfl)) (hw _ (List.mem_of_getElem? (i := 72) rfl)) (hw _ (List.mem_of_getElem? (i := 50) rfl)) (by decide) (rfl : T127.heap = T127.heap) (b := T112.heap.size) fq128_15 (argsL := [(.ref T82.heap.size)]) (rest := []) (own_is_1_1_met l Z a0 hw T112.heap.size T82.heap.size kd w0 h0.size bT82 bT112 kbT82 kbT112 (ch0.toInt8.toInt32) (dh0.toInt8.toInt32) T127.heap cs fq128_1 hcs z116 fq128_2 FkT127 FtT127 fq128_7 fq128_8 fq128_9 fq128_10 fq128_11 fq128_12 fq128_13 fq128_14) 0 (by decide) (by decide) (by rw [hml]; rfl) (lenOf pd_15 rfl) (Nat.le_of_eq rfl) (hb hby at_155) (by decide) (by decide) (st := [(.ref T82.heap.size), (.ref T112.heap.size)]) rfl ?_
          intro T134 LT134 vT134 XT134 hQT134
          obtain ⟨rfl, eT134, rfl⟩ := hQT134
          show own_Go p e below _ T134 (mkF m 158 #[oI i0, oI i1, oI i2, oI i3, oI kk, oR kd, oI (1 : Int32), oI (1 : Int32), oI ch0, oI ch1, oI dh0, oI dh1, oR h0.size, oR T82.heap.size, oR T112.heap.size, oI (0 : Int32)] [(.int (own_is_1_1 T112.heap.size T82.heap.size kd w0 h0.size bT82 bT112 kbT82 kbT112 (ch0.toInt8.toInt32) (dh0.toInt8.toInt32)))])
          have N135 := own_Fr.app N129 own_Fr.nil
          refine own_by (fun t_ k_ => XS.iload XT134.here hx rfl (hb hby at_158) rfl  k_) ?_
          show own_Go p e below _ T134 (mkF m 160 #[oI i0, oI i1, oI i2, oI i3, oI kk, oR kd, oI (1 : Int32), oI (1 : Int32), oI ch0, oI ch1, oI dh0, oI dh1, oR h0.size, oR T82.heap.size, oR T112.heap.size, oI (0 : Int32)] [(.int (0 : Int32)), (.int (own_is_1_1 T112.heap.size T82.heap.size kd w0 h0.size bT82 bT112 kbT82 kbT112 (ch0.toInt8.toInt32) (dh0.toInt8.toInt32)))])
          have hW : kd = w0 := hkd.symm.trans (by rw [own_pick, c108_129, if_pos (by decide)])
          have hfin : (own_is_1_1 T112.heap.size T82.heap.size kd w0 h0.size bT82 bT112 kbT82 kbT112 (ch0.toInt8.toInt32) (dh0.toInt8.toInt32)) = (0 : Int32) := by rw [show (own_is_1_1 T112.heap.size T82.heap.size kd w0 h0.size bT82 bT112 kbT82 kbT112 (ch0.toInt8.toInt32) (dh0.toInt8.toInt32)) = (0 : Int32) by rw [own_is_1_1, if_pos hW, if_pos (by rw [show (own_eq_1_1 h0.size T82.heap.size bT82 bT112 kbT82 kbT112 (ch0.toInt8.toInt32) (dh0.toInt8.toInt32)) = (0 : Int32) by rw [own_eq_1_1, if_pos (by rw [show (own_le_1_1 bT82 bT112 kbT82 kbT112 (ch0.toInt8.toInt32) (dh0.toInt8.toInt32)) = (0 : Int32) by rw [own_le_1_1, if_neg (fun q => c128_130 (own_ch_i2b Bch0 Bdh0 q))]])]])]]
          refine own_by (fun t_ k_ => XS.icmpNo XT134.here hx rfl (hb hby at_160) rfl (XT.ii_ne_f hfin) k_) ?_
          show own_Go p e below _ T134 (mkF m 163 #[oI i0, oI i1, oI i2, oI i3, oI kk, oR kd, oI (1 : Int32), oI (1 : Int32), oI ch0, oI ch1, oI dh0, oI dh1, oR h0.size, oR T82.heap.size, oR T112.heap.size, oI (0 : Int32)] [])
          refine own_by (fun t_ k_ => XT.iconstV XT134.here hx rfl (1 : Int32) (hb hby at_163) (by decide) k_) ?_
          show own_Go p e below _ T134 (mkF m 164 #[oI i0, oI i1, oI i2, oI i3, oI kk, oR kd, oI (1 : Int32), oI (1 : Int32), oI ch0, oI ch1, oI dh0, oI dh1, oR h0.size, oR T82.heap.size, oR T112.heap.size, oI (0 : Int32)] [(.int (1 : Int32))])
          refine own_by (fun t_ k_ => XS.goto XT134.here hx rfl (pc0 := 164) (pc' := 168) rfl (hb hby at_164) (by decide) (by decide) k_) ?_
          show own_Go p e below _ T134 (mkF m 168 #[oI i0, oI i1, oI i2, oI i3, oI kk, oR kd, oI (1 : Int32), oI (1 : Int32), oI ch0, oI ch1, oI dh0, oI dh1, oR h0.size, oR T82.heap.size, oR T112.heap.size, oI (0 : Int32)] [(.int (1 : Int32))])
          exact own_retNW XT134 hx hlk hZ hEL hS eT134 hk0 hC hret (by simp) (w := (1 : Int32)) (hb hby at_168) (by decide) (by decide) (by decide) (⟨rfl, (N135).to (Nat.le_refl _)⟩)
      · refine own_by (fun t_ k_ => XS.ifYes XT127.here hx rfl (pc0 := 108) (pc' := 148) rfl (hb hby at_108) rfl (XT.i0_ne_t c108_129) (by decide) (by decide) k_) ?_
        show own_Go p e below _ T127 (mkF m 148 #[oI i0, oI i1, oI i2, oI i3, oI kk, oR kd, oI (1 : Int32), oI (1 : Int32), oI ch0, oI ch1, oI dh0, oI dh1, oR h0.size, oR T82.heap.size, oR T112.heap.size, .unset] [])
        refine own_by (fun t_ k_ => XT.iconstV XT127.here hx rfl (0 : Int32) (hb hby at_148) (by decide) k_) ?_
        show own_Go p e below _ T127 (mkF m 149 #[oI i0, oI i1, oI i2, oI i3, oI kk, oR kd, oI (1 : Int32), oI (1 : Int32), oI ch0, oI ch1, oI dh0, oI dh1, oR h0.size, oR T82.heap.size, oR T112.heap.size, .unset] [(.int (0 : Int32))])
        refine own_by (fun t_ k_ => XS.istore XT127.here hx rfl (hb hby at_149) rfl (l' := #[oI i0, oI i1, oI i2, oI i3, oI kk, oR kd, oI (1 : Int32), oI (1 : Int32), oI ch0, oI ch1, oI dh0, oI dh1, oR h0.size, oR T82.heap.size, oR T112.heap.size, oI (0 : Int32)]) rfl k_) ?_
        show own_Go p e below _ T127 (mkF m 151 #[oI i0, oI i1, oI i2, oI i3, oI kk, oR kd, oI (1 : Int32), oI (1 : Int32), oI ch0, oI ch1, oI dh0, oI dh1, oR h0.size, oR T82.heap.size, oR T112.heap.size, oI (0 : Int32)] [])
        refine own_by (fun t_ k_ => XS.aload XT127.here hx rfl (hb hby at_151) rfl rfl  k_) ?_
        show own_Go p e below _ T127 (mkF m 153 #[oI i0, oI i1, oI i2, oI i3, oI kk, oR kd, oI (1 : Int32), oI (1 : Int32), oI ch0, oI ch1, oI dh0, oI dh1, oR h0.size, oR T82.heap.size, oR T112.heap.size, oI (0 : Int32)] [(.ref T112.heap.size)])
        refine own_by (fun t_ k_ => XS.aload XT127.here hx rfl (hb hby at_153) rfl rfl  k_) ?_
        show own_Go p e below _ T127 (mkF m 155 #[oI i0, oI i1, oI i2, oI i3, oI kk, oR kd, oI (1 : Int32), oI (1 : Int32), oI ch0, oI ch1, oI dh0, oI dh1, oR h0.size, oR T82.heap.size, oR T112.heap.size, oI (0 : Int32)] [(.ref T82.heap.size), (.ref T112.heap.size)])
        refine own_callV XT127 hx hZ hown (hw _ (List.mem_of_getElem? (i := 68) rfl)) (hw _ (List.mem_of_getElem? (i := 69) rfl)) (hw _ (List.mem_of_getElem? (i := 71) rfl)) (hw _ (List.mem_of_getElem? (i := 70) rfl)) (hw _ (List.mem_of_getElem? (i := 72) rfl)) (hw _ (List.mem_of_getElem? (i := 50) rfl)) (by decide) (rfl : T127.heap = T127.heap) (b := T112.heap.size) fq128_15 (argsL := [(.ref T82.heap.size)]) (rest := []) (own_is_1_1_met l Z a0 hw T112.heap.size T82.heap.size kd w0 h0.size bT82 bT112 kbT82 kbT112 (ch0.toInt8.toInt32) (dh0.toInt8.toInt32) T127.heap cs fq128_1 hcs z116 fq128_2 FkT127 FtT127 fq128_7 fq128_8 fq128_9 fq128_10 fq128_11 fq128_12 fq128_13 fq128_14) 0 (by decide) (by decide) (by rw [hml]; rfl) (lenOf pd_15 rfl) (Nat.le_of_eq rfl) (hb hby at_155) (by decide) (by decide) (st := [(.ref T82.heap.size), (.ref T112.heap.size)]) rfl ?_
        intro T136 LT136 vT136 XT136 hQT136
        obtain ⟨rfl, eT136, rfl⟩ := hQT136
        show own_Go p e below _ T136 (mkF m 158 #[oI i0, oI i1, oI i2, oI i3, oI kk, oR kd, oI (1 : Int32), oI (1 : Int32), oI ch0, oI ch1, oI dh0, oI dh1, oR h0.size, oR T82.heap.size, oR T112.heap.size, oI (0 : Int32)] [(.int (own_is_1_1 T112.heap.size T82.heap.size kd w0 h0.size bT82 bT112 kbT82 kbT112 (ch0.toInt8.toInt32) (dh0.toInt8.toInt32)))])
        have N137 := own_Fr.app N129 own_Fr.nil
        refine own_by (fun t_ k_ => XS.iload XT136.here hx rfl (hb hby at_158) rfl  k_) ?_
        show own_Go p e below _ T136 (mkF m 160 #[oI i0, oI i1, oI i2, oI i3, oI kk, oR kd, oI (1 : Int32), oI (1 : Int32), oI ch0, oI ch1, oI dh0, oI dh1, oR h0.size, oR T82.heap.size, oR T112.heap.size, oI (0 : Int32)] [(.int (0 : Int32)), (.int (own_is_1_1 T112.heap.size T82.heap.size kd w0 h0.size bT82 bT112 kbT82 kbT112 (ch0.toInt8.toInt32) (dh0.toInt8.toInt32)))])
        have hW : ¬ kd = w0 := fun q => own_pick_ne kk w0 w1 w2 w3 w4 c108_129 (F1.ne F0 (by decide)) (F2.ne F0 (by decide)) (F3.ne F0 (by decide)) (F4.ne F0 (by decide)) (hkd.trans q)
        have hfin : (own_is_1_1 T112.heap.size T82.heap.size kd w0 h0.size bT82 bT112 kbT82 kbT112 (ch0.toInt8.toInt32) (dh0.toInt8.toInt32)) = (0 : Int32) := by rw [show (own_is_1_1 T112.heap.size T82.heap.size kd w0 h0.size bT82 bT112 kbT82 kbT112 (ch0.toInt8.toInt32) (dh0.toInt8.toInt32)) = (0 : Int32) by rw [own_is_1_1, if_neg hW]]
        refine own_by (fun t_ k_ => XS.icmpNo XT136.here hx rfl (hb hby at_160) rfl (XT.ii_ne_f hfin) k_) ?_
        show own_Go p e below _ T136 (mkF m 163 #[oI i0, oI i1, oI i2, oI i3, oI kk, oR kd, oI (1 : Int32), oI (1 : Int32), oI ch0, oI ch1, oI dh0, oI dh1, oR h0.size, oR T82.heap.size, oR T112.heap.size, oI (0 : Int32)] [])
        refine own_by (fun t_ k_ => XT.iconstV XT136.here hx rfl (1 : Int32) (hb hby at_163) (by decide) k_) ?_
        show own_Go p e below _ T136 (mkF m 164 #[oI i0, oI i1, oI i2, oI i3, oI kk, oR kd, oI (1 : Int32), oI (1 : Int32), oI ch0, oI ch1, oI dh0, oI dh1, oR h0.size, oR T82.heap.size, oR T112.heap.size, oI (0 : Int32)] [(.int (1 : Int32))])
        refine own_by (fun t_ k_ => XS.goto XT136.here hx rfl (pc0 := 164) (pc' := 168) rfl (hb hby at_164) (by decide) (by decide) k_) ?_
        show own_Go p e below _ T136 (mkF m 168 #[oI i0, oI i1, oI i2, oI i3, oI kk, oR kd, oI (1 : Int32), oI (1 : Int32), oI ch0, oI ch1, oI dh0, oI dh1, oR h0.size, oR T82.heap.size, oR T112.heap.size, oI (0 : Int32)] [(.int (1 : Int32))])
        exact own_retNW XT136 hx hlk hZ hEL hS eT136 hk0 hC hret (by simp) (w := (1 : Int32)) (hb hby at_168) (by decide) (by decide) (by decide) (⟨rfl, (N137).to (Nat.le_refl _)⟩)
    · subst hk
      show own_Go p e below _ T82 (mkF m 80 #[oI i0, oI i1, oI i2, oI i3, oI kk, oR kd, oI (1 : Int32), oI (2 : Int32), oI ch0, oI ch1, oI dh0, oI dh1, oR h0.size, .unset, .unset, .unset] [])
      refine own_by (fun t_ k_ => XS.iload XT82.here hx rfl (hb hby at_80) rfl  k_) ?_
      show own_Go p e below _ T82 (mkF m 82 #[oI i0, oI i1, oI i2, oI i3, oI kk, oR kd, oI (1 : Int32), oI (2 : Int32), oI ch0, oI ch1, oI dh0, oI dh1, oR h0.size, .unset, .unset, .unset] [(.int (2 : Int32))])
      refine own_by (fun t_ k_ => XS.iload XT82.here hx rfl (hb hby at_82) rfl  k_) ?_
      show own_Go p e below _ T82 (mkF m 84 #[oI i0, oI i1, oI i2, oI i3, oI kk, oR kd, oI (1 : Int32), oI (2 : Int32), oI ch0, oI ch1, oI dh0, oI dh1, oR h0.size, .unset, .unset, .unset] [(.int dh0), (.int (2 : Int32))])
      refine own_by (fun t_ k_ => XS.iload XT82.here hx rfl (hb hby at_84) rfl  k_) ?_
      show own_Go p e below _ T82 (mkF m 86 #[oI i0, oI i1, oI i2, oI i3, oI kk, oR kd, oI (1 : Int32), oI (2 : Int32), oI ch0, oI ch1, oI dh0, oI dh1, oR h0.size, .unset, .unset, .unset] [(.int dh1), (.int dh0), (.int (2 : Int32))])
      have g138 : h0.size ≤ T82.heap.size := Kq83.1
      refine own_callSW XT82 hx hZ hEL hS (rfl : T82.heap = T82.heap) hk0 hC hown (hw _ (List.mem_of_getElem? (i := 8) rfl)) (hw _ (List.mem_of_getElem? (i := 9) rfl)) (hw _ (List.mem_of_getElem? (i := 3) rfl)) (hw _ (List.mem_of_getElem? (i := 10) rfl)) (by decide) (argsL := [(.int (2 : Int32)), (.int dh0), (.int dh1)]) (rest := []) (own_str_2 l Z a0 hw EL hEL dh0 dh1 T82.heap cs fq83_1 hcs Bdh0 Bdh1 hmem) 0 (by decide) (by decide) (by rw [hml]; rfl) (lenOf pd_13 rfl) (Nat.le_of_eq rfl) (hb hby at_86) (by decide) (by decide) (st := [(.int dh1), (.int dh0), (.int (2 : Int32))]) rfl ?_
      rintro T139 LT139 vT139 ⟨XT139, hQT139, hS, hgT139, hZ, hown, hCT139⟩
      obtain ⟨rfl, KT139, NT139, ST139⟩ := hQT139
      show own_Go p e below _ T139 (mkF m 89 #[oI i0, oI i1, oI i2, oI i3, oI kk, oR kd, oI (1 : Int32), oI (2 : Int32), oI ch0, oI ch1, oI dh0, oI dh1, oR h0.size, .unset, .unset, .unset] [(.ref T82.heap.size)])
      have fq140_1 := own_stak fq83_1 KT139
      have fq140_2 := own_stak fq83_2 KT139
      have fq140_3 := own_stak fq83_3 KT139
      have fq140_4 := own_stak fq83_4 KT139
      have fq140_5 := own_stak fq83_5 KT139
      have fq140_6 := own_stak fq83_6 KT139
      have fq140_7 := EsT82.keep KT139
      have fq140_8 := FvT82.keep KT139 nin0
      have fq140_9 := FcT82.keep KT139 nin0
      have fq140_10 := VT82.keep KT139 nin0
      have lq140_0 := Nat.lt_of_lt_of_le lt84 KT139.1
      have lq140_1 := Nat.lt_of_lt_of_le lt85 KT139.1
      have Kq140 := own_trans0 Kq83 KT139
      have hC := hCT139
      have hk0 := Nat.le_refl T139.heap.size
      obtain ⟨bT139, kbT139, EsT139, FvT139, FcT139, VT139⟩ := ST139
      have lt141 := EsT139.lt
      have lt142 := VT139.lt
      have z143 : h0.size ≠ T82.heap.size := Nat.ne_of_lt lt84
      have z144 : bT82 ≠ T82.heap.size := Nat.ne_of_lt lt85
      have N145 := own_Fr.app N86 (own_Fr.of NT139 (Kq83).1)
      refine own_by (fun t_ k_ => XS.astore XT139.here hx rfl (hb hby at_89) rfl rfl (l' := #[oI i0, oI i1, oI i2, oI i3, oI kk, oR kd, oI (1 : Int32), oI (2 : Int32), oI ch0, oI ch1, oI dh0, oI dh1, oR h0.size, oR T82.heap.size, .unset, .unset]) rfl k_) ?_
      show own_Go p e below _ T139 (mkF m 91 #[oI i0, oI i1, oI i2, oI i3, oI kk, oR kd, oI (1 : Int32), oI (2 : Int32), oI ch0, oI ch1, oI dh0, oI dh1, oR h0.size, oR T82.heap.size, .unset, .unset] [])
      have g147 : h0.size ≤ T139.heap.size := Kq140.1
      refine own_new XT139 hx hZ hown (hw _ (List.mem_of_getElem? (i := 48) rfl)) (hw _ (List.mem_of_getElem? (i := 49) rfl)) (hw _ (List.mem_of_getElem? (i := 50) rfl)) (rfl : T139.heap = T139.heap) (hb hby at_91) (by decide) (by decide) ?_
      intro T146 hT146 XT146 eT146 ET146 AT146 DT146
      have fq148_1 := own_stak fq140_1 (own_ek ET146)
      have fq148_2 := own_stak fq140_2 (own_ek ET146)
      have fq148_3 := own_stak fq140_3 (own_ek ET146)
      have fq148_4 := own_stak fq140_4 (own_ek ET146)
      have fq148_5 := own_stak fq140_5 (own_ek ET146)
      have fq148_6 := own_stak fq140_6 (own_ek ET146)
      have fq148_7 := fq140_7.keep (own_ek ET146)
      have fq148_8 := fq140_8.keep (own_ek ET146) nin0
      have fq148_9 := fq140_9.keep (own_ek ET146) nin0
      have fq148_10 := fq140_10.keep (own_ek ET146) nin0
      have fq148_11 := EsT139.keep (own_ek ET146)
      have fq148_12 := FvT139.keep (own_ek ET146) nin0
      have fq148_13 := FcT139.keep (own_ek ET146) nin0
      have fq148_14 := VT139.keep (own_ek ET146) nin0
      have lq148_0 := Nat.lt_of_lt_of_le lq140_0 (own_ek ET146).1
      have lq148_1 := Nat.lt_of_lt_of_le lq140_1 (own_ek ET146).1
      have lq148_2 := Nat.lt_of_lt_of_le lt141 (own_ek ET146).1
      have lq148_3 := Nat.lt_of_lt_of_le lt142 (own_ek ET146).1
      have hC := hC.trans (CHr.keep (own_ek ET146) (fun _ q => by cases q) hC.1)
      have hk0 := Nat.le_trans hk0 (own_ek ET146).1
      have Kq148 := own_trans0 Kq140 (own_ek ET146)
      have z149 : h0.size ≠ T139.heap.size := Nat.ne_of_lt lq140_0
      have z150 : bT82 ≠ T139.heap.size := Nat.ne_of_lt lq140_1
      have z151 : T82.heap.size ≠ T139.heap.size := Nat.ne_of_lt lt141
      have z152 : bT139 ≠ T139.heap.size := Nat.ne_of_lt lt142
      have FT146_kind : Fld Z hT146 T139.heap.size "com/example/nimble_gate/nimblegate/policy/Token" "kind" "Lcom/example/nimble_gate/nimblegate/policy/Token$Kind;" .null := DT146 (ty := (.object "com/example/nimble_gate/nimblegate/policy/Token$Kind")) (Or.inr (hw _ (List.mem_of_getElem? (i := 61) rfl))) (by decide +kernel)
      have FT146_text : Fld Z hT146 T139.heap.size "com/example/nimble_gate/nimblegate/policy/Token" "text" "Ljava/lang/String;" .null := DT146 (ty := (.object "java/lang/String")) (Or.inr (hw _ (List.mem_of_getElem? (i := 63) rfl))) (by decide +kernel)
      have FT146_line : Fld Z hT146 T139.heap.size "com/example/nimble_gate/nimblegate/policy/Token" "line" "I" (.int 0) := DT146 (ty := .int) (Or.inr (hw _ (List.mem_of_getElem? (i := 65) rfl))) (by decide +kernel)
      have FT146_column : Fld Z hT146 T139.heap.size "com/example/nimble_gate/nimblegate/policy/Token" "column" "I" (.int 0) := DT146 (ty := .int) (Or.inr (hw _ (List.mem_of_getElem? (i := 67) rfl))) (by decide +kernel)
      clear DT146
      have lt153 := AT146.lt
      show own_Go p e below _ T146 (mkF m 94 #[oI i0, oI i1, oI i2, oI i3, oI kk, oR kd, oI (1 : Int32), oI (2 : Int32), oI ch0, oI ch1, oI dh0, oI dh1, oR h0.size, oR T82.heap.size, .unset, .unset] [(.ref T139.heap.size)])
      refine own_by (fun t_ k_ => XS.dup XT146.here hx rfl (hb hby at_94) rfl rfl k_) ?_
      show own_Go p e below _ T146 (mkF m 95 #[oI i0, oI i1, oI i2, oI i3, oI kk, oR kd, oI (1 : Int32), oI (2 : Int32), oI ch0, oI ch1, oI dh0, oI dh1, oR h0.size, oR T82.heap.size, .unset, .unset] [(.ref T139.heap.size), (.ref T139.heap.size)])
      refine own_by (fun t_ k_ => XS.aload XT146.here hx rfl (hb hby at_95) rfl rfl  k_) ?_
      show own_Go p e below _ T146 (mkF m 97 #[oI i0, oI i1, oI i2, oI i3, oI kk, oR kd, oI (1 : Int32), oI (2 : Int32), oI ch0, oI ch1, oI dh0, oI dh1, oR h0.size, oR T82.heap.size, .unset, .unset] [(.ref kd), (.ref T139.heap.size), (.ref T139.heap.size)])
      refine own_by (fun t_ k_ => XS.aload XT146.here hx rfl (hb hby at_97) rfl rfl  k_) ?_
      show own_Go p e below _ T146 (mkF m 99 #[oI i0, oI i1, oI i2, oI i3, oI kk, oR kd, oI (1 : Int32), oI (2 : Int32), oI ch0, oI ch1, oI dh0, oI dh1, oR h0.size, oR T82.heap.size, .unset, .unset] [(.ref h0.size), (.ref kd), (.ref T139.heap.size), (.ref T139.heap.size)])
      refine own_by (fun t_ k_ => XS.iloadN XT146.here hx rfl (hb hby at_99) rfl  k_) ?_
      show own_Go p e below _ T146 (mkF m 100 #[oI i0, oI i1, oI i2, oI i3, oI kk, oR kd, oI (1 : Int32), oI (2 : Int32), oI ch0, oI ch1, oI dh0, oI dh1, oR h0.size, oR T82.heap.size, .unset, .unset] [(.int i1), (.ref h0.size), (.ref kd), (.ref T139.heap.size), (.ref T139.heap.size)])
      refine own_by (fun t_ k_ => XS.iloadN XT146.here hx rfl (hb hby at_100) rfl  k_) ?_
      show own_Go p e below _ T146 (mkF m 101 #[oI i0, oI i1, oI i2, oI i3, oI kk, oR kd, oI (1 : Int32), oI (2 : Int32), oI ch0, oI ch1, oI dh0, oI dh1, oR h0.size, oR T82.heap.size, .unset, .unset] [(.int i2), (.int i1), (.ref h0.size), (.ref kd), (.ref T139.heap.size), (.ref T139.heap.size)])
      refine own_callN XT146 hx hZ rfl hown (hw _ (List.mem_of_getElem? (i := 51) rfl)) (hw _ (List.mem_of_getElem? (i := 52) rfl)) (hw _ (List.mem_of_getElem? (i := 53) rfl)) (hw _ (List.mem_of_getElem? (i := 50) rfl)) (by decide) eT146 (b := T139.heap.size) (argsL := [(.ref kd), (.ref h0.size), (.int i1), (.int i2)]) (rest := [(.ref T139.heap.size)]) (own_tok l Z a0 hw T139.heap.size kd h0.size i1 i2 hT146 AT146 FT146_kind FT146_text FT146_line FT146_column) 1 (by decide) (by decide) (by rw [hml]; rfl) (lenOf pd_14 rfl) (Nat.le_of_eq rfl) (hb hby at_101) (by decide) (by decide) (st := [(.int i2), (.int i1), (.ref h0.size), (.ref kd), (.ref T139.heap.size), (.ref T139.heap.size)]) rfl ?_
      intro T154 LT154 vT154 XT154 hQT154
      obtain ⟨rfl, KT154, NT154, FkT154, FtT154⟩ := hQT154
      show own_Go p e below _ T154 (mkF m 104 #[oI i0, oI i1, oI i2, oI i3, oI kk, oR kd, oI (1 : Int32), oI (2 : Int32), oI ch0, oI ch1, oI dh0, oI dh1, oR h0.size, oR T82.heap.size, .unset, .unset] [(.ref T139.heap.size)])
      have fq155_1 := own_stak1 fq148_1 KT154 AT146
      have fq155_2 := own_stak1 fq148_2 KT154 AT146
      have fq155_3 := own_stak1 fq148_3 KT154 AT146
      have fq155_4 := own_stak1 fq148_4 KT154 AT146
      have fq155_5 := own_stak1 fq148_5 KT154 AT146
      have fq155_6 := own_stak1 fq148_6 KT154 AT146
      have fq155_7 := fq148_7.keep KT154
      have fq155_8 := fq148_8.keep KT154 (own_nin z149)
      have fq155_9 := fq148_9.keep KT154 (own_nin z149)
      have fq155_10 := fq148_10.keep KT154 (own_nin z150)
      have fq155_11 := fq148_11.keep KT154
      have fq155_12 := fq148_12.keep KT154 (own_nin z151)
      have fq155_13 := fq148_13.keep KT154 (own_nin z151)
      have fq155_14 := fq148_14.keep KT154 (own_nin z152)
      have fq155_15 := AT146.keep KT154
      have lq155_0 := Nat.lt_of_lt_of_le lq148_0 KT154.1
      have lq155_1 := Nat.lt_of_lt_of_le lq148_1 KT154.1
      have lq155_2 := Nat.lt_of_lt_of_le lq148_2 KT154.1
      have lq155_3 := Nat.lt_of_lt_of_le lq148_3 KT154.1
      have lq155_4 := Nat.lt_of_lt_of_le lt153 KT154.1
      have hC := hC.trans (CHr.keep KT154 (fun _ q => by cases List.mem_singleton.mp q; exact (Safe.exa hZ.alike AT146 (by decide) (by decide))) hC.1)
      have hk0 := Nat.le_trans hk0 KT154.1
      have Kq155 := own_trans1 Kq148 KT154 (Or.inr g147)
      have N156 := own_Fr.app N145 (own_Fr.of (own_Fr.new NT154 g147 (Kq148).1) (Nat.le_refl _))
      refine own_by (fun t_ k_ => XS.astore XT154.here hx rfl (hb hby at_104) rfl rfl (l' := #[oI i0, oI i1, oI i2, oI i3, oI kk, oR kd, oI (1 : Int32), oI (2 : Int32), oI ch0, oI ch1, oI dh0, oI dh1, oR h0.size, oR T82.heap.size, oR T139.heap.size, .unset]) rfl k_) ?_
      show own_Go p e below _ T154 (mkF m 106 #[oI i0, oI i1, oI i2, oI i3, oI kk, oR kd, oI (1 : Int32), oI (2 : Int32), oI ch0, oI ch1, oI dh0, oI dh1, oR h0.size, oR T82.heap.size, oR T139.heap.size, .unset] [])
      refine own_by (fun t_ k_ => XS.iload XT154.here hx rfl (hb hby at_106) rfl  k_) ?_
      show own_Go p e below _ T154 (mkF m 108 #[oI i0, oI i1, oI i2, oI i3, oI kk, oR kd, oI (1 : Int32), oI (2 : Int32), oI ch0, oI ch1, oI dh0, oI dh1, oR h0.size, oR T82.heap.size, oR T139.heap.size, .unset] [(.int kk)])
      by_cases c108_156 : kk = (0 : Int32)
      · refine own_by (fun t_ k_ => XS.ifNo XT154.here hx rfl (hb hby at_108) rfl (XT.i0_ne_f c108_156) k_) ?_
        show own_Go p e below _ T154 (mkF m 111 #[oI i0, oI i1, oI i2, oI i3, oI kk, oR kd, oI (1 : Int32), oI (2 : Int32), oI ch0, oI ch1, oI dh0, oI dh1, oR h0.size, oR T82.heap.size, oR T139.heap.size, .unset] [])
        refine own_by (fun t_ k_ => XS.iload XT154.here hx rfl (hb hby at_111) rfl  k_) ?_
        show own_Go p e below _ T154 (mkF m 113 #[oI i0, oI i1, oI i2, oI i3, oI kk, oR kd, oI (1 : Int32), oI (2 : Int32), oI ch0, oI ch1, oI dh0, oI dh1, oR h0.size, oR T82.heap.size, oR T139.heap.size, .unset] [(.int (1 : Int32))])
        refine own_by (fun t_ k_ => XS.iload XT154.here hx rfl (hb hby at_113) rfl  k_) ?_
        show own_Go p e below _ T154 (mkF m 115 #[oI i0, oI i1, oI i2, oI i3, oI kk, oR kd, oI (1 : Int32), oI (2 : Int32), oI ch0, oI ch1, oI dh0, oI dh1, oR h0.size, oR T82.heap.size, oR T139.heap.size, .unset] [(.int (2 : Int32)), (.int (1 : Int32))])
        refine own_by (fun t_ k_ => XS.icmpYes XT154.here hx rfl (pc0 := 115) (pc' := 148) rfl (hb hby at_115) rfl (XT.ii_ne_t (by decide)) (by decide) (by decide) k_) ?_
        show own_Go p e below _ T154 (mkF m 148 #[oI i0, oI i1, oI i2, oI i3, oI kk, oR kd, oI (1 : Int32), oI (2 : Int32), oI ch0, oI ch1, oI dh0, oI dh1, oR h0.size, oR T82.heap.size, oR T139.heap.size, .unset] [])
        refine own_by (fun t_ k_ => XT.iconstV XT154.here hx rfl (0 : Int32) (hb hby at_148) (by decide) k_) ?_
        show own_Go p e below _ T154 (mkF m 149 #[oI i0, oI i1, oI i2, oI i3, oI kk, oR kd, oI (1 : Int32), oI (2 : Int32), oI ch0, oI ch1, oI dh0, oI dh1, oR h0.size, oR T82.heap.size, oR T139.heap.size, .unset] [(.int (0 : Int32))])
        refine own_by (fun t_ k_ => XS.istore XT154.here hx rfl (hb hby at_149) rfl (l' := #[oI i0, oI i1, oI i2, oI i3, oI kk, oR kd, oI (1 : Int32), oI (2 : Int32), oI ch0, oI ch1, oI dh0, oI dh1, oR h0.size, oR T82.heap.size, oR T139.heap.size, oI (0 : Int32)]) rfl k_) ?_
        show own_Go p e below _ T154 (mkF m 151 #[oI i0, oI i1, oI i2, oI i3, oI kk, oR kd, oI (1 : Int32), oI (2 : Int32), oI ch0, oI ch1, oI dh0, oI dh1, oR h0.size, oR T82.heap.size, oR T139.heap.size, oI (0 : Int32)] [])
        refine own_by (fun t_ k_ => XS.aload XT154.here hx rfl (hb hby at_151) rfl rfl  k_) ?_
        show own_Go p e below _ T154 (mkF m 153 #[oI i0, oI i1, oI i2, oI i3, oI kk, oR kd, oI (1 : Int32), oI (2 : Int32), oI ch0, oI ch1, oI dh0, oI dh1, oR h0.size, oR T82.heap.size, oR T139.heap.size, oI (0 : Int32)] [(.ref T139.heap.size)])
        refine own_by (fun t_ k_ => XS.aload XT154.here hx rfl (hb hby at_153) rfl rfl  k_) ?_
        show own_Go p e below _ T154 (mkF m 155 #[oI i0, oI i1, oI i2, oI i3, oI kk, oR kd, oI (1 : Int32), oI (2 : Int32), oI ch0, oI ch1, oI dh0, oI dh1, oR h0.size, oR T82.heap.size, oR T139.heap.size, oI (0 : Int32)] [(.ref T82.heap.size), (.ref T139.heap.size)])
        refine own_callV XT154 hx hZ hown (hw _ (List.mem_of_getElem? (i := 68) rfl)) (hw _ (List.mem_of_getElem? (i := 69) rfl)) (hw _ (List.mem_of_getElem? (i := 71) rfl)) (hw _ (List.mem_of_getElem? (i := 70) rfl)) (hw _ (List.mem_of_getElem? (i := 72) rfl)) (hw _ (List.mem_of_getElem? (i := 50) rfl)) (by decide) (rfl : T154.heap = T154.heap) (b := T139.heap.size) fq155_15 (argsL := [(.ref T82.heap.size)]) (rest := []) (own_is_1_2_met l Z a0 hw T139.heap.size T82.heap.size kd w0 h0.size bT82 bT139 kbT82 kbT139 (ch0.toInt8.toInt32) (dh0.toInt8.toInt32) (dh1.toInt8.toInt32) T154.heap cs fq155_1 hcs z143 fq155_2 FkT154 FtT154 fq155_7 fq155_8 fq155_9 fq155_10 fq155_11 fq155_12 fq155_13 fq155_14) 0 (by decide) (by decide) (by rw [hml]; rfl) (lenOf pd_15 rfl) (Nat.le_of_eq rfl) (hb hby at_155) (by decide) (by decide) (st := [(.ref T82.heap.size), (.ref T139.heap.size)]) rfl ?_
        intro T158 LT158 vT158 XT158 hQT158
        obtain ⟨rfl, eT158, rfl⟩ := hQT158
        show own_Go p e below _ T158 (mkF m 158 #[oI i0, oI i1, oI i2, oI i3, oI kk, oR kd, oI (1 : Int32), oI (2 : Int32), oI ch0, oI ch1, oI dh0, oI dh1, oR h0.size, oR T82.heap.size, oR T139.heap.size, oI (0 : Int32)] [(.int (own_is_1_2 T139.heap.size T82.heap.size kd w0 h0.size bT82 bT139 kbT82 kbT139 (ch0.toInt8.toInt32) (dh0.toInt8.toInt32) (dh1.toInt8.toInt32)))])
        have N159 := own_Fr.app N156 own_Fr.nil
        refine own_by (fun t_ k_ => XS.iload XT158.here hx rfl (hb hby at_158) rfl  k_) ?_
        show own_Go p e below _ T158 (mkF m 160 #[oI i0, oI i1, oI i2, oI i3, oI kk, oR kd, oI (1 : Int32), oI (2 : Int32), oI ch0, oI ch1, oI dh0, oI dh1, oR h0.size, oR T82.heap.size, oR T139.heap.size, oI (0 : Int32)] [(.int (0 : Int32)), (.int (own_is_1_2 T139.heap.size T82.heap.size kd w0 h0.size bT82 bT139 kbT82 kbT139 (ch0.toInt8.toInt32) (dh0.toInt8.toInt32) (dh1.toInt8.toInt32)))])
        have hW : kd = w0 := hkd.symm.trans (by rw [own_pick, c108_156, if_pos (by decide)])
        have hfin : (own_is_1_2 T139.heap.size T82.heap.size kd w0 h0.size bT82 bT139 kbT82 kbT139 (ch0.toInt8.toInt32) (dh0.toInt8.toInt32) (dh1.toInt8.toInt32)) = (0 : Int32) := by rw [show (own_is_1_2 T139.heap.size T82.heap.size kd w0 h0.size bT82 bT139 kbT82 kbT139 (ch0.toInt8.toInt32) (dh0.toInt8.toInt32) (dh1.toInt8.toInt32)) = (0 : Int32) by rw [own_is_1_2, if_pos hW, if_pos (by rw [show (own_eq_1_2 h0.size T82.heap.size bT82 bT139 kbT82 kbT139 (ch0.toInt8.toInt32) (dh0.toInt8.toInt32) (dh1.toInt8.toInt32)) = (0 : Int32) by rw [own_eq_1_2, if_pos (by rw [show (own_le_1_2 bT82 bT139 kbT82 kbT139 (ch0.toInt8.toInt32) (dh0.toInt8.toInt32) (dh1.toInt8.toInt32)) = (0 : Int32) by rw [own_le_1_2]])]])]]
        refine own_by (fun t_ k_ => XS.icmpNo XT158.here hx rfl (hb hby at_160) rfl (XT.ii_ne_f hfin) k_) ?_
        show own_Go p e below _ T158 (mkF m 163 #[oI i0, oI i1, oI i2, oI i3, oI kk, oR kd, oI (1 : Int32), oI (2 : Int32), oI ch0, oI ch1, oI dh0, oI dh1, oR h0.size, oR T82.heap.size, oR T139.heap.size, oI (0 : Int32)] [])
        refine own_by (fun t_ k_ => XT.iconstV XT158.here hx rfl (1 : Int32) (hb hby at_163) (by decide) k_) ?_
        show own_Go p e below _ T158 (mkF m 164 #[oI i0, oI i1, oI i2, oI i3, oI kk, oR kd, oI (1 : Int32), oI (2 : Int32), oI ch0, oI ch1, oI dh0, oI dh1, oR h0.size, oR T82.heap.size, oR T139.heap.size, oI (0 : Int32)] [(.int (1 : Int32))])
        refine own_by (fun t_ k_ => XS.goto XT158.here hx rfl (pc0 := 164) (pc' := 168) rfl (hb hby at_164) (by decide) (by decide) k_) ?_
        show own_Go p e below _ T158 (mkF m 168 #[oI i0, oI i1, oI i2, oI i3, oI kk, oR kd, oI (1 : Int32), oI (2 : Int32), oI ch0, oI ch1, oI dh0, oI dh1, oR h0.size, oR T82.heap.size, oR T139.heap.size, oI (0 : Int32)] [(.int (1 : Int32))])
        exact own_retNW XT158 hx hlk hZ hEL hS eT158 hk0 hC hret (by simp) (w := (1 : Int32)) (hb hby at_168) (by decide) (by decide) (by decide) (⟨rfl, (N159).to (Nat.le_refl _)⟩)
      · refine own_by (fun t_ k_ => XS.ifYes XT154.here hx rfl (pc0 := 108) (pc' := 148) rfl (hb hby at_108) rfl (XT.i0_ne_t c108_156) (by decide) (by decide) k_) ?_
        show own_Go p e below _ T154 (mkF m 148 #[oI i0, oI i1, oI i2, oI i3, oI kk, oR kd, oI (1 : Int32), oI (2 : Int32), oI ch0, oI ch1, oI dh0, oI dh1, oR h0.size, oR T82.heap.size, oR T139.heap.size, .unset] [])
        refine own_by (fun t_ k_ => XT.iconstV XT154.here hx rfl (0 : Int32) (hb hby at_148) (by decide) k_) ?_
        show own_Go p e below _ T154 (mkF m 149 #[oI i0, oI i1, oI i2, oI i3, oI kk, oR kd, oI (1 : Int32), oI (2 : Int32), oI ch0, oI ch1, oI dh0, oI dh1, oR h0.size, oR T82.heap.size, oR T139.heap.size, .unset] [(.int (0 : Int32))])
        refine own_by (fun t_ k_ => XS.istore XT154.here hx rfl (hb hby at_149) rfl (l' := #[oI i0, oI i1, oI i2, oI i3, oI kk, oR kd, oI (1 : Int32), oI (2 : Int32), oI ch0, oI ch1, oI dh0, oI dh1, oR h0.size, oR T82.heap.size, oR T139.heap.size, oI (0 : Int32)]) rfl k_) ?_
        show own_Go p e below _ T154 (mkF m 151 #[oI i0, oI i1, oI i2, oI i3, oI kk, oR kd, oI (1 : Int32), oI (2 : Int32), oI ch0, oI ch1, oI dh0, oI dh1, oR h0.size, oR T82.heap.size, oR T139.heap.size, oI (0 : Int32)] [])
        refine own_by (fun t_ k_ => XS.aload XT154.here hx rfl (hb hby at_151) rfl rfl  k_) ?_
        show own_Go p e below _ T154 (mkF m 153 #[oI i0, oI i1, oI i2, oI i3, oI kk, oR kd, oI (1 : Int32), oI (2 : Int32), oI ch0, oI ch1, oI dh0, oI dh1, oR h0.size, oR T82.heap.size, oR T139.heap.size, oI (0 : Int32)] [(.ref T139.heap.size)])
        refine own_by (fun t_ k_ => XS.aload XT154.here hx rfl (hb hby at_153) rfl rfl  k_) ?_
        show own_Go p e below _ T154 (mkF m 155 #[oI i0, oI i1, oI i2, oI i3, oI kk, oR kd, oI (1 : Int32), oI (2 : Int32), oI ch0, oI ch1, oI dh0, oI dh1, oR h0.size, oR T82.heap.size, oR T139.heap.size, oI (0 : Int32)] [(.ref T82.heap.size), (.ref T139.heap.size)])
        refine own_callV XT154 hx hZ hown (hw _ (List.mem_of_getElem? (i := 68) rfl)) (hw _ (List.mem_of_getElem? (i := 69) rfl)) (hw _ (List.mem_of_getElem? (i := 71) rfl)) (hw _ (List.mem_of_getElem? (i := 70) rfl)) (hw _ (List.mem_of_getElem? (i := 72) rfl)) (hw _ (List.mem_of_getElem? (i := 50) rfl)) (by decide) (rfl : T154.heap = T154.heap) (b := T139.heap.size) fq155_15 (argsL := [(.ref T82.heap.size)]) (rest := []) (own_is_1_2_met l Z a0 hw T139.heap.size T82.heap.size kd w0 h0.size bT82 bT139 kbT82 kbT139 (ch0.toInt8.toInt32) (dh0.toInt8.toInt32) (dh1.toInt8.toInt32) T154.heap cs fq155_1 hcs z143 fq155_2 FkT154 FtT154 fq155_7 fq155_8 fq155_9 fq155_10 fq155_11 fq155_12 fq155_13 fq155_14) 0 (by decide) (by decide) (by rw [hml]; rfl) (lenOf pd_15 rfl) (Nat.le_of_eq rfl) (hb hby at_155) (by decide) (by decide) (st := [(.ref T82.heap.size), (.ref T139.heap.size)]) rfl ?_
        intro T160 LT160 vT160 XT160 hQT160
        obtain ⟨rfl, eT160, rfl⟩ := hQT160
        show own_Go p e below _ T160 (mkF m 158 #[oI i0, oI i1, oI i2, oI i3, oI kk, oR kd, oI (1 : Int32), oI (2 : Int32), oI ch0, oI ch1, oI dh0, oI dh1, oR h0.size, oR T82.heap.size, oR T139.heap.size, oI (0 : Int32)] [(.int (own_is_1_2 T139.heap.size T82.heap.size kd w0 h0.size bT82 bT139 kbT82 kbT139 (ch0.toInt8.toInt32) (dh0.toInt8.toInt32) (dh1.toInt8.toInt32)))])
        have N161 := own_Fr.app N156 own_Fr.nil
        refine own_by (fun t_ k_ => XS.iload XT160.here hx rfl (hb hby at_158) rfl  k_) ?_
        show own_Go p e below _ T160 (mkF m 160 #[oI i0, oI i1, oI i2, oI i3, oI kk, oR kd, oI (1 : Int32), oI (2 : Int32), oI ch0, oI ch1, oI dh0, oI dh1, oR h0.size, oR T82.heap.size, oR T139.heap.size, oI (0 : Int32)] [(.int (0 : Int32)), (.int (own_is_1_2 T139.heap.size T82.heap.size kd w0 h0.size bT82 bT139 kbT82 kbT139 (ch0.toInt8.toInt32) (dh0.toInt8.toInt32) (dh1.toInt8.toInt32)))])
        have hW : ¬ kd = w0 := fun q => own_pick_ne kk w0 w1 w2 w3 w4 c108_156 (F1.ne F0 (by decide)) (F2.ne F0 (by decide)) (F3.ne F0 (by decide)) (F4.ne F0 (by decide)) (hkd.trans q)
        have hfin : (own_is_1_2 T139.heap.size T82.heap.size kd w0 h0.size bT82 bT139 kbT82 kbT139 (ch0.toInt8.toInt32) (dh0.toInt8.toInt32) (dh1.toInt8.toInt32)) = (0 : Int32) := by rw [show (own_is_1_2 T139.heap.size T82.heap.size kd w0 h0.size bT82 bT139 kbT82 kbT139 (ch0.toInt8.toInt32) (dh0.toInt8.toInt32) (dh1.toInt8.toInt32)) = (0 : Int32) by rw [own_is_1_2, if_neg hW]]
        refine own_by (fun t_ k_ => XS.icmpNo XT160.here hx rfl (hb hby at_160) rfl (XT.ii_ne_f hfin) k_) ?_
        show own_Go p e below _ T160 (mkF m 163 #[oI i0, oI i1, oI i2, oI i3, oI kk, oR kd, oI (1 : Int32), oI (2 : Int32), oI ch0, oI ch1, oI dh0, oI dh1, oR h0.size, oR T82.heap.size, oR T139.heap.size, oI (0 : Int32)] [])
        refine own_by (fun t_ k_ => XT.iconstV XT160.here hx rfl (1 : Int32) (hb hby at_163) (by decide) k_) ?_
        show own_Go p e below _ T160 (mkF m 164 #[oI i0, oI i1, oI i2, oI i3, oI kk, oR kd, oI (1 : Int32), oI (2 : Int32), oI ch0, oI ch1, oI dh0, oI dh1, oR h0.size, oR T82.heap.size, oR T139.heap.size, oI (0 : Int32)] [(.int (1 : Int32))])
        refine own_by (fun t_ k_ => XS.goto XT160.here hx rfl (pc0 := 164) (pc' := 168) rfl (hb hby at_164) (by decide) (by decide) k_) ?_
        show own_Go p e below _ T160 (mkF m 168 #[oI i0, oI i1, oI i2, oI i3, oI kk, oR kd, oI (1 : Int32), oI (2 : Int32), oI ch0, oI ch1, oI dh0, oI dh1, oR h0.size, oR T82.heap.size, oR T139.heap.size, oI (0 : Int32)] [(.int (1 : Int32))])
        exact own_retNW XT160 hx hlk hZ hEL hS eT160 hk0 hC hret (by simp) (w := (1 : Int32)) (hb hby at_168) (by decide) (by decide) (by decide) (⟨rfl, (N161).to (Nat.le_refl _)⟩)
  · subst hk
    show own_Go p e below _ T1 (mkF m 69 #[oI i0, oI i1, oI i2, oI i3, oI kk, oR kd, oI (2 : Int32), oI wn, oI ch0, oI ch1, oI dh0, oI dh1, .unset, .unset, .unset, .unset] [])
    refine own_by (fun t_ k_ => XS.iload XT1.here hx rfl (hb hby at_69) rfl  k_) ?_
    show own_Go p e below _ T1 (mkF m 71 #[oI i0, oI i1, oI i2, oI i3, oI kk, oR kd, oI (2 : Int32), oI wn, oI ch0, oI ch1, oI dh0, oI dh1, .unset, .unset, .unset, .unset] [(.int (2 : Int32))])
    refine own_by (fun t_ k_ => XS.iload XT1.here hx rfl (hb hby at_71) rfl  k_) ?_
    show own_Go p e below _ T1 (mkF m 73 #[oI i0, oI i1, oI i2, oI i3, oI kk, oR kd, oI (2 : Int32), oI wn, oI ch0, oI ch1, oI dh0, oI dh1, .unset, .unset, .unset, .unset] [(.int ch0), (.int (2 : Int32))])
    refine own_by (fun t_ k_ => XS.iload XT1.here hx rfl (hb hby at_73) rfl  k_) ?_
    show own_Go p e below _ T1 (mkF m 75 #[oI i0, oI i1, oI i2, oI i3, oI kk, oR kd, oI (2 : Int32), oI wn, oI ch0, oI ch1, oI dh0, oI dh1, .unset, .unset, .unset, .unset] [(.int ch1), (.int ch0), (.int (2 : Int32))])
    have g162 : h0.size ≤ h0.size := K0.1
    refine own_callSW XT1 hx hZ hEL hS eT1 hk0 hC hown (hw _ (List.mem_of_getElem? (i := 8) rfl)) (hw _ (List.mem_of_getElem? (i := 9) rfl)) (hw _ (List.mem_of_getElem? (i := 3) rfl)) (hw _ (List.mem_of_getElem? (i := 10) rfl)) (by decide) (argsL := [(.int (2 : Int32)), (.int ch0), (.int ch1)]) (rest := []) (own_str_2 l Z a0 hw EL hEL ch0 ch1 h0 cs Cs hcs Bch0 Bch1 hmem) 0 (by decide) (by decide) (by rw [hml]; rfl) (lenOf pd_13 rfl) (Nat.le_of_eq rfl) (hb hby at_75) (by decide) (by decide) (st := [(.int ch1), (.int ch0), (.int (2 : Int32))]) rfl ?_
    rintro T163 LT163 vT163 ⟨XT163, hQT163, hS, hgT163, hZ, hown, hCT163⟩
    obtain ⟨rfl, KT163, NT163, ST163⟩ := hQT163
    show own_Go p e below _ T163 (mkF m 78 #[oI i0, oI i1, oI i2, oI i3, oI kk, oR kd, oI (2 : Int32), oI wn, oI ch0, oI ch1, oI dh0, oI dh1, .unset, .unset, .unset, .unset] [(.ref h0.size)])
    have fq164_1 := own_stak Cs KT163
    have fq164_2 := own_stak S0 KT163
    have fq164_3 := own_stak S1 KT163
    have fq164_4 := own_stak S2 KT163
    have fq164_5 := own_stak S3 KT163
    have fq164_6 := own_stak S4 KT163
    have Kq164 := own_trans0 K0 KT163
    have hC := hCT163
    have hk0 := Nat.le_refl T163.heap.size
    obtain ⟨bT163, kbT163, EsT163, FvT163, FcT163, VT163⟩ := ST163
    have lt165 := EsT163.lt
    have lt166 := VT163.lt
    have N167 := own_Fr.app N2 (own_Fr.of NT163 (K0).1)
    refine own_by (fun t_ k_ => XS.astore XT163.here hx rfl (hb hby at_78) rfl rfl (l' := #[oI i0, oI i1, oI i2, oI i3, oI kk, oR kd, oI (2 : Int32), oI wn, oI ch0, oI ch1, oI dh0, oI dh1, oR h0.size, .unset, .unset, .unset]) rfl k_) ?_
    show own_Go p e below _ T163 (mkF m 80 #[oI i0, oI i1, oI i2, oI i3, oI kk, oR kd, oI (2 : Int32), oI wn, oI ch0, oI ch1, oI dh0, oI dh1, oR h0.size, .unset, .unset, .unset] [])
    rcases hwn with hk | hk | hk
    · subst hk
      show own_Go p e below _ T163 (mkF m 80 #[oI i0, oI i1, oI i2, oI i3, oI kk, oR kd, oI (2 : Int32), oI (0 : Int32), oI ch0, oI ch1, oI dh0, oI dh1, oR h0.size, .unset, .unset, .unset] [])
      refine own_by (fun t_ k_ => XS.iload XT163.here hx rfl (hb hby at_80) rfl  k_) ?_
      show own_Go p e below _ T163 (mkF m 82 #[oI i0, oI i1, oI i2, oI i3, oI kk, oR kd, oI (2 : Int32), oI (0 : Int32), oI ch0, oI ch1, oI dh0, oI dh1, oR h0.size, .unset, .unset, .unset] [(.int (0 : Int32))])
      refine own_by (fun t_ k_ => XS.iload XT163.here hx rfl (hb hby at_82) rfl  k_) ?_
      show own_Go p e below _ T163 (mkF m 84 #[oI i0, oI i1, oI i2, oI i3, oI kk, oR kd, oI (2 : Int32), oI (0 : Int32), oI ch0, oI ch1, oI dh0, oI dh1, oR h0.size, .unset, .unset, .unset] [(.int dh0), (.int (0 : Int32))])
      refine own_by (fun t_ k_ => XS.iload XT163.here hx rfl (hb hby at_84) rfl  k_) ?_
      show own_Go p e below _ T163 (mkF m 86 #[oI i0, oI i1, oI i2, oI i3, oI kk, oR kd, oI (2 : Int32), oI (0 : Int32), oI ch0, oI ch1, oI dh0, oI dh1, oR h0.size, .unset, .unset, .unset] [(.int dh1), (.int dh0), (.int (0 : Int32))])
      have g168 : h0.size ≤ T163.heap.size := Kq164.1
      refine own_callSW XT163 hx hZ hEL hS (rfl : T163.heap = T163.heap) hk0 hC hown (hw _ (List.mem_of_getElem? (i := 8) rfl)) (hw _ (List.mem_of_getElem? (i := 9) rfl)) (hw _ (List.mem_of_getElem? (i := 3) rfl)) (hw _ (List.mem_of_getElem? (i := 10) rfl)) (by decide) (argsL := [(.int (0 : Int32)), (.int dh0), (.int dh1)]) (rest := []) (own_str_0 l Z a0 hw EL hEL dh0 dh1 T163.heap cs fq164_1 hcs Bdh0 Bdh1 hmem) 0 (by decide) (by decide) (by rw [hml]; rfl) (lenOf pd_13 rfl) (Nat.le_of_eq rfl) (hb hby at_86) (by decide) (by decide) (st := [(.int dh1), (.int dh0), (.int (0 : Int32))]) rfl ?_
      rintro T169 LT169 vT169 ⟨XT169, hQT169, hS, hgT169, hZ, hown, hCT169⟩
      obtain ⟨rfl, KT169, NT169, ST169⟩ := hQT169
      show own_Go p e below _ T169 (mkF m 89 #[oI i0, oI i1, oI i2, oI i3, oI kk, oR kd, oI (2 : Int32), oI (0 : Int32), oI ch0, oI ch1, oI dh0, oI dh1, oR h0.size, .unset, .unset, .unset] [(.ref T163.heap.size)])
      have fq170_1 := own_stak fq164_1 KT169
      have fq170_2 := own_stak fq164_2 KT169
      have fq170_3 := own_stak fq164_3 KT169
      have fq170_4 := own_stak fq164_4 KT169
      have fq170_5 := own_stak fq164_5 KT169
      have fq170_6 := own_stak fq164_6 KT169
      have fq170_7 := EsT163.keep KT169
      have fq170_8 := FvT163.keep KT169 nin0
      have fq170_9 := FcT163.keep KT169 nin0
      have fq170_10 := VT163.keep KT169 nin0
      have lq170_0 := Nat.lt_of_lt_of_le lt165 KT169.1
      have lq170_1 := Nat.lt_of_lt_of_le lt166 KT169.1
      have Kq170 := own_trans0 Kq164 KT169
      have hC := hCT169
      have hk0 := Nat.le_refl T169.heap.size
      obtain ⟨bT169, kbT169, EsT169, FvT169, FcT169, VT169⟩ := ST169
      have lt171 := EsT169.lt
      have lt172 := VT169.lt
      have z173 : h0.size ≠ T163.heap.size := Nat.ne_of_lt lt165
      have z174 : bT163 ≠ T163.heap.size := Nat.ne_of_lt lt166
      have N175 := own_Fr.app N167 (own_Fr.of NT169 (Kq164).1)
      refine own_by (fun t_ k_ => XS.astore XT169.here hx rfl (hb hby at_89) rfl rfl (l' := #[oI i0, oI i1, oI i2, oI i3, oI kk, oR kd, oI (2 : Int32), oI (0 : Int32), oI ch0, oI ch1, oI dh0, oI dh1, oR h0.size, oR T163.heap.size, .unset, .unset]) rfl k_) ?_
      show own_Go p e below _ T169 (mkF m 91 #[oI i0, oI i1, oI i2, oI i3, oI kk, oR kd, oI (2 : Int32), oI (0 : Int32), oI ch0, oI ch1, oI dh0, oI dh1, oR h0.size, oR T163.heap.size, .unset, .unset] [])
      have g177 : h0.size ≤ T169.heap.size := Kq170.1
      refine own_new XT169 hx hZ hown (hw _ (List.mem_of_getElem? (i := 48) rfl)) (hw _ (List.mem_of_getElem? (i := 49) rfl)) (hw _ (List.mem_of_getElem? (i := 50) rfl)) (rfl : T169.heap = T169.heap) (hb hby at_91) (by decide) (by decide) ?_
      intro T176 hT176 XT176 eT176 ET176 AT176 DT176
      have fq178_1 := own_stak fq170_1 (own_ek ET176)
      have fq178_2 := own_stak fq170_2 (own_ek ET176)
      have fq178_3 := own_stak fq170_3 (own_ek ET176)
      have fq178_4 := own_stak fq170_4 (own_ek ET176)
      have fq178_5 := own_stak fq170_5 (own_ek ET176)
      have fq178_6 := own_stak fq170_6 (own_ek ET176)
      have fq178_7 := fq170_7.keep (own_ek ET176)
      have fq178_8 := fq170_8.keep (own_ek ET176) nin0
      have fq178_9 := fq170_9.keep (own_ek ET176) nin0
      have fq178_10 := fq170_10.keep (own_ek ET176) nin0
      have fq178_11 := EsT169.keep (own_ek ET176)
      have fq178_12 := FvT169.keep (own_ek ET176) nin0
      have fq178_13 := FcT169.keep (own_ek ET176) nin0
      have fq178_14 := VT169.keep (own_ek ET176) nin0
      have lq178_0 := Nat.lt_of_lt_of_le lq170_0 (own_ek ET176).1
      have lq178_1 := Nat.lt_of_lt_of_le lq170_1 (own_ek ET176).1
      have lq178_2 := Nat.lt_of_lt_of_le lt171 (own_ek ET176).1
      have lq178_3 := Nat.lt_of_lt_of_le lt172 (own_ek ET176).1
      have hC := hC.trans (CHr.keep (own_ek ET176) (fun _ q => by cases q) hC.1)
      have hk0 := Nat.le_trans hk0 (own_ek ET176).1
      have Kq178 := own_trans0 Kq170 (own_ek ET176)
      have z179 : h0.size ≠ T169.heap.size := Nat.ne_of_lt lq170_0
      have z180 : bT163 ≠ T169.heap.size := Nat.ne_of_lt lq170_1
      have z181 : T163.heap.size ≠ T169.heap.size := Nat.ne_of_lt lt171
      have z182 : bT169 ≠ T169.heap.size := Nat.ne_of_lt lt172
      have FT176_kind : Fld Z hT176 T169.heap.size "com/example/nimble_gate/nimblegate/policy/Token" "kind" "Lcom/example/nimble_gate/nimblegate/policy/Token$Kind;" .null := DT176 (ty := (.object "com/example/nimble_gate/nimblegate/policy/Token$Kind")) (Or.inr (hw _ (List.mem_of_getElem? (i := 61) rfl))) (by decide +kernel)
      have FT176_text : Fld Z hT176 T169.heap.size "com/example/nimble_gate/nimblegate/policy/Token" "text" "Ljava/lang/String;" .null := DT176 (ty := (.object "java/lang/String")) (Or.inr (hw _ (List.mem_of_getElem? (i := 63) rfl))) (by decide +kernel)
      have FT176_line : Fld Z hT176 T169.heap.size "com/example/nimble_gate/nimblegate/policy/Token" "line" "I" (.int 0) := DT176 (ty := .int) (Or.inr (hw _ (List.mem_of_getElem? (i := 65) rfl))) (by decide +kernel)
      have FT176_column : Fld Z hT176 T169.heap.size "com/example/nimble_gate/nimblegate/policy/Token" "column" "I" (.int 0) := DT176 (ty := .int) (Or.inr (hw _ (List.mem_of_getElem? (i := 67) rfl))) (by decide +kernel)
      clear DT176
      have lt183 := AT176.lt
      show own_Go p e below _ T176 (mkF m 94 #[oI i0, oI i1, oI i2, oI i3, oI kk, oR kd, oI (2 : Int32), oI (0 : Int32), oI ch0, oI ch1, oI dh0, oI dh1, oR h0.size, oR T163.heap.size, .unset, .unset] [(.ref T169.heap.size)])
      refine own_by (fun t_ k_ => XS.dup XT176.here hx rfl (hb hby at_94) rfl rfl k_) ?_
      show own_Go p e below _ T176 (mkF m 95 #[oI i0, oI i1, oI i2, oI i3, oI kk, oR kd, oI (2 : Int32), oI (0 : Int32), oI ch0, oI ch1, oI dh0, oI dh1, oR h0.size, oR T163.heap.size, .unset, .unset] [(.ref T169.heap.size), (.ref T169.heap.size)])
      refine own_by (fun t_ k_ => XS.aload XT176.here hx rfl (hb hby at_95) rfl rfl  k_) ?_
      show own_Go p e below _ T176 (mkF m 97 #[oI i0, oI i1, oI i2, oI i3, oI kk, oR kd, oI (2 : Int32), oI (0 : Int32), oI ch0, oI ch1, oI dh0, oI dh1, oR h0.size, oR T163.heap.size, .unset, .unset] [(.ref kd), (.ref T169.heap.size), (.ref T169.heap.size)])
      refine own_by (fun t_ k_ => XS.aload XT176.here hx rfl (hb hby at_97) rfl rfl  k_) ?_
      show own_Go p e below _ T176 (mkF m 99 #[oI i0, oI i1, oI i2, oI i3, oI kk, oR kd, oI (2 : Int32), oI (0 : Int32), oI ch0, oI ch1, oI dh0, oI dh1, oR h0.size, oR T163.heap.size, .unset, .unset] [(.ref h0.size), (.ref kd), (.ref T169.heap.size), (.ref T169.heap.size)])
      refine own_by (fun t_ k_ => XS.iloadN XT176.here hx rfl (hb hby at_99) rfl  k_) ?_
      show own_Go p e below _ T176 (mkF m 100 #[oI i0, oI i1, oI i2, oI i3, oI kk, oR kd, oI (2 : Int32), oI (0 : Int32), oI ch0, oI ch1, oI dh0, oI dh1, oR h0.size, oR T163.heap.size, .unset, .unset] [(.int i1), (.ref h0.size), (.ref kd), (.ref T169.heap.size), (.ref T169.heap.size)])
      refine own_by (fun t_ k_ => XS.iloadN XT176.here hx rfl (hb hby at_100) rfl  k_) ?_
      show own_Go p e below _ T176 (mkF m 101 #[oI i0, oI i1, oI i2, oI i3, oI kk, oR kd, oI (2 : Int32), oI (0 : Int32), oI ch0, oI ch1, oI dh0, oI dh1, oR h0.size, oR T163.heap.size, .unset, .unset] [(.int i2), (.int i1), (.ref h0.size), (.ref kd), (.ref T169.heap.size), (.ref T169.heap.size)])
      refine own_callN XT176 hx hZ rfl hown (hw _ (List.mem_of_getElem? (i := 51) rfl)) (hw _ (List.mem_of_getElem? (i := 52) rfl)) (hw _ (List.mem_of_getElem? (i := 53) rfl)) (hw _ (List.mem_of_getElem? (i := 50) rfl)) (by decide) eT176 (b := T169.heap.size) (argsL := [(.ref kd), (.ref h0.size), (.int i1), (.int i2)]) (rest := [(.ref T169.heap.size)]) (own_tok l Z a0 hw T169.heap.size kd h0.size i1 i2 hT176 AT176 FT176_kind FT176_text FT176_line FT176_column) 1 (by decide) (by decide) (by rw [hml]; rfl) (lenOf pd_14 rfl) (Nat.le_of_eq rfl) (hb hby at_101) (by decide) (by decide) (st := [(.int i2), (.int i1), (.ref h0.size), (.ref kd), (.ref T169.heap.size), (.ref T169.heap.size)]) rfl ?_
      intro T184 LT184 vT184 XT184 hQT184
      obtain ⟨rfl, KT184, NT184, FkT184, FtT184⟩ := hQT184
      show own_Go p e below _ T184 (mkF m 104 #[oI i0, oI i1, oI i2, oI i3, oI kk, oR kd, oI (2 : Int32), oI (0 : Int32), oI ch0, oI ch1, oI dh0, oI dh1, oR h0.size, oR T163.heap.size, .unset, .unset] [(.ref T169.heap.size)])
      have fq185_1 := own_stak1 fq178_1 KT184 AT176
      have fq185_2 := own_stak1 fq178_2 KT184 AT176
      have fq185_3 := own_stak1 fq178_3 KT184 AT176
      have fq185_4 := own_stak1 fq178_4 KT184 AT176
      have fq185_5 := own_stak1 fq178_5 KT184 AT176
      have fq185_6 := own_stak1 fq178_6 KT184 AT176
      have fq185_7 := fq178_7.keep KT184
      have fq185_8 := fq178_8.keep KT184 (own_nin z179)
      have fq185_9 := fq178_9.keep KT184 (own_nin z179)
      have fq185_10 := fq178_10.keep KT184 (own_nin z180)
      have fq185_11 := fq178_11.keep KT184
      have fq185_12 := fq178_12.keep KT184 (own_nin z181)
      have fq185_13 := fq178_13.keep KT184 (own_nin z181)
      have fq185_14 := fq178_14.keep KT184 (own_nin z182)
      have fq185_15 := AT176.keep KT184
      have lq185_0 := Nat.lt_of_lt_of_le lq178_0 KT184.1
      have lq185_1 := Nat.lt_of_lt_of_le lq178_1 KT184.1
      have lq185_2 := Nat.lt_of_lt_of_le lq178_2 KT184.1
      have lq185_3 := Nat.lt_of_lt_of_le lq178_3 KT184.1
      have lq185_4 := Nat.lt_of_lt_of_le lt183 KT184.1
      have hC := hC.trans (CHr.keep KT184 (fun _ q => by cases List.mem_singleton.mp q; exact (Safe.exa hZ.alike AT176 (by decide) (by decide))) hC.1)
      have hk0 := Nat.le_trans hk0 KT184.1
      have Kq185 := own_trans1 Kq178 KT184 (Or.inr g177)
      have N186 := own_Fr.app N175 (own_Fr.of (own_Fr.new NT184 g177 (Kq178).1) (Nat.le_refl _))
      refine own_by (fun t_ k_ => XS.astore XT184.here hx rfl (hb hby at_104) rfl rfl (l' := #[oI i0, oI i1, oI i2, oI i3, oI kk, oR kd, oI (2 : Int32), oI (0 : Int32), oI ch0, oI ch1, oI dh0, oI dh1, oR h0.size, oR T163.heap.size, oR T169.heap.size, .unset]) rfl k_) ?_
      show own_Go p e below _ T184 (mkF m 106 #[oI i0, oI i1, oI i2, oI i3, oI kk, oR kd, oI (2 : Int32), oI (0 : Int32), oI ch0, oI ch1, oI dh0, oI dh1, oR h0.size, oR T163.heap.size, oR T169.heap.size, .unset] [])
      refine own_by (fun t_ k_ => XS.iload XT184.here hx rfl (hb hby at_106) rfl  k_) ?_
      show own_Go p e below _ T184 (mkF m 108 #[oI i0, oI i1, oI i2, oI i3, oI kk, oR kd, oI (2 : Int32), oI (0 : Int32), oI ch0, oI ch1, oI dh0, oI dh1, oR h0.size, oR T163.heap.size, oR T169.heap.size, .unset] [(.int kk)])
      by_cases c108_186 : kk = (0 : Int32)
      · refine own_by (fun t_ k_ => XS.ifNo XT184.here hx rfl (hb hby at_108) rfl (XT.i0_ne_f c108_186) k_) ?_
        show own_Go p e below _ T184 (mkF m 111 #[oI i0, oI i1, oI i2, oI i3, oI kk, oR kd, oI (2 : Int32), oI (0 : Int32), oI ch0, oI ch1, oI dh0, oI dh1, oR h0.size, oR T163.heap.size, oR T169.heap.size, .unset] [])
        refine own_by (fun t_ k_ => XS.iload XT184.here hx rfl (hb hby at_111) rfl  k_) ?_
        show own_Go p e below _ T184 (mkF m 113 #[oI i0, oI i1, oI i2, oI i3, oI kk, oR kd, oI (2 : Int32), oI (0 : Int32), oI ch0, oI ch1, oI dh0, oI dh1, oR h0.size, oR T163.heap.size, oR T169.heap.size, .unset] [(.int (2 : Int32))])
        refine own_by (fun t_ k_ => XS.iload XT184.here hx rfl (hb hby at_113) rfl  k_) ?_
        show own_Go p e below _ T184 (mkF m 115 #[oI i0, oI i1, oI i2, oI i3, oI kk, oR kd, oI (2 : Int32), oI (0 : Int32), oI ch0, oI ch1, oI dh0, oI dh1, oR h0.size, oR T163.heap.size, oR T169.heap.size, .unset] [(.int (0 : Int32)), (.int (2 : Int32))])
        refine own_by (fun t_ k_ => XS.icmpYes XT184.here hx rfl (pc0 := 115) (pc' := 148) rfl (hb hby at_115) rfl (XT.ii_ne_t (by decide)) (by decide) (by decide) k_) ?_
        show own_Go p e below _ T184 (mkF m 148 #[oI i0, oI i1, oI i2, oI i3, oI kk, oR kd, oI (2 : Int32), oI (0 : Int32), oI ch0, oI ch1, oI dh0, oI dh1, oR h0.size, oR T163.heap.size, oR T169.heap.size, .unset] [])
        refine own_by (fun t_ k_ => XT.iconstV XT184.here hx rfl (0 : Int32) (hb hby at_148) (by decide) k_) ?_
        show own_Go p e below _ T184 (mkF m 149 #[oI i0, oI i1, oI i2, oI i3, oI kk, oR kd, oI (2 : Int32), oI (0 : Int32), oI ch0, oI ch1, oI dh0, oI dh1, oR h0.size, oR T163.heap.size, oR T169.heap.size, .unset] [(.int (0 : Int32))])
        refine own_by (fun t_ k_ => XS.istore XT184.here hx rfl (hb hby at_149) rfl (l' := #[oI i0, oI i1, oI i2, oI i3, oI kk, oR kd, oI (2 : Int32), oI (0 : Int32), oI ch0, oI ch1, oI dh0, oI dh1, oR h0.size, oR T163.heap.size, oR T169.heap.size, oI (0 : Int32)]) rfl k_) ?_
        show own_Go p e below _ T184 (mkF m 151 #[oI i0, oI i1, oI i2, oI i3, oI kk, oR kd, oI (2 : Int32), oI (0 : Int32), oI ch0, oI ch1, oI dh0, oI dh1, oR h0.size, oR T163.heap.size, oR T169.heap.size, oI (0 : Int32)] [])
        refine own_by (fun t_ k_ => XS.aload XT184.here hx rfl (hb hby at_151) rfl rfl  k_) ?_
        show own_Go p e below _ T184 (mkF m 153 #[oI i0, oI i1, oI i2, oI i3, oI kk, oR kd, oI (2 : Int32), oI (0 : Int32), oI ch0, oI ch1, oI dh0, oI dh1, oR h0.size, oR T163.heap.size, oR T169.heap.size, oI (0 : Int32)] [(.ref T169.heap.size)])
        refine own_by (fun t_ k_ => XS.aload XT184.here hx rfl (hb hby at_153) rfl rfl  k_) ?_
        show own_Go p e below _ T184 (mkF m 155 #[oI i0, oI i1, oI i2, oI i3, oI kk, oR kd, oI (2 : Int32), oI (0 : Int32), oI ch0, oI ch1, oI dh0, oI dh1, oR h0.size, oR T163.heap.size, oR T169.heap.size, oI (0 : Int32)] [(.ref T163.heap.size), (.ref T169.heap.size)])
        refine own_callV XT184 hx hZ hown (hw _ (List.mem_of_getElem? (i := 68) rfl)) (hw _ (List.mem_of_getElem? (i := 69) rfl)) (hw _ (List.mem_of_getElem? (i := 71) rfl)) (hw _ (List.mem_of_getElem? (i := 70) rfl)) (hw _ (List.mem_of_getElem? (i := 72) rfl)) (hw _ (List.mem_of_getElem? (i := 50) rfl)) (by decide) (rfl : T184.heap = T184.heap) (b := T169.heap.size) fq185_15 (argsL := [(.ref T163.heap.size)]) (rest := []) (own_is_2_0_met l Z a0 hw T169.heap.size T163.heap.size kd w0 h0.size bT163 bT169 kbT163 kbT169 (ch0.toInt8.toInt32) (ch1.toInt8.toInt32) T184.heap cs fq185_1 hcs z173 fq185_2 FkT184 FtT184 fq185_7 fq185_8 fq185_9 fq185_10 fq185_11 fq185_12 fq185_13 fq185_14) 0 (by decide) (by decide) (by rw [hml]; rfl) (lenOf pd_15 rfl) (Nat.le_of_eq rfl) (hb hby at_155) (by decide) (by decide) (st := [(.ref T163.heap.size), (.ref T169.heap.size)]) rfl ?_
        intro T188 LT188 vT188 XT188 hQT188
        obtain ⟨rfl, eT188, rfl⟩ := hQT188
        show own_Go p e below _ T188 (mkF m 158 #[oI i0, oI i1, oI i2, oI i3, oI kk, oR kd, oI (2 : Int32), oI (0 : Int32), oI ch0, oI ch1, oI dh0, oI dh1, oR h0.size, oR T163.heap.size, oR T169.heap.size, oI (0 : Int32)] [(.int (own_is_2_0 T169.heap.size T163.heap.size kd w0 h0.size bT163 bT169 kbT163 kbT169 (ch0.toInt8.toInt32) (ch1.toInt8.toInt32)))])
        have N189 := own_Fr.app N186 own_Fr.nil
        refine own_by (fun t_ k_ => XS.iload XT188.here hx rfl (hb hby at_158) rfl  k_) ?_
        show own_Go p e below _ T188 (mkF m 160 #[oI i0, oI i1, oI i2, oI i3, oI kk, oR kd, oI (2 : Int32), oI (0 : Int32), oI ch0, oI ch1, oI dh0, oI dh1, oR h0.size, oR T163.heap.size, oR T169.heap.size, oI (0 : Int32)] [(.int (0 : Int32)), (.int (own_is_2_0 T169.heap.size T163.heap.size kd w0 h0.size bT163 bT169 kbT163 kbT169 (ch0.toInt8.toInt32) (ch1.toInt8.toInt32)))])
        have hW : kd = w0 := hkd.symm.trans (by rw [own_pick, c108_186, if_pos (by decide)])
        have hfin : (own_is_2_0 T169.heap.size T163.heap.size kd w0 h0.size bT163 bT169 kbT163 kbT169 (ch0.toInt8.toInt32) (ch1.toInt8.toInt32)) = (0 : Int32) := by rw [show (own_is_2_0 T169.heap.size T163.heap.size kd w0 h0.size bT163 bT169 kbT163 kbT169 (ch0.toInt8.toInt32) (ch1.toInt8.toInt32)) = (0 : Int32) by rw [own_is_2_0, if_pos hW, if_pos (by rw [show (own_eq_2_0 h0.size T163.heap.size bT163 bT169 kbT163 kbT169 (ch0.toInt8.toInt32) (ch1.toInt8.toInt32)) = (0 : Int32) by rw [own_eq_2_0, if_pos (by rw [show (own_le_2_0 bT163 bT169 kbT163 kbT169 (ch0.toInt8.toInt32) (ch1.toInt8.toInt32)) = (0 : Int32) by rw [own_le_2_0]])]])]]
        refine own_by (fun t_ k_ => XS.icmpNo XT188.here hx rfl (hb hby at_160) rfl (XT.ii_ne_f hfin) k_) ?_
        show own_Go p e below _ T188 (mkF m 163 #[oI i0, oI i1, oI i2, oI i3, oI kk, oR kd, oI (2 : Int32), oI (0 : Int32), oI ch0, oI ch1, oI dh0, oI dh1, oR h0.size, oR T163.heap.size, oR T169.heap.size, oI (0 : Int32)] [])
        refine own_by (fun t_ k_ => XT.iconstV XT188.here hx rfl (1 : Int32) (hb hby at_163) (by decide) k_) ?_
        show own_Go p e below _ T188 (mkF m 164 #[oI i0, oI i1, oI i2, oI i3, oI kk, oR kd, oI (2 : Int32), oI (0 : Int32), oI ch0, oI ch1, oI dh0, oI dh1, oR h0.size, oR T163.heap.size, oR T169.heap.size, oI (0 : Int32)] [(.int (1 : Int32))])
        refine own_by (fun t_ k_ => XS.goto XT188.here hx rfl (pc0 := 164) (pc' := 168) rfl (hb hby at_164) (by decide) (by decide) k_) ?_
        show own_Go p e below _ T188 (mkF m 168 #[oI i0, oI i1, oI i2, oI i3, oI kk, oR kd, oI (2 : Int32), oI (0 : Int32), oI ch0, oI ch1, oI dh0, oI dh1, oR h0.size, oR T163.heap.size, oR T169.heap.size, oI (0 : Int32)] [(.int (1 : Int32))])
        exact own_retNW XT188 hx hlk hZ hEL hS eT188 hk0 hC hret (by simp) (w := (1 : Int32)) (hb hby at_168) (by decide) (by decide) (by decide) (⟨rfl, (N189).to (Nat.le_refl _)⟩)
      · refine own_by (fun t_ k_ => XS.ifYes XT184.here hx rfl (pc0 := 108) (pc' := 148) rfl (hb hby at_108) rfl (XT.i0_ne_t c108_186) (by decide) (by decide) k_) ?_
        show own_Go p e below _ T184 (mkF m 148 #[oI i0, oI i1, oI i2, oI i3, oI kk, oR kd, oI (2 : Int32), oI (0 : Int32), oI ch0, oI ch1, oI dh0, oI dh1, oR h0.size, oR T163.heap.size, oR T169.heap.size, .unset] [])
        refine own_by (fun t_ k_ => XT.iconstV XT184.here hx rfl (0 : Int32) (hb hby at_148) (by decide) k_) ?_
        show own_Go p e below _ T184 (mkF m 149 #[oI i0, oI i1, oI i2, oI i3, oI kk, oR kd, oI (2 : Int32), oI (0 : Int32), oI ch0, oI ch1, oI dh0, oI dh1, oR h0.size, oR T163.heap.size, oR T169.heap.size, .unset] [(.int (0 : Int32))])
        refine own_by (fun t_ k_ => XS.istore XT184.here hx rfl (hb hby at_149) rfl (l' := #[oI i0, oI i1, oI i2, oI i3, oI kk, oR kd, oI (2 : Int32), oI (0 : Int32), oI ch0, oI ch1, oI dh0, oI dh1, oR h0.size, oR T163.heap.size, oR T169.heap.size, oI (0 : Int32)]) rfl k_) ?_
        show own_Go p e below _ T184 (mkF m 151 #[oI i0, oI i1, oI i2, oI i3, oI kk, oR kd, oI (2 : Int32), oI (0 : Int32), oI ch0, oI ch1, oI dh0, oI dh1, oR h0.size, oR T163.heap.size, oR T169.heap.size, oI (0 : Int32)] [])
        refine own_by (fun t_ k_ => XS.aload XT184.here hx rfl (hb hby at_151) rfl rfl  k_) ?_
        show own_Go p e below _ T184 (mkF m 153 #[oI i0, oI i1, oI i2, oI i3, oI kk, oR kd, oI (2 : Int32), oI (0 : Int32), oI ch0, oI ch1, oI dh0, oI dh1, oR h0.size, oR T163.heap.size, oR T169.heap.size, oI (0 : Int32)] [(.ref T169.heap.size)])
        refine own_by (fun t_ k_ => XS.aload XT184.here hx rfl (hb hby at_153) rfl rfl  k_) ?_
        show own_Go p e below _ T184 (mkF m 155 #[oI i0, oI i1, oI i2, oI i3, oI kk, oR kd, oI (2 : Int32), oI (0 : Int32), oI ch0, oI ch1, oI dh0, oI dh1, oR h0.size, oR T163.heap.size, oR T169.heap.size, oI (0 : Int32)] [(.ref T163.heap.size), (.ref T169.heap.size)])
        refine own_callV XT184 hx hZ hown (hw _ (List.mem_of_getElem? (i := 68) rfl)) (hw _ (List.mem_of_getElem? (i := 69) rfl)) (hw _ (List.mem_of_getElem? (i := 71) rfl)) (hw _ (List.mem_of_getElem? (i := 70) rfl)) (hw _ (List.mem_of_getElem? (i := 72) rfl)) (hw _ (List.mem_of_getElem? (i := 50) rfl)) (by decide) (rfl : T184.heap = T184.heap) (b := T169.heap.size) fq185_15 (argsL := [(.ref T163.heap.size)]) (rest := []) (own_is_2_0_met l Z a0 hw T169.heap.size T163.heap.size kd w0 h0.size bT163 bT169 kbT163 kbT169 (ch0.toInt8.toInt32) (ch1.toInt8.toInt32) T184.heap cs fq185_1 hcs z173 fq185_2 FkT184 FtT184 fq185_7 fq185_8 fq185_9 fq185_10 fq185_11 fq185_12 fq185_13 fq185_14) 0 (by decide) (by decide) (by rw [hml]; rfl) (lenOf pd_15 rfl) (Nat.le_of_eq rfl) (hb hby at_155) (by decide) (by decide) (st := [(.ref T163.heap.size), (.ref T169.heap.size)]) rfl ?_
        intro T190 LT190 vT190 XT190 hQT190
        obtain ⟨rfl, eT190, rfl⟩ := hQT190
        show own_Go p e below _ T190 (mkF m 158 #[oI i0, oI i1, oI i2, oI i3, oI kk, oR kd, oI (2 : Int32), oI (0 : Int32), oI ch0, oI ch1, oI dh0, oI dh1, oR h0.size, oR T163.heap.size, oR T169.heap.size, oI (0 : Int32)] [(.int (own_is_2_0 T169.heap.size T163.heap.size kd w0 h0.size bT163 bT169 kbT163 kbT169 (ch0.toInt8.toInt32) (ch1.toInt8.toInt32)))])
        have N191 := own_Fr.app N186 own_Fr.nil
        refine own_by (fun t_ k_ => XS.iload XT190.here hx rfl (hb hby at_158) rfl  k_) ?_
        show own_Go p e below _ T190 (mkF m 160 #[oI i0, oI i1, oI i2, oI i3, oI kk, oR kd, oI (2 : Int32), oI (0 : Int32), oI ch0, oI ch1, oI dh0, oI dh1, oR h0.size, oR T163.heap.size, oR T169.heap.size, oI (0 : Int32)] [(.int (0 : Int32)), (.int (own_is_2_0 T169.heap.size T163.heap.size kd w0 h0.size bT163 bT169 kbT163 kbT169 (ch0.toInt8.toInt32) (ch1.toInt8.toInt32)))])
        have hW : ¬ kd = w0 := fun q => own_pick_ne kk w0 w1 w2 w3 w4 c108_186 (F1.ne F0 (by decide)) (F2.ne F0 (by decide)) (F3.ne F0 (by decide)) (F4.ne F0 (by decide)) (hkd.trans q)
        have hfin : (own_is_2_0 T169.heap.size T163.heap.size kd w0 h0.size bT163 bT169 kbT163 kbT169 (ch0.toInt8.toInt32) (ch1.toInt8.toInt32)) = (0 : Int32) := by rw [show (own_is_2_0 T169.heap.size T163.heap.size kd w0 h0.size bT163 bT169 kbT163 kbT169 (ch0.toInt8.toInt32) (ch1.toInt8.toInt32)) = (0 : Int32) by rw [own_is_2_0, if_neg hW]]
        refine own_by (fun t_ k_ => XS.icmpNo XT190.here hx rfl (hb hby at_160) rfl (XT.ii_ne_f hfin) k_) ?_
        show own_Go p e below _ T190 (mkF m 163 #[oI i0, oI i1, oI i2, oI i3, oI kk, oR kd, oI (2 : Int32), oI (0 : Int32), oI ch0, oI ch1, oI dh0, oI dh1, oR h0.size, oR T163.heap.size, oR T169.heap.size, oI (0 : Int32)] [])
        refine own_by (fun t_ k_ => XT.iconstV XT190.here hx rfl (1 : Int32) (hb hby at_163) (by decide) k_) ?_
        show own_Go p e below _ T190 (mkF m 164 #[oI i0, oI i1, oI i2, oI i3, oI kk, oR kd, oI (2 : Int32), oI (0 : Int32), oI ch0, oI ch1, oI dh0, oI dh1, oR h0.size, oR T163.heap.size, oR T169.heap.size, oI (0 : Int32)] [(.int (1 : Int32))])
        refine own_by (fun t_ k_ => XS.goto XT190.here hx rfl (pc0 := 164) (pc' := 168) rfl (hb hby at_164) (by decide) (by decide) k_) ?_
        show own_Go p e below _ T190 (mkF m 168 #[oI i0, oI i1, oI i2, oI i3, oI kk, oR kd, oI (2 : Int32), oI (0 : Int32), oI ch0, oI ch1, oI dh0, oI dh1, oR h0.size, oR T163.heap.size, oR T169.heap.size, oI (0 : Int32)] [(.int (1 : Int32))])
        exact own_retNW XT190 hx hlk hZ hEL hS eT190 hk0 hC hret (by simp) (w := (1 : Int32)) (hb hby at_168) (by decide) (by decide) (by decide) (⟨rfl, (N191).to (Nat.le_refl _)⟩)
    · subst hk
      show own_Go p e below _ T163 (mkF m 80 #[oI i0, oI i1, oI i2, oI i3, oI kk, oR kd, oI (2 : Int32), oI (1 : Int32), oI ch0, oI ch1, oI dh0, oI dh1, oR h0.size, .unset, .unset, .unset] [])
      refine own_by (fun t_ k_ => XS.iload XT163.here hx rfl (hb hby at_80) rfl  k_) ?_
      show own_Go p e below _ T163 (mkF m 82 #[oI i0, oI i1, oI i2, oI i3, oI kk, oR kd, oI (2 : Int32), oI (1 : Int32), oI ch0, oI ch1, oI dh0, oI dh1, oR h0.size, .unset, .unset, .unset] [(.int (1 : Int32))])
      refine own_by (fun t_ k_ => XS.iload XT163.here hx rfl (hb hby at_82) rfl  k_) ?_
      show own_Go p e below _ T163 (mkF m 84 #[oI i0, oI i1, oI i2, oI i3, oI kk, oR kd, oI (2 : Int32), oI (1 : Int32), oI ch0, oI ch1, oI dh0, oI dh1, oR h0.size, .unset, .unset, .unset] [(.int dh0), (.int (1 : Int32))])
      refine own_by (fun t_ k_ => XS.iload XT163.here hx rfl (hb hby at_84) rfl  k_) ?_
      show own_Go p e below _ T163 (mkF m 86 #[oI i0, oI i1, oI i2, oI i3, oI kk, oR kd, oI (2 : Int32), oI (1 : Int32), oI ch0, oI ch1, oI dh0, oI dh1, oR h0.size, .unset, .unset, .unset] [(.int dh1), (.int dh0), (.int (1 : Int32))])
      have g192 : h0.size ≤ T163.heap.size := Kq164.1
      refine own_callSW XT163 hx hZ hEL hS (rfl : T163.heap = T163.heap) hk0 hC hown (hw _ (List.mem_of_getElem? (i := 8) rfl)) (hw _ (List.mem_of_getElem? (i := 9) rfl)) (hw _ (List.mem_of_getElem? (i := 3) rfl)) (hw _ (List.mem_of_getElem? (i := 10) rfl)) (by decide) (argsL := [(.int (1 : Int32)), (.int dh0), (.int dh1)]) (rest := []) (own_str_1 l Z a0 hw EL hEL dh0 dh1 T163.heap cs fq164_1 hcs Bdh0 Bdh1 hmem) 0 (by decide) (by decide) (by rw [hml]; rfl) (lenOf pd_13 rfl) (Nat.le_of_eq rfl) (hb hby at_86) (by decide) (by decide) (st := [(.int dh1), (.int dh0), (.int (1 : Int32))]) rfl ?_
      rintro T193 LT193 vT193 ⟨XT193, hQT193, hS, hgT193, hZ, hown, hCT193⟩
      obtain ⟨rfl, KT193, NT193, ST193⟩ := hQT193
      show own_Go p e below _ T193 (mkF m 89 #[oI i0, oI i1, oI i2, oI i3, oI kk, oR kd, oI (2 : Int32), oI (1 : Int32), oI ch0, oI ch1, oI dh0, oI dh1, oR h0.size, .unset, .unset, .unset] [(.ref T163.heap.size)])
      have fq194_1 := own_stak fq164_1 KT193
      have fq194_2 := own_stak fq164_2 KT193
      have fq194_3 := own_stak fq164_3 KT193
      have fq194_4 := own_stak fq164_4 KT193
      have fq194_5 := own_stak fq164_5 KT193
      have fq194_6 := own_stak fq164_6 KT193
      have fq194_7 := EsT163.keep KT193
      have fq194_8 := FvT163.keep KT193 nin0
      have fq194_9 := FcT163.keep KT193 nin0
      have fq194_10 := VT163.keep KT193 nin0
      have lq194_0 := Nat.lt_of_lt_of_le lt165 KT193.1
      have lq194_1 := Nat.lt_of_lt_of_le lt166 KT193.1
      have Kq194 := own_trans0 Kq164 KT193
      have hC := hCT193
      have hk0 := Nat.le_refl T193.heap.size
      obtain ⟨bT193, kbT193, EsT193, FvT193, FcT193, VT193⟩ := ST193
      have lt195 := EsT193.lt
      have lt196 := VT193.lt
      have z197 : h0.size ≠ T163.heap.size := Nat.ne_of_lt lt165
      have z198 : bT163 ≠ T163.heap.size := Nat.ne_of_lt lt166
      have N199 := own_Fr.app N167 (own_Fr.of NT193 (Kq164).1)
      refine own_by (fun t_ k_ => XS.astore XT193.here hx rfl (hb hby at_89) rfl rfl (l' := #[oI i0, oI i1, oI i2, oI i3, oI kk, oR kd, oI (2 : Int32), oI (1 : Int32), oI ch0, oI ch1, oI dh0, oI dh1, oR h0.size, oR T163.heap.size, .unset, .unset]) rfl k_) ?_
      show own_Go p e below _ T193 (mkF m 91 #[oI i0, oI i1, oI i2, oI i3, oI kk, oR kd, oI (2 : Int32), oI (1 : Int32), oI ch0, oI ch1, oI dh0, oI dh1, oR h0.size, oR T163.heap.size, .unset, .unset] [])
      have g201 : h0.size ≤ T193.heap.size := Kq194.1
      refine own_new XT193 hx hZ hown (hw _ (List.mem_of_getElem? (i := 48) rfl)) (hw _ (List.mem_of_getElem? (i := 49) rfl)) (hw _ (List.mem_of_getElem? (i := 50) rfl)) (rfl : T193.heap = T193.heap) (hb hby at_91) (by decide) (by decide) ?_
      intro T200 hT200 XT200 eT200 ET200 AT200 DT200
      have fq202_1 := own_stak fq194_1 (own_ek ET200)
      have fq202_2 := own_stak fq194_2 (own_ek ET200)
      have fq202_3 := own_stak fq194_3 (own_ek ET200)
      have fq202_4 := own_stak fq194_4 (own_ek ET200)
      have fq202_5 := own_stak fq194_5 (own_ek ET200)
      have fq202_6 := own_stak fq194_6 (own_ek ET200)
      have fq202_7 := fq194_7.keep (own_ek ET200)
      have fq202_8 := fq194_8.keep (own_ek ET200) nin0
      have fq202_9 := fq194_9.keep (own_ek ET200) nin0
      have fq202_10 := fq194_10.keep (own_ek ET200) nin0
      have fq202_11 := EsT193.keep (own_ek ET200)
      have fq202_12 := FvT193.keep (own_ek ET200) nin0
      have fq202_13 := FcT193.keep (own_ek ET200) nin0
      have fq202_14 := VT193.keep (own_ek ET200) nin0
      have lq202_0 := Nat.lt_of_lt_of_le lq194_0 (own_ek ET200).1
      have lq202_1 := Nat.lt_of_lt_of_le lq194_1 (own_ek ET200).1
      have lq202_2 := Nat.lt_of_lt_of_le lt195 (own_ek ET200).1
      have lq202_3 := Nat.lt_of_lt_of_le lt196 (own_ek ET200).1
      have hC := hC.trans (CHr.keep (own_ek ET200) (fun _ q => by cases q) hC.1)
      have hk0 := Nat.le_trans hk0 (own_ek ET200).1
      have Kq202 := own_trans0 Kq194 (own_ek ET200)
      have z203 : h0.size ≠ T193.heap.size := Nat.ne_of_lt lq194_0
      have z204 : bT163 ≠ T193.heap.size := Nat.ne_of_lt lq194_1
      have z205 : T163.heap.size ≠ T193.heap.size := Nat.ne_of_lt lt195
      have z206 : bT193 ≠ T193.heap.size := Nat.ne_of_lt lt196
      have FT200_kind : Fld Z hT200 T193.heap.size "com/example/nimble_gate/nimblegate/policy/Token" "kind" "Lcom/example/nimble_gate/nimblegate/policy/Token$Kind;" .null := DT200 (ty := (.object "com/example/nimble_gate/nimblegate/policy/Token$Kind")) (Or.inr (hw _ (List.mem_of_getElem? (i := 61) rfl))) (by decide +kernel)
      have FT200_text : Fld Z hT200 T193.heap.size "com/example/nimble_gate/nimblegate/policy/Token" "text" "Ljava/lang/String;" .null := DT200 (ty := (.object "java/lang/String")) (Or.inr (hw _ (List.mem_of_getElem? (i := 63) rfl))) (by decide +kernel)
      have FT200_line : Fld Z hT200 T193.heap.size "com/example/nimble_gate/nimblegate/policy/Token" "line" "I" (.int 0) := DT200 (ty := .int) (Or.inr (hw _ (List.mem_of_getElem? (i := 65) rfl))) (by decide +kernel)
      have FT200_column : Fld Z hT200 T193.heap.size "com/example/nimble_gate/nimblegate/policy/Token" "column" "I" (.int 0) := DT200 (ty := .int) (Or.inr (hw _ (List.mem_of_getElem? (i := 67) rfl))) (by decide +kernel)
      clear DT200
      have lt207 := AT200.lt
      show own_Go p e below _ T200 (mkF m 94 #[oI i0, oI i1, oI i2, oI i3, oI kk, oR kd, oI (2 : Int32), oI (1 : Int32), oI ch0, oI ch1, oI dh0, oI dh1, oR h0.size, oR T163.heap.size, .unset, .unset] [(.ref T193.heap.size)])
      refine own_by (fun t_ k_ => XS.dup XT200.here hx rfl (hb hby at_94) rfl rfl k_) ?_
      show own_Go p e below _ T200 (mkF m 95 #[oI i0, oI i1, oI i2, oI i3, oI kk, oR kd, oI (2 : Int32), oI (1 : Int32), oI ch0, oI ch1, oI dh0, oI dh1, oR h0.size, oR T163.heap.size, .unset, .unset] [(.ref T193.heap.size), (.ref T193.heap.size)])
      refine own_by (fun t_ k_ => XS.aload XT200.here hx rfl (hb hby at_95) rfl rfl  k_) ?_
      show own_Go p e below _ T200 (mkF m 97 #[oI i0, oI i1, oI i2, oI i3, oI kk, oR kd, oI (2 : Int32), oI (1 : Int32), oI ch0, oI ch1, oI dh0, oI dh1, oR h0.size, oR T163.heap.size, .unset, .unset] [(.ref kd), (.ref T193.heap.size), (.ref T193.heap.size)])
      refine own_by (fun t_ k_ => XS.aload XT200.here hx rfl (hb hby at_97) rfl rfl  k_) ?_
      show own_Go p e below _ T200 (mkF m 99 #[oI i0, oI i1, oI i2, oI i3, oI kk, oR kd, oI (2 : Int32), oI (1 : Int32), oI ch0, oI ch1, oI dh0, oI dh1, oR h0.size, oR T163.heap.size, .unset, .unset] [(.ref h0.size), (.ref kd), (.ref T193.heap.size), (.ref T193.heap.size)])
      refine own_by (fun t_ k_ => XS.iloadN XT200.here hx rfl (hb hby at_99) rfl  k_) ?_
      show own_Go p e below _ T200 (mkF m 100 #[oI i0, oI i1, oI i2, oI i3, oI kk, oR kd, oI (2 : Int32), oI (1 : Int32), oI ch0, oI ch1, oI dh0, oI dh1, oR h0.size, oR T163.heap.size, .unset, .unset] [(.int i1), (.ref h0.size), (.ref kd), (.ref T193.heap.size), (.ref T193.heap.size)])
      refine own_by (fun t_ k_ => XS.iloadN XT200.here hx rfl (hb hby at_100) rfl  k_) ?_
      show own_Go p e below _ T200 (mkF m 101 #[oI i0, oI i1, oI i2, oI i3, oI kk, oR kd, oI (2 : Int32), oI (1 : Int32), oI ch0, oI ch1, oI dh0, oI dh1, oR h0.size, oR T163.heap.size, .unset, .unset] [(.int i2), (.int i1), (.ref h0.size), (.ref kd), (.ref T193.heap.size), (.ref T193.heap.size)])
      refine own_callN XT200 hx hZ rfl hown (hw _ (List.mem_of_getElem? (i := 51) rfl)) (hw _ (List.mem_of_getElem? (i := 52) rfl)) (hw _ (List.mem_of_getElem? (i := 53) rfl)) (hw _ (List.mem_of_getElem? (i := 50) rfl)) (by decide) eT200 (b := T193.heap.size) (argsL := [(.ref kd), (.ref h0.size), (.int i1), (.int i2)]) (rest := [(.ref T193.heap.size)]) (own_tok l Z a0 hw T193.heap.size kd h0.size i1 i2 hT200 AT200 FT200_kind FT200_text FT200_line FT200_column) 1 (by decide) (by decide) (by rw [hml]; rfl) (lenOf pd_14 rfl) (Nat.le_of_eq rfl) (hb hby at_101) (by decide) (by decide) (st := [(.int i2), (.int i1), (.ref h0.size), (.ref kd), (.ref T193.heap.size), (.ref T193.heap.size)]) rfl ?_
      intro T208 LT208 vT208 XT208 hQT208
      obtain ⟨rfl, KT208, NT208, FkT208, FtT208⟩ := hQT208
      show own_Go p e below _ T208 (mkF m 104 #[oI i0, oI i1, oI i2, oI i3, oI kk, oR kd, oI (2 : Int32), oI (1 : Int32), oI ch0, oI ch1, oI dh0, oI dh1, oR h0.size, oR T163.heap.size, .unset, .unset] [(.ref T193.heap.size)])
      have fq209_1 := own_stak1 fq202_1 KT208 AT200
      have fq209_2 := own_stak1 fq202_2 KT208 AT200
      have fq209_3 := own_stak1 fq202_3 KT208 AT200
      have fq209_4 := own_stak1 fq202_4 KT208 AT200
      have fq209_5 := own_stak1 fq202_5 KT208 AT200
      have fq209_6 := own_stak1 fq202_6 KT208 AT200
      have fq209_7 := fq202_7.keep KT208
      have fq209_8 := fq202_8.keep KT208 (own_nin z203)
      have fq209_9 := fq202_9.keep KT208 (own_nin z203)
      have fq209_10 := fq202_10.keep KT208 (own_nin z204)
      have fq209_11 := fq202_11.keep KT208
      have fq209_12 := fq202_12.keep KT208 (own_nin z205)
      have fq209_13 := fq202_13.keep KT208 (own_nin z205)
      have fq209_14 := fq202_14.keep KT208 (own_nin z206)
      have fq209_15 := AT200.keep KT208
      have lq209_0 := Nat.lt_of_lt_of_le lq202_0 KT208.1
      have lq209_1 := Nat.lt_of_lt_of_le lq202_1 KT208.1
      have lq209_2 := Nat.lt_of_lt_of_le lq202_2 KT208.1
      have lq209_3 := Nat.lt_of_lt_of_le lq202_3 KT208.1
      have lq209_4 := Nat.lt_of_lt_of_le lt207 KT208.1
      have hC := hC.trans (CHr.keep KT208 (fun _ q => by cases List.mem_singleton.mp q; exact (Safe.exa hZ.alike AT200 (by decide) (by decide))) hC.1)
      have hk0 := Nat.le_trans hk0 KT208.1
      have Kq209 := own_trans1 Kq202 KT208 (Or.inr g201)
      have N210 := own_Fr.app N199 (own_Fr.of (own_Fr.new NT208 g201 (Kq202).1) (Nat.le_refl _))
      refine own_by (fun t_ k_ => XS.astore XT208.here hx rfl (hb hby at_104) rfl rfl (l' := #[oI i0, oI i1, oI i2, oI i3, oI kk, oR kd, oI (2 : Int32), oI (1 : Int32), oI ch0, oI ch1, oI dh0, oI dh1, oR h0.size, oR T163.heap.size, oR T193.heap.size, .unset]) rfl k_) ?_
      show own_Go p e below _ T208 (mkF m 106 #[oI i0, oI i1, oI i2, oI i3, oI kk, oR kd, oI (2 : Int32), oI (1 : Int32), oI ch0, oI ch1, oI dh0, oI dh1, oR h0.size, oR T163.heap.size, oR T193.heap.size, .unset] [])
      refine own_by (fun t_ k_ => XS.iload XT208.here hx rfl (hb hby at_106) rfl  k_) ?_
      show own_Go p e below _ T208 (mkF m 108 #[oI i0, oI i1, oI i2, oI i3, oI kk, oR kd, oI (2 : Int32), oI (1 : Int32), oI ch0, oI ch1, oI dh0, oI dh1, oR h0.size, oR T163.heap.size, oR T193.heap.size, .unset] [(.int kk)])
      by_cases c108_210 : kk = (0 : Int32)
      · refine own_by (fun t_ k_ => XS.ifNo XT208.here hx rfl (hb hby at_108) rfl (XT.i0_ne_f c108_210) k_) ?_
        show own_Go p e below _ T208 (mkF m 111 #[oI i0, oI i1, oI i2, oI i3, oI kk, oR kd, oI (2 : Int32), oI (1 : Int32), oI ch0, oI ch1, oI dh0, oI dh1, oR h0.size, oR T163.heap.size, oR T193.heap.size, .unset] [])
        refine own_by (fun t_ k_ => XS.iload XT208.here hx rfl (hb hby at_111) rfl  k_) ?_
        show own_Go p e below _ T208 (mkF m 113 #[oI i0, oI i1, oI i2, oI i3, oI kk, oR kd, oI (2 : Int32), oI (1 : Int32), oI ch0, oI ch1, oI dh0, oI dh1, oR h0.size, oR T163.heap.size, oR T193.heap.size, .unset] [(.int (2 : Int32))])
        refine own_by (fun t_ k_ => XS.iload XT208.here hx rfl (hb hby at_113) rfl  k_) ?_
        show own_Go p e below _ T208 (mkF m 115 #[oI i0, oI i1, oI i2, oI i3, oI kk, oR kd, oI (2 : Int32), oI (1 : Int32), oI ch0, oI ch1, oI dh0, oI dh1, oR h0.size, oR T163.heap.size, oR T193.heap.size, .unset] [(.int (1 : Int32)), (.int (2 : Int32))])
        refine own_by (fun t_ k_ => XS.icmpYes XT208.here hx rfl (pc0 := 115) (pc' := 148) rfl (hb hby at_115) rfl (XT.ii_ne_t (by decide)) (by decide) (by decide) k_) ?_
        show own_Go p e below _ T208 (mkF m 148 #[oI i0, oI i1, oI i2, oI i3, oI kk, oR kd, oI (2 : Int32), oI (1 : Int32), oI ch0, oI ch1, oI dh0, oI dh1, oR h0.size, oR T163.heap.size, oR T193.heap.size, .unset] [])
        refine own_by (fun t_ k_ => XT.iconstV XT208.here hx rfl (0 : Int32) (hb hby at_148) (by decide) k_) ?_
        show own_Go p e below _ T208 (mkF m 149 #[oI i0, oI i1, oI i2, oI i3, oI kk, oR kd, oI (2 : Int32), oI (1 : Int32), oI ch0, oI ch1, oI dh0, oI dh1, oR h0.size, oR T163.heap.size, oR T193.heap.size, .unset] [(.int (0 : Int32))])
        refine own_by (fun t_ k_ => XS.istore XT208.here hx rfl (hb hby at_149) rfl (l' := #[oI i0, oI i1, oI i2, oI i3, oI kk, oR kd, oI (2 : Int32), oI (1 : Int32), oI ch0, oI ch1, oI dh0, oI dh1, oR h0.size, oR T163.heap.size, oR T193.heap.size, oI (0 : Int32)]) rfl k_) ?_
        show own_Go p e below _ T208 (mkF m 151 #[oI i0, oI i1, oI i2, oI i3, oI kk, oR kd, oI (2 : Int32), oI (1 : Int32), oI ch0, oI ch1, oI dh0, oI dh1, oR h0.size, oR T163.heap.size, oR T193.heap.size, oI (0 : Int32)] [])
        refine own_by (fun t_ k_ => XS.aload XT208.here hx rfl (hb hby at_151) rfl rfl  k_) ?_
        show own_Go p e below _ T208 (mkF m 153 #[oI i0, oI i1, oI i2, oI i3, oI kk, oR kd, oI (2 : Int32), oI (1 : Int32), oI ch0, oI ch1, oI dh0, oI dh1, oR h0.size, oR T163.heap.size, oR T193.heap.size, oI (0 : Int32)] [(.ref T193.heap.size)])
        refine own_by (fun t_ k_ => XS.aload XT208.here hx rfl (hb hby at_153) rfl rfl  k_) ?_
        show own_Go p e below _ T208 (mkF m 155 #[oI i0, oI i1, oI i2, oI i3, oI kk, oR kd, oI (2 : Int32), oI (1 : Int32), oI ch0, oI ch1, oI dh0, oI dh1, oR h0.size, oR T163.heap.size, oR T193.heap.size, oI (0 : Int32)] [(.ref T163.heap.size), (.ref T193.heap.size)])
        refine own_callV XT208 hx hZ hown (hw _ (List.mem_of_getElem? (i := 68) rfl)) (hw _ (List.mem_of_getElem? (i := 69) rfl)) (hw _ (List.mem_of_getElem? (i := 71) rfl)) (hw _ (List.mem_of_getElem? (i := 70) rfl)) (hw _ (List.mem_of_getElem? (i := 72) rfl)) (hw _ (List.mem_of_getElem? (i := 50) rfl)) (by decide) (rfl : T208.heap = T208.heap) (b := T193.heap.size) fq209_15 (argsL := [(.ref T163.heap.size)]) (rest := []) (own_is_2_1_met l Z a0 hw T193.heap.size T163.heap.size kd w0 h0.size bT163 bT193 kbT163 kbT193 (ch0.toInt8.toInt32) (ch1.toInt8.toInt32) (dh0.toInt8.toInt32) T208.heap cs fq209_1 hcs z197 fq209_2 FkT208 FtT208 fq209_7 fq209_8 fq209_9 fq209_10 fq209_11 fq209_12 fq209_13 fq209_14) 0 (by decide) (by decide) (by rw [hml]; rfl) (lenOf pd_15 rfl) (Nat.le_of_eq rfl) (hb hby at_155) (by decide) (by decide) (st := [(.ref T163.heap.size), (.ref T193.heap.size)]) rfl ?_
        intro T212 LT212 vT212 XT212 hQT212
        obtain ⟨rfl, eT212, rfl⟩ := hQT212
        show own_Go p e below _ T212 (mkF m 158 #[oI i0, oI i1, oI i2, oI i3, oI kk, oR kd, oI (2 : Int32), oI (1 : Int32), oI ch0, oI ch1, oI dh0, oI dh1, oR h0.size, oR T163.heap.size, oR T193.heap.size, oI (0 : Int32)] [(.int (own_is_2_1 T193.heap.size T163.heap.size kd w0 h0.size bT163 bT193 kbT163 kbT193 (ch0.toInt8.toInt32) (ch1.toInt8.toInt32) (dh0.toInt8.toInt32)))])
        have N213 := own_Fr.app N210 own_Fr.nil
        refine own_by (fun t_ k_ => XS.iload XT212.here hx rfl (hb hby at_158) rfl  k_) ?_
        show own_Go p e below _ T212 (mkF m 160 #[oI i0, oI i1, oI i2, oI i3, oI kk, oR kd, oI (2 : Int32), oI (1 : Int32), oI ch0, oI ch1, oI dh0, oI dh1, oR h0.size, oR T163.heap.size, oR T193.heap.size, oI (0 : Int32)] [(.int (0 : Int32)), (.int (own_is_2_1 T193.heap.size T163.heap.size kd w0 h0.size bT163 bT193 kbT163 kbT193 (ch0.toInt8.toInt32) (ch1.toInt8.toInt32) (dh0.toInt8.toInt32)))])
        have hW : kd = w0 := hkd.symm.trans (by rw [own_pick, c108_210, if_pos (by decide)])
        have hfin : (own_is_2_1 T193.heap.size T163.heap.size kd w0 h0.size bT163 bT193 kbT163 kbT193 (ch0.toInt8.toInt32) (ch1.toInt8.toInt32) (dh0.toInt8.toInt32)) = (0 : Int32) := by rw [show (own_is_2_1 T193.heap.size T163.heap.size kd w0 h0.size bT163 bT193 kbT163 kbT193 (ch0.toInt8.toInt32) (ch1.toInt8.toInt32) (dh0.toInt8.toInt32)) = (0 : Int32) by rw [own_is_2_1, if_pos hW, if_pos (by rw [show (own_eq_2_1 h0.size T163.heap.size bT163 bT193 kbT163 kbT193 (ch0.toInt8.toInt32) (ch1.toInt8.toInt32) (dh0.toInt8.toInt32)) = (0 : Int32) by rw [own_eq_2_1, if_pos (by rw [show (own_le_2_1 bT163 bT193 kbT163 kbT193 (ch0.toInt8.toInt32) (ch1.toInt8.toInt32) (dh0.toInt8.toInt32)) = (0 : Int32) by rw [own_le_2_1]])]])]]
        refine own_by (fun t_ k_ => XS.icmpNo XT212.here hx rfl (hb hby at_160) rfl (XT.ii_ne_f hfin) k_) ?_
        show own_Go p e below _ T212 (mkF m 163 #[oI i0, oI i1, oI i2, oI i3, oI kk, oR kd, oI (2 : Int32), oI (1 : Int32), oI ch0, oI ch1, oI dh0, oI dh1, oR h0.size, oR T163.heap.size, oR T193.heap.size, oI (0 : Int32)] [])
        refine own_by (fun t_ k_ => XT.iconstV XT212.here hx rfl (1 : Int32) (hb hby at_163) (by decide) k_) ?_
        show own_Go p e below _ T212 (mkF m 164 #[oI i0, oI i1, oI i2, oI i3, oI kk, oR kd, oI (2 : Int32), oI (1 : Int32), oI ch0, oI ch1, oI dh0, oI dh1, oR h0.size, oR T163.heap.size, oR T193.heap.size, oI (0 : Int32)] [(.int (1 : Int32))])
        refine own_by (fun t_ k_ => XS.goto XT212.here hx rfl (pc0 := 164) (pc' := 168) rfl (hb hby at_164) (by decide) (by decide) k_) ?_
        show own_Go p e below _ T212 (mkF m 168 #[oI i0, oI i1, oI i2, oI i3, oI kk, oR kd, oI (2 : Int32), oI (1 : Int32), oI ch0, oI ch1, oI dh0, oI dh1, oR h0.size, oR T163.heap.size, oR T193.heap.size, oI (0 : Int32)] [(.int (1 : Int32))])
        exact own_retNW XT212 hx hlk hZ hEL hS eT212 hk0 hC hret (by simp) (w := (1 : Int32)) (hb hby at_168) (by decide) (by decide) (by decide) (⟨rfl, (N213).to (Nat.le_refl _)⟩)
      · refine own_by (fun t_ k_ => XS.ifYes XT208.here hx rfl (pc0 := 108) (pc' := 148) rfl (hb hby at_108) rfl (XT.i0_ne_t c108_210) (by decide) (by decide) k_) ?_
        show own_Go p e below _ T208 (mkF m 148 #[oI i0, oI i1, oI i2, oI i3, oI kk, oR kd, oI (2 : Int32), oI (1 : Int32), oI ch0, oI ch1, oI dh0, oI dh1, oR h0.size, oR T163.heap.size, oR T193.heap.size, .unset] [])
        refine own_by (fun t_ k_ => XT.iconstV XT208.here hx rfl (0 : Int32) (hb hby at_148) (by decide) k_) ?_
        show own_Go p e below _ T208 (mkF m 149 #[oI i0, oI i1, oI i2, oI i3, oI kk, oR kd, oI (2 : Int32), oI (1 : Int32), oI ch0, oI ch1, oI dh0, oI dh1, oR h0.size, oR T163.heap.size, oR T193.heap.size, .unset] [(.int (0 : Int32))])
        refine own_by (fun t_ k_ => XS.istore XT208.here hx rfl (hb hby at_149) rfl (l' := #[oI i0, oI i1, oI i2, oI i3, oI kk, oR kd, oI (2 : Int32), oI (1 : Int32), oI ch0, oI ch1, oI dh0, oI dh1, oR h0.size, oR T163.heap.size, oR T193.heap.size, oI (0 : Int32)]) rfl k_) ?_
        show own_Go p e below _ T208 (mkF m 151 #[oI i0, oI i1, oI i2, oI i3, oI kk, oR kd, oI (2 : Int32), oI (1 : Int32), oI ch0, oI ch1, oI dh0, oI dh1, oR h0.size, oR T163.heap.size, oR T193.heap.size, oI (0 : Int32)] [])
        refine own_by (fun t_ k_ => XS.aload XT208.here hx rfl (hb hby at_151) rfl rfl  k_) ?_
        show own_Go p e below _ T208 (mkF m 153 #[oI i0, oI i1, oI i2, oI i3, oI kk, oR kd, oI (2 : Int32), oI (1 : Int32), oI ch0, oI ch1, oI dh0, oI dh1, oR h0.size, oR T163.heap.size, oR T193.heap.size, oI (0 : Int32)] [(.ref T193.heap.size)])
        refine own_by (fun t_ k_ => XS.aload XT208.here hx rfl (hb hby at_153) rfl rfl  k_) ?_
        show own_Go p e below _ T208 (mkF m 155 #[oI i0, oI i1, oI i2, oI i3, oI kk, oR kd, oI (2 : Int32), oI (1 : Int32), oI ch0, oI ch1, oI dh0, oI dh1, oR h0.size, oR T163.heap.size, oR T193.heap.size, oI (0 : Int32)] [(.ref T163.heap.size), (.ref T193.heap.size)])
        refine own_callV XT208 hx hZ hown (hw _ (List.mem_of_getElem? (i := 68) rfl)) (hw _ (List.mem_of_getElem? (i := 69) rfl)) (hw _ (List.mem_of_getElem? (i := 71) rfl)) (hw _ (List.mem_of_getElem? (i := 70) rfl)) (hw _ (List.mem_of_getElem? (i := 72) rfl)) (hw _ (List.mem_of_getElem? (i := 50) rfl)) (by decide) (rfl : T208.heap = T208.heap) (b := T193.heap.size) fq209_15 (argsL := [(.ref T163.heap.size)]) (rest := []) (own_is_2_1_met l Z a0 hw T193.heap.size T163.heap.size kd w0 h0.size bT163 bT193 kbT163 kbT193 (ch0.toInt8.toInt32) (ch1.toInt8.toInt32) (dh0.toInt8.toInt32) T208.heap cs fq209_1 hcs z197 fq209_2 FkT208 FtT208 fq209_7 fq209_8 fq209_9 fq209_10 fq209_11 fq209_12 fq209_13 fq209_14) 0 (by decide) (by decide) (by rw [hml]; rfl) (lenOf pd_15 rfl) (Nat.le_of_eq rfl) (hb hby at_155) (by decide) (by decide) (st := [(.ref T163.heap.size), (.ref T193.heap.size)]) rfl ?_
        intro T214 LT214 vT214 XT214 hQT214
        obtain ⟨rfl, eT214, rfl⟩ := hQT214
        show own_Go p e below _ T214 (mkF m 158 #[oI i0, oI i1, oI i2, oI i3, oI kk, oR kd, oI (2 : Int32), oI (1 : Int32), oI ch0, oI ch1, oI dh0, oI dh1, oR h0.size, oR T163.heap.size, oR T193.heap.size, oI (0 : Int32)] [(.int (own_is_2_1 T193.heap.size T163.heap.size kd w0 h0.size bT163 bT193 kbT163 kbT193 (ch0.toInt8.toInt32) (ch1.toInt8.toInt32) (dh0.toInt8.toInt32)))])
        have N215 := own_Fr.app N210 own_Fr.nil
        refine own_by (fun t_ k_ => XS.iload XT214.here hx rfl (hb hby at_158) rfl  k_) ?_
        show own_Go p e below _ T214 (mkF m 160 #[oI i0, oI i1, oI i2, oI i3, oI kk, oR kd, oI (2 : Int32), oI (1 : Int32), oI ch0, oI ch1, oI dh0, oI dh1, oR h0.size, oR T163.heap.size, oR T193.heap.size, oI (0 : Int32)] [(.int (0 : Int32)), (.int (own_is_2_1 T193.heap.size T163.heap.size kd w0 h0.size bT163 bT193 kbT163 kbT193 (ch0.toInt8.toInt32) (ch1.toInt8.toInt32) (dh0.toInt8.toInt32)))])
        have hW : ¬ kd = w0 := fun q => own_pick_ne kk w0 w1 w2 w3 w4 c108_210 (F1.ne F0 (by decide)) (F2.ne F0 (by decide)) (F3.ne F0 (by decide)) (F4.ne F0 (by decide)) (hkd.trans q)
        have hfin : (own_is_2_1 T193.heap.size T163.heap.size kd w0 h0.size bT163 bT193 kbT163 kbT193 (ch0.toInt8.toInt32) (ch1.toInt8.toInt32) (dh0.toInt8.toInt32)) = (0 : Int32) := by rw [show (own_is_2_1 T193.heap.size T163.heap.size kd w0 h0.size bT163 bT193 kbT163 kbT193 (ch0.toInt8.toInt32) (ch1.toInt8.toInt32) (dh0.toInt8.toInt32)) = (0 : Int32) by rw [own_is_2_1, if_neg hW]]
        refine own_by (fun t_ k_ => XS.icmpNo XT214.here hx rfl (hb hby at_160) rfl (XT.ii_ne_f hfin) k_) ?_
        show own_Go p e below _ T214 (mkF m 163 #[oI i0, oI i1, oI i2, oI i3, oI kk, oR kd, oI (2 : Int32), oI (1 : Int32), oI ch0, oI ch1, oI dh0, oI dh1, oR h0.size, oR T163.heap.size, oR T193.heap.size, oI (0 : Int32)] [])
        refine own_by (fun t_ k_ => XT.iconstV XT214.here hx rfl (1 : Int32) (hb hby at_163) (by decide) k_) ?_
        show own_Go p e below _ T214 (mkF m 164 #[oI i0, oI i1, oI i2, oI i3, oI kk, oR kd, oI (2 : Int32), oI (1 : Int32), oI ch0, oI ch1, oI dh0, oI dh1, oR h0.size, oR T163.heap.size, oR T193.heap.size, oI (0 : Int32)] [(.int (1 : Int32))])
        refine own_by (fun t_ k_ => XS.goto XT214.here hx rfl (pc0 := 164) (pc' := 168) rfl (hb hby at_164) (by decide) (by decide) k_) ?_
        show own_Go p e below _ T214 (mkF m 168 #[oI i0, oI i1, oI i2, oI i3, oI kk, oR kd, oI (2 : Int32), oI (1 : Int32), oI ch0, oI ch1, oI dh0, oI dh1, oR h0.size, oR T163.heap.size, oR T193.heap.size, oI (0 : Int32)] [(.int (1 : Int32))])
        exact own_retNW XT214 hx hlk hZ hEL hS eT214 hk0 hC hret (by simp) (w := (1 : Int32)) (hb hby at_168) (by decide) (by decide) (by decide) (⟨rfl, (N215).to (Nat.le_refl _)⟩)
    · subst hk
      show own_Go p e below _ T163 (mkF m 80 #[oI i0, oI i1, oI i2, oI i3, oI kk, oR kd, oI (2 : Int32), oI (2 : Int32), oI ch0, oI ch1, oI dh0, oI dh1, oR h0.size, .unset, .unset, .unset] [])
      refine own_by (fun t_ k_ => XS.iload XT163.here hx rfl (hb hby at_80) rfl  k_) ?_
      show own_Go p e below _ T163 (mkF m 82 #[oI i0, oI i1, oI i2, oI i3, oI kk, oR kd, oI (2 : Int32), oI (2 : Int32), oI ch0, oI ch1, oI dh0, oI dh1, oR h0.size, .unset, .unset, .unset] [(.int (2 : Int32))])
      refine own_by (fun t_ k_ => XS.iload XT163.here hx rfl (hb hby at_82) rfl  k_) ?_
      show own_Go p e below _ T163 (mkF m 84 #[oI i0, oI i1, oI i2, oI i3, oI kk, oR kd, oI (2 : Int32), oI (2 : Int32), oI ch0, oI ch1, oI dh0, oI dh1, oR h0.size, .unset, .unset, .unset] [(.int dh0), (.int (2 : Int32))])
      refine own_by (fun t_ k_ => XS.iload XT163.here hx rfl (hb hby at_84) rfl  k_) ?_
      show own_Go p e below _ T163 (mkF m 86 #[oI i0, oI i1, oI i2, oI i3, oI kk, oR kd, oI (2 : Int32), oI (2 : Int32), oI ch0, oI ch1, oI dh0, oI dh1, oR h0.size, .unset, .unset, .unset] [(.int dh1), (.int dh0), (.int (2 : Int32))])
      have g216 : h0.size ≤ T163.heap.size := Kq164.1
      refine own_callSW XT163 hx hZ hEL hS (rfl : T163.heap = T163.heap) hk0 hC hown (hw _ (List.mem_of_getElem? (i := 8) rfl)) (hw _ (List.mem_of_getElem? (i := 9) rfl)) (hw _ (List.mem_of_getElem? (i := 3) rfl)) (hw _ (List.mem_of_getElem? (i := 10) rfl)) (by decide) (argsL := [(.int (2 : Int32)), (.int dh0), (.int dh1)]) (rest := []) (own_str_2 l Z a0 hw EL hEL dh0 dh1 T163.heap cs fq164_1 hcs Bdh0 Bdh1 hmem) 0 (by decide) (by decide) (by rw [hml]; rfl) (lenOf pd_13 rfl) (Nat.le_of_eq rfl) (hb hby at_86) (by decide) (by decide) (st := [(.int dh1), (.int dh0), (.int (2 : Int32))]) rfl ?_
      rintro T217 LT217 vT217 ⟨XT217, hQT217, hS, hgT217, hZ, hown, hCT217⟩
      obtain ⟨rfl, KT217, NT217, ST217⟩ := hQT217
      show own_Go p e below _ T217 (mkF m 89 #[oI i0, oI i1, oI i2, oI i3, oI kk, oR kd, oI (2 : Int32), oI (2 : Int32), oI ch0, oI ch1, oI dh0, oI dh1, oR h0.size, .unset, .unset, .unset] [(.ref T163.heap.size)])
      have fq218_1 := own_stak fq164_1 KT217
      have fq218_2 := own_stak fq164_2 KT217
      have fq218_3 := own_stak fq164_3 KT217
      have fq218_4 := own_stak fq164_4 KT217
      have fq218_5 := own_stak fq164_5 KT217
      have fq218_6 := own_stak fq164_6 KT217
      have fq218_7 := EsT163.keep KT217
      have fq218_8 := FvT163.keep KT217 nin0
      have fq218_9 := FcT163.keep KT217 nin0
      have fq218_10 := VT163.keep KT217 nin0
      have lq218_0 := Nat.lt_of_lt_of_le lt165 KT217.1
      have lq218_1 := Nat.lt_of_lt_of_le lt166 KT217.1
      have Kq218 := own_trans0 Kq164 KT217
      have hC := hCT217
      have hk0 := Nat.le_refl T217.heap.size
      obtain ⟨bT217, kbT217, EsT217, FvT217, FcT217, VT217⟩ := ST217
      have lt219 := EsT217.lt
      have lt220 := VT217.lt
      have z221 : h0.size ≠ T163.heap.size := Nat.ne_of_lt lt165
      have z222 : bT163 ≠ T163.heap.size := Nat.ne_of_lt lt166
      have N223 := own_Fr.app N167 (own_Fr.of NT217 (Kq164).1)
      refine own_by (fun t_ k_ => XS.astore XT217.here hx rfl (hb hby at_89) rfl rfl (l' := #[oI i0, oI i1, oI i2, oI i3, oI kk, oR kd, oI (2 : Int32), oI (2 : Int32), oI ch0, oI ch1, oI dh0, oI dh1, oR h0.size, oR T163.heap.size, .unset, .unset]) rfl k_) ?_
      show own_Go p e below _ T217 (mkF m 91 #[oI i0, oI i1, oI i2, oI i3, oI kk, oR kd, oI (2 : Int32), oI (2 : Int32), oI ch0, oI ch1, oI dh0, oI dh1, oR h0.size, oR T163.heap.size, .unset, .unset] [])
      have g225 : h0.size ≤ T217.heap.size := Kq218.1
      refine own_new XT217 hx hZ hown (hw _ (List.mem_of_getElem? (i := 48) rfl)) (hw _ (List.mem_of_getElem? (i := 49) rfl)) (hw _ (List.mem_of_getElem? (i := 50) rfl)) (rfl : T217.heap = T217.heap) (hb hby at_91) (by decide) (by decide) ?_
      intro T224 hT224 XT224 eT224 ET224 AT224 DT224
      have fq226_1 := own_stak fq218_1 (own_ek ET224)
      have fq226_2 := own_stak fq218_2 (own_ek ET224)
      have fq226_3 := own_stak fq218_3 (own_ek ET224)
      have fq226_4 := own_stak fq218_4 (own_ek ET224)
      have fq226_5 := own_stak fq218_5 (own_ek ET224)
      have fq226_6 := own_stak fq218_6 (own_ek ET224)
      have fq226_7 := fq218_7.keep (own_ek ET224)
      have fq226_8 := fq218_8.keep (own_ek ET224) nin0
      have fq226_9 := fq218_9.keep (own_ek ET224) nin0
      have fq226_10 := fq218_10.keep (own_ek ET224) nin0
      have fq226_11 := EsT217.keep (own_ek ET224)
      have fq226_12 := FvT217.keep (own_ek ET224) nin0
      have fq226_13 := FcT217.keep (own_ek ET224) nin0
      have fq226_14 := VT217.keep (own_ek ET224) nin0
      have lq226_0 := Nat.lt_of_lt_of_le lq218_0 (own_ek ET224).1
      have lq226_1 := Nat.lt_of_lt_of_le lq218_1 (own_ek ET224).1
      have lq226_2 := Nat.lt_of_lt_of_le lt219 (own_ek ET224).1
      have lq226_3 := Nat.lt_of_lt_of_le lt220 (own_ek ET224).1
      have hC := hC.trans (CHr.keep (own_ek ET224) (fun _ q => by cases q) hC.1)
      have hk0 := Nat.le_trans hk0 (own_ek ET224).1
      have Kq226 := own_trans0 Kq218 (own_ek ET224)
      have z227 : h0.size ≠ T217.heap.size := Nat.ne_of_lt lq218_0
      have z228 : bT163 ≠ T217.heap.size := Nat.ne_of_lt lq218_1
      have z229 : T163.heap.size ≠ T217.heap.size := Nat.ne_of_lt lt219
      have z230 : bT217 ≠ T217.heap.size := Nat.ne_of_lt lt220
      have FT224_kind : Fld Z hT224 T217.heap.size "com/example/nimble_gate/nimblegate/policy/Token" "kind" "Lcom/example/nimble_gate/nimblegate/policy/Token$Kind;" .null := DT224 (ty := (.object "com/example/nimble_gate/nimblegate/policy/Token$Kind")) (Or.inr (hw _ (List.mem_of_getElem? (i := 61) rfl))) (by decide +kernel)
      have FT224_text : Fld Z hT224 T217.heap.size "com/example/nimble_gate/nimblegate/policy/Token" "text" "Ljava/lang/String;" .null := DT224 (ty := (.object "java/lang/String")) (Or.inr (hw _ (List.mem_of_getElem? (i := 63) rfl))) (by decide +kernel)
      have FT224_line : Fld Z hT224 T217.heap.size "com/example/nimble_gate/nimblegate/policy/Token" "line" "I" (.int 0) := DT224 (ty := .int) (Or.inr (hw _ (List.mem_of_getElem? (i := 65) rfl))) (by decide +kernel)
      have FT224_column : Fld Z hT224 T217.heap.size "com/example/nimble_gate/nimblegate/policy/Token" "column" "I" (.int 0) := DT224 (ty := .int) (Or.inr (hw _ (List.mem_of_getElem? (i := 67) rfl))) (by decide +kernel)
      clear DT224
      have lt231 := AT224.lt
      show own_Go p e below _ T224 (mkF m 94 #[oI i0, oI i1, oI i2, oI i3, oI kk, oR kd, oI (2 : Int32), oI (2 : Int32), oI ch0, oI ch1, oI dh0, oI dh1, oR h0.size, oR T163.heap.size, .unset, .unset] [(.ref T217.heap.size)])
      refine own_by (fun t_ k_ => XS.dup XT224.here hx rfl (hb hby at_94) rfl rfl k_) ?_
      show own_Go p e below _ T224 (mkF m 95 #[oI i0, oI i1, oI i2, oI i3, oI kk, oR kd, oI (2 : Int32), oI (2 : Int32), oI ch0, oI ch1, oI dh0, oI dh1, oR h0.size, oR T163.heap.size, .unset, .unset] [(.ref T217.heap.size), (.ref T217.heap.size)])
      refine own_by (fun t_ k_ => XS.aload XT224.here hx rfl (hb hby at_95) rfl rfl  k_) ?_
      show own_Go p e below _ T224 (mkF m 97 #[oI i0, oI i1, oI i2, oI i3, oI kk, oR kd, oI (2 : Int32), oI (2 : Int32), oI ch0, oI ch1, oI dh0, oI dh1, oR h0.size, oR T163.heap.size, .unset, .unset] [(.ref kd), (.ref T217.heap.size), (.ref T217.heap.size)])
      refine own_by (fun t_ k_ => XS.aload XT224.here hx rfl (hb hby at_97) rfl rfl  k_) ?_
      show own_Go p e below _ T224 (mkF m 99 #[oI i0, oI i1, oI i2, oI i3, oI kk, oR kd, oI (2 : Int32), oI (2 : Int32), oI ch0, oI ch1, oI dh0, oI dh1, oR h0.size, oR T163.heap.size, .unset, .unset] [(.ref h0.size), (.ref kd), (.ref T217.heap.size), (.ref T217.heap.size)])
      refine own_by (fun t_ k_ => XS.iloadN XT224.here hx rfl (hb hby at_99) rfl  k_) ?_
      show own_Go p e below _ T224 (mkF m 100 #[oI i0, oI i1, oI i2, oI i3, oI kk, oR kd, oI (2 : Int32), oI (2 : Int32), oI ch0, oI ch1, oI dh0, oI dh1, oR h0.size, oR T163.heap.size, .unset, .unset] [(.int i1), (.ref h0.size), (.ref kd), (.ref T217.heap.size), (.ref T217.heap.size)])
      refine own_by (fun t_ k_ => XS.iloadN XT224.here hx rfl (hb hby at_100) rfl  k_) ?_
      show own_Go p e below _ T224 (mkF m 101 #[oI i0, oI i1, oI i2, oI i3, oI kk, oR kd, oI (2 : Int32), oI (2 : Int32), oI ch0, oI ch1, oI dh0, oI dh1, oR h0.size, oR T163.heap.size, .unset, .unset] [(.int i2), (.int i1), (.ref h0.size), (.ref kd), (.ref T217.heap.size), (.ref T217.heap.size)])
      refine own_callN XT224 hx hZ rfl hown (hw _ (List.mem_of_getElem? (i := 51) rfl)) (hw _ (List.mem_of_getElem? (i := 52) rfl)) (hw _ (List.mem_of_getElem? (i := 53) rfl)) (hw _ (List.mem_of_getElem? (i := 50) rfl)) (by decide) eT224 (b := T217.heap.size) (argsL := [(.ref kd), (.ref h0.size), (.int i1), (.int i2)]) (rest := [(.ref T217.heap.size)]) (own_tok l Z a0 hw T217.heap.size kd h0.size i1 i2 hT224 AT224 FT224_kind FT224_text FT224_line FT224_column) 1 (by decide) (by decide) (by rw [hml]; rfl) (lenOf pd_14 rfl) (Nat.le_of_eq rfl) (hb hby at_101) (by decide) (by decide) (st := [(.int i2), (.int i1), (.ref h0.size), (.ref kd), (.ref T217.heap.size), (.ref T217.heap.size)]) rfl ?_
      intro T232 LT232 vT232 XT232 hQT232
      obtain ⟨rfl, KT232, NT232, FkT232, FtT232⟩ := hQT232
      show own_Go p e below _ T232 (mkF m 104 #[oI i0, oI i1, oI i2, oI i3, oI kk, oR kd, oI (2 : Int32), oI (2 : Int32), oI ch0, oI ch1, oI dh0, oI dh1, oR h0.size, oR T163.heap.size, .unset, .unset] [(.ref T217.heap.size)])
      have fq233_1 := own_stak1 fq226_1 KT232 AT224
      have fq233_2 := own_stak1 fq226_2 KT232 AT224
      have fq233_3 := own_stak1 fq226_3 KT232 AT224
      have fq233_4 := own_stak1 fq226_4 KT232 AT224
      have fq233_5 := own_stak1 fq226_5 KT232 AT224
      have fq233_6 := own_stak1 fq226_6 KT232 AT224
      have fq233_7 := fq226_7.keep KT232
      have fq233_8 := fq226_8.keep KT232 (own_nin z227)
      have fq233_9 := fq226_9.keep KT232 (own_nin z227)
      have fq233_10 := fq226_10.keep KT232 (own_nin z228)
      have fq233_11 := fq226_11.keep KT232
      have fq233_12 := fq226_12.keep KT232 (own_nin z229)
      have fq233_13 := fq226_13.keep KT232 (own_nin z229)
      have fq233_14 := fq226_14.keep KT232 (own_nin z230)
      have fq233_15 := AT224.keep KT232
      have lq233_0 := Nat.lt_of_lt_of_le lq226_0 KT232.1
      have lq233_1 := Nat.lt_of_lt_of_le lq226_1 KT232.1
      have lq233_2 := Nat.lt_of_lt_of_le lq226_2 KT232.1
      have lq233_3 := Nat.lt_of_lt_of_le lq226_3 KT232.1
      have lq233_4 := Nat.lt_of_lt_of_le lt231 KT232.1
      have hC := hC.trans (CHr.keep KT232 (fun _ q => by cases List.mem_singleton.mp q; exact (Safe.exa hZ.alike AT224 (by decide) (by decide))) hC.1)
      have hk0 := Nat.le_trans hk0 KT232.1
      have Kq233 := own_trans1 Kq226 KT232 (Or.inr g225)
      have N234 := own_Fr.app N223 (own_Fr.of (own_Fr.new NT232 g225 (Kq226).1) (Nat.le_refl _))
      refine own_by (fun t_ k_ => XS.astore XT232.here hx rfl (hb hby at_104) rfl rfl (l' := #[oI i0, oI i1, oI i2, oI i3, oI kk, oR kd, oI (2 : Int32), oI (2 : Int32), oI ch0, oI ch1, oI dh0, oI dh1, oR h0.size, oR T163.heap.size, oR T217.heap.size, .unset]) rfl k_) ?_
      show own_Go p e below _ T232 (mkF m 106 #[oI i0, oI i1, oI i2, oI i3, oI kk, oR kd, oI (2 : Int32), oI (2 : Int32), oI ch0, oI ch1, oI dh0, oI dh1, oR h0.size, oR T163.heap.size, oR T217.heap.size, .unset] [])
      refine own_by (fun t_ k_ => XS.iload XT232.here hx rfl (hb hby at_106) rfl  k_) ?_
      show own_Go p e below _ T232 (mkF m 108 #[oI i0, oI i1, oI i2, oI i3, oI kk, oR kd, oI (2 : Int32), oI (2 : Int32), oI ch0, oI ch1, oI dh0, oI dh1, oR h0.size, oR T163.heap.size, oR T217.heap.size, .unset] [(.int kk)])
      by_cases c108_234 : kk = (0 : Int32)
      · refine own_by (fun t_ k_ => XS.ifNo XT232.here hx rfl (hb hby at_108) rfl (XT.i0_ne_f c108_234) k_) ?_
        show own_Go p e below _ T232 (mkF m 111 #[oI i0, oI i1, oI i2, oI i3, oI kk, oR kd, oI (2 : Int32), oI (2 : Int32), oI ch0, oI ch1, oI dh0, oI dh1, oR h0.size, oR T163.heap.size, oR T217.heap.size, .unset] [])
        refine own_by (fun t_ k_ => XS.iload XT232.here hx rfl (hb hby at_111) rfl  k_) ?_
        show own_Go p e below _ T232 (mkF m 113 #[oI i0, oI i1, oI i2, oI i3, oI kk, oR kd, oI (2 : Int32), oI (2 : Int32), oI ch0, oI ch1, oI dh0, oI dh1, oR h0.size, oR T163.heap.size, oR T217.heap.size, .unset] [(.int (2 : Int32))])
        refine own_by (fun t_ k_ => XS.iload XT232.here hx rfl (hb hby at_113) rfl  k_) ?_
        show own_Go p e below _ T232 (mkF m 115 #[oI i0, oI i1, oI i2, oI i3, oI kk, oR kd, oI (2 : Int32), oI (2 : Int32), oI ch0, oI ch1, oI dh0, oI dh1, oR h0.size, oR T163.heap.size, oR T217.heap.size, .unset] [(.int (2 : Int32)), (.int (2 : Int32))])
        refine own_by (fun t_ k_ => XS.icmpNo XT232.here hx rfl (hb hby at_115) rfl (XT.ii_ne_f (by decide)) k_) ?_
        show own_Go p e below _ T232 (mkF m 118 #[oI i0, oI i1, oI i2, oI i3, oI kk, oR kd, oI (2 : Int32), oI (2 : Int32), oI ch0, oI ch1, oI dh0, oI dh1, oR h0.size, oR T163.heap.size, oR T217.heap.size, .unset] [])
        refine own_by (fun t_ k_ => XS.iload XT232.here hx rfl (hb hby at_118) rfl  k_) ?_
        show own_Go p e below _ T232 (mkF m 120 #[oI i0, oI i1, oI i2, oI i3, oI kk, oR kd, oI (2 : Int32), oI (2 : Int32), oI ch0, oI ch1, oI dh0, oI dh1, oR h0.size, oR T163.heap.size, oR T217.heap.size, .unset] [(.int (2 : Int32))])
        refine own_by (fun t_ k_ => XT.iconstV XT232.here hx rfl (1 : Int32) (hb hby at_120) (by decide) k_) ?_
        show own_Go p e below _ T232 (mkF m 121 #[oI i0, oI i1, oI i2, oI i3, oI kk, oR kd, oI (2 : Int32), oI (2 : Int32), oI ch0, oI ch1, oI dh0, oI dh1, oR h0.size, oR T163.heap.size, oR T217.heap.size, .unset] [(.int (1 : Int32)), (.int (2 : Int32))])
        refine own_by (fun t_ k_ => XS.icmpNo XT232.here hx rfl (hb hby at_121) rfl (XT.ii_lt_f (by decide)) k_) ?_
        show own_Go p e below _ T232 (mkF m 124 #[oI i0, oI i1, oI i2, oI i3, oI kk, oR kd, oI (2 : Int32), oI (2 : Int32), oI ch0, oI ch1, oI dh0, oI dh1, oR h0.size, oR T163.heap.size, oR T217.heap.size, .unset] [])
        refine own_by (fun t_ k_ => XS.iload XT232.here hx rfl (hb hby at_124) rfl  k_) ?_
        show own_Go p e below _ T232 (mkF m 126 #[oI i0, oI i1, oI i2, oI i3, oI kk, oR kd, oI (2 : Int32), oI (2 : Int32), oI ch0, oI ch1, oI dh0, oI dh1, oR h0.size, oR T163.heap.size, oR T217.heap.size, .unset] [(.int ch0)])
        refine own_by (fun t_ k_ => XS.iload XT232.here hx rfl (hb hby at_126) rfl  k_) ?_
        show own_Go p e below _ T232 (mkF m 128 #[oI i0, oI i1, oI i2, oI i3, oI kk, oR kd, oI (2 : Int32), oI (2 : Int32), oI ch0, oI ch1, oI dh0, oI dh1, oR h0.size, oR T163.heap.size, oR T217.heap.size, .unset] [(.int dh0), (.int ch0)])
        by_cases c128_235 : ch0 = dh0
        · refine own_by (fun t_ k_ => XS.icmpNo XT232.here hx rfl (hb hby at_128) rfl (XT.ii_ne_f c128_235) k_) ?_
          show own_Go p e below _ T232 (mkF m 131 #[oI i0, oI i1, oI i2, oI i3, oI kk, oR kd, oI (2 : Int32), oI (2 : Int32), oI ch0, oI ch1, oI dh0, oI dh1, oR h0.size, oR T163.heap.size, oR T217.heap.size, .unset] [])
          refine own_by (fun t_ k_ => XS.iload XT232.here hx rfl (hb hby at_131) rfl  k_) ?_
          show own_Go p e below _ T232 (mkF m 133 #[oI i0, oI i1, oI i2, oI i3, oI kk, oR kd, oI (2 : Int32), oI (2 : Int32), oI ch0, oI ch1, oI dh0, oI dh1, oR h0.size, oR T163.heap.size, oR T217.heap.size, .unset] [(.int (2 : Int32))])
          refine own_by (fun t_ k_ => XT.iconstV XT232.here hx rfl (2 : Int32) (hb hby at_133) (by decide) k_) ?_
          show own_Go p e below _ T232 (mkF m 134 #[oI i0, oI i1, oI i2, oI i3, oI kk, oR kd, oI (2 : Int32), oI (2 : Int32), oI ch0, oI ch1, oI dh0, oI dh1, oR h0.size, oR T163.heap.size, oR T217.heap.size, .unset] [(.int (2 : Int32)), (.int (2 : Int32))])
          refine own_by (fun t_ k_ => XS.icmpNo XT232.here hx rfl (hb hby at_134) rfl (XT.ii_lt_f (by decide)) k_) ?_
          show own_Go p e below _ T232 (mkF m 137 #[oI i0, oI i1, oI i2, oI i3, oI kk, oR kd, oI (2 : Int32), oI (2 : Int32), oI ch0, oI ch1, oI dh0, oI dh1, oR h0.size, oR T163.heap.size, oR T217.heap.size, .unset] [])
          refine own_by (fun t_ k_ => XS.iload XT232.here hx rfl (hb hby at_137) rfl  k_) ?_
          show own_Go p e below _ T232 (mkF m 139 #[oI i0, oI i1, oI i2, oI i3, oI kk, oR kd, oI (2 : Int32), oI (2 : Int32), oI ch0, oI ch1, oI dh0, oI dh1, oR h0.size, oR T163.heap.size, oR T217.heap.size, .unset] [(.int ch1)])
          refine own_by (fun t_ k_ => XS.iload XT232.here hx rfl (hb hby at_139) rfl  k_) ?_
          show own_Go p e below _ T232 (mkF m 141 #[oI i0, oI i1, oI i2, oI i3, oI kk, oR kd, oI (2 : Int32), oI (2 : Int32), oI ch0, oI ch1, oI dh0, oI dh1, oR h0.size, oR T163.heap.size, oR T217.heap.size, .unset] [(.int dh1), (.int ch1)])
          by_cases c141_236 : ch1 = dh1
          · refine own_by (fun t_ k_ => XS.icmpNo XT232.here hx rfl (hb hby at_141) rfl (XT.ii_ne_f c141_236) k_) ?_
            show own_Go p e below _ T232 (mkF m 144 #[oI i0, oI i1, oI i2, oI i3, oI kk, oR kd, oI (2 : Int32), oI (2 : Int32), oI ch0, oI ch1, oI dh0, oI dh1, oR h0.size, oR T163.heap.size, oR T217.heap.size, .unset] [])
            refine own_by (fun t_ k_ => XT.iconstV XT232.here hx rfl (1 : Int32) (hb hby at_144) (by decide) k_) ?_
            show own_Go p e below _ T232 (mkF m 145 #[oI i0, oI i1, oI i2, oI i3, oI kk, oR kd, oI (2 : Int32), oI (2 : Int32), oI ch0, oI ch1, oI dh0, oI dh1, oR h0.size, oR T163.heap.size, oR T217.heap.size, .unset] [(.int (1 : Int32))])
            refine own_by (fun t_ k_ => XS.goto XT232.here hx rfl (pc0 := 145) (pc' := 149) rfl (hb hby at_145) (by decide) (by decide) k_) ?_
            show own_Go p e below _ T232 (mkF m 149 #[oI i0, oI i1, oI i2, oI i3, oI kk, oR kd, oI (2 : Int32), oI (2 : Int32), oI ch0, oI ch1, oI dh0, oI dh1, oR h0.size, oR T163.heap.size, oR T217.heap.size, .unset] [(.int (1 : Int32))])
            refine own_by (fun t_ k_ => XS.istore XT232.here hx rfl (hb hby at_149) rfl (l' := #[oI i0, oI i1, oI i2, oI i3, oI kk, oR kd, oI (2 : Int32), oI (2 : Int32), oI ch0, oI ch1, oI dh0, oI dh1, oR h0.size, oR T163.heap.size, oR T217.heap.size, oI (1 : Int32)]) rfl k_) ?_
            show own_Go p e below _ T232 (mkF m 151 #[oI i0, oI i1, oI i2, oI i3, oI kk, oR kd, oI (2 : Int32), oI (2 : Int32), oI ch0, oI ch1, oI dh0, oI dh1, oR h0.size, oR T163.heap.size, oR T217.heap.size, oI (1 : Int32)] [])
            refine own_by (fun t_ k_ => XS.aload XT232.here hx rfl (hb hby at_151) rfl rfl  k_) ?_
            show own_Go p e below _ T232 (mkF m 153 #[oI i0, oI i1, oI i2, oI i3, oI kk, oR kd, oI (2 : Int32), oI (2 : Int32), oI ch0, oI ch1, oI dh0, oI dh1, oR h0.size, oR T163.heap.size, oR T217.heap.size, oI (1 : Int32)] [(.ref T217.heap.size)])
            refine own_by (fun t_ k_ => XS.aload XT232.here hx rfl (hb hby at_153) rfl rfl  k_) ?_
            show own_Go p e below _ T232 (mkF m 155 #[oI i0, oI i1, oI i2, oI i3, oI kk, oR kd, oI (2 : Int32), oI (2 : Int32), oI ch0, oI ch1, oI dh0, oI dh1, oR h0.size, oR T163.heap.size, oR T217.heap.size, oI (1 : Int32)] [(.ref T163.heap.size), (.ref T217.heap.size)])
            refine own_callV XT232 hx hZ hown (hw _ (List.mem_of_getElem? (i := 68) rfl)) (hw _ (List.mem_of_getElem? (i := 69) rfl)) (hw _ (List.mem_of_getElem? (i := 71) rfl)) (hw _ (List.mem_of_getElem? (i := 70) rfl)) (hw _ (List.mem_of_getElem? (i := 72) rfl)) (hw _ (List.mem_of_getElem? (i := 50) rfl)) (by decide) (rfl : T232.heap = T232.heap) (b := T217.heap.size) fq233_15 (argsL := [(.ref T163.heap.size)]) (rest := []) (own_is_2_2_met l Z a0 hw T217.heap.size T163.heap.size kd w0 h0.size bT163 bT217 kbT163 kbT217 (ch0.toInt8.toInt32) (ch1.toInt8.toInt32) (dh0.toInt8.toInt32) (dh1.toInt8.toInt32) T232.heap cs fq233_1 hcs z221 fq233_2 FkT232 FtT232 fq233_7 fq233_8 fq233_9 fq233_10 fq233_11 fq233_12 fq233_13 fq233_14) 0 (by decide) (by decide) (by rw [hml]; rfl) (lenOf pd_15 rfl) (Nat.le_of_eq rfl) (hb hby at_155) (by decide) (by decide) (st := [(.ref T163.heap.size), (.ref T217.heap.size)]) rfl ?_
            intro T238 LT238 vT238 XT238 hQT238
            obtain ⟨rfl, eT238, rfl⟩ := hQT238
            show own_Go p e below _ T238 (mkF m 158 #[oI i0, oI i1, oI i2, oI i3, oI kk, oR kd, oI (2 : Int32), oI (2 : Int32), oI ch0, oI ch1, oI dh0, oI dh1, oR h0.size, oR T163.heap.size, oR T217.heap.size, oI (1 : Int32)] [(.int (own_is_2_2 T217.heap.size T163.heap.size kd w0 h0.size bT163 bT217 kbT163 kbT217 (ch0.toInt8.toInt32) (ch1.toInt8.toInt32) (dh0.toInt8.toInt32) (dh1.toInt8.toInt32)))])
            have N239 := own_Fr.app N234 own_Fr.nil
            refine own_by (fun t_ k_ => XS.iload XT238.here hx rfl (hb hby at_158) rfl  k_) ?_
            show own_Go p e below _ T238 (mkF m 160 #[oI i0, oI i1, oI i2, oI i3, oI kk, oR kd, oI (2 : Int32), oI (2 : Int32), oI ch0, oI ch1, oI dh0, oI dh1, oR h0.size, oR T163.heap.size, oR T217.heap.size, oI (1 : Int32)] [(.int (1 : Int32)), (.int (own_is_2_2 T217.heap.size T163.heap.size kd w0 h0.size bT163 bT217 kbT163 kbT217 (ch0.toInt8.toInt32) (ch1.toInt8.toInt32) (dh0.toInt8.toInt32) (dh1.toInt8.toInt32)))])
            have hW : kd = w0 := hkd.symm.trans (by rw [own_pick, c108_234, if_pos (by decide)])
            have hfin : (own_is_2_2 T217.heap.size T163.heap.size kd w0 h0.size bT163 bT217 kbT163 kbT217 (ch0.toInt8.toInt32) (ch1.toInt8.toInt32) (dh0.toInt8.toInt32) (dh1.toInt8.toInt32)) = (1 : Int32) := by rw [show (own_is_2_2 T217.heap.size T163.heap.size kd w0 h0.size bT163 bT217 kbT163 kbT217 (ch0.toInt8.toInt32) (ch1.toInt8.toInt32) (dh0.toInt8.toInt32) (dh1.toInt8.toInt32)) = (1 : Int32) by rw [own_is_2_2, if_pos hW, if_neg (by rw [show (own_eq_2_2 h0.size T163.heap.size bT163 bT217 kbT163 kbT217 (ch0.toInt8.toInt32) (ch1.toInt8.toInt32) (dh0.toInt8.toInt32) (dh1.toInt8.toInt32)) = (1 : Int32) by rw [own_eq_2_2, if_neg (by rw [show (own_le_2_2 bT163 bT217 kbT163 kbT217 (ch0.toInt8.toInt32) (ch1.toInt8.toInt32) (dh0.toInt8.toInt32) (dh1.toInt8.toInt32)) = (1 : Int32) by rw [own_le_2_2, if_pos (by rw [c128_235]), if_pos (by rw [c141_236])]]; decide)]]; decide)]]
            refine own_by (fun t_ k_ => XS.icmpNo XT238.here hx rfl (hb hby at_160) rfl (XT.ii_ne_f hfin) k_) ?_
            show own_Go p e below _ T238 (mkF m 163 #[oI i0, oI i1, oI i2, oI i3, oI kk, oR kd, oI (2 : Int32), oI (2 : Int32), oI ch0, oI ch1, oI dh0, oI dh1, oR h0.size, oR T163.heap.size, oR T217.heap.size, oI (1 : Int32)] [])
            refine own_by (fun t_ k_ => XT.iconstV XT238.here hx rfl (1 : Int32) (hb hby at_163) (by decide) k_) ?_
            show own_Go p e below _ T238 (mkF m 164 #[oI i0, oI i1, oI i2, oI i3, oI kk, oR kd, oI (2 : Int32), oI (2 : Int32), oI ch0, oI ch1, oI dh0, oI dh1, oR h0.size, oR T163.heap.size, oR T217.heap.size, oI (1 : Int32)] [(.int (1 : Int32))])
            refine own_by (fun t_ k_ => XS.goto XT238.here hx rfl (pc0 := 164) (pc' := 168) rfl (hb hby at_164) (by decide) (by decide) k_) ?_
            show own_Go p e below _ T238 (mkF m 168 #[oI i0, oI i1, oI i2, oI i3, oI kk, oR kd, oI (2 : Int32), oI (2 : Int32), oI ch0, oI ch1, oI dh0, oI dh1, oR h0.size, oR T163.heap.size, oR T217.heap.size, oI (1 : Int32)] [(.int (1 : Int32))])
            exact own_retNW XT238 hx hlk hZ hEL hS eT238 hk0 hC hret (by simp) (w := (1 : Int32)) (hb hby at_168) (by decide) (by decide) (by decide) (⟨rfl, (N239).to (Nat.le_refl _)⟩)
          · refine own_by (fun t_ k_ => XS.icmpYes XT232.here hx rfl (pc0 := 141) (pc' := 148) rfl (hb hby at_141) rfl (XT.ii_ne_t c141_236) (by decide) (by decide) k_) ?_
            show own_Go p e below _ T232 (mkF m 148 #[oI i0, oI i1, oI i2, oI i3, oI kk, oR kd, oI (2 : Int32), oI (2 : Int32), oI ch0, oI ch1, oI dh0, oI dh1, oR h0.size, oR T163.heap.size, oR T217.heap.size, .unset] [])
            refine own_by (fun t_ k_ => XT.iconstV XT232.here hx rfl (0 : Int32) (hb hby at_148) (by decide) k_) ?_
            show own_Go p e below _ T232 (mkF m 149 #[oI i0, oI i1, oI i2, oI i3, oI kk, oR kd, oI (2 : Int32), oI (2 : Int32), oI ch0, oI ch1, oI dh0, oI dh1, oR h0.size, oR T163.heap.size, oR T217.heap.size, .unset] [(.int (0 : Int32))])
            refine own_by (fun t_ k_ => XS.istore XT232.here hx rfl (hb hby at_149) rfl (l' := #[oI i0, oI i1, oI i2, oI i3, oI kk, oR kd, oI (2 : Int32), oI (2 : Int32), oI ch0, oI ch1, oI dh0, oI dh1, oR h0.size, oR T163.heap.size, oR T217.heap.size, oI (0 : Int32)]) rfl k_) ?_
            show own_Go p e below _ T232 (mkF m 151 #[oI i0, oI i1, oI i2, oI i3, oI kk, oR kd, oI (2 : Int32), oI (2 : Int32), oI ch0, oI ch1, oI dh0, oI dh1, oR h0.size, oR T163.heap.size, oR T217.heap.size, oI (0 : Int32)] [])
            refine own_by (fun t_ k_ => XS.aload XT232.here hx rfl (hb hby at_151) rfl rfl  k_) ?_
            show own_Go p e below _ T232 (mkF m 153 #[oI i0, oI i1, oI i2, oI i3, oI kk, oR kd, oI (2 : Int32), oI (2 : Int32), oI ch0, oI ch1, oI dh0, oI dh1, oR h0.size, oR T163.heap.size, oR T217.heap.size, oI (0 : Int32)] [(.ref T217.heap.size)])
            refine own_by (fun t_ k_ => XS.aload XT232.here hx rfl (hb hby at_153) rfl rfl  k_) ?_
            show own_Go p e below _ T232 (mkF m 155 #[oI i0, oI i1, oI i2, oI i3, oI kk, oR kd, oI (2 : Int32), oI (2 : Int32), oI ch0, oI ch1, oI dh0, oI dh1, oR h0.size, oR T163.heap.size, oR T217.heap.size, oI (0 : Int32)] [(.ref T163.heap.size), (.ref T217.heap.size)])
            refine own_callV XT232 hx hZ hown (hw _ (List.mem_of_getElem? (i := 68) rfl)) (hw _ (List.mem_of_getElem? (i := 69) rfl)) (hw _ (List.mem_of_getElem? (i := 71) rfl)) (hw _ (List.mem_of_getElem? (i := 70) rfl)) (hw _ (List.mem_of_getElem? (i := 72) rfl)) (hw _ (List.mem_of_getElem? (i := 50) rfl)) (by decide) (rfl : T232.heap = T232.heap) (b := T217.heap.size) fq233_15 (argsL := [(.ref T163.heap.size)]) (rest := []) (own_is_2_2_met l Z a0 hw T217.heap.size T163.heap.size kd w0 h0.size bT163 bT217 kbT163 kbT217 (ch0.toInt8.toInt32) (ch1.toInt8.toInt32) (dh0.toInt8.toInt32) (dh1.toInt8.toInt32) T232.heap cs fq233_1 hcs z221 fq233_2 FkT232 FtT232 fq233_7 fq233_8 fq233_9 fq233_10 fq233_11 fq233_12 fq233_13 fq233_14) 0 (by decide) (by decide) (by rw [hml]; rfl) (lenOf pd_15 rfl) (Nat.le_of_eq rfl) (hb hby at_155) (by decide) (by decide) (st := [(.ref T163.heap.size), (.ref T217.heap.size)]) rfl ?_
            intro T240 LT240 vT240 XT240 hQT240
            obtain ⟨rfl, eT240, rfl⟩ := hQT240
            show own_Go p e below _ T240 (mkF m 158 #[oI i0, oI i1, oI i2, oI i3, oI kk, oR kd, oI (2 : Int32), oI (2 : Int32), oI ch0, oI ch1, oI dh0, oI dh1, oR h0.size, oR T163.heap.size, oR T217.heap.size, oI (0 : Int32)] [(.int (own_is_2_2 T217.heap.size T163.heap.size kd w0 h0.size bT163 bT217 kbT163 kbT217 (ch0.toInt8.toInt32) (ch1.toInt8.toInt32) (dh0.toInt8.toInt32) (dh1.toInt8.toInt32)))])
            have N241 := own_Fr.app N234 own_Fr.nil
            refine own_by (fun t_ k_ => XS.iload XT240.here hx rfl (hb hby at_158) rfl  k_) ?_
            show own_Go p e below _ T240 (mkF m 160 #[oI i0, oI i1, oI i2, oI i3, oI kk, oR kd, oI (2 : Int32), oI (2 : Int32), oI ch0, oI ch1, oI dh0, oI dh1, oR h0.size, oR T163.heap.size, oR T217.heap.size, oI (0 : Int32)] [(.int (0 : Int32)), (.int (own_is_2_2 T217.heap.size T163.heap.size kd w0 h0.size bT163 bT217 kbT163 kbT217 (ch0.toInt8.toInt32) (ch1.toInt8.toInt32) (dh0.toInt8.toInt32) (dh1.toInt8.toInt32)))])
            have hW : kd = w0 := hkd.symm.trans (by rw [own_pick, c108_234, if_pos (by decide)])
            have hfin : (own_is_2_2 T217.heap.size T163.heap.size kd w0 h0.size bT163 bT217 kbT163 kbT217 (ch0.toInt8.toInt32) (ch1.toInt8.toInt32) (dh0.toInt8.toInt32) (dh1.toInt8.toInt32)) = (0 : Int32) := by rw [show (own_is_2_2 T217.heap.size T163.heap.size kd w0 h0.size bT163 bT217 kbT163 kbT217 (ch0.toInt8.toInt32) (ch1.toInt8.toInt32) (dh0.toInt8.toInt32) (dh1.toInt8.toInt32)) = (0 : Int32) by rw [own_is_2_2, if_pos hW, if_pos (by rw [show (own_eq_2_2 h0.size T163.heap.size bT163 bT217 kbT163 kbT217 (ch0.toInt8.toInt32) (ch1.toInt8.toInt32) (dh0.toInt8.toInt32) (dh1.toInt8.toInt32)) = (0 : Int32) by rw [own_eq_2_2, if_pos (by rw [show (own_le_2_2 bT163 bT217 kbT163 kbT217 (ch0.toInt8.toInt32) (ch1.toInt8.toInt32) (dh0.toInt8.toInt32) (dh1.toInt8.toInt32)) = (0 : Int32) by rw [own_le_2_2, if_pos (by rw [c128_235]), if_neg (fun q => c141_236 (own_ch_i2b Bch1 Bdh1 q))]])]])]]
            refine own_by (fun t_ k_ => XS.icmpNo XT240.here hx rfl (hb hby at_160) rfl (XT.ii_ne_f hfin) k_) ?_
            show own_Go p e below _ T240 (mkF m 163 #[oI i0, oI i1, oI i2, oI i3, oI kk, oR kd, oI (2 : Int32), oI (2 : Int32), oI ch0, oI ch1, oI dh0, oI dh1, oR h0.size, oR T163.heap.size, oR T217.heap.size, oI (0 : Int32)] [])
            refine own_by (fun t_ k_ => XT.iconstV XT240.here hx rfl (1 : Int32) (hb hby at_163) (by decide) k_) ?_
            show own_Go p e below _ T240 (mkF m 164 #[oI i0, oI i1, oI i2, oI i3, oI kk, oR kd, oI (2 : Int32), oI (2 : Int32), oI ch0, oI ch1, oI dh0, oI dh1, oR h0.size, oR T163.heap.size, oR T217.heap.size, oI (0 : Int32)] [(.int (1 : Int32))])
            refine own_by (fun t_ k_ => XS.goto XT240.here hx rfl (pc0 := 164) (pc' := 168) rfl (hb hby at_164) (by decide) (by decide) k_) ?_
            show own_Go p e below _ T240 (mkF m 168 #[oI i0, oI i1, oI i2, oI i3, oI kk, oR kd, oI (2 : Int32), oI (2 : Int32), oI ch0, oI ch1, oI dh0, oI dh1, oR h0.size, oR T163.heap.size, oR T217.heap.size, oI (0 : Int32)] [(.int (1 : Int32))])
            exact own_retNW XT240 hx hlk hZ hEL hS eT240 hk0 hC hret (by simp) (w := (1 : Int32)) (hb hby at_168) (by decide) (by decide) (by decide) (⟨rfl, (N241).to (Nat.le_refl _)⟩)
        · refine own_by (fun t_ k_ => XS.icmpYes XT232.here hx rfl (pc0 := 128) (pc' := 148) rfl (hb hby at_128) rfl (XT.ii_ne_t c128_235) (by decide) (by decide) k_) ?_
          show own_Go p e below _ T232 (mkF m 148 #[oI i0, oI i1, oI i2, oI i3, oI kk, oR kd, oI (2 : Int32), oI (2 : Int32), oI ch0, oI ch1, oI dh0, oI dh1, oR h0.size, oR T163.heap.size, oR T217.heap.size, .unset] [])
          refine own_by (fun t_ k_ => XT.iconstV XT232.here hx rfl (0 : Int32) (hb hby at_148) (by decide) k_) ?_
          show own_Go p e below _ T232 (mkF m 149 #[oI i0, oI i1, oI i2, oI i3, oI kk, oR kd, oI (2 : Int32), oI (2 : Int32), oI ch0, oI ch1, oI dh0, oI dh1, oR h0.size, oR T163.heap.size, oR T217.heap.size, .unset] [(.int (0 : Int32))])
          refine own_by (fun t_ k_ => XS.istore XT232.here hx rfl (hb hby at_149) rfl (l' := #[oI i0, oI i1, oI i2, oI i3, oI kk, oR kd, oI (2 : Int32), oI (2 : Int32), oI ch0, oI ch1, oI dh0, oI dh1, oR h0.size, oR T163.heap.size, oR T217.heap.size, oI (0 : Int32)]) rfl k_) ?_
          show own_Go p e below _ T232 (mkF m 151 #[oI i0, oI i1, oI i2, oI i3, oI kk, oR kd, oI (2 : Int32), oI (2 : Int32), oI ch0, oI ch1, oI dh0, oI dh1, oR h0.size, oR T163.heap.size, oR T217.heap.size, oI (0 : Int32)] [])
          refine own_by (fun t_ k_ => XS.aload XT232.here hx rfl (hb hby at_151) rfl rfl  k_) ?_
          show own_Go p e below _ T232 (mkF m 153 #[oI i0, oI i1, oI i2, oI i3, oI kk, oR kd, oI (2 : Int32), oI (2 : Int32), oI ch0, oI ch1, oI dh0, oI dh1, oR h0.size, oR T163.heap.size, oR T217.heap.size, oI (0 : Int32)] [(.ref T217.heap.size)])
          refine own_by (fun t_ k_ => XS.aload XT232.here hx rfl (hb hby at_153) rfl rfl  k_) ?_
          show own_Go p e below _ T232 (mkF m 155 #[oI i0, oI i1, oI i2, oI i3, oI kk, oR kd, oI (2 : Int32), oI (2 : Int32), oI ch0, oI ch1, oI dh0, oI dh1, oR h0.size, oR T163.heap.size, oR T217.heap.size, oI (0 : Int32)] [(.ref T163.heap.size), (.ref T217.heap.size)])
          refine own_callV XT232 hx hZ hown (hw _ (List.mem_of_getElem? (i := 68) rfl)) (hw _ (List.mem_of_getElem? (i := 69) rfl)) (hw _ (List.mem_of_getElem? (i := 71) rfl)) (hw _ (List.mem_of_getElem? (i := 70) rfl)) (hw _ (List.mem_of_getElem? (i := 72) rfl)) (hw _ (List.mem_of_getElem? (i := 50) rfl)) (by decide) (rfl : T232.heap = T232.heap) (b := T217.heap.size) fq233_15 (argsL := [(.ref T163.heap.size)]) (rest := []) (own_is_2_2_met l Z a0 hw T217.heap.size T163.heap.size kd w0 h0.size bT163 bT217 kbT163 kbT217 (ch0.toInt8.toInt32) (ch1.toInt8.toInt32) (dh0.toInt8.toInt32) (dh1.toInt8.toInt32) T232.heap cs fq233_1 hcs z221 fq233_2 FkT232 FtT232 fq233_7 fq233_8 fq233_9 fq233_10 fq233_11 fq233_12 fq233_13 fq233_14) 0 (by decide) (by decide) (by rw [hml]; rfl) (lenOf pd_15 rfl) (Nat.le_of_eq rfl) (hb hby at_155) (by decide) (by decide) (st := [(.ref T163.heap.size), (.ref T217.heap.size)]) rfl ?_
          intro T242 LT242 vT242 XT242 hQT242
          obtain ⟨rfl, eT242, rfl⟩ := hQT242
          show own_Go p e below _ T242 (mkF m 158 #[oI i0, oI i1, oI i2, oI i3, oI kk, oR kd, oI (2 : Int32), oI (2 : Int32), oI ch0, oI ch1, oI dh0, oI dh1, oR h0.size, oR T163.heap.size, oR T217.heap.size, oI (0 : Int32)] [(.int (own_is_2_2 T217.heap.size T163.heap.size kd w0 h0.size bT163 bT217 kbT163 kbT217 (ch0.toInt8.toInt32) (ch1.toInt8.toInt32) (dh0.toInt8.toInt32) (dh1.toInt8.toInt32)))])
          have N243 := own_Fr.app N234 own_Fr.nil
          refine own_by (fun t_ k_ => XS.iload XT242.here hx rfl (hb hby at_158) rfl  k_) ?_
          show own_Go p e below _ T242 (mkF m 160 #[oI i0, oI i1, oI i2, oI i3, oI kk, oR kd, oI (2 : Int32), oI (2 : Int32), oI ch0, oI ch1, oI dh0, oI dh1, oR h0.size, oR T163.heap.size, oR T217.heap.size, oI (0 : Int32)] [(.int (0 : Int32)), (.int (own_is_2_2 T217.heap.size T163.heap.size kd w0 h0.size bT163 bT217 kbT163 kbT217 (ch0.toInt8.toInt32) (ch1.toInt8.toInt32) (dh0.toInt8.toInt32) (dh1.toInt8.toInt32)))])
          have hW : kd = w0 := hkd.symm.trans (by rw [own_pick, c108_234, if_pos (by decide)])
          have hfin : (own_is_2_2 T217.heap.size T163.heap.size kd w0 h0.size bT163 bT217 kbT163 kbT217 (ch0.toInt8.toInt32) (ch1.toInt8.toInt32) (dh0.toInt8.toInt32) (dh1.toInt8.toInt32)) = (0 : Int32) := by rw [show (own_is_2_2 T217.heap.size T163.heap.size kd w0 h0.size bT163 bT217 kbT163 kbT217 (ch0.toInt8.toInt32) (ch1.toInt8.toInt32) (dh0.toInt8.toInt32) (dh1.toInt8.toInt32)) = (0 : Int32) by rw [own_is_2_2, if_pos hW, if_pos (by rw [show (own_eq_2_2 h0.size T163.heap.size bT163 bT217 kbT163 kbT217 (ch0.toInt8.toInt32) (ch1.toInt8.toInt32) (dh0.toInt8.toInt32) (dh1.toInt8.toInt32)) = (0 : Int32) by rw [own_eq_2_2, if_pos (by rw [show (own_le_2_2 bT163 bT217 kbT163 kbT217 (ch0.toInt8.toInt32) (ch1.toInt8.toInt32) (dh0.toInt8.toInt32) (dh1.toInt8.toInt32)) = (0 : Int32) by rw [own_le_2_2, if_neg (fun q => c128_235 (own_ch_i2b Bch0 Bdh0 q))]])]])]]
          refine own_by (fun t_ k_ => XS.icmpNo XT242.here hx rfl (hb hby at_160) rfl (XT.ii_ne_f hfin) k_) ?_
          show own_Go p e below _ T242 (mkF m 163 #[oI i0, oI i1, oI i2, oI i3, oI kk, oR kd, oI (2 : Int32), oI (2 : Int32), oI ch0, oI ch1, oI dh0, oI dh1, oR h0.size, oR T163.heap.size, oR T217.heap.size, oI (0 : Int32)] [])
          refine own_by (fun t_ k_ => XT.iconstV XT242.here hx rfl (1 : Int32) (hb hby at_163) (by decide) k_) ?_
          show own_Go p e below _ T242 (mkF m 164 #[oI i0, oI i1, oI i2, oI i3, oI kk, oR kd, oI (2 : Int32), oI (2 : Int32), oI ch0, oI ch1, oI dh0, oI dh1, oR h0.size, oR T163.heap.size, oR T217.heap.size, oI (0 : Int32)] [(.int (1 : Int32))])
          refine own_by (fun t_ k_ => XS.goto XT242.here hx rfl (pc0 := 164) (pc' := 168) rfl (hb hby at_164) (by decide) (by decide) k_) ?_
          show own_Go p e below _ T242 (mkF m 168 #[oI i0, oI i1, oI i2, oI i3, oI kk, oR kd, oI (2 : Int32), oI (2 : Int32), oI ch0, oI ch1, oI dh0, oI dh1, oR h0.size, oR T163.heap.size, oR T217.heap.size, oI (0 : Int32)] [(.int (1 : Int32))])
          exact own_retNW XT242 hx hlk hZ hEL hS eT242 hk0 hC hret (by simp) (w := (1 : Int32)) (hb hby at_168) (by decide) (by decide) (by decide) (⟨rfl, (N243).to (Nat.le_refl _)⟩)
      · refine own_by (fun t_ k_ => XS.ifYes XT232.here hx rfl (pc0 := 108) (pc' := 148) rfl (hb hby at_108) rfl (XT.i0_ne_t c108_234) (by decide) (by decide) k_) ?_
        show own_Go p e below _ T232 (mkF m 148 #[oI i0, oI i1, oI i2, oI i3, oI kk, oR kd, oI (2 : Int32), oI (2 : Int32), oI ch0, oI ch1, oI dh0, oI dh1, oR h0.size, oR T163.heap.size, oR T217.heap.size, .unset] [])
        refine own_by (fun t_ k_ => XT.iconstV XT232.here hx rfl (0 : Int32) (hb hby at_148) (by decide) k_) ?_
        show own_Go p e below _ T232 (mkF m 149 #[oI i0, oI i1, oI i2, oI i3, oI kk, oR kd, oI (2 : Int32), oI (2 : Int32), oI ch0, oI ch1, oI dh0, oI dh1, oR h0.size, oR T163.heap.size, oR T217.heap.size, .unset] [(.int (0 : Int32))])
        refine own_by (fun t_ k_ => XS.istore XT232.here hx rfl (hb hby at_149) rfl (l' := #[oI i0, oI i1, oI i2, oI i3, oI kk, oR kd, oI (2 : Int32), oI (2 : Int32), oI ch0, oI ch1, oI dh0, oI dh1, oR h0.size, oR T163.heap.size, oR T217.heap.size, oI (0 : Int32)]) rfl k_) ?_
        show own_Go p e below _ T232 (mkF m 151 #[oI i0, oI i1, oI i2, oI i3, oI kk, oR kd, oI (2 : Int32), oI (2 : Int32), oI ch0, oI ch1, oI dh0, oI dh1, oR h0.size, oR T163.heap.size, oR T217.heap.size, oI (0 : Int32)] [])
        refine own_by (fun t_ k_ => XS.aload XT232.here hx rfl (hb hby at_151) rfl rfl  k_) ?_
        show own_Go p e below _ T232 (mkF m 153 #[oI i0, oI i1, oI i2, oI i3, oI kk, oR kd, oI (2 : Int32), oI (2 : Int32), oI ch0, oI ch1, oI dh0, oI dh1, oR h0.size, oR T163.heap.size, oR T217.heap.size, oI (0 : Int32)] [(.ref T217.heap.size)])
        refine own_by (fun t_ k_ => XS.aload XT232.here hx rfl (hb hby at_153) rfl rfl  k_) ?_
        show own_Go p e below _ T232 (mkF m 155 #[oI i0, oI i1, oI i2, oI i3, oI kk, oR kd, oI (2 : Int32), oI (2 : Int32), oI ch0, oI ch1, oI dh0, oI dh1, oR h0.size, oR T163.heap.size, oR T217.heap.size, oI (0 : Int32)] [(.ref T163.heap.size), (.ref T217.heap.size)])
        refine own_callV XT232 hx hZ hown (hw _ (List.mem_of_getElem? (i := 68) rfl)) (hw _ (List.mem_of_getElem? (i := 69) rfl)) (hw _ (List.mem_of_getElem? (i := 71) rfl)) (hw _ (List.mem_of_getElem? (i := 70) rfl)) (hw _ (List.mem_of_getElem? (i := 72) rfl)) (hw _ (List.mem_of_getElem? (i := 50) rfl)) (by decide) (rfl : T232.heap = T232.heap) (b := T217.heap.size) fq233_15 (argsL := [(.ref T163.heap.size)]) (rest := []) (own_is_2_2_met l Z a0 hw T217.heap.size T163.heap.size kd w0 h0.size bT163 bT217 kbT163 kbT217 (ch0.toInt8.toInt32) (ch1.toInt8.toInt32) (dh0.toInt8.toInt32) (dh1.toInt8.toInt32) T232.heap cs fq233_1 hcs z221 fq233_2 FkT232 FtT232 fq233_7 fq233_8 fq233_9 fq233_10 fq233_11 fq233_12 fq233_13 fq233_14) 0 (by decide) (by decide) (by rw [hml]; rfl) (lenOf pd_15 rfl) (Nat.le_of_eq rfl) (hb hby at_155) (by decide) (by decide) (st := [(.ref T163.heap.size), (.ref T217.heap.size)]) rfl ?_
        intro T244 LT244 vT244 XT244 hQT244
        obtain ⟨rfl, eT244, rfl⟩ := hQT244
        show own_Go p e below _ T244 (mkF m 158 #[oI i0, oI i1, oI i2, oI i3, oI kk, oR kd, oI (2 : Int32), oI (2 : Int32), oI ch0, oI ch1, oI dh0, oI dh1, oR h0.size, oR T163.heap.size, oR T217.heap.size, oI (0 : Int32)] [(.int (own_is_2_2 T217.heap.size T163.heap.size kd w0 h0.size bT163 bT217 kbT163 kbT217 (ch0.toInt8.toInt32) (ch1.toInt8.toInt32) (dh0.toInt8.toInt32) (dh1.toInt8.toInt32)))])
        have N245 := own_Fr.app N234 own_Fr.nil
        refine own_by (fun t_ k_ => XS.iload XT244.here hx rfl (hb hby at_158) rfl  k_) ?_
        show own_Go p e below _ T244 (mkF m 160 #[oI i0, oI i1, oI i2, oI i3, oI kk, oR kd, oI (2 : Int32), oI (2 : Int32), oI ch0, oI ch1, oI dh0, oI dh1, oR h0.size, oR T163.heap.size, oR T217.heap.size, oI (0 : Int32)] [(.int (0 : Int32)), (.int (own_is_2_2 T217.heap.size T163.heap.size kd w0 h0.size bT163 bT217 kbT163 kbT217 (ch0.toInt8.toInt32) (ch1.toInt8.toInt32) (dh0.toInt8.toInt32) (dh1.toInt8.toInt32)))])
        have hW : ¬ kd = w0 := fun q => own_pick_ne kk w0 w1 w2 w3 w4 c108_234 (F1.ne F0 (by decide)) (F2.ne F0 (by decide)) (F3.ne F0 (by decide)) (F4.ne F0 (by decide)) (hkd.trans q)
        have hfin : (own_is_2_2 T217.heap.size T163.heap.size kd w0 h0.size bT163 bT217 kbT163 kbT217 (ch0.toInt8.toInt32) (ch1.toInt8.toInt32) (dh0.toInt8.toInt32) (dh1.toInt8.toInt32)) = (0 : Int32) := by rw [show (own_is_2_2 T217.heap.size T163.heap.size kd w0 h0.size bT163 bT217 kbT163 kbT217 (ch0.toInt8.toInt32) (ch1.toInt8.toInt32) (dh0.toInt8.toInt32) (dh1.toInt8.toInt32)) = (0 : Int32) by rw [own_is_2_2, if_neg hW]]
        refine own_by (fun t_ k_ => XS.icmpNo XT244.here hx rfl (hb hby at_160) rfl (XT.ii_ne_f hfin) k_) ?_
        show own_Go p e below _ T244 (mkF m 163 #[oI i0, oI i1, oI i2, oI i3, oI kk, oR kd, oI (2 : Int32), oI (2 : Int32), oI ch0, oI ch1, oI dh0, oI dh1, oR h0.size, oR T163.heap.size, oR T217.heap.size, oI (0 : Int32)] [])
        refine own_by (fun t_ k_ => XT.iconstV XT244.here hx rfl (1 : Int32) (hb hby at_163) (by decide) k_) ?_
        show own_Go p e below _ T244 (mkF m 164 #[oI i0, oI i1, oI i2, oI i3, oI kk, oR kd, oI (2 : Int32), oI (2 : Int32), oI ch0, oI ch1, oI dh0, oI dh1, oR h0.size, oR T163.heap.size, oR T217.heap.size, oI (0 : Int32)] [(.int (1 : Int32))])
        refine own_by (fun t_ k_ => XS.goto XT244.here hx rfl (pc0 := 164) (pc' := 168) rfl (hb hby at_164) (by decide) (by decide) k_) ?_
        show own_Go p e below _ T244 (mkF m 168 #[oI i0, oI i1, oI i2, oI i3, oI kk, oR kd, oI (2 : Int32), oI (2 : Int32), oI ch0, oI ch1, oI dh0, oI dh1, oR h0.size, oR T163.heap.size, oR T217.heap.size, oI (0 : Int32)] [(.int (1 : Int32))])
        exact own_retNW XT244 hx hlk hZ hEL hS eT244 hk0 hC hret (by simp) (w := (1 : Int32)) (hb hby at_168) (by decide) (by decide) (by decide) (⟨rfl, (N245).to (Nat.le_refl _)⟩)
set_option maxRecDepth 65536 in
set_option maxHeartbeats 40000000 in
theorem comes_1 {Post : Tables → Env → Array Value → State → Outcome → State → Prop} (hpost : ∀ tb e args s v u, (limb_1_1.after args s (.returned v) u = true ∧ limb_1_2.after args s (.returned v) u = true ∧ True) → FramedW s (.returned v) u (Jvm.fieldLocs frame_1_writes args s ++ Jvm.arrayLocs frame_1_arrays args s ++ Jvm.staticLocs frame_1_statics s) 24 1152 → Post tb e args s (.returned v) u) :
    ArmFor flags0 classFile x code maxLocals ret World_1 tables_1 room_1 Calls_1 rest_1 Pre_1 Post := by
  intro l hfl _ _ p e ha hc hk s m args below hf hA hF happ hP
  obtain ⟨hcalls, hrest, hpre⟩ := hP
  obtain ⟨-, -, -, hnamed, -, -, -, hat⟩ := (Spec.applies_iff hf).mp happ
  obtain ⟨hg, hn⟩ := and_e (Cond.before_iff.mp (show (Jvm.Cond.and given_1 narrow_1).before args s = true from hpre))
  obtain ⟨g0, rg0⟩ := and_e hg
  obtain ⟨g1, rg1⟩ := and_e rg0
  obtain ⟨g2, rg2⟩ := and_e rg1
  obtain ⟨g3, rg3⟩ := and_e rg2
  have g4 := rg3
  obtain ⟨w0, w1, w2, w3, rfl⟩ : ∃ w0 w1 w2 w3 : Value, args = #[w0, w1, w2, w3] := by
    have hs : args.size = 4 := by simpa [Cond.value] using g0
    obtain ⟨L⟩ := args
    match L, hs with
    | [w0, w1, w2, w3], _ => exact ⟨w0, w1, w2, w3, rfl⟩
  have hw := fun d (hd : d ∈ tables_1) => atoms_spec (ws := Jvm.Cond.code x code maxLocals ret :: tables_1) hat d (List.mem_cons_of_mem _ hd)
  obtain ⟨i0, ei0⟩ := is_v g1
  obtain rfl : w0 = (.int i0) := Option.some.inj ei0
  obtain ⟨i1, ei1⟩ := is_v g2
  obtain rfl : w1 = (.int i1) := Option.some.inj ei1
  obtain ⟨i2, ei2⟩ := is_v g3
  obtain rfl : w2 = (.int i2) := Option.some.inj ei2
  obtain ⟨i3, ei3⟩ := is_v g4
  obtain rfl : w3 = (.int i3) := Option.some.inj ei3
  obtain ⟨hsets, hown0⟩ := atoms_of _ (rest_1_c_eq ▸ (show rest_1_c.before _ s = true from hrest))
  obtain ⟨cs0, es0⟩ := is_v (Cond.before_iff.mp (hsets _ (List.mem_of_getElem? (i := 1) rfl)))
  have Cs0 : Sta s s.heap "java/lang/String" "COMPACT_STRINGS" "Z" (.int cs0) := Sta.start es0 (Or.inl (hsets _ (List.mem_of_getElem? (i := 0) rfl)))
  have hcs0 : ¬ (cs0 = (0 : Int32)) := gotF (Cond.eq_ints es0 (Term.int_eval (0))) (not_v (Cond.before_iff.mp (hsets _ (List.mem_of_getElem? (i := 2) rfl))))
  obtain ⟨fm0, ef0, rf0⟩ := isR_v (Cond.before_iff.mp (hsets _ (List.mem_of_getElem? (i := 8) rfl)))
  have Fm0 : Sta s s.heap "jdk/internal/util/Preconditions" "SIOOBE_FORMATTER" "Ljava/util/function/BiFunction;" fm0 := Sta.start ef0 (Or.inl (hsets _ (List.mem_of_getElem? (i := 7) rfl)))
  obtain ⟨n0, rn0⟩ := and_e hn
  obtain ⟨n1, rn1⟩ := and_e rn0
  obtain ⟨n2, rn2⟩ := and_e rn1
  obtain ⟨n3, rn3⟩ := and_e rn2
  obtain ⟨n4, rn4⟩ := and_e rn3
  obtain ⟨n5, rn5⟩ := and_e rn4
  obtain ⟨n6, rn6⟩ := and_e rn5
  obtain ⟨n7, rn7⟩ := and_e rn6
  obtain ⟨n8, rn8⟩ := and_e rn7
  have n9 := rn8
  obtain ⟨u0, v0⟩ := exa_v n0
  have S0 := Sta.start v0 (Or.inr ⟨(hw _ (List.mem_of_getElem? (i := 6) rfl)), (hw _ (List.mem_of_getElem? (i := 7) rfl))⟩)
  have E0 := Exa.start v0 n0
  have F0 := Fld.start ((fld_at v0).symm.trans (own_eqi n3))
  obtain ⟨u1, v1⟩ := exa_v n6
  have S1 := Sta.start v1 (Or.inr ⟨(hw _ (List.mem_of_getElem? (i := 6) rfl)), (hw _ (List.mem_of_getElem? (i := 97) rfl))⟩)
  have E1 := Exa.start v1 n6
  have F1 := Fld.start ((fld_at v1).symm.trans (own_eqi n7))
  obtain ⟨u2, v2⟩ := exa_v n1
  have S2 := Sta.start v2 (Or.inr ⟨(hw _ (List.mem_of_getElem? (i := 6) rfl)), (hw _ (List.mem_of_getElem? (i := 83) rfl))⟩)
  have E2 := Exa.start v2 n1
  have F2 := Fld.start ((fld_at v2).symm.trans (own_eqi n2))
  obtain ⟨u3, v3⟩ := exa_v n8
  have S3 := Sta.start v3 (Or.inr ⟨(hw _ (List.mem_of_getElem? (i := 6) rfl)), (hw _ (List.mem_of_getElem? (i := 99) rfl))⟩)
  have E3 := Exa.start v3 n8
  have F3 := Fld.start ((fld_at v3).symm.trans (own_eqi n9))
  obtain ⟨u4, v4⟩ := exa_v n4
  have S4 := Sta.start v4 (Or.inr ⟨(hw _ (List.mem_of_getElem? (i := 6) rfl)), (hw _ (List.mem_of_getElem? (i := 95) rfl))⟩)
  have E4 := Exa.start v4 n4
  have F4 := Fld.start ((fld_at v4).symm.trans (own_eqi n5))
  have hEL : EW s #[(.int i0), (.int i1), (.int i2), (.int i3)] [("java/lang/String", 7)] := (EW.cons (hw _ (List.mem_of_getElem? (i := 45) rfl)) (by decide) EW.nil)
  have hCH : CHv s [("java/lang/String", 7)] s.vm s.heap := CHv.start hEL (show ∀ p ∈ [("java/lang/String", 7)], Jvm.Lit.constHeld s p.1 p.2 from hcalls.1) (hsets _ (List.mem_of_getElem? (i := 2) rfl)) (hw _ (List.mem_of_getElem? (i := 25) rfl)) (hw _ (List.mem_of_getElem? (i := 21) rfl))
  obtain ⟨n, o, h1, h2, h3, _, L, rfl, ⟨rfl, N⟩, -, hq⟩ := own_law l s _ hw _ hEL u0 u1 u2 u3 u4 i0 i1 i2 i3 s.heap cs0 Cs0 hcs0 (List.mem_singleton.mpr rfl) ⟨S0, S1, S2, S3, S4⟩ E0 E1 E2 E3 E4 F0 F1 F2 F3 F4 p e ha hc hk s m _ below hf ((Spec.applies_iff_loose hf).mp happ).1 ⟨rfl, State.Warmed39.refl s, rfl, hCH⟩ trivial
  refine ⟨n, _, h1, h2, h3, hpost _ _ _ _ _ _ ⟨Cond.after_iff.mpr rfl, Cond.after_iff.mpr (eq_i res_at (Term.int_eval (1)) rfl), trivial⟩ ⟨hq.1, hq.2.1, hq.2.2.1, (hq.2.2.2.sift fun y hy => Or.inr (N y hy)).mono (by decide) (by decide)⟩⟩
theorem main_1_1 : Claimed_1_1 := comes_1 fun _ _ _ _ _ _ h hF => ⟨h.1, hF⟩
theorem main_1_2 : Claimed_1_2 := comes_1 fun _ _ _ _ _ _ h hF => ⟨h.2.1, hF⟩
end Jvm.Pilot.@@N@@
namespace Jvm.Pilot.@@N@@
open Jvm Jvm.ClassFile Sem Op Lib Jvm.Free Jvm.Stand Jvm.Pilot.@@N@@.Jvm.D
/-! MADE BY PROGRAM (witnessworld.py) out of the Statement's table words and the real class files: 23 classes; the members and pool entries that the words name. The judged class is class 1, her method 3. -/
namespace start1
open Jvm.ClassFile
def u (s : String) : CpInfo := .utf8 (stringToUtf16 s)
/-- a pool by its gaps: so many unusable entries, then the entry; so many at the end -/
def gap : Nat → List CpInfo → List CpInfo
  | 0, r => r
  | n + 1, r => .unusable :: gap n r
def poolList (es : List (Nat × CpInfo)) (last : Nat) : List CpInfo := es.foldr (fun e r => gap e.1 (e.2 :: r)) (gap last [])
def pool (es : List (Nat × CpInfo)) (last : Nat) : Array CpInfo := ⟨poolList es last⟩
def fileOf (pool : Array CpInfo) (this : Nat) (attrs : Array Attribute := #[]) (ms : Array MethodInfo := #[]) (fl : Nat := 33) (sup : Nat := 0) (ifs : Array Nat := #[]) (fds : Array FieldInfo := #[]) : ClassFile where
  minorVersion := 0
  majorVersion := 65
  constantPool := pool
  accessFlags := fl
  thisClass := this
  superClass := sup
  interfaces := ifs
  fields := fds
  methods := ms
  attributes := attrs
def plain (name : String) (sup : Option ClassId) : Class where
  name := name
  kind := .ordinary
  loader := none
  accessFlags := 33
  super := sup
  interfaces := #[]
  cf := none
  fields := #[]
  methods := #[]
  instanceTypes := #[]
  staticTypes := #[]
  resolved := #[]
  callSites := []
  init := .initialized
  statics := none
  mirror := none

def pool0 : Array CpInfo := pool [(5, u "<init>"), (0, u "()V"), (1, .class_ 10), (1, u "java/lang/Object")] 113

def k0c0 : Code := { maxStack := 0, maxLocals := 1, code := object_method_1_code, exceptionTable := #[], attributes := #[] }
def k0m0 : Method := { name := "<init>", desc := "()V", sig := { parameters := [], returnType := none }, accessFlags := 1, code := some k0c0 }
/-- java/lang/Object -/
def k0 : Class := { plain "java/lang/Object" none with
  accessFlags := 33
  interfaces := #[]
  cf := some (fileOf pool0 8 #[] #[{ accessFlags := 1, nameIndex := 5, descriptorIndex := 6, attributes := #[] }] 33 0 #[] #[])
  fields := #[]
  methods := #[k0m0]
  instanceTypes := #[]
  staticTypes := #[]
  resolved := Array.replicate 124 none
  statics := none }

def pool1 : Array CpInfo := pool [(2, .class_ 4), (1, u "java/lang/Object"), (0, u "<init>"), (0, u "()V"), (0, .fieldref 8 9), (0, .class_ 10), (0, .nameAndType 11 12), (0, u "com/example/nimble_gate/nimblegate/policy/Token$Kind"), (0, u "WORD"), (0, u "Lcom/example/nimble_gate/nimblegate/policy/Token$Kind;"), (0, .fieldref 8 14), (0, .nameAndType 15 12), (0, u "STRING"), (0, .fieldref 8 17), (0, .nameAndType 18 12), (0, u "NUMBER"), (0, .fieldref 8 20), (0, .nameAndType 21 12), (0, u "SYMBOL"), (0, .fieldref 8 23), (0, .nameAndType 24 12), (0, u "END"), (0, .class_ 26), (0, u "java/lang/String"), (0, .methodref 25 28), (0, .nameAndType 5 29), (0, u "([C)V"), (0, .methodref 25 31), (0, .nameAndType 32 33), (0, u "valueOf"), (0, u "(C)Ljava/lang/String;"), (0, .integer 2147483647), (0, .methodref 36 37), (0, .class_ 38), (0, .nameAndType 39 40), (0, u "com/example/nimble_gate/nimblegate/policy/TokenIsWordPinLaw"), (0, u "pick"), (0, u "(I)Lcom/example/nimble_gate/nimblegate/policy/Token$Kind;"), (0, .methodref 36 42), (0, .nameAndType 43 44), (0, u "str"), (0, u "(ICC)Ljava/lang/String;"), (0, .class_ 46), (0, u "com/example/nimble_gate/nimblegate/policy/Token"), (0, .methodref 45 48), (0, .nameAndType 5 49), (0, u "(Lcom/example/nimble_gate/nimblegate/policy/Token$Kind;Ljava/lang/String;II)V"), (0, .methodref 45 51), (0, .nameAndType 52 53), (0, u "isWord"), (0, u "(Ljava/lang/String;)Z"), (3, u "law"), (0, u "(IIII)Z")] 4

def k1m0 : Method := { name := "<init>", desc := "()V", sig := { parameters := [], returnType := none }, accessFlags := 1, code := none }
def k1c1 : Code := { maxStack := 2, maxLocals := 1, code := method_2_code, exceptionTable := #[], attributes := #[] }
def k1m1 : Method := { name := "pick", desc := "(I)Lcom/example/nimble_gate/nimblegate/policy/Token$Kind;", sig := { parameters := [.int], returnType := some (.object "com/example/nimble_gate/nimblegate/policy/Token$Kind") }, accessFlags := 10, code := some k1c1 }
def k1c2 : Code := { maxStack := 6, maxLocals := 3, code := method_3_code, exceptionTable := #[], attributes := #[] }
def k1m2 : Method := { name := "str", desc := "(ICC)Ljava/lang/String;", sig := { parameters := [.int, .char, .char], returnType := some (.object "java/lang/String") }, accessFlags := 10, code := some k1c2 }
def k1c3 : Code := { maxStack := 6, maxLocals := 16, code := code, exceptionTable := #[], attributes := #[] }
def k1m3 : Method := { name := "law", desc := "(IIII)Z", sig := { parameters := [.int, .int, .int, .int], returnType := some .boolean }, accessFlags := 9, code := some k1c3 }
/-- com/example/nimble_gate/nimblegate/policy/TokenIsWordPinLaw -/
def k1 : Class := { plain "com/example/nimble_gate/nimblegate/policy/TokenIsWordPinLaw" (some 0) with
  accessFlags := 49
  interfaces := #[]
  cf := some (fileOf pool1 36 #[] #[{ accessFlags := 1, nameIndex := 5, descriptorIndex := 6, attributes := #[] }, { accessFlags := 10, nameIndex := 39, descriptorIndex := 40, attributes := #[] }, { accessFlags := 10, nameIndex := 43, descriptorIndex := 44, attributes := #[] }, { accessFlags := 9, nameIndex := 57, descriptorIndex := 58, attributes := #[] }] 49 2 #[] #[])
  fields := #[]
  methods := #[k1m0, k1m1, k1m2, k1m3]
  instanceTypes := #[]
  staticTypes := #[]
  resolved := Array.replicate 63 none
  statics := none }

def pool2 : Array CpInfo := pool [(1, .class_ 2), (0, u "java/lang/constant/Constable"), (0, .class_ 4), (0, u "java/lang/Object")] 6

/-- java/lang/constant/Constable -/
def k2 : Class := { plain "java/lang/constant/Constable" (some 0) with
  accessFlags := 1537
  interfaces := #[]
  cf := some (fileOf pool2 1 #[] #[] 1537 3 #[] #[])
  fields := #[]
  methods := #[]
  instanceTypes := #[]
  staticTypes := #[]
  resolved := Array.replicate 11 none
  statics := none }

def pool3 : Array CpInfo := pool [(1, .class_ 2), (0, u "java/lang/Comparable"), (0, .class_ 4), (0, u "java/lang/Object")] 7

/-- java/lang/Comparable -/
def k3 : Class := { plain "java/lang/Comparable" (some 0) with
  accessFlags := 1537
  interfaces := #[]
  cf := some (fileOf pool3 1 #[] #[] 1537 3 #[] #[])
  fields := #[]
  methods := #[]
  instanceTypes := #[]
  staticTypes := #[]
  resolved := Array.replicate 12 none
  statics := none }

def pool4 : Array CpInfo := pool [(1, .class_ 2), (0, u "java/io/Serializable"), (0, .class_ 4), (0, u "java/lang/Object")] 2

/-- java/io/Serializable -/
def k4 : Class := { plain "java/io/Serializable" (some 0) with
  accessFlags := 1537
  interfaces := #[]
  cf := some (fileOf pool4 1 #[] #[] 1537 3 #[] #[])
  fields := #[]
  methods := #[]
  instanceTypes := #[]
  staticTypes := #[]
  resolved := Array.replicate 7 none
  statics := none }

def pool5 : Array CpInfo := pool [(2, .class_ 4), (1, u "java/lang/Enum"), (0, u "name"), (0, u "Ljava/lang/String;"), (2, u "ordinal"), (0, u "I"), (1, .class_ 14), (1, u "java/lang/Object"), (4, u "hash"), (86, .class_ 108), (1, u "java/lang/Enum$EnumDesc"), (2, .class_ 112), (0, u "java/lang/constant/Constable"), (0, .class_ 114), (0, u "java/lang/Comparable"), (0, .class_ 116), (0, u "java/io/Serializable")] 87

/-- java/lang/Enum -/
def k5 : Class := { plain "java/lang/Enum" (some 0) with
  accessFlags := 1057
  interfaces := #[2, 3, 4]
  cf := some (fileOf pool5 2 #[.nestMembers #[106]] #[] 1057 12 #[111, 113, 115] #[{ accessFlags := 18, nameIndex := 5, descriptorIndex := 6, attributes := #[] }, { accessFlags := 18, nameIndex := 9, descriptorIndex := 10, attributes := #[] }, { accessFlags := 2, nameIndex := 19, descriptorIndex := 10, attributes := #[] }])
  fields := #[{ name := "name", type := (.object "java/lang/String"), accessFlags := 18, slot := 0, constantValue := 0 }, { name := "ordinal", type := .int, accessFlags := 18, slot := 1, constantValue := 0 }, { name := "hash", type := .int, accessFlags := 2, slot := 2, constantValue := 0 }]
  methods := #[]
  instanceTypes := #[(.object "java/lang/String"), .int, .int]
  staticTypes := #[]
  resolved := Array.replicate 204 none
  statics := none }

def pool6 : Array CpInfo := pool [(1, .class_ 2), (0, u "com/example/nimble_gate/nimblegate/policy/Token$Kind"), (2, u "WORD"), (0, u "Lcom/example/nimble_gate/nimblegate/policy/Token$Kind;"), (2, u "STRING"), (2, u "NUMBER"), (2, u "SYMBOL"), (2, u "END"), (2, u "$VALUES"), (0, u "[Lcom/example/nimble_gate/nimblegate/policy/Token$Kind;"), (6, .class_ 31), (1, u "java/lang/Enum"), (28, .class_ 61), (0, u "com/example/nimble_gate/nimblegate/policy/Token")] 2

/-- com/example/nimble_gate/nimblegate/policy/Token$Kind -/
def k6 : Class := { plain "com/example/nimble_gate/nimblegate/policy/Token$Kind" (some 5) with
  accessFlags := 16432
  interfaces := #[]
  cf := some (fileOf pool6 1 #[.nestHost 60] #[] 16432 29 #[] #[{ accessFlags := 16409, nameIndex := 5, descriptorIndex := 6, attributes := #[] }, { accessFlags := 16409, nameIndex := 9, descriptorIndex := 6, attributes := #[] }, { accessFlags := 16409, nameIndex := 12, descriptorIndex := 6, attributes := #[] }, { accessFlags := 16409, nameIndex := 15, descriptorIndex := 6, attributes := #[] }, { accessFlags := 16409, nameIndex := 18, descriptorIndex := 6, attributes := #[] }, { accessFlags := 4122, nameIndex := 21, descriptorIndex := 22, attributes := #[] }])
  fields := #[{ name := "WORD", type := (.object "com/example/nimble_gate/nimblegate/policy/Token$Kind"), accessFlags := 16409, slot := 0, constantValue := 0 }, { name := "STRING", type := (.object "com/example/nimble_gate/nimblegate/policy/Token$Kind"), accessFlags := 16409, slot := 1, constantValue := 0 }, { name := "NUMBER", type := (.object "com/example/nimble_gate/nimblegate/policy/Token$Kind"), accessFlags := 16409, slot := 2, constantValue := 0 }, { name := "SYMBOL", type := (.object "com/example/nimble_gate/nimblegate/policy/Token$Kind"), accessFlags := 16409, slot := 3, constantValue := 0 }, { name := "END", type := (.object "com/example/nimble_gate/nimblegate/policy/Token$Kind"), accessFlags := 16409, slot := 4, constantValue := 0 }, { name := "$VALUES", type := (.array (.object "com/example/nimble_gate/nimblegate/policy/Token$Kind")), accessFlags := 4122, slot := 5, constantValue := 0 }]
  methods := #[]
  instanceTypes := #[(.object "java/lang/String"), .int, .int]
  staticTypes := #[(.object "com/example/nimble_gate/nimblegate/policy/Token$Kind"), (.object "com/example/nimble_gate/nimblegate/policy/Token$Kind"), (.object "com/example/nimble_gate/nimblegate/policy/Token$Kind"), (.object "com/example/nimble_gate/nimblegate/policy/Token$Kind"), (.object "com/example/nimble_gate/nimblegate/policy/Token$Kind"), (.array (.object "com/example/nimble_gate/nimblegate/policy/Token$Kind"))]
  resolved := Array.replicate 64 none
  statics := some 0 }

def pool7 : Array CpInfo := pool [(2, .class_ 4), (1, u "java/lang/CharSequence"), (42, .class_ 48), (0, u "java/lang/CharSequence$1CodePointIterator"), (10, .class_ 60), (0, u "java/lang/CharSequence$1CharIterator"), (5, .class_ 67), (0, u "java/lang/Object")] 63

/-- java/lang/CharSequence -/
def k7 : Class := { plain "java/lang/CharSequence" (some 0) with
  accessFlags := 1537
  interfaces := #[]
  cf := some (fileOf pool7 2 #[.nestMembers #[47, 59]] #[] 1537 66 #[] #[])
  fields := #[]
  methods := #[]
  instanceTypes := #[]
  staticTypes := #[]
  resolved := Array.replicate 131 none
  statics := none }

def pool8 : Array CpInfo := pool [(1, .class_ 2), (0, u "java/lang/constant/ConstantDesc"), (0, .class_ 4), (0, u "java/lang/Object")] 32

/-- java/lang/constant/ConstantDesc -/
def k8 : Class := { plain "java/lang/constant/ConstantDesc" (some 0) with
  accessFlags := 1537
  interfaces := #[]
  cf := some (fileOf pool8 1 #[] #[] 1537 3 #[] #[])
  fields := #[]
  methods := #[]
  instanceTypes := #[]
  staticTypes := #[]
  resolved := Array.replicate 37 none
  statics := none }

def pool9 : Array CpInfo := pool [(1, .methodref 2 3), (0, .class_ 4), (0, .nameAndType 5 6), (0, u "java/lang/Object"), (0, u "<init>"), (0, u "()V"), (0, .string 8), (0, u ""), (0, .fieldref 10 11), (0, .class_ 12), (0, .nameAndType 13 14), (0, u "java/lang/String"), (0, u "value"), (0, u "[B"), (0, .fieldref 10 16), (0, .nameAndType 17 18), (0, u "coder"), (0, u "B"), (2, u "hash"), (0, u "I"), (2, u "hashIsZero"), (0, u "Z"), (0, .methodref 10 28), (0, .nameAndType 5 29), (0, u "([CIILjava/lang/Void;)V"), (8, .fieldref 10 39), (0, .nameAndType 40 26), (0, u "COMPACT_STRINGS"), (1, .class_ 44), (1, u "java/lang/StringUTF16"), (0, u "compress"), (1, .methodref 42 48), (0, .nameAndType 49 50), (0, u "coderFromArrayLen"), (0, u "([BI)B"), (2, u "toBytes"), (53, .class_ 109), (1, u "java/lang/StringLatin1"), (67, .methodref 42 178), (0, .nameAndType 45 179), (0, u "([CII)[B"), (29, .methodref 10 210), (0, .nameAndType 5 211), (0, u "([BB)V"), (157, u "(C)Z"), (171, .methodref 107 542), (0, .nameAndType 543 544), (0, u "equals"), (0, u "([B[B)Z"), (28, u "(Ljava/lang/Object;)Z"), (1, .class_ 576), (0, u "java/lang/CharSequence"), (22, u "CASE_INSENSITIVE_ORDER"), (0, u "Ljava/util/Comparator;"), (181, u "valueOf"), (0, u "(C)Ljava/lang/String;"), (226, u "([C)V"), (4, .methodref 107 1016), (0, .nameAndType 1017 369), (0, u "canEncode"), (0, .methodref 107 1019), (0, .nameAndType 53 1020), (0, u "(C)[B"), (80, u "serialPersistentFields"), (0, u "[Ljava/io/ObjectStreamField;"), (0, .class_ 1104), (0, u "java/lang/String$CaseInsensitiveComparator"), (1, .class_ 1107), (0, u "java/io/Serializable"), (0, .class_ 1109), (0, u "java/lang/Comparable"), (0, .class_ 1111), (0, u "java/lang/constant/Constable"), (0, .class_ 1113), (0, u "java/lang/constant/ConstantDesc"), (2, u "serialVersionUID"), (0, u "J"), (3, u "REPL"), (0, u "C"), (2, u "LATIN1"), (1, u "UTF16")] 323

def k9m0 : Method := { name := "<init>", desc := "()V", sig := { parameters := [], returnType := none }, accessFlags := 1, code := none }
def k9c1 : Code := { maxStack := 5, maxLocals := 2, code := jdk_42_method_3_code, exceptionTable := #[], attributes := #[] }
def k9m1 : Method := { name := "<init>", desc := "([C)V", sig := { parameters := [(.array .char)], returnType := none }, accessFlags := 1, code := some k9c1 }
def k9c2 : Code := { maxStack := 2, maxLocals := 3, code := jdk_42_method_66_code, exceptionTable := #[], attributes := #[] }
def k9m2 : Method := { name := "equals", desc := "(Ljava/lang/Object;)Z", sig := { parameters := [(.object "java/lang/Object")], returnType := some .boolean }, accessFlags := 1, code := some k9c2 }
def k9c3 : Code := { maxStack := 4, maxLocals := 1, code := jdk_42_method_139_code, exceptionTable := #[], attributes := #[] }
def k9m3 : Method := { name := "valueOf", desc := "(C)Ljava/lang/String;", sig := { parameters := [.char], returnType := some (.object "java/lang/String") }, accessFlags := 9, code := some k9c3 }
def k9c4 : Code := { maxStack := 4, maxLocals := 6, code := jdk_42_method_149_code, exceptionTable := #[], attributes := #[] }
def k9m4 : Method := { name := "<init>", desc := "([CIILjava/lang/Void;)V", sig := { parameters := [(.array .char), .int, .int, (.object "java/lang/Void")], returnType := none }, accessFlags := 2, code := some k9c4 }
def k9c5 : Code := { maxStack := 2, maxLocals := 3, code := jdk_42_method_151_code, exceptionTable := #[], attributes := #[] }
def k9m5 : Method := { name := "<init>", desc := "([BB)V", sig := { parameters := [(.array .byte), .byte], returnType := none }, accessFlags := 0, code := some k9c5 }
/-- java/lang/String -/
def k9 : Class := { plain "java/lang/String" (some 0) with
  accessFlags := 49
  interfaces := #[4, 3, 7, 2, 8]
  cf := some (fileOf pool9 10 #[.nestMembers #[1103]] #[{ accessFlags := 1, nameIndex := 5, descriptorIndex := 6, attributes := #[] }, { accessFlags := 1, nameIndex := 5, descriptorIndex := 1010, attributes := #[] }, { accessFlags := 1, nameIndex := 543, descriptorIndex := 573, attributes := #[] }, { accessFlags := 9, nameIndex := 782, descriptorIndex := 783, attributes := #[] }, { accessFlags := 2, nameIndex := 5, descriptorIndex := 29, attributes := #[] }, { accessFlags := 0, nameIndex := 5, descriptorIndex := 211, attributes := #[] }] 49 2 #[1106, 1108, 575, 1110, 1112] #[{ accessFlags := 18, nameIndex := 13, descriptorIndex := 14, attributes := #[] }, { accessFlags := 18, nameIndex := 17, descriptorIndex := 18, attributes := #[] }, { accessFlags := 2, nameIndex := 21, descriptorIndex := 22, attributes := #[] }, { accessFlags := 2, nameIndex := 25, descriptorIndex := 26, attributes := #[] }, { accessFlags := 26, nameIndex := 1116, descriptorIndex := 1117, attributes := #[] }, { accessFlags := 24, nameIndex := 40, descriptorIndex := 26, attributes := #[] }, { accessFlags := 26, nameIndex := 1101, descriptorIndex := 1102, attributes := #[] }, { accessFlags := 26, nameIndex := 1121, descriptorIndex := 1122, attributes := #[] }, { accessFlags := 25, nameIndex := 599, descriptorIndex := 600, attributes := #[] }, { accessFlags := 24, nameIndex := 1125, descriptorIndex := 18, attributes := #[] }, { accessFlags := 24, nameIndex := 1127, descriptorIndex := 18, attributes := #[] }])
  fields := #[{ name := "value", type := (.array .byte), accessFlags := 18, slot := 0, constantValue := 0 }, { name := "coder", type := .byte, accessFlags := 18, slot := 1, constantValue := 0 }, { name := "hash", type := .int, accessFlags := 2, slot := 2, constantValue := 0 }, { name := "hashIsZero", type := .boolean, accessFlags := 2, slot := 3, constantValue := 0 }, { name := "serialVersionUID", type := .long, accessFlags := 26, slot := 0, constantValue := 0 }, { name := "COMPACT_STRINGS", type := .boolean, accessFlags := 24, slot := 1, constantValue := 0 }, { name := "serialPersistentFields", type := (.array (.object "java/io/ObjectStreamField")), accessFlags := 26, slot := 2, constantValue := 0 }, { name := "REPL", type := .char, accessFlags := 26, slot := 3, constantValue := 0 }, { name := "CASE_INSENSITIVE_ORDER", type := (.object "java/util/Comparator"), accessFlags := 25, slot := 4, constantValue := 0 }, { name := "LATIN1", type := .byte, accessFlags := 24, slot := 5, constantValue := 0 }, { name := "UTF16", type := .byte, accessFlags := 24, slot := 6, constantValue := 0 }]
  methods := #[k9m0, k9m1, k9m2, k9m3, k9m4, k9m5]
  instanceTypes := #[(.array .byte), .byte, .int, .boolean]
  staticTypes := #[.long, .boolean, (.array (.object "java/io/ObjectStreamField")), .char, (.object "java/util/Comparator"), .byte, .byte]
  resolved := Array.replicate 1451 none
  statics := some 1 }

def pool10 : Array CpInfo := pool [(4, .class_ 6), (1, u "java/lang/Object"), (0, u "<init>"), (0, u "()V"), (5, .class_ 16), (1, u "java/lang/StringLatin1"), (73, u "canEncode"), (14, u "(C)Z"), (15, u "$assertionsDisabled"), (0, u "Z"), (98, .class_ 223), (1, u "java/lang/StringLatin1$LinesSpliterator"), (57, u "equals"), (0, u "([B[B)Z"), (97, u "toBytes"), (1, u "(C)[B"), (7, .class_ 391), (0, u "java/lang/StringLatin1$CharsSpliterator")] 3

def k10m0 : Method := { name := "<init>", desc := "()V", sig := { parameters := [], returnType := none }, accessFlags := 0, code := none }
def k10c1 : Code := { maxStack := 2, maxLocals := 1, code := jdk_43_method_3_code, exceptionTable := #[], attributes := #[] }
def k10m1 : Method := { name := "canEncode", desc := "(C)Z", sig := { parameters := [.char], returnType := some .boolean }, accessFlags := 9, code := some k10c1 }
def k10c2 : Code := { maxStack := 3, maxLocals := 3, code := jdk_43_method_13_code, exceptionTable := #[], attributes := #[] }
def k10m2 : Method := { name := "equals", desc := "([B[B)Z", sig := { parameters := [(.array .byte), (.array .byte)], returnType := some .boolean }, accessFlags := 9, code := some k10c2 }
def k10c3 : Code := { maxStack := 4, maxLocals := 1, code := jdk_43_method_46_code, exceptionTable := #[], attributes := #[] }
def k10m3 : Method := { name := "toBytes", desc := "(C)[B", sig := { parameters := [.char], returnType := some (.array .byte) }, accessFlags := 9, code := some k10c3 }
/-- java/lang/StringLatin1 -/
def k10 : Class := { plain "java/lang/StringLatin1" (some 0) with
  accessFlags := 48
  interfaces := #[]
  cf := some (fileOf pool10 14 #[.nestMembers #[390, 221]] #[{ accessFlags := 0, nameIndex := 7, descriptorIndex := 8, attributes := #[] }, { accessFlags := 9, nameIndex := 90, descriptorIndex := 105, attributes := #[] }, { accessFlags := 9, nameIndex := 281, descriptorIndex := 282, attributes := #[] }, { accessFlags := 9, nameIndex := 380, descriptorIndex := 382, attributes := #[] }] 48 4 #[] #[{ accessFlags := 4120, nameIndex := 121, descriptorIndex := 122, attributes := #[] }])
  fields := #[{ name := "$assertionsDisabled", type := .boolean, accessFlags := 4120, slot := 0, constantValue := 0 }]
  methods := #[k10m0, k10m1, k10m2, k10m3]
  instanceTypes := #[]
  staticTypes := #[.boolean]
  resolved := Array.replicate 395 none
  statics := none }

def pool11 : Array CpInfo := pool [(1, .methodref 2 3), (0, .class_ 4), (0, .nameAndType 5 6), (0, u "java/lang/Object"), (0, u "<init>"), (0, u "()V"), (0, .class_ 8), (0, u "java/lang/Record")] 13

def k11c0 : Code := { maxStack := 1, maxLocals := 1, code := jdk_30_method_1_code, exceptionTable := #[], attributes := #[] }
def k11m0 : Method := { name := "<init>", desc := "()V", sig := { parameters := [], returnType := none }, accessFlags := 4, code := some k11c0 }
/-- java/lang/Record -/
def k11 : Class := { plain "java/lang/Record" (some 0) with
  accessFlags := 1057
  interfaces := #[]
  cf := some (fileOf pool11 7 #[] #[{ accessFlags := 4, nameIndex := 5, descriptorIndex := 6, attributes := #[] }] 1057 2 #[] #[])
  fields := #[]
  methods := #[k11m0]
  instanceTypes := #[]
  staticTypes := #[]
  resolved := Array.replicate 22 none
  statics := none }

def pool12 : Array CpInfo := pool [(1, .methodref 2 3), (0, .class_ 4), (0, .nameAndType 5 6), (0, u "java/lang/Record"), (0, u "<init>"), (0, u "()V"), (0, .fieldref 8 9), (0, .class_ 10), (0, .nameAndType 11 12), (0, u "com/example/nimble_gate/nimblegate/policy/Token"), (0, u "kind"), (0, u "Lcom/example/nimble_gate/nimblegate/policy/Token$Kind;"), (0, .fieldref 8 14), (0, .nameAndType 15 16), (0, u "text"), (0, u "Ljava/lang/String;"), (0, .fieldref 8 18), (0, .nameAndType 19 20), (0, u "line"), (0, u "I"), (0, .fieldref 8 22), (0, .nameAndType 23 20), (0, u "column"), (0, .fieldref 25 26), (0, .class_ 27), (0, .nameAndType 28 12), (0, u "com/example/nimble_gate/nimblegate/policy/Token$Kind"), (0, u "WORD"), (0, .methodref 30 31), (0, .class_ 32), (0, .nameAndType 33 34), (0, u "java/lang/String"), (0, u "equals"), (0, u "(Ljava/lang/Object;)Z"), (32, u "(Lcom/example/nimble_gate/nimblegate/policy/Token$Kind;Ljava/lang/String;II)V"), (3, u "isWord"), (0, u "(Ljava/lang/String;)Z")] 40

def k12c0 : Code := { maxStack := 2, maxLocals := 5, code := prog_15_method_1_code, exceptionTable := #[], attributes := #[] }
def k12m0 : Method := { name := "<init>", desc := "(Lcom/example/nimble_gate/nimblegate/policy/Token$Kind;Ljava/lang/String;II)V", sig := { parameters := [(.object "com/example/nimble_gate/nimblegate/policy/Token$Kind"), (.object "java/lang/String"), .int, .int], returnType := none }, accessFlags := 0, code := some k12c0 }
def k12c1 : Code := { maxStack := 2, maxLocals := 2, code := prog_15_method_2_code, exceptionTable := #[], attributes := #[] }
def k12m1 : Method := { name := "isWord", desc := "(Ljava/lang/String;)Z", sig := { parameters := [(.object "java/lang/String")], returnType := some .boolean }, accessFlags := 0, code := some k12c1 }
/-- com/example/nimble_gate/nimblegate/policy/Token -/
def k12 : Class := { plain "com/example/nimble_gate/nimblegate/policy/Token" (some 11) with
  accessFlags := 48
  interfaces := #[]
  cf := some (fileOf pool12 8 #[.nestMembers #[25]] #[{ accessFlags := 0, nameIndex := 5, descriptorIndex := 67, attributes := #[] }, { accessFlags := 0, nameIndex := 71, descriptorIndex := 72, attributes := #[] }] 48 2 #[] #[{ accessFlags := 18, nameIndex := 11, descriptorIndex := 12, attributes := #[] }, { accessFlags := 18, nameIndex := 15, descriptorIndex := 16, attributes := #[] }, { accessFlags := 18, nameIndex := 19, descriptorIndex := 20, attributes := #[] }, { accessFlags := 18, nameIndex := 23, descriptorIndex := 20, attributes := #[] }])
  fields := #[{ name := "kind", type := (.object "com/example/nimble_gate/nimblegate/policy/Token$Kind"), accessFlags := 18, slot := 0, constantValue := 0 }, { name := "text", type := (.object "java/lang/String"), accessFlags := 18, slot := 1, constantValue := 0 }, { name := "line", type := .int, accessFlags := 18, slot := 2, constantValue := 0 }, { name := "column", type := .int, accessFlags := 18, slot := 3, constantValue := 0 }]
  methods := #[k12m0, k12m1]
  instanceTypes := #[(.object "com/example/nimble_gate/nimblegate/policy/Token$Kind"), (.object "java/lang/String"), .int, .int]
  staticTypes := #[]
  resolved := Array.replicate 113 none
  statics := none }

def pool13 : Array CpInfo := pool [(6, .class_ 8), (1, u "java/lang/Object"), (0, u "<init>"), (0, u "()V"), (1, .class_ 14), (1, u "java/lang/StringUTF16"), (31, u "$assertionsDisabled"), (0, u "Z"), (13, u "HI_BYTE_SHIFT"), (0, u "I"), (2, u "LO_BYTE_SHIFT"), (49, .methodref 12 116), (0, .nameAndType 117 118), (0, u "compress"), (0, u "([CI[BII)I"), (3, u "([CII)[B"), (138, u "coderFromArrayLen"), (0, u "([BI)B"), (106, .class_ 371), (1, u "java/lang/StringUTF16$LinesSpliterator"), (58, u "MAX_LENGTH"), (196, .class_ 628), (0, u "java/lang/StringUTF16$CodePointsSpliterator"), (0, .class_ 630), (0, u "java/lang/StringUTF16$CharsSpliterator")] 4

def k13m0 : Method := { name := "<init>", desc := "()V", sig := { parameters := [], returnType := none }, accessFlags := 0, code := none }
def k13c1 : Code := { maxStack := 2, maxLocals := 2, code := jdk_52_method_15_code, exceptionTable := #[], attributes := #[] }
def k13m1 : Method := { name := "coderFromArrayLen", desc := "([BI)B", sig := { parameters := [(.array .byte), .int], returnType := some .byte }, accessFlags := 8, code := some k13c1 }
def k13c2 : Code := { maxStack := 5, maxLocals := 6, code := jdk_52_method_16_code, exceptionTable := #[], attributes := #[] }
def k13m2 : Method := { name := "compress", desc := "([CII)[B", sig := { parameters := [(.array .char), .int, .int], returnType := some (.array .byte) }, accessFlags := 9, code := some k13c2 }
def k13c3 : Code := { maxStack := 3, maxLocals := 7, code := jdk_52_method_21_code, exceptionTable := #[], attributes := #[] }
def k13m3 : Method := { name := "compress", desc := "([CI[BII)I", sig := { parameters := [(.array .char), .int, (.array .byte), .int, .int], returnType := some .int }, accessFlags := 9, code := some k13c3 }
/-- java/lang/StringUTF16 -/
def k13 : Class := { plain "java/lang/StringUTF16" (some 0) with
  accessFlags := 48
  interfaces := #[]
  cf := some (fileOf pool13 12 #[.nestMembers #[627, 629, 369]] #[{ accessFlags := 0, nameIndex := 9, descriptorIndex := 10, attributes := #[] }, { accessFlags := 8, nameIndex := 261, descriptorIndex := 262, attributes := #[] }, { accessFlags := 9, nameIndex := 117, descriptorIndex := 122, attributes := #[] }, { accessFlags := 9, nameIndex := 117, descriptorIndex := 118, attributes := #[] }] 48 6 #[] #[{ accessFlags := 26, nameIndex := 61, descriptorIndex := 62, attributes := #[] }, { accessFlags := 26, nameIndex := 65, descriptorIndex := 62, attributes := #[] }, { accessFlags := 24, nameIndex := 430, descriptorIndex := 62, attributes := #[] }, { accessFlags := 4120, nameIndex := 46, descriptorIndex := 47, attributes := #[] }])
  fields := #[{ name := "HI_BYTE_SHIFT", type := .int, accessFlags := 26, slot := 0, constantValue := 0 }, { name := "LO_BYTE_SHIFT", type := .int, accessFlags := 26, slot := 1, constantValue := 0 }, { name := "MAX_LENGTH", type := .int, accessFlags := 24, slot := 2, constantValue := 0 }, { name := "$assertionsDisabled", type := .boolean, accessFlags := 4120, slot := 3, constantValue := 0 }]
  methods := #[k13m0, k13m1, k13m2, k13m3]
  instanceTypes := #[]
  staticTypes := #[.int, .int, .int, .boolean]
  resolved := Array.replicate 635 none
  statics := none }

def pool14 : Array CpInfo := pool [(2, .class_ 4), (1, u "java/lang/Object"), (0, u "<init>"), (0, u "()V"), (17, .class_ 26), (1, u "jdk/internal/util/Preconditions"), (28, .class_ 56), (0, u "jdk/internal/util/Preconditions$4"), (57, .class_ 115), (0, u "jdk/internal/util/Preconditions$1"), (7, u "SIOOBE_FORMATTER"), (0, u "Ljava/util/function/BiFunction;"), (0, .class_ 126), (0, u "jdk/internal/util/Preconditions$2"), (3, u "AIOOBE_FORMATTER"), (0, .class_ 132), (0, u "jdk/internal/util/Preconditions$3"), (3, u "IOOBE_FORMATTER")] 57

def k14m0 : Method := { name := "<init>", desc := "()V", sig := { parameters := [], returnType := none }, accessFlags := 1, code := none }
/-- jdk/internal/util/Preconditions -/
def k14 : Class := { plain "jdk/internal/util/Preconditions" (some 0) with
  accessFlags := 33
  interfaces := #[]
  cf := some (fileOf pool14 24 #[.nestMembers #[55, 131, 125, 114]] #[{ accessFlags := 1, nameIndex := 5, descriptorIndex := 6, attributes := #[] }] 33 2 #[] #[{ accessFlags := 25, nameIndex := 123, descriptorIndex := 124, attributes := #[] }, { accessFlags := 25, nameIndex := 130, descriptorIndex := 124, attributes := #[] }, { accessFlags := 25, nameIndex := 136, descriptorIndex := 124, attributes := #[] }])
  fields := #[{ name := "SIOOBE_FORMATTER", type := (.object "java/util/function/BiFunction"), accessFlags := 25, slot := 0, constantValue := 0 }, { name := "AIOOBE_FORMATTER", type := (.object "java/util/function/BiFunction"), accessFlags := 25, slot := 1, constantValue := 0 }, { name := "IOOBE_FORMATTER", type := (.object "java/util/function/BiFunction"), accessFlags := 25, slot := 2, constantValue := 0 }]
  methods := #[k14m0]
  instanceTypes := #[]
  staticTypes := #[(.object "java/util/function/BiFunction"), (.object "java/util/function/BiFunction"), (.object "java/util/function/BiFunction")]
  resolved := Array.replicate 194 none
  statics := some 2 }

def pool15 : Array CpInfo := pool [(9, u "<init>"), (6, .class_ 18), (1, u "java/lang/Object"), (0, u "()V"), (1, .class_ 23), (1, u "jdk/internal/util/ArraysSupport"), (0, u "LOG2_ARRAY_LONG_INDEX_SCALE"), (0, u "I"), (2, u "U"), (0, u "Ljdk/internal/misc/Unsafe;"), (8, u "BIG_ENDIAN"), (0, u "Z"), (8, u "LOG2_BYTE_BIT_SIZE"), (4, u "LOG2_ARRAY_INT_INDEX_SCALE"), (54, u "JLA"), (0, u "Ljdk/internal/access/JavaLangAccess;"), (11, u "LOG2_ARRAY_BOOLEAN_INDEX_SCALE"), (9, u "LOG2_ARRAY_BYTE_INDEX_SCALE"), (5, u "LOG2_ARRAY_CHAR_INDEX_SCALE"), (5, u "LOG2_ARRAY_SHORT_INDEX_SCALE"), (18, u "LOG2_ARRAY_FLOAT_INDEX_SCALE"), (24, u "LOG2_ARRAY_DOUBLE_INDEX_SCALE"), (89, u "T_BOOLEAN"), (2, u "T_CHAR"), (1, u "T_FLOAT"), (1, u "T_DOUBLE"), (1, u "T_BYTE"), (1, u "T_SHORT"), (1, u "T_INT"), (1, u "T_LONG"), (1, u "SOFT_MAX_ARRAY_LENGTH")] 83

def k15m0 : Method := { name := "<init>", desc := "()V", sig := { parameters := [], returnType := none }, accessFlags := 2, code := none }
/-- jdk/internal/util/ArraysSupport -/
def k15 : Class := { plain "jdk/internal/util/ArraysSupport" (some 0) with
  accessFlags := 33
  interfaces := #[]
  cf := some (fileOf pool15 21 #[] #[{ accessFlags := 2, nameIndex := 9, descriptorIndex := 19, attributes := #[] }] 33 16 #[] #[{ accessFlags := 24, nameIndex := 28, descriptorIndex := 29, attributes := #[] }, { accessFlags := 26, nameIndex := 38, descriptorIndex := 39, attributes := #[] }, { accessFlags := 25, nameIndex := 121, descriptorIndex := 25, attributes := #[] }, { accessFlags := 25, nameIndex := 131, descriptorIndex := 25, attributes := #[] }, { accessFlags := 25, nameIndex := 137, descriptorIndex := 25, attributes := #[] }, { accessFlags := 25, nameIndex := 143, descriptorIndex := 25, attributes := #[] }, { accessFlags := 25, nameIndex := 53, descriptorIndex := 25, attributes := #[] }, { accessFlags := 25, nameIndex := 24, descriptorIndex := 25, attributes := #[] }, { accessFlags := 25, nameIndex := 162, descriptorIndex := 25, attributes := #[] }, { accessFlags := 25, nameIndex := 187, descriptorIndex := 25, attributes := #[] }, { accessFlags := 26, nameIndex := 48, descriptorIndex := 25, attributes := #[] }, { accessFlags := 25, nameIndex := 277, descriptorIndex := 25, attributes := #[] }, { accessFlags := 25, nameIndex := 280, descriptorIndex := 25, attributes := #[] }, { accessFlags := 25, nameIndex := 282, descriptorIndex := 25, attributes := #[] }, { accessFlags := 25, nameIndex := 284, descriptorIndex := 25, attributes := #[] }, { accessFlags := 25, nameIndex := 286, descriptorIndex := 25, attributes := #[] }, { accessFlags := 25, nameIndex := 288, descriptorIndex := 25, attributes := #[] }, { accessFlags := 25, nameIndex := 290, descriptorIndex := 25, attributes := #[] }, { accessFlags := 25, nameIndex := 292, descriptorIndex := 25, attributes := #[] }, { accessFlags := 26, nameIndex := 108, descriptorIndex := 109, attributes := #[] }, { accessFlags := 25, nameIndex := 294, descriptorIndex := 25, attributes := #[] }])
  fields := #[{ name := "U", type := (.object "jdk/internal/misc/Unsafe"), accessFlags := 24, slot := 0, constantValue := 0 }, { name := "BIG_ENDIAN", type := .boolean, accessFlags := 26, slot := 1, constantValue := 0 }, { name := "LOG2_ARRAY_BOOLEAN_INDEX_SCALE", type := .int, accessFlags := 25, slot := 2, constantValue := 0 }, { name := "LOG2_ARRAY_BYTE_INDEX_SCALE", type := .int, accessFlags := 25, slot := 3, constantValue := 0 }, { name := "LOG2_ARRAY_CHAR_INDEX_SCALE", type := .int, accessFlags := 25, slot := 4, constantValue := 0 }, { name := "LOG2_ARRAY_SHORT_INDEX_SCALE", type := .int, accessFlags := 25, slot := 5, constantValue := 0 }, { name := "LOG2_ARRAY_INT_INDEX_SCALE", type := .int, accessFlags := 25, slot := 6, constantValue := 0 }, { name := "LOG2_ARRAY_LONG_INDEX_SCALE", type := .int, accessFlags := 25, slot := 7, constantValue := 0 }, { name := "LOG2_ARRAY_FLOAT_INDEX_SCALE", type := .int, accessFlags := 25, slot := 8, constantValue := 0 }, { name := "LOG2_ARRAY_DOUBLE_INDEX_SCALE", type := .int, accessFlags := 25, slot := 9, constantValue := 0 }, { name := "LOG2_BYTE_BIT_SIZE", type := .int, accessFlags := 26, slot := 10, constantValue := 0 }, { name := "T_BOOLEAN", type := .int, accessFlags := 25, slot := 11, constantValue := 0 }, { name := "T_CHAR", type := .int, accessFlags := 25, slot := 12, constantValue := 0 }, { name := "T_FLOAT", type := .int, accessFlags := 25, slot := 13, constantValue := 0 }, { name := "T_DOUBLE", type := .int, accessFlags := 25, slot := 14, constantValue := 0 }, { name := "T_BYTE", type := .int, accessFlags := 25, slot := 15, constantValue := 0 }, { name := "T_SHORT", type := .int, accessFlags := 25, slot := 16, constantValue := 0 }, { name := "T_INT", type := .int, accessFlags := 25, slot := 17, constantValue := 0 }, { name := "T_LONG", type := .int, accessFlags := 25, slot := 18, constantValue := 0 }, { name := "JLA", type := (.object "jdk/internal/access/JavaLangAccess"), accessFlags := 26, slot := 19, constantValue := 0 }, { name := "SOFT_MAX_ARRAY_LENGTH", type := .int, accessFlags := 25, slot := 20, constantValue := 0 }]
  methods := #[k15m0]
  instanceTypes := #[]
  staticTypes := #[(.object "jdk/internal/misc/Unsafe"), .boolean, .int, .int, .int, .int, .int, .int, .int, .int, .int, .int, .int, .int, .int, .int, .int, .int, .int, (.object "jdk/internal/access/JavaLangAccess"), .int]
  resolved := Array.replicate 378 none
  statics := none }

def pool16 : Array CpInfo := pool [(1, u "java/lang/Cloneable"), (0, .class_ 1), (0, u "java/lang/Object"), (0, .class_ 3)] 3

/-- java/lang/Cloneable -/
def k16 : Class := { plain "java/lang/Cloneable" (some 0) with
  accessFlags := 1537
  interfaces := #[]
  cf := some (fileOf pool16 2 #[] #[] 1537 4 #[] #[])
  fields := #[]
  methods := #[]
  instanceTypes := #[]
  staticTypes := #[]
  resolved := Array.replicate 8 none
  statics := none }

/-- the primitive byte -/
def k17 : Class := { plain "byte" none with kind := .primitive 'B', accessFlags := 0x411 }
/-- [B -/
def k18 : Class := { plain "[B" (some 0) with kind := .array 17 .byte, interfaces := #[16, 4], accessFlags := 1041 }

/-- the primitive char -/
def k19 : Class := { plain "char" none with kind := .primitive 'C', accessFlags := 0x411 }
/-- [C -/
def k20 : Class := { plain "[C" (some 0) with kind := .array 19 .char, interfaces := #[16, 4], accessFlags := 1041 }

/-- the primitive int -/
def k21 : Class := { plain "int" none with kind := .primitive 'I', accessFlags := 0x411 }
/-- [I -/
def k22 : Class := { plain "[I" (some 0) with kind := .array 21 .int, interfaces := #[16, 4], accessFlags := 1041 }

def heap : Heap := #[{ cls := 6, slots := #[.ref 3, .ref 4, .ref 5, .ref 6, .ref 7, .null], vm := .statics 6 },
  { cls := 9, slots := #[.long 0, .int 1, .null, .int 0, .null, .int 0, .int 0], vm := .statics 9 },
  { cls := 14, slots := #[.null, .null, .null], vm := .statics 14 },
  { cls := 6, slots := #[.null, .int 0, .int 0], vm := .none },
  { cls := 6, slots := #[.null, .int 1, .int 0], vm := .none },
  { cls := 6, slots := #[.null, .int 2, .int 0], vm := .none },
  { cls := 6, slots := #[.null, .int 3, .int 0], vm := .none },
  { cls := 6, slots := #[.null, .int 4, .int 0], vm := .none }]
def classes : Array Class := #[k0, k1, k2, k3, k4, k5, k6, k7, k8, k9, k10, k11, k12, k13, k14, k15, k16, k17, k18, k19, k20, k21, k22]
def interned : List (Array UInt16 × Addr) := []
def slotsUsed : Nat := 31
def theMethod : MethodId := ⟨1, 3⟩
def args0 : Array Value := #[.int 5, .int 3, .int 4, .int 6]
def aboutOver (below : List Frame) : State where
  vm := { classes := classes, interned := interned.toArray }
  heap := heap
  slotsUsed := slotsUsed
  threads := #[{ frames := .invoking theMethod args0 :: below }]
def below0 : List Frame := [.native { method := ⟨0, 0⟩, args := #[] }]
def about1 : State := aboutOver below0
def p0 : Program := .bare "" "" ""
def e0 : Env := launch0.env 0 0 0
theorem w_frames : about1.frames = Frame.invoking theMethod args0 :: below0 := rfl
set_option maxRecDepth 65536 in
theorem w_args : argsFit about1.vm theMethod args0 = true := by decide +kernel
set_option maxRecDepth 65536 in
theorem w_heap : heapFits about1 = true := by decide +kernel
set_option maxRecDepth 65536 in
theorem w_runnable : about1.curStatus? = some .runnable := by decide +kernel
set_option maxRecDepth 65536 in
theorem w_alone : about1.alone = true := by decide +kernel
set_option maxRecDepth 65536 in
theorem w_named : about1.methodNamed? x = some theMethod := by decide +kernel
set_option maxRecDepth 65536 in
theorem w_hears : about1.hears theMethod below0 = true := by decide +kernel
set_option maxRecDepth 65536 in
theorem w_ripe : about1.ripe theMethod args0 below0 = true := by decide +kernel
theorem w_running : about1.status = .running := rfl
set_option maxRecDepth 65536 in
theorem w_room : about1.hasRoom e0.platform room_1 = true :=
  launch0.hasRoom_least _ room_1 (by decide +kernel) (by decide +kernel) (by decide +kernel) (by decide +kernel) (by decide +kernel) (by decide +kernel)
theorem allAtoms_all (ts : List Jvm.Cond) (a : Array Jvm.Value) (st : Jvm.State) : (allAtoms ts).before a st = ts.all (fun c => c.before a st) := by
  induction ts with
  | nil => rfl
  | cons c t ih =>
    show (Jvm.Cond.and c (allAtoms t)).before a st = _
    rw [Jvm.Cond.before_and, ih, List.all_cons]
def words1 : List Jvm.Cond := Jvm.Cond.code x code maxLocals ret :: tables_1
/-- a 'code' word, met by the world's own term for the bytes: nothing is compared byte by byte -/
theorem code_word {y : MethodName} {bytes : ByteArray} {mx : Nat} {rt : Option FieldType} {a : Array Value} {s : State} {m : MethodId} {meth : Method} {c : Code} (h1 : s.methodNamed? y = some m) (h2 : s.vm.method? m = some meth) (h3 : meth.code = some c) (h4 : c.code = bytes)
    (h5 : (c.maxLocals == mx && c.exceptionTable.isEmpty && decide (c.maxStack ≤ mostOperands) && decide (meth.sig.returnType = rt) && !meth.locks && decide (parseMethodDescriptor y.desc = some meth.sig)) = true) : (Jvm.Cond.code y bytes mx rt).before a s = true := by
  simp only [Bool.and_eq_true, beq_iff_eq, Bool.not_eq_true', decide_eq_true_eq] at h5
  obtain ⟨⟨⟨⟨⟨g1, g2⟩, g3⟩, g4⟩, g5⟩, g6⟩ := h5
  simp [Cond.before, Cond.holds, Cond.value, h1, h2, h3, h4, g1, g2, g3, g4, g5, g6]
def isCode : Jvm.Cond → Bool
  | .code _ _ _ _ => true
  | _ => false
theorem all_split {L : List Jvm.Cond} {P : Jvm.Cond → Bool} (h1 : L.all (fun c => isCode c || P c) = true) (h2 : ∀ c ∈ L.filter isCode, P c = true) : L.all P = true := by
  refine List.all_eq_true.mpr fun c hc => ?_
  have h := List.all_eq_true.mp h1 c hc
  rcases Bool.eq_false_or_eq_true (isCode c) with hi | hi
  · exact h2 c (List.mem_filter.mpr ⟨hc, hi⟩)
  · simpa [hi] using h
set_option maxRecDepth 65536 in
theorem w_c0 : (Jvm.Cond.code x code maxLocals ret).before args0 about1 = true := code_word (m := ⟨1, 3⟩) (meth := k1m3) (c := k1c3) (by decide +kernel) rfl rfl rfl (by decide +kernel)
set_option maxRecDepth 65536 in
theorem w_c1 : (Jvm.Cond.code ({ cls := "com/example/nimble_gate/nimblegate/policy/TokenIsWordPinLaw", name := "pick", desc := "(I)Lcom/example/nimble_gate/nimblegate/policy/Token$Kind;" } : Jvm.MethodName) method_2_code (1 : Nat) (Option.some (Jvm.ClassFile.FieldType.object "com/example/nimble_gate/nimblegate/policy/Token$Kind"))).before args0 about1 = true := code_word (m := ⟨1, 1⟩) (meth := k1m1) (c := k1c1) (by decide +kernel) rfl rfl rfl (by decide +kernel)
set_option maxRecDepth 65536 in
theorem w_c2 : (Jvm.Cond.code ({ cls := "com/example/nimble_gate/nimblegate/policy/TokenIsWordPinLaw", name := "str", desc := "(ICC)Ljava/lang/String;" } : Jvm.MethodName) method_3_code (3 : Nat) (Option.some (Jvm.ClassFile.FieldType.object "java/lang/String"))).before args0 about1 = true := code_word (m := ⟨1, 2⟩) (meth := k1m2) (c := k1c2) (by decide +kernel) rfl rfl rfl (by decide +kernel)
set_option maxRecDepth 65536 in
theorem w_c3 : (Jvm.Cond.code ({ cls := "java/lang/String", name := "valueOf", desc := "(C)Ljava/lang/String;" } : Jvm.MethodName) jdk_42_method_139_code (1 : Nat) (Option.some (Jvm.ClassFile.FieldType.object "java/lang/String"))).before args0 about1 = true := code_word (m := ⟨9, 3⟩) (meth := k9m3) (c := k9c3) (by decide +kernel) rfl rfl rfl (by decide +kernel)
set_option maxRecDepth 65536 in
theorem w_c4 : (Jvm.Cond.code ({ cls := "java/lang/StringLatin1", name := "canEncode", desc := "(C)Z" } : Jvm.MethodName) jdk_43_method_3_code (1 : Nat) (Option.some Jvm.ClassFile.FieldType.boolean)).before args0 about1 = true := code_word (m := ⟨10, 1⟩) (meth := k10m1) (c := k10c1) (by decide +kernel) rfl rfl rfl (by decide +kernel)
set_option maxRecDepth 65536 in
theorem w_c5 : (Jvm.Cond.code ({ cls := "java/lang/StringLatin1", name := "toBytes", desc := "(C)[B" } : Jvm.MethodName) jdk_43_method_46_code (1 : Nat) (Option.some (Jvm.ClassFile.FieldType.array Jvm.ClassFile.FieldType.byte))).before args0 about1 = true := code_word (m := ⟨10, 3⟩) (meth := k10m3) (c := k10c3) (by decide +kernel) rfl rfl rfl (by decide +kernel)
set_option maxRecDepth 65536 in
theorem w_c6 : (Jvm.Cond.code ({ cls := "java/lang/String", name := "<init>", desc := "([BB)V" } : Jvm.MethodName) jdk_42_method_151_code (3 : Nat) (Option.none : Option Jvm.ClassFile.FieldType)).before args0 about1 = true := code_word (m := ⟨9, 5⟩) (meth := k9m5) (c := k9c5) (by decide +kernel) rfl rfl rfl (by decide +kernel)
set_option maxRecDepth 65536 in
theorem w_c7 : (Jvm.Cond.code ({ cls := "java/lang/Object", name := "<init>", desc := "()V" } : Jvm.MethodName) object_method_1_code (1 : Nat) (Option.none : Option Jvm.ClassFile.FieldType)).before args0 about1 = true := code_word (m := ⟨0, 0⟩) (meth := k0m0) (c := k0c0) (by decide +kernel) rfl rfl rfl (by decide +kernel)
set_option maxRecDepth 65536 in
theorem w_c8 : (Jvm.Cond.code ({ cls := "java/lang/String", name := "<init>", desc := "([C)V" } : Jvm.MethodName) jdk_42_method_3_code (2 : Nat) (Option.none : Option Jvm.ClassFile.FieldType)).before args0 about1 = true := code_word (m := ⟨9, 1⟩) (meth := k9m1) (c := k9c1) (by decide +kernel) rfl rfl rfl (by decide +kernel)
set_option maxRecDepth 65536 in
theorem w_c9 : (Jvm.Cond.code ({ cls := "java/lang/String", name := "<init>", desc := "([CIILjava/lang/Void;)V" } : Jvm.MethodName) jdk_42_method_149_code (6 : Nat) (Option.none : Option Jvm.ClassFile.FieldType)).before args0 about1 = true := code_word (m := ⟨9, 4⟩) (meth := k9m4) (c := k9c4) (by decide +kernel) rfl rfl rfl (by decide +kernel)
set_option maxRecDepth 65536 in
theorem w_c10 : (Jvm.Cond.code ({ cls := "com/example/nimble_gate/nimblegate/policy/Token", name := "<init>", desc := "(Lcom/example/nimble_gate/nimblegate/policy/Token$Kind;Ljava/lang/String;II)V" } : Jvm.MethodName) prog_15_method_1_code (5 : Nat) (Option.none : Option Jvm.ClassFile.FieldType)).before args0 about1 = true := code_word (m := ⟨12, 0⟩) (meth := k12m0) (c := k12c0) (by decide +kernel) rfl rfl rfl (by decide +kernel)
set_option maxRecDepth 65536 in
theorem w_c11 : (Jvm.Cond.code ({ cls := "java/lang/Record", name := "<init>", desc := "()V" } : Jvm.MethodName) jdk_30_method_1_code (1 : Nat) (Option.none : Option Jvm.ClassFile.FieldType)).before args0 about1 = true := code_word (m := ⟨11, 0⟩) (meth := k11m0) (c := k11c0) (by decide +kernel) rfl rfl rfl (by decide +kernel)
set_option maxRecDepth 65536 in
theorem w_c12 : (Jvm.Cond.code ({ cls := "com/example/nimble_gate/nimblegate/policy/Token", name := "isWord", desc := "(Ljava/lang/String;)Z" } : Jvm.MethodName) prog_15_method_2_code (2 : Nat) (Option.some Jvm.ClassFile.FieldType.boolean)).before args0 about1 = true := code_word (m := ⟨12, 1⟩) (meth := k12m1) (c := k12c1) (by decide +kernel) rfl rfl rfl (by decide +kernel)
set_option maxRecDepth 65536 in
theorem w_c13 : (Jvm.Cond.code ({ cls := "java/lang/String", name := "equals", desc := "(Ljava/lang/Object;)Z" } : Jvm.MethodName) jdk_42_method_66_code (3 : Nat) (Option.some Jvm.ClassFile.FieldType.boolean)).before args0 about1 = true := code_word (m := ⟨9, 2⟩) (meth := k9m2) (c := k9c2) (by decide +kernel) rfl rfl rfl (by decide +kernel)
set_option maxRecDepth 65536 in
theorem w_c14 : (Jvm.Cond.code ({ cls := "java/lang/StringLatin1", name := "equals", desc := "([B[B)Z" } : Jvm.MethodName) jdk_43_method_13_code (3 : Nat) (Option.some Jvm.ClassFile.FieldType.boolean)).before args0 about1 = true := code_word (m := ⟨10, 2⟩) (meth := k10m2) (c := k10c2) (by decide +kernel) rfl rfl rfl (by decide +kernel)
set_option maxRecDepth 65536 in
theorem w_c15 : (Jvm.Cond.code ({ cls := "java/lang/StringUTF16", name := "compress", desc := "([CII)[B" } : Jvm.MethodName) jdk_52_method_16_code (6 : Nat) (Option.some (Jvm.ClassFile.FieldType.array Jvm.ClassFile.FieldType.byte))).before args0 about1 = true := code_word (m := ⟨13, 2⟩) (meth := k13m2) (c := k13c2) (by decide +kernel) rfl rfl rfl (by decide +kernel)
set_option maxRecDepth 65536 in
theorem w_c16 : (Jvm.Cond.code ({ cls := "java/lang/StringUTF16", name := "compress", desc := "([CI[BII)I" } : Jvm.MethodName) jdk_52_method_21_code (7 : Nat) (Option.some Jvm.ClassFile.FieldType.int)).before args0 about1 = true := code_word (m := ⟨13, 3⟩) (meth := k13m3) (c := k13c3) (by decide +kernel) rfl rfl rfl (by decide +kernel)
set_option maxRecDepth 65536 in
theorem w_c17 : (Jvm.Cond.code ({ cls := "java/lang/StringUTF16", name := "coderFromArrayLen", desc := "([BI)B" } : Jvm.MethodName) jdk_52_method_15_code (2 : Nat) (Option.some Jvm.ClassFile.FieldType.byte)).before args0 about1 = true := code_word (m := ⟨13, 1⟩) (meth := k13m1) (c := k13c1) (by decide +kernel) rfl rfl rfl (by decide +kernel)
def codes1 : List Jvm.Cond := [Jvm.Cond.code x code maxLocals ret, Jvm.Cond.code ({ cls := "com/example/nimble_gate/nimblegate/policy/TokenIsWordPinLaw", name := "pick", desc := "(I)Lcom/example/nimble_gate/nimblegate/policy/Token$Kind;" } : Jvm.MethodName) method_2_code (1 : Nat) (Option.some (Jvm.ClassFile.FieldType.object "com/example/nimble_gate/nimblegate/policy/Token$Kind")), Jvm.Cond.code ({ cls := "com/example/nimble_gate/nimblegate/policy/TokenIsWordPinLaw", name := "str", desc := "(ICC)Ljava/lang/String;" } : Jvm.MethodName) method_3_code (3 : Nat) (Option.some (Jvm.ClassFile.FieldType.object "java/lang/String")), Jvm.Cond.code ({ cls := "java/lang/String", name := "valueOf", desc := "(C)Ljava/lang/String;" } : Jvm.MethodName) jdk_42_method_139_code (1 : Nat) (Option.some (Jvm.ClassFile.FieldType.object "java/lang/String")), Jvm.Cond.code ({ cls := "java/lang/StringLatin1", name := "canEncode", desc := "(C)Z" } : Jvm.MethodName) jdk_43_method_3_code (1 : Nat) (Option.some Jvm.ClassFile.FieldType.boolean), Jvm.Cond.code ({ cls := "java/lang/StringLatin1", name := "toBytes", desc := "(C)[B" } : Jvm.MethodName) jdk_43_method_46_code (1 : Nat) (Option.some (Jvm.ClassFile.FieldType.array Jvm.ClassFile.FieldType.byte)), Jvm.Cond.code ({ cls := "java/lang/String", name := "<init>", desc := "([BB)V" } : Jvm.MethodName) jdk_42_method_151_code (3 : Nat) (Option.none : Option Jvm.ClassFile.FieldType), Jvm.Cond.code ({ cls := "java/lang/Object", name := "<init>", desc := "()V" } : Jvm.MethodName) object_method_1_code (1 : Nat) (Option.none : Option Jvm.ClassFile.FieldType), Jvm.Cond.code ({ cls := "java/lang/String", name := "<init>", desc := "([C)V" } : Jvm.MethodName) jdk_42_method_3_code (2 : Nat) (Option.none : Option Jvm.ClassFile.FieldType), Jvm.Cond.code ({ cls := "java/lang/String", name := "<init>", desc := "([CIILjava/lang/Void;)V" } : Jvm.MethodName) jdk_42_method_149_code (6 : Nat) (Option.none : Option Jvm.ClassFile.FieldType), Jvm.Cond.code ({ cls := "com/example/nimble_gate/nimblegate/policy/Token", name := "<init>", desc := "(Lcom/example/nimble_gate/nimblegate/policy/Token$Kind;Ljava/lang/String;II)V" } : Jvm.MethodName) prog_15_method_1_code (5 : Nat) (Option.none : Option Jvm.ClassFile.FieldType), Jvm.Cond.code ({ cls := "java/lang/Record", name := "<init>", desc := "()V" } : Jvm.MethodName) jdk_30_method_1_code (1 : Nat) (Option.none : Option Jvm.ClassFile.FieldType), Jvm.Cond.code ({ cls := "com/example/nimble_gate/nimblegate/policy/Token", name := "isWord", desc := "(Ljava/lang/String;)Z" } : Jvm.MethodName) prog_15_method_2_code (2 : Nat) (Option.some Jvm.ClassFile.FieldType.boolean), Jvm.Cond.code ({ cls := "java/lang/String", name := "equals", desc := "(Ljava/lang/Object;)Z" } : Jvm.MethodName) jdk_42_method_66_code (3 : Nat) (Option.some Jvm.ClassFile.FieldType.boolean), Jvm.Cond.code ({ cls := "java/lang/StringLatin1", name := "equals", desc := "([B[B)Z" } : Jvm.MethodName) jdk_43_method_13_code (3 : Nat) (Option.some Jvm.ClassFile.FieldType.boolean), Jvm.Cond.code ({ cls := "java/lang/StringUTF16", name := "compress", desc := "([CII)[B" } : Jvm.MethodName) jdk_52_method_16_code (6 : Nat) (Option.some (Jvm.ClassFile.FieldType.array Jvm.ClassFile.FieldType.byte)), Jvm.Cond.code ({ cls := "java/lang/StringUTF16", name := "compress", desc := "([CI[BII)I" } : Jvm.MethodName) jdk_52_method_21_code (7 : Nat) (Option.some Jvm.ClassFile.FieldType.int), Jvm.Cond.code ({ cls := "java/lang/StringUTF16", name := "coderFromArrayLen", desc := "([BI)B" } : Jvm.MethodName) jdk_52_method_15_code (2 : Nat) (Option.some Jvm.ClassFile.FieldType.byte)]
set_option maxRecDepth 65536 in
theorem codes_eq : words1.filter isCode = codes1 := rfl
theorem w_codes : ∀ c ∈ words1.filter isCode, c.before args0 about1 = true := by
  rw [codes_eq]
  intro c hc
  simp only [codes1, List.mem_cons, List.not_mem_nil, or_false] at hc
  rcases hc with rfl | rfl | rfl | rfl | rfl | rfl | rfl | rfl | rfl | rfl | rfl | rfl | rfl | rfl | rfl | rfl | rfl | rfl
  · exact w_c0
  · exact w_c1
  · exact w_c2
  · exact w_c3
  · exact w_c4
  · exact w_c5
  · exact w_c6
  · exact w_c7
  · exact w_c8
  · exact w_c9
  · exact w_c10
  · exact w_c11
  · exact w_c12
  · exact w_c13
  · exact w_c14
  · exact w_c15
  · exact w_c16
  · exact w_c17
set_option maxRecDepth 65536 in
theorem w_t1 : (words1.take 24).all (fun c => isCode c || c.before args0 about1) = true := by decide +kernel
set_option maxRecDepth 65536 in
theorem w_t2 : ((words1.drop 24).take 24).all (fun c => isCode c || c.before args0 about1) = true := by decide +kernel
set_option maxRecDepth 65536 in
theorem w_t3 : (((words1.drop 24).drop 24).take 24).all (fun c => isCode c || c.before args0 about1) = true := by decide +kernel
set_option maxRecDepth 65536 in
theorem w_t4 : ((((words1.drop 24).drop 24).drop 24).take 24).all (fun c => isCode c || c.before args0 about1) = true := by decide +kernel
set_option maxRecDepth 65536 in
theorem w_t5 : ((((words1.drop 24).drop 24).drop 24).drop 24).all (fun c => isCode c || c.before args0 about1) = true := by decide +kernel
theorem w_tables : (allAtoms (Jvm.Cond.code x code maxLocals ret :: tables_1)).before args0 about1 = true := by
  rw [allAtoms_all]
  show words1.all (fun c => c.before args0 about1) = true
  refine all_split ?_ w_codes
  rw [← List.take_append_drop 24 words1, List.all_append, w_t1, ← List.take_append_drop 24 (words1.drop 24), List.all_append, w_t2, ← List.take_append_drop 24 ((words1.drop 24).drop 24), List.all_append, w_t3, ← List.take_append_drop 24 (((words1.drop 24).drop 24).drop 24), List.all_append, w_t4, w_t5]
  rfl
set_option maxRecDepth 65536 in
theorem w_rest : rest_1_c.before args0 about1 = true := by decide +kernel
set_option maxRecDepth 65536 in
theorem w_case : (Jvm.Cond.and given_1 narrow_1).before args0 about1 = true := by decide +kernel
set_option maxRecDepth 65536 in
theorem w_consts : constsHeld consts_1 about1 := Jvm.Lit.constsHeldB_iff.mp (by decide +kernel)
theorem w_applies : (headSpec (Jvm.Cond.code x code maxLocals ret :: tables_1) room_1).applies x e0.platform about1 = true :=
  (Spec.applies_iff w_frames).mpr ⟨w_running, w_runnable, w_alone, w_named, w_hears, w_ripe, w_room, w_tables⟩
theorem atStart : AtStart classFile x code maxLocals ret World_1 tables_1 room_1 Calls_1 rest_1 Pre_1 launch0 p0 e0 about1 theMethod args0 below0 :=
  ⟨lists_1, trivial, launch0.admits_env _ _ _, launch0.least_env, fairChoices_fair.cas, fairChoices_fair.clock, w_frames, w_args, w_heap, w_applies, ⟨w_consts, trivial⟩, w_rest, w_case⟩
end start1
theorem witness_1 : WitnessClaimed_1 := ⟨start1.p0, start1.e0, start1.about1, start1.theMethod, start1.args0, start1.below0, start1.atStart⟩
end Jvm.Pilot.@@N@@
