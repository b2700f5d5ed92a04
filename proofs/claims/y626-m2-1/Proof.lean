import JvmDerived
import JvmDerived.Pilot.@@N@@Statement
import JvmDerived.Pilot.@@N@@Code
set_option linter.unusedVariables false
set_option linter.unusedSimpArgs false
namespace Jvm.Pilot.@@N@@
open Jvm Jvm.ClassFile Sem Op Lib Jvm.Free Jvm.Stand Jvm.LawKit Jvm.RoadKit Bundle Jvm.Pilot.@@N@@.Jvm.D
abbrev oI (x : Int32) : Slot := .val (.int x)
abbrev oR (x : Addr) : Slot := .val (.ref x)
abbrev oD (x : UInt64) : Slot := .val (.double x)
abbrev oF (x : UInt32) : Slot := .val (.float x)
abbrev oJ (x : Int64) : Slot := .val (.long x)
section Own
variable {p : Program} {l : Launch} {e : Env} {R : Room} {s : State} {m : MethodId} {args : Array Value} {below : List Frame} {meth : Method} {c : Code} {T T' : State} {locs : List Loc} {cells slots : Nat} {Z : State} {a0 : Array Value} {h h0 : Heap} {K : State → Outcome → Prop} {Q : Option Value → Heap → List Loc → Prop}
/-- from the frame g over the state T the run comes to an end that K takes -/
def own_Go (p : Program) (e : Env) (below : List Frame) (K : State → Outcome → Prop) (T : State) (g : JFrame) : Prop :=
  ∃ s₂ o, Steps p.tables e below (T.setTop g) s₂ ∧ s₂.status = .running ∧ Ended s₂ below o ∧ K s₂ o
theorem own_by {g g' : JFrame} (h : ∀ t, Steps p.tables e below (T'.setTop g') t → Steps p.tables e below (T.setTop g) t) (k : own_Go p e below K T' g') : own_Go p e below K T g := by
  obtain ⟨s2, o, h1, h2⟩ := k
  exact ⟨s2, o, h _ h1, h2⟩
def own_K (s : State) (k n : Nat) (Q : Option Value → Heap → List Loc → Prop) (t : State) (o : Outcome) : Prop := ∃ v L, o = .returned v ∧ Q v t.heap L ∧ FrameEnd s o t L k n
def own_Met (l : Launch) (y : MethodName) (bytes : ByteArray) (mx : Nat) (ret : Option FieldType) (ws : List Jvm.Cond) (rm : Room) (Z : State) (as' : Array Value) (h0 : Heap) (Q : Option Value → Heap → List Loc → Prop) : Prop :=
  MetFree l y (head1 (Jvm.Cond.code y bytes mx ret :: ws) rm) (fun a U => a = as' ∧ Z.Warmed39 U.vm ∧ U.heap = h0) (fun _ _ _ _ _ => True) (fun _ U o U' => ∃ v L, o = .returned v ∧ Q v U'.heap L ∧ FrameEnd U o U' L rm.cells rm.slots)
theorem own_enter {y : MethodName} {bytes : ByteArray} {mx : Nat} {ret : Option FieldType} {ws : List Jvm.Cond} {rm : Room} {as' : Array Value} (hn : plainName y.cls = true)
    (body : ∀ (p : Program) (e : Env) (s : State) (m : MethodId) (below : List Frame) (meth : Method) (c : Code) (T0 : State), p.tables.exec = Jvm.exec → c.code = bytes → c.maxLocals = mx → meth.sig.returnType = ret → meth.locks = false → s.vm.findClass y.cls = some m.cls → meth.name = y.name → Z.Warmed39 s.vm →
      Stand p l e rm s m as' below meth c T0 [] 0 0 → T0.heap = h0 → own_Go p e below (own_K s rm.cells rm.slots Q) T0 (entryFrame m as' mx)) : own_Met l y bytes mx ret ws rm Z as' h0 Q := by
  refine MetFree.of_bodySF (plainFor_of_name hn) hisR ?_
  intro p e s m args below meth c s₁ Bd hml hP hK
  obtain ⟨rfl, hZ, hh⟩ := hP
  obtain ⟨s2, o, h1, h2, h3, h4⟩ := body p e s m below meth c s₁ Bd.exec Bd.bytes hml Bd.returns Bd.notSynchronized (findClass_of_methodNamed Bd.named) (name_of_methodNamed Bd.named Bd.method).1 hZ (Stand.of_body Bd) (by rw [← hh, Bd.state]; rfl)
  exact ⟨s2, o, h1, h2, h3, h4⟩
theorem own_at {g g' : JFrame} (q : g = g') (k : own_Go p e below K T g') : own_Go p e below K T g := q ▸ k
theorem own_leave (X : Stand p l e R s m args below meth c T locs cells slots) (hlk : meth.locks = false) {v : Option Value} {k n : Nat} (hv : meth.sig.returnType = none → v = none) {g : JFrame}
    (step : ∀ fs, (∀ (f : JFrame) (acts : List Action), f.method = m → f.locked = none → f.entered = [] → (doReturn e (T.setTop f) acts v).1 = T.setFrames fs) → Steps p.tables e below (T.setTop g) (T.setFrames fs)) (hk : cells ≤ k) (hn : slots ≤ n) (hQ : Q v T.heap locs) : own_Go p e below (own_K s k n Q) T g := by
  obtain ⟨fs, hr, hrun, hended, hW, hsame⟩ := X.leave (v := v) hv hlk
  exact ⟨_, _, step fs hr, hrun, hended, v, locs, rfl, hQ, ⟨_, rfl⟩, hW, hsame.mono hk hn⟩
theorem own_retI (X : Stand p l e R s m args below meth c T locs cells slots) (hx : p.tables.exec = Jvm.exec) (hlk : meth.locks = false) (hret : meth.sig.returnType = some .int) {pc : Nat} {Ls : Array Slot} {z : Int32} {rest : List Value} {k n : Nat} (hd : decode c.code pc = .ok (.ireturn, 1)) (hk : cells ≤ k) (hn : slots ≤ n) (hQ : Q (some (.int z)) T.heap locs) :
    own_Go p e below (own_K s k n Q) T (mkF m pc Ls (.int z :: rest)) := by
  refine own_leave X hlk (v := some (.int z)) (fun h => by rw [hret] at h; cases h) (fun fs hl => ?_) hk hn hQ
  have hm' : T.vm.method? m = some meth := X.method'
  have hn : narrow .int (.int z) = .int z := rfl
  show Steps p.tables e below (T.setTop { method := m, pc := pc, locals := Ls, stack := _ :: rest, locked := none }) _
  jvm_step X.here [X.here.top, hx, hd, hm', hret, hn]
  first | (intro acts; rw [hl _ acts rfl rfl rfl]) | rw [hl _ _ rfl rfl rfl]
  exact Steps.refl _
theorem own_retN (X : Stand p l e R s m args below meth c T locs cells slots) (hx : p.tables.exec = Jvm.exec) (hlk : meth.locks = false) {t : FieldType} (hret : meth.sig.returnType = some t) (ht : t = .boolean ∨ t = .byte ∨ t = .char ∨ t = .short) {pc : Nat} {Ls : Array Slot} {z w : Int32} {rest : List Value} {k n : Nat} (hd : decode c.code pc = .ok (.ireturn, 1)) (hw : nar t z = w) (hk : cells ≤ k) (hn : slots ≤ n) (hQ : Q (some (.int w)) T.heap locs) :
    own_Go p e below (own_K s k n Q) T (mkF m pc Ls (.int z :: rest)) := by
  subst hw
  exact own_leave X hlk (v := some (.int (nar t z))) (fun h => by rw [hret] at h; cases h) (fun fs hl => retN X hx hret ht hd hl) hk hn hQ
theorem own_retA (X : Stand p l e R s m args below meth c T locs cells slots) (hx : p.tables.exec = Jvm.exec) (hlk : meth.locks = false) {t : FieldType} (hret : meth.sig.returnType = some t) (ht : t.isReference = true) {pc : Nat} {Ls : Array Slot} {v : Value} (hv : v.isRef = true) {rest : List Value} {k n : Nat} (hd : decode c.code pc = .ok (.areturn, 1)) (hk : cells ≤ k) (hn : slots ≤ n) (hQ : Q (some v) T.heap locs) :
    own_Go p e below (own_K s k n Q) T (mkF m pc Ls (v :: rest)) :=
  own_leave X hlk (v := some v) (fun h => by rw [hret] at h; cases h) (fun fs hl => retOut X hx hret (by cases t <;> first | (cases ht; done) | (rcases ref_cases hv with rfl | ⟨a, rfl⟩ <;> rfl)) (Or.inr (Or.inr (Or.inr (Or.inr ⟨rfl, ht, hv⟩)))) hd hl) hk hn hQ
theorem own_retV (X : Stand p l e R s m args below meth c T locs cells slots) (hx : p.tables.exec = Jvm.exec) (hlk : meth.locks = false) (hret : meth.sig.returnType = none) {pc : Nat} {Ls : Array Slot} {k n : Nat} (hd : decode c.code pc = .ok (.return_, 1)) (hk : cells ≤ k) (hn : slots ≤ n) (hQ : Q none T.heap locs) :
    own_Go p e below (own_K s k n Q) T (mkF m pc Ls []) :=
  own_leave X hlk (v := none) (fun _ => rfl) (fun fs hl => X.returnOut hx hret hd hl) hk hn hQ
theorem own_callS (X : Stand p l e R s m args below meth c T locs cells slots) (hx : p.tables.exec = Jvm.exec) (hZ : Z.Warmed39 s.vm) {own : String} {index : Nat} {y : MethodName} {bytes : ByteArray} {mx : Nat} {ret : Option FieldType} {rm : Room} (hown : s.vm.findClass own = some m.cls) (w1 : (Jvm.Cond.methodLink own index y).before a0 Z = true) (w2 : (Jvm.Cond.static y).before a0 Z = true) (w3 : (Jvm.Cond.initialized y.cls).before a0 Z = true) (w4 : (Jvm.Cond.code y bytes mx ret).before a0 Z = true)
    (hy : y.cls ≠ "java/lang/invoke/MethodHandle" ∧ y.cls ≠ "java/lang/invoke/VarHandle") (eT : T.heap = h) {argsL rest : List Value} (M : own_Met l y bytes mx ret [] rm Z argsL.toArray h Q) (W : Nat) (hf : rm.frames + 1 ≤ R.frames) (hl : W + (mx + 11) + rm.locals ≤ R.locals) {pc : Nat} {Ls : Array Slot} (hsize : Ls.size = c.maxLocals)
    (hlen : ∀ sig, parseMethodDescriptor y.desc = some sig → argsL.length = sig.parameters.length) (hW : (rest.map fun v => v.category).sum ≤ W) (hd : decode c.code pc = .ok (.invokestatic index, 3)) (hc : cells + rm.cells ≤ R.cells) (hs : slots + rm.slots ≤ R.slots) {st : List Value} (hst : st = argsL.reverse ++ rest)
    (k : ∀ (T' : State) (L : List Loc) (v : Option Value), Stand p l e R s m args below meth c T' (locs ++ L) (cells + rm.cells) (slots + rm.slots) → Q v T'.heap L → own_Go p e below K T' (mkF m (pc + 3) Ls (v.toList ++ rest))) : own_Go p e below K T (mkF m pc Ls st) := by
  obtain ⟨v, _, ⟨T1, L1, k1, n1⟩, -, X1, ⟨Lc, hQ, l1, y1, z1⟩, stp⟩ := Jvm.LawKit.callS X hx hown (mvT hZ w1) (mvT hZ w2) (mvT hZ w3) (mvT hZ w4) hy (backOf (W := W) M hZ w4 w3 hf hl) (g := mkF m pc Ls st) rfl hsize (argsL := argsL) (rest := rest) hlen hst (by show 2 * 0 + _ ≤ _; omega) hd (fun _ _ => ⟨rfl, eT, hc, hs⟩)
  dsimp only [Pt.U, Pt.locs, Pt.cells, Pt.slots] at X1 l1 y1 z1 stp hQ
  subst l1 y1 z1
  exact own_by stp (k T1 Lc v X1 hQ)
theorem own_callV (X : Stand p l e R s m args below meth c T locs cells slots) (hx : p.tables.exec = Jvm.exec) (hZ : Z.Warmed39 s.vm) {own C : String} {index : Nat} {y : MethodName} {bytes : ByteArray} {mx : Nat} {ret : Option FieldType} {rm : Room} (hown : s.vm.findClass own = some m.cls) (w1 : (Jvm.Cond.methodLink own index y).before a0 Z = true) (w2 : (Jvm.Cond.declares y).before a0 Z = true) (w3 : (Jvm.Cond.selects C y y).before a0 Z = true) (w4 : (Jvm.Cond.instanceMethod y).before a0 Z = true) (w5 : (Jvm.Cond.code y bytes mx ret).before a0 Z = true) (w6 : (Jvm.Cond.initialized y.cls).before a0 Z = true)
    (hy : y.cls ≠ "java/lang/invoke/MethodHandle" ∧ y.cls ≠ "java/lang/invoke/VarHandle") (eT : T.heap = h) {b : Addr} (E : Exa Z h b C) {argsL rest : List Value} (M : own_Met l y bytes mx ret [] rm Z (.ref b :: argsL).toArray h Q) (W : Nat) (hf : rm.frames + 1 ≤ R.frames) (hl : W + (mx + 11) + rm.locals ≤ R.locals) {pc : Nat} {Ls : Array Slot} (hsize : Ls.size = c.maxLocals)
    (hlen : ∀ sig, parseMethodDescriptor y.desc = some sig → argsL.length = sig.parameters.length) (hW : (rest.map fun v => v.category).sum ≤ W) (hd : decode c.code pc = .ok (.invokevirtual index, 3)) (hc : cells + rm.cells ≤ R.cells) (hs : slots + rm.slots ≤ R.slots) {st : List Value} (hst : st = argsL.reverse ++ .ref b :: rest)
    (k : ∀ (T' : State) (L : List Loc) (v : Option Value), Stand p l e R s m args below meth c T' (locs ++ L) (cells + rm.cells) (slots + rm.slots) → Q v T'.heap L → own_Go p e below K T' (mkF m (pc + 3) Ls (v.toList ++ rest))) : own_Go p e below K T (mkF m pc Ls st) := by
  obtain ⟨cq, kq, qa, qb, qc⟩ := isOf (T := T) hZ eT E
  obtain ⟨v, _, ⟨T1, L1, k1, n1⟩, -, X1, ⟨Lc, hQ, l1, y1, z1⟩, stp⟩ := X.virtualBack hx hown (mvT hZ w1) (mvT hZ w2) (notFace_of_selects (args := #[]) (mvT hZ w3)) (mvT hZ w3) (mvT hZ w4) hy (backOf (W := W) M hZ w5 w6 hf hl) qa qc (g := mkF m pc Ls st) rfl hsize (Steps.refl _) (argsL := argsL) (rest := rest) hlen hst (by show 2 * 0 + _ ≤ _; omega) hd (fun _ _ => ⟨rfl, eT, hc, hs⟩)
  dsimp only [Pt.U, Pt.locs, Pt.cells, Pt.slots] at X1 l1 y1 z1 stp hQ
  subst l1 y1 z1
  exact own_by (fun t q => stp.trans q) (k T1 Lc v X1 hQ)
theorem own_callN (X : Stand p l e R s m args below meth c T locs cells slots) (hx : p.tables.exec = Jvm.exec) (hZ : Z.Warmed39 s.vm) {own : String} {index : Nat} {y : MethodName} {bytes : ByteArray} {mx : Nat} {rm : Room} (hy1 : y.name = "<init>") (hown : s.vm.findClass own = some m.cls) (w1 : (Jvm.Cond.methodLink own index y).before a0 Z = true) (w2 : (Jvm.Cond.instanceMethod y).before a0 Z = true) (w3 : (Jvm.Cond.code y bytes mx none).before a0 Z = true) (w4 : (Jvm.Cond.initialized y.cls).before a0 Z = true)
    (hy : y.cls ≠ "java/lang/invoke/MethodHandle" ∧ y.cls ≠ "java/lang/invoke/VarHandle") (eT : T.heap = h) {b : Addr} {argsL rest : List Value} (M : own_Met l y bytes mx none [] rm Z (.ref b :: argsL).toArray h Q) (W : Nat) (hf : rm.frames + 1 ≤ R.frames) (hl : W + (mx + 11) + rm.locals ≤ R.locals) {pc : Nat} {Ls : Array Slot} (hsize : Ls.size = c.maxLocals)
    (hlen : ∀ sig, parseMethodDescriptor y.desc = some sig → argsL.length = sig.parameters.length) (hW : (rest.map fun v => v.category).sum ≤ W) (hd : decode c.code pc = .ok (.invokespecial index, 3)) (hc : cells + rm.cells ≤ R.cells) (hs : slots + rm.slots ≤ R.slots) {st : List Value} (hst : st = argsL.reverse ++ .ref b :: rest)
    (k : ∀ (T' : State) (L : List Loc) (v : Option Value), Stand p l e R s m args below meth c T' (locs ++ L) (cells + rm.cells) (slots + rm.slots) → Q v T'.heap L → own_Go p e below K T' (mkF m (pc + 3) Ls (v.toList ++ rest))) : own_Go p e below K T (mkF m pc Ls st) := by
  obtain ⟨v, _, ⟨T1, L1, k1, n1⟩, -, X1, ⟨Lc, hQ, l1, y1, z1⟩, stp⟩ := X.specialBack hx hy1 hown (mvT hZ w1) (mvT hZ w2) (mvT hZ w3) hy (backOf (W := W) M hZ w3 w4 hf hl) (g := mkF m pc Ls st) rfl hsize (Steps.refl _) (a := b) (argsL := argsL) (rest := rest) hlen hst (by show 2 * 0 + _ ≤ _; omega) hd (fun _ _ => ⟨rfl, eT, hc, hs⟩)
  dsimp only [Pt.U, Pt.locs, Pt.cells, Pt.slots] at X1 l1 y1 z1 stp hQ
  subst l1 y1 z1
  exact own_by (fun t q => stp.trans q) (k T1 Lc v X1 hQ)
end Own
section OwnHeap
variable {p : Program} {l : Launch} {e : Env} {R : Room} {s : State} {m : MethodId} {args : Array Value} {below : List Frame} {meth : Method} {c : Code} {T T' : State} {locs : List Loc} {cells slots : Nat} {Z : State} {a0 : Array Value} {h h' h0 : Heap} {K : State → Outcome → Prop} {Q : Option Value → Heap → List Loc → Prop} {a b : Addr} {ty : FieldType} {k : ClassId} {vs : List Value} {ws : List Addr} {sl : Nat} {v w : Value} {C n d : String}
/-- the array at a, of the class k, holds just vs -/
def own_A (Z : State) (h : Heap) (a : Addr) (ty : FieldType) (k : ClassId) (vs : List Value) : Prop := ∃ c : Cell, Arr Z h a c ty ∧ c.cls = k ∧ c.slots.toList = vs
theorem own_A.ext (V : own_A Z h a ty k vs) (E : Ext h h') : own_A Z h' a ty k vs := by obtain ⟨c, A, r⟩ := V; exact ⟨c, A.ext E, r⟩
theorem own_A.keep (V : own_A Z h a ty k vs) (K : Keep h h' ws) (q : a ∉ ws) : own_A Z h' a ty k vs := by obtain ⟨c, A, r⟩ := V; exact ⟨c, ⟨K.2.1 a c A.1 q, A.2⟩, r⟩
theorem own_A.other (V : own_A Z h b ty k vs) (W : Wr h h' a sl v) (q : b ≠ a) : own_A Z h' b ty k vs := by obtain ⟨c, A, r⟩ := V; exact ⟨c, A.other W q, r⟩
theorem own_A.set (V : own_A Z h a ty k vs) (W : Wr h h' a sl v) : own_A Z h' a ty k (vs.set sl v) := by
  obtain ⟨c, A, r1, r2⟩ := V
  exact ⟨_, A.same W, r1, by rw [← r2]; simp [Cell.setSlot]⟩
theorem own_A.lt (V : own_A Z h a ty k vs) : a < h.size := by obtain ⟨c, A, -⟩ := V; exact A.lt
theorem own_ek (E : Ext h h') : Keep h h' [] := (Keep.refl h []).ext E
theorem own_stak (F : Sta Z h C n d v) (K : Keep h h' []) : Sta Z h' C n d v := by
  obtain ⟨cf, i, k, f, st, cell, h1, h2, h3, h4, h5, r⟩ := F
  exact ⟨cf, i, k, f, st, cell, h1, h2, h3, h4, K.2.1 _ _ h5 nin0, r⟩
theorem own_in {c : Cell} (q : c.slots.toList = vs) {j : Int32} (hj : ¬ j < 0) (hi : j.toNatClampNeg < vs.length) : ¬ (j < 0 ∨ c.slots.size ≤ j.toNatClampNeg) := by
  rintro (h | h)
  · exact hj h
  · rw [← q, Array.length_toList] at hi; omega
theorem own_get {c : Cell} (q : c.slots.toList = vs) (i : Nat) : c.slots[i]? = vs[i]? := by rw [← q, Array.getElem?_toList]
theorem own_newP (X : Stand p l e R s m args below meth c T locs cells slots) (hx : p.tables.exec = Jvm.exec) (hZ : Z.Warmed39 s.vm) {aty : ArrayType} (w : (Jvm.Cond.arrayClass (newarray.typeOf aty)).before a0 Z = true) (eT : T.heap = h) {pc : Nat} {Ls : Array Slot} {n : Int32} {rest : List Value} (hd : decode c.code pc = .ok (.newarray aty, 2)) (N cap : Nat) (hN : n.toNatClampNeg = N) (hn : ¬ n < 0) (hcap : N ≤ cap) (hb : cap * 8 ≤ 536870912) (hc : cells + 1 ≤ R.cells) (hl : slots + cap ≤ R.slots)
    (kk : ∀ (T' : State) (h' : Heap) (cA : ClassId), Stand p l e R s m args below meth c T' locs (cells + 1) (slots + cap) → T'.heap = h' → Ext h h' → own_A Z h' h.size (newarray.typeOf aty) cA (List.replicate N (defaultValue (newarray.typeOf aty))) → own_Go p e below K T' (mkF m (pc + 2) Ls (.ref h.size :: rest))) :
    own_Go p e below K T (mkF m pc Ls (.int n :: rest)) := by
  obtain ⟨T', h', cA, X', e', E, A, st⟩ := newP X hx hZ w eT (g := mkF m pc Ls (.int n :: rest)) rfl hd (n := n) (rest := rest) rfl hn (cap := cap) (by rw [hN]; exact hcap) hb hc hl
  exact own_by st (kk T' h' cA X' e' E ⟨_, A, rfl, by simp [newA, hN]⟩)
theorem own_newR (X : Stand p l e R s m args below meth c T locs cells slots) (hx : p.tables.exec = Jvm.exec) (hZ : Z.Warmed39 s.vm) {own C : String} {index : Nat} (hown : s.vm.findClass own = some m.cls) (w1 : (Jvm.Cond.classLink own index C).before a0 Z = true) (w2 : (Jvm.Cond.arrayOver (.object C)).before a0 Z = true) (eT : T.heap = h) {pc : Nat} {Ls : Array Slot} {n : Int32} {rest : List Value} (hd : decode c.code pc = .ok (.anewarray index, 3)) (N cap : Nat) (hN : n.toNatClampNeg = N) (hn : ¬ n < 0) (hcap : N ≤ cap) (hb : cap * 8 ≤ 536870912) (hc : cells + 1 ≤ R.cells) (hl : slots + cap ≤ R.slots)
    (kk : ∀ (T' : State) (h' : Heap) (cA : ClassId), Stand p l e R s m args below meth c T' locs (cells + 1) (slots + cap) → T'.heap = h' → Ext h h' → own_A Z h' h.size (.object C) cA (List.replicate N .null) → Ovr Z cA C → own_Go p e below K T' (mkF m (pc + 3) Ls (.ref h.size :: rest))) :
    own_Go p e below K T (mkF m pc Ls (.int n :: rest)) := by
  obtain ⟨T', h', cA, X', e', E, A, O, st⟩ := newR X hx hZ hown w1 w2 eT (g := mkF m pc Ls (.int n :: rest)) rfl hd (n := n) (rest := rest) rfl hn (cap := cap) (by rw [hN]; exact hcap) hb hc hl
  exact own_by st (kk T' h' cA X' e' E ⟨_, A, rfl, by simp [newA, hN, defaultValue]⟩ O)
theorem own_stI (X : Stand p l e R s m args below meth c T locs cells slots) (hx : p.tables.exec = Jvm.exec) (hZ : Z.Warmed39 s.vm) (eT : T.heap = h) (V : own_A Z h a .int k vs) {j x : Int32} (i : Nat) (hi : j.toNatClampNeg = i) (hj : ¬ j < 0) (hl : i < vs.length) {pc : Nat} {Ls : Array Slot} {rest : List Value} (hd : decode c.code pc = .ok (.iastore, 1))
    (kk : ∀ (T' : State) (h' : Heap), Stand p l e R s m args below meth c T' (locs ++ [⟨a, i⟩]) cells slots → T'.heap = h' → Wr h h' a i (.int x) → own_A Z h' a .int k (vs.set i (.int x)) → own_Go p e below K T' (mkF m (pc + 1) Ls rest)) :
    own_Go p e below K T (mkF m pc Ls (.int x :: .int j :: .ref a :: rest)) := by
  subst hi
  obtain ⟨cl, A, q1, q2⟩ := V
  obtain ⟨T', h', X', e', W, st⟩ := stI X hx hZ eT A (j := j) (x := x) (own_in q2 hj hl) (g := mkF m pc Ls (.int x :: .int j :: .ref a :: rest)) rfl rfl hd
  exact own_by st (kk T' h' X' e' W (own_A.set ⟨cl, A, q1, q2⟩ W))
theorem own_stC (X : Stand p l e R s m args below meth c T locs cells slots) (hx : p.tables.exec = Jvm.exec) (hZ : Z.Warmed39 s.vm) (eT : T.heap = h) (V : own_A Z h a .char k vs) {j x y : Int32} (i : Nat) (hi : j.toNatClampNeg = i) (hj : ¬ j < 0) (hl : i < vs.length) (hy : nar .char x = y) {pc : Nat} {Ls : Array Slot} {rest : List Value} (hd : decode c.code pc = .ok (.castore, 1))
    (kk : ∀ (T' : State) (h' : Heap), Stand p l e R s m args below meth c T' (locs ++ [⟨a, i⟩]) cells slots → T'.heap = h' → Wr h h' a i (.int y) → own_A Z h' a .char k (vs.set i (.int y)) → own_Go p e below K T' (mkF m (pc + 1) Ls rest)) :
    own_Go p e below K T (mkF m pc Ls (.int x :: .int j :: .ref a :: rest)) := by
  subst hi; subst hy
  obtain ⟨cl, A, q1, q2⟩ := V
  obtain ⟨T', h', X', e', W, st⟩ := stC X hx hZ eT A (j := j) (x := x) (own_in q2 hj hl) (g := mkF m pc Ls (.int x :: .int j :: .ref a :: rest)) rfl rfl hd
  exact own_by st (kk T' h' X' e' W (own_A.set ⟨cl, A, q1, q2⟩ W))
theorem own_stZ (X : Stand p l e R s m args below meth c T locs cells slots) (hx : p.tables.exec = Jvm.exec) (hZ : Z.Warmed39 s.vm) (eT : T.heap = h) (V : own_A Z h a .boolean k vs) {j x y : Int32} (i : Nat) (hi : j.toNatClampNeg = i) (hj : ¬ j < 0) (hl : i < vs.length) (hy : nar .boolean x = y) {pc : Nat} {Ls : Array Slot} {rest : List Value} (hd : decode c.code pc = .ok (.bastore, 1))
    (kk : ∀ (T' : State) (h' : Heap), Stand p l e R s m args below meth c T' (locs ++ [⟨a, i⟩]) cells slots → T'.heap = h' → Wr h h' a i (.int y) → own_A Z h' a .boolean k (vs.set i (.int y)) → own_Go p e below K T' (mkF m (pc + 1) Ls rest)) :
    own_Go p e below K T (mkF m pc Ls (.int x :: .int j :: .ref a :: rest)) := by
  subst hi; subst hy
  obtain ⟨cl, A, q1, q2⟩ := V
  obtain ⟨T', h', X', e', W, st⟩ := stZ X hx hZ eT A (j := j) (x := x) (own_in q2 hj hl) (g := mkF m pc Ls (.int x :: .int j :: .ref a :: rest)) rfl rfl hd
  exact own_by st (kk T' h' X' e' W (own_A.set ⟨cl, A, q1, q2⟩ W))
theorem own_stR (X : Stand p l e R s m args below meth c T locs cells slots) (hx : p.tables.exec = Jvm.exec) (hZ : Z.Warmed39 s.vm) (eT : T.heap = h) (V : own_A Z h a ty k vs) (hty : ty.isReference = true) {j : Int32} {v : Value} (i : Nat) (hi : j.toNatClampNeg = i) (hj : ¬ j < 0) (hl : i < vs.length) (F : Sto Z h a v) {pc : Nat} {Ls : Array Slot} {rest : List Value} (hd : decode c.code pc = .ok (.aastore, 1))
    (kk : ∀ (T' : State) (h' : Heap), Stand p l e R s m args below meth c T' (locs ++ [⟨a, i⟩]) cells slots → T'.heap = h' → Wr h h' a i v → own_A Z h' a ty k (vs.set i v) → own_Go p e below K T' (mkF m (pc + 1) Ls rest)) :
    own_Go p e below K T (mkF m pc Ls (v :: .int j :: .ref a :: rest)) := by
  subst hi
  obtain ⟨cl, A, q1, q2⟩ := V
  obtain ⟨T', h', X', e', W, st⟩ := stR X hx hZ eT A (j := j) (v := v) (own_in q2 hj hl) hty F (g := mkF m pc Ls (v :: .int j :: .ref a :: rest)) rfl rfl hd
  exact own_by st (kk T' h' X' e' W (own_A.set ⟨cl, A, q1, q2⟩ W))
theorem own_sto {y : Addr} {C : String} (V : own_A Z h a ty k vs) (O : Ovr Z k C) (E : Exa Z h y C) : Sto Z h a (.ref y) := by
  obtain ⟨cl, A, q1, -⟩ := V
  exact Sto.ofV A q1 O (Ins.self E)
theorem own_ldI (X : Stand p l e R s m args below meth c T locs cells slots) (hx : p.tables.exec = Jvm.exec) (hZ : Z.Warmed39 s.vm) (eT : T.heap = h) (V : own_A Z h a .int k vs) {j : Int32} {v : Value} (i : Nat) (hi : j.toNatClampNeg = i) (hj : ¬ j < 0) (hv : vs[i]? = some v) {pc : Nat} {Ls : Array Slot} {rest : List Value} (hd : decode c.code pc = .ok (.iaload, 1))
    (kk : own_Go p e below K T (mkF m (pc + 1) Ls (v :: rest))) : own_Go p e below K T (mkF m pc Ls (.int j :: .ref a :: rest)) := by
  subst hi
  obtain ⟨cl, A, q1, q2⟩ := V
  exact own_by (fun t q => X.iaload hx (j := j) (v := v) (by rw [eT]; exact A.1) (State.isArrayOf_alike hZ.alike A.2.1) A.2.2 (own_in q2 hj (List.getElem?_eq_some_iff.mp hv).1) (by rw [own_get q2]; exact hv) (g := mkF m pc Ls (.int j :: .ref a :: rest)) rfl rfl hd t q) kk
theorem own_ldC (X : Stand p l e R s m args below meth c T locs cells slots) (hx : p.tables.exec = Jvm.exec) (hZ : Z.Warmed39 s.vm) (eT : T.heap = h) (V : own_A Z h a .char k vs) {j : Int32} {v : Value} (i : Nat) (hi : j.toNatClampNeg = i) (hj : ¬ j < 0) (hv : vs[i]? = some v) {pc : Nat} {Ls : Array Slot} {rest : List Value} (hd : decode c.code pc = .ok (.caload, 1))
    (kk : own_Go p e below K T (mkF m (pc + 1) Ls (v :: rest))) : own_Go p e below K T (mkF m pc Ls (.int j :: .ref a :: rest)) := by
  subst hi
  obtain ⟨cl, A, q1, q2⟩ := V
  exact own_by (fun t q => X.caload hx (j := j) (v := v) (by rw [eT]; exact A.1) (State.isArrayOf_alike hZ.alike A.2.1) A.2.2 (own_in q2 hj (List.getElem?_eq_some_iff.mp hv).1) (by rw [own_get q2]; exact hv) (g := mkF m pc Ls (.int j :: .ref a :: rest)) rfl rfl hd t q) kk
theorem own_ldR (X : Stand p l e R s m args below meth c T locs cells slots) (hx : p.tables.exec = Jvm.exec) (hZ : Z.Warmed39 s.vm) (eT : T.heap = h) (V : own_A Z h a ty k vs) (hty : ty.isReference = true) {j : Int32} {v : Value} (i : Nat) (hi : j.toNatClampNeg = i) (hj : ¬ j < 0) (hv : vs[i]? = some v) {pc : Nat} {Ls : Array Slot} {rest : List Value} (hd : decode c.code pc = .ok (.aaload, 1))
    (kk : own_Go p e below K T (mkF m (pc + 1) Ls (v :: rest))) : own_Go p e below K T (mkF m pc Ls (.int j :: .ref a :: rest)) := by
  subst hi
  obtain ⟨cl, A, q1, q2⟩ := V
  exact own_by (fun t q => X.aaload hx (j := j) (v := v) (by rw [eT]; exact A.1) (State.isArrayOf_alike hZ.alike A.2.1) hty A.2.2 (own_in q2 hj (List.getElem?_eq_some_iff.mp hv).1) (by rw [own_get q2]; exact hv) (g := mkF m pc Ls (.int j :: .ref a :: rest)) rfl rfl hd t q) kk
theorem own_len (X : Stand p l e R s m args below meth c T locs cells slots) (hx : p.tables.exec = Jvm.exec) (hZ : Z.Warmed39 s.vm) (eT : T.heap = h) (V : own_A Z h a ty k vs) (n : Int32) (hn : vs.length.toInt32 = n) {pc : Nat} {Ls : Array Slot} {rest : List Value} (hd : decode c.code pc = .ok (.arraylength, 1))
    (kk : own_Go p e below K T (mkF m (pc + 1) Ls (.int n :: rest))) : own_Go p e below K T (mkF m pc Ls (.ref a :: rest)) := by
  subst hn
  obtain ⟨cl, A, q1, rfl⟩ := V
  refine own_by (fun t q => X.arraylength hx (cell := cl) (by rw [eT]; exact A.1) (State.isArrayOf_alike hZ.alike A.2.1) (g := mkF m pc Ls (.ref a :: rest)) rfl (rest := rest) rfl hd t q) ?_
  rw [Array.length_toList] at kk
  exact kk
theorem own_new (X : Stand p l e R s m args below meth c T locs cells slots) (hx : p.tables.exec = Jvm.exec) (hZ : Z.Warmed39 s.vm) {own C : String} {index n : Nat} (hown : s.vm.findClass own = some m.cls) (w1 : (Jvm.Cond.classLink own index C).before a0 Z = true) (w2 : (Jvm.Cond.instantiable C n).before a0 Z = true) (w3 : (Jvm.Cond.initialized C).before a0 Z = true) (eT : T.heap = h) {pc : Nat} {Ls : Array Slot} {st : List Value} (hd : decode c.code pc = .ok (.new index, 3)) (hc : cells + 1 ≤ R.cells) (hl : slots + n ≤ R.slots)
    (kk : ∀ (T' : State) (h' : Heap), Stand p l e R s m args below meth c T' locs (cells + 1) (slots + n) → T'.heap = h' → Ext h h' → Exa Z h' h.size C → (∀ {O nm d : String} {ty : FieldType}, Laid Z a0 C O nm d → parseFieldDescriptor d = some ty → Fld Z h' h.size O nm d (defaultValue ty)) → own_Go p e below K T' (mkF m (pc + 3) Ls (.ref h.size :: st))) :
    own_Go p e below K T (mkF m pc Ls st) := by
  obtain ⟨T', h', X', e', E, A, D, -, stp⟩ := newO X hx hZ hown w1 w2 w3 eT (g := mkF m pc Ls st) rfl hd hc hl
  exact own_by stp (kk T' h' X' e' E A D)
theorem own_getF (X : Stand p l e R s m args below meth c T locs cells slots) (hx : p.tables.exec = Jvm.exec) (hZ : Z.Warmed39 s.vm) {own O n d : String} {index : Nat} (hown : s.vm.findClass own = some m.cls) (w : (Jvm.Cond.fieldLink own index O n d).before a0 Z = true) (eT : T.heap = h) (F : Fld Z h a O n d v) {pc : Nat} {Ls : Array Slot} {rest : List Value} (hd : decode c.code pc = .ok (.getfield index, 3))
    (kk : ∀ T' : State, Stand p l e R s m args below meth c T' locs cells slots → T'.heap = h → own_Go p e below K T' (mkF m (pc + 3) Ls (v :: rest))) : own_Go p e below K T (mkF m pc Ls (.ref a :: rest)) := by
  obtain ⟨T', X', e', st⟩ := getF X hx hZ hown (host := "") (Or.inl w) Via.refl eT F (g := mkF m pc Ls (.ref a :: rest)) rfl rfl hd
  exact own_by st (kk T' X' e')
theorem own_putF (X : Stand p l e R s m args below meth c T locs cells slots) (hx : p.tables.exec = Jvm.exec) (hZ : Z.Warmed39 s.vm) {own O n d C : String} {index kn : Nat} {ty : FieldType} (hown : s.vm.findClass own = some m.cls) (w : (Jvm.Cond.fieldLink own index O n d).before a0 Z = true) (eT : T.heap = h) {old : Value} (F : Fld Z h a O n d old) (E : Exa Z h a C) (L : (Jvm.Cond.lays C O n d).before a0 Z = true ∨ ((Jvm.Cond.laysFinal C O n d).before a0 Z = true ∧ own = O ∧ meth.name = "<init>")) (wi : (Jvm.Cond.instantiable C kn).before a0 Z = true) (hty : parseFieldDescriptor d = some ty) (hn : narrow ty v = v) (hf : fits ty v = true) {pc : Nat} {Ls : Array Slot} {rest : List Value} (hd : decode c.code pc = .ok (.putfield index, 3))
    (kk : ∀ (T' : State) (h' : Heap), Stand p l e R s m args below meth c T' (locs ++ [⟨a, Jvm.RoadKit.slotOf Z O n d⟩]) cells slots → T'.heap = h' → Wr h h' a (Jvm.RoadKit.slotOf Z O n d) v → own_Go p e below K T' (mkF m (pc + 3) Ls rest)) : own_Go p e below K T (mkF m pc Ls (v :: .ref a :: rest)) := by
  obtain ⟨T', h', X', e', W, st⟩ := putF X hx hZ hown (host := "") (Or.inl w) Via.refl eT F E L wi hty hn hf (g := mkF m pc Ls (v :: .ref a :: rest)) rfl rfl hd
  exact own_by st (kk T' h' X' e' W)
end OwnHeap
def own_S9 (Z : State) (h : Heap) (w0 w1 w2 w14 w22 w23 w24 w25 w26 : Addr) : Prop := Sta Z h "com/example/focus_crawl/focuscrawl/crawl/page/XPathFunction" "LAST" "Lcom/example/focus_crawl/focuscrawl/crawl/page/XPathFunction;" (.ref w0) ∧ Sta Z h "com/example/focus_crawl/focuscrawl/crawl/page/XPathFunction" "POSITION" "Lcom/example/focus_crawl/focuscrawl/crawl/page/XPathFunction;" (.ref w1) ∧ Sta Z h "com/example/focus_crawl/focuscrawl/crawl/page/XPathFunction" "COUNT" "Lcom/example/focus_crawl/focuscrawl/crawl/page/XPathFunction;" (.ref w2) ∧ Sta Z h "com/example/focus_crawl/focuscrawl/crawl/page/XPathFunction" "STRING_LENGTH" "Lcom/example/focus_crawl/focuscrawl/crawl/page/XPathFunction;" (.ref w14) ∧ Sta Z h "com/example/focus_crawl/focuscrawl/crawl/page/XPathFunction" "NUMBER" "Lcom/example/focus_crawl/focuscrawl/crawl/page/XPathFunction;" (.ref w22) ∧ Sta Z h "com/example/focus_crawl/focuscrawl/crawl/page/XPathFunction" "SUM" "Lcom/example/focus_crawl/focuscrawl/crawl/page/XPathFunction;" (.ref w23) ∧ Sta Z h "com/example/focus_crawl/focuscrawl/crawl/page/XPathFunction" "FLOOR" "Lcom/example/focus_crawl/focuscrawl/crawl/page/XPathFunction;" (.ref w24) ∧ Sta Z h "com/example/focus_crawl/focuscrawl/crawl/page/XPathFunction" "CEILING" "Lcom/example/focus_crawl/focuscrawl/crawl/page/XPathFunction;" (.ref w25) ∧ Sta Z h "com/example/focus_crawl/focuscrawl/crawl/page/XPathFunction" "ROUND" "Lcom/example/focus_crawl/focuscrawl/crawl/page/XPathFunction;" (.ref w26)
theorem own_eqi {args : Array Value} {s : State} {t : Term} {k : Int32} (h : (Jvm.Cond.eq t (.int k)).value args s none s [] = some true) : t.eval args s none [] s = some (.int k) := by
  have hk : (Term.int k).eval args s none [] s = some (.int k) := Term.int_eval k
  cases ht : t.eval args s none [] s with
  | none => simp [Cond.value, ht] at h
  | some y => cases y <;> simp [Cond.value, ht, hk] at h ⊢; exact h
theorem own_frs {k : Nat} {L : List Loc} {a : Addr} {i : Nat} (N : Fr k L) (q : k ≤ a) : Fr k (L ++ [⟨a, i⟩]) := N.app fun y hy => by cases List.mem_singleton.mp hy; exact q
theorem own_rem36 (x : Int32) : ((x &&& (2147483647 : Int32)) % (36 : Int32)) = (0 : Int32) ∨ ((x &&& (2147483647 : Int32)) % (36 : Int32)) = (1 : Int32) ∨ ((x &&& (2147483647 : Int32)) % (36 : Int32)) = (2 : Int32) ∨ ((x &&& (2147483647 : Int32)) % (36 : Int32)) = (3 : Int32) ∨ ((x &&& (2147483647 : Int32)) % (36 : Int32)) = (4 : Int32) ∨ ((x &&& (2147483647 : Int32)) % (36 : Int32)) = (5 : Int32) ∨ ((x &&& (2147483647 : Int32)) % (36 : Int32)) = (6 : Int32) ∨ ((x &&& (2147483647 : Int32)) % (36 : Int32)) = (7 : Int32) ∨ ((x &&& (2147483647 : Int32)) % (36 : Int32)) = (8 : Int32) ∨ ((x &&& (2147483647 : Int32)) % (36 : Int32)) = (9 : Int32) ∨ ((x &&& (2147483647 : Int32)) % (36 : Int32)) = (10 : Int32) ∨ ((x &&& (2147483647 : Int32)) % (36 : Int32)) = (11 : Int32) ∨ ((x &&& (2147483647 : Int32)) % (36 : Int32)) = (12 : Int32) ∨ ((x &&& (2147483647 : Int32)) % (36 : Int32)) = (13 : Int32) ∨ ((x &&& (2147483647 : Int32)) % (36 : Int32)) = (14 : Int32) ∨ ((x &&& (2147483647 : Int32)) % (36 : Int32)) = (15 : Int32) ∨ ((x &&& (2147483647 : Int32)) % (36 : Int32)) = (16 : Int32) ∨ ((x &&& (2147483647 : Int32)) % (36 : Int32)) = (17 : Int32) ∨ ((x &&& (2147483647 : Int32)) % (36 : Int32)) = (18 : Int32) ∨ ((x &&& (2147483647 : Int32)) % (36 : Int32)) = (19 : Int32) ∨ ((x &&& (2147483647 : Int32)) % (36 : Int32)) = (20 : Int32) ∨ ((x &&& (2147483647 : Int32)) % (36 : Int32)) = (21 : Int32) ∨ ((x &&& (2147483647 : Int32)) % (36 : Int32)) = (22 : Int32) ∨ ((x &&& (2147483647 : Int32)) % (36 : Int32)) = (23 : Int32) ∨ ((x &&& (2147483647 : Int32)) % (36 : Int32)) = (24 : Int32) ∨ ((x &&& (2147483647 : Int32)) % (36 : Int32)) = (25 : Int32) ∨ ((x &&& (2147483647 : Int32)) % (36 : Int32)) = (26 : Int32) ∨ ((x &&& (2147483647 : Int32)) % (36 : Int32)) = (27 : Int32) ∨ ((x &&& (2147483647 : Int32)) % (36 : Int32)) = (28 : Int32) ∨ ((x &&& (2147483647 : Int32)) % (36 : Int32)) = (29 : Int32) ∨ ((x &&& (2147483647 : Int32)) % (36 : Int32)) = (30 : Int32) ∨ ((x &&& (2147483647 : Int32)) % (36 : Int32)) = (31 : Int32) ∨ ((x &&& (2147483647 : Int32)) % (36 : Int32)) = (32 : Int32) ∨ ((x &&& (2147483647 : Int32)) % (36 : Int32)) = (33 : Int32) ∨ ((x &&& (2147483647 : Int32)) % (36 : Int32)) = (34 : Int32) ∨ ((x &&& (2147483647 : Int32)) % (36 : Int32)) = (35 : Int32) := by
  have h := c_mask x (2147483647 : Int32) 31 (by decide) (by decide)
  have h1 := (c_irem (x &&& (2147483647 : Int32)) (36 : Int32) 36 (by decide)).1 (by omega)
  have h2 : ((x &&& (2147483647 : Int32)) % (36 : Int32)).toInt = 0 ∨ ((x &&& (2147483647 : Int32)) % (36 : Int32)).toInt = 1 ∨ ((x &&& (2147483647 : Int32)) % (36 : Int32)).toInt = 2 ∨ ((x &&& (2147483647 : Int32)) % (36 : Int32)).toInt = 3 ∨ ((x &&& (2147483647 : Int32)) % (36 : Int32)).toInt = 4 ∨ ((x &&& (2147483647 : Int32)) % (36 : Int32)).toInt = 5 ∨ ((x &&& (2147483647 : Int32)) % (36 : Int32)).toInt = 6 ∨ ((x &&& (2147483647 : Int32)) % (36 : Int32)).toInt = 7 ∨ ((x &&& (2147483647 : Int32)) % (36 : Int32)).toInt = 8 ∨ ((x &&& (2147483647 : Int32)) % (36 : Int32)).toInt = 9 ∨ ((x &&& (2147483647 : Int32)) % (36 : Int32)).toInt = 10 ∨ ((x &&& (2147483647 : Int32)) % (36 : Int32)).toInt = 11 ∨ ((x &&& (2147483647 : Int32)) % (36 : Int32)).toInt = 12 ∨ ((x &&& (2147483647 : Int32)) % (36 : Int32)).toInt = 13 ∨ ((x &&& (2147483647 : Int32)) % (36 : Int32)).toInt = 14 ∨ ((x &&& (2147483647 : Int32)) % (36 : Int32)).toInt = 15 ∨ ((x &&& (2147483647 : Int32)) % (36 : Int32)).toInt = 16 ∨ ((x &&& (2147483647 : Int32)) % (36 : Int32)).toInt = 17 ∨ ((x &&& (2147483647 : Int32)) % (36 : Int32)).toInt = 18 ∨ ((x &&& (2147483647 : Int32)) % (36 : Int32)).toInt = 19 ∨ ((x &&& (2147483647 : Int32)) % (36 : Int32)).toInt = 20 ∨ ((x &&& (2147483647 : Int32)) % (36 : Int32)).toInt = 21 ∨ ((x &&& (2147483647 : Int32)) % (36 : Int32)).toInt = 22 ∨ ((x &&& (2147483647 : Int32)) % (36 : Int32)).toInt = 23 ∨ ((x &&& (2147483647 : Int32)) % (36 : Int32)).toInt = 24 ∨ ((x &&& (2147483647 : Int32)) % (36 : Int32)).toInt = 25 ∨ ((x &&& (2147483647 : Int32)) % (36 : Int32)).toInt = 26 ∨ ((x &&& (2147483647 : Int32)) % (36 : Int32)).toInt = 27 ∨ ((x &&& (2147483647 : Int32)) % (36 : Int32)).toInt = 28 ∨ ((x &&& (2147483647 : Int32)) % (36 : Int32)).toInt = 29 ∨ ((x &&& (2147483647 : Int32)) % (36 : Int32)).toInt = 30 ∨ ((x &&& (2147483647 : Int32)) % (36 : Int32)).toInt = 31 ∨ ((x &&& (2147483647 : Int32)) % (36 : Int32)).toInt = 32 ∨ ((x &&& (2147483647 : Int32)) % (36 : Int32)).toInt = 33 ∨ ((x &&& (2147483647 : Int32)) % (36 : Int32)).toInt = 34 ∨ ((x &&& (2147483647 : Int32)) % (36 : Int32)).toInt = 35 := by omega
  rcases h2 with q | q | q | q | q | q | q | q | q | q | q | q | q | q | q | q | q | q | q | q | q | q | q | q | q | q | q | q | q | q | q | q | q | q | q | q
  · exact Or.inl (Int32.toInt_inj.mp (q.trans (by decide)))
  · exact Or.inr (Or.inl (Int32.toInt_inj.mp (q.trans (by decide))))
  · exact Or.inr (Or.inr (Or.inl (Int32.toInt_inj.mp (q.trans (by decide)))))
  · exact Or.inr (Or.inr (Or.inr (Or.inl (Int32.toInt_inj.mp (q.trans (by decide))))))
  · exact Or.inr (Or.inr (Or.inr (Or.inr (Or.inl (Int32.toInt_inj.mp (q.trans (by decide)))))))
  · exact Or.inr (Or.inr (Or.inr (Or.inr (Or.inr (Or.inl (Int32.toInt_inj.mp (q.trans (by decide))))))))
  · exact Or.inr (Or.inr (Or.inr (Or.inr (Or.inr (Or.inr (Or.inl (Int32.toInt_inj.mp (q.trans (by decide)))))))))
  · exact Or.inr (Or.inr (Or.inr (Or.inr (Or.inr (Or.inr (Or.inr (Or.inl (Int32.toInt_inj.mp (q.trans (by decide))))))))))
  · exact Or.inr (Or.inr (Or.inr (Or.inr (Or.inr (Or.inr (Or.inr (Or.inr (Or.inl (Int32.toInt_inj.mp (q.trans (by decide)))))))))))
  · exact Or.inr (Or.inr (Or.inr (Or.inr (Or.inr (Or.inr (Or.inr (Or.inr (Or.inr (Or.inl (Int32.toInt_inj.mp (q.trans (by decide))))))))))))
  · exact Or.inr (Or.inr (Or.inr (Or.inr (Or.inr (Or.inr (Or.inr (Or.inr (Or.inr (Or.inr (Or.inl (Int32.toInt_inj.mp (q.trans (by decide)))))))))))))
  · exact Or.inr (Or.inr (Or.inr (Or.inr (Or.inr (Or.inr (Or.inr (Or.inr (Or.inr (Or.inr (Or.inr (Or.inl (Int32.toInt_inj.mp (q.trans (by decide))))))))))))))
  · exact Or.inr (Or.inr (Or.inr (Or.inr (Or.inr (Or.inr (Or.inr (Or.inr (Or.inr (Or.inr (Or.inr (Or.inr (Or.inl (Int32.toInt_inj.mp (q.trans (by decide)))))))))))))))
  · exact Or.inr (Or.inr (Or.inr (Or.inr (Or.inr (Or.inr (Or.inr (Or.inr (Or.inr (Or.inr (Or.inr (Or.inr (Or.inr (Or.inl (Int32.toInt_inj.mp (q.trans (by decide))))))))))))))))
  · exact Or.inr (Or.inr (Or.inr (Or.inr (Or.inr (Or.inr (Or.inr (Or.inr (Or.inr (Or.inr (Or.inr (Or.inr (Or.inr (Or.inr (Or.inl (Int32.toInt_inj.mp (q.trans (by decide)))))))))))))))))
  · exact Or.inr (Or.inr (Or.inr (Or.inr (Or.inr (Or.inr (Or.inr (Or.inr (Or.inr (Or.inr (Or.inr (Or.inr (Or.inr (Or.inr (Or.inr (Or.inl (Int32.toInt_inj.mp (q.trans (by decide))))))))))))))))))
  · exact Or.inr (Or.inr (Or.inr (Or.inr (Or.inr (Or.inr (Or.inr (Or.inr (Or.inr (Or.inr (Or.inr (Or.inr (Or.inr (Or.inr (Or.inr (Or.inr (Or.inl (Int32.toInt_inj.mp (q.trans (by decide)))))))))))))))))))
  · exact Or.inr (Or.inr (Or.inr (Or.inr (Or.inr (Or.inr (Or.inr (Or.inr (Or.inr (Or.inr (Or.inr (Or.inr (Or.inr (Or.inr (Or.inr (Or.inr (Or.inr (Or.inl (Int32.toInt_inj.mp (q.trans (by decide))))))))))))))))))))
  · exact Or.inr (Or.inr (Or.inr (Or.inr (Or.inr (Or.inr (Or.inr (Or.inr (Or.inr (Or.inr (Or.inr (Or.inr (Or.inr (Or.inr (Or.inr (Or.inr (Or.inr (Or.inr (Or.inl (Int32.toInt_inj.mp (q.trans (by decide)))))))))))))))))))))
  · exact Or.inr (Or.inr (Or.inr (Or.inr (Or.inr (Or.inr (Or.inr (Or.inr (Or.inr (Or.inr (Or.inr (Or.inr (Or.inr (Or.inr (Or.inr (Or.inr (Or.inr (Or.inr (Or.inr (Or.inl (Int32.toInt_inj.mp (q.trans (by decide))))))))))))))))))))))
  · exact Or.inr (Or.inr (Or.inr (Or.inr (Or.inr (Or.inr (Or.inr (Or.inr (Or.inr (Or.inr (Or.inr (Or.inr (Or.inr (Or.inr (Or.inr (Or.inr (Or.inr (Or.inr (Or.inr (Or.inr (Or.inl (Int32.toInt_inj.mp (q.trans (by decide)))))))))))))))))))))))
  · exact Or.inr (Or.inr (Or.inr (Or.inr (Or.inr (Or.inr (Or.inr (Or.inr (Or.inr (Or.inr (Or.inr (Or.inr (Or.inr (Or.inr (Or.inr (Or.inr (Or.inr (Or.inr (Or.inr (Or.inr (Or.inr (Or.inl (Int32.toInt_inj.mp (q.trans (by decide))))))))))))))))))))))))
  · exact Or.inr (Or.inr (Or.inr (Or.inr (Or.inr (Or.inr (Or.inr (Or.inr (Or.inr (Or.inr (Or.inr (Or.inr (Or.inr (Or.inr (Or.inr (Or.inr (Or.inr (Or.inr (Or.inr (Or.inr (Or.inr (Or.inr (Or.inl (Int32.toInt_inj.mp (q.trans (by decide)))))))))))))))))))))))))
  · exact Or.inr (Or.inr (Or.inr (Or.inr (Or.inr (Or.inr (Or.inr (Or.inr (Or.inr (Or.inr (Or.inr (Or.inr (Or.inr (Or.inr (Or.inr (Or.inr (Or.inr (Or.inr (Or.inr (Or.inr (Or.inr (Or.inr (Or.inr (Or.inl (Int32.toInt_inj.mp (q.trans (by decide))))))))))))))))))))))))))
  · exact Or.inr (Or.inr (Or.inr (Or.inr (Or.inr (Or.inr (Or.inr (Or.inr (Or.inr (Or.inr (Or.inr (Or.inr (Or.inr (Or.inr (Or.inr (Or.inr (Or.inr (Or.inr (Or.inr (Or.inr (Or.inr (Or.inr (Or.inr (Or.inr (Or.inl (Int32.toInt_inj.mp (q.trans (by decide)))))))))))))))))))))))))))
  · exact Or.inr (Or.inr (Or.inr (Or.inr (Or.inr (Or.inr (Or.inr (Or.inr (Or.inr (Or.inr (Or.inr (Or.inr (Or.inr (Or.inr (Or.inr (Or.inr (Or.inr (Or.inr (Or.inr (Or.inr (Or.inr (Or.inr (Or.inr (Or.inr (Or.inr (Or.inl (Int32.toInt_inj.mp (q.trans (by decide))))))))))))))))))))))))))))
  · exact Or.inr (Or.inr (Or.inr (Or.inr (Or.inr (Or.inr (Or.inr (Or.inr (Or.inr (Or.inr (Or.inr (Or.inr (Or.inr (Or.inr (Or.inr (Or.inr (Or.inr (Or.inr (Or.inr (Or.inr (Or.inr (Or.inr (Or.inr (Or.inr (Or.inr (Or.inr (Or.inl (Int32.toInt_inj.mp (q.trans (by decide)))))))))))))))))))))))))))))
  · exact Or.inr (Or.inr (Or.inr (Or.inr (Or.inr (Or.inr (Or.inr (Or.inr (Or.inr (Or.inr (Or.inr (Or.inr (Or.inr (Or.inr (Or.inr (Or.inr (Or.inr (Or.inr (Or.inr (Or.inr (Or.inr (Or.inr (Or.inr (Or.inr (Or.inr (Or.inr (Or.inr (Or.inl (Int32.toInt_inj.mp (q.trans (by decide))))))))))))))))))))))))))))))
  · exact Or.inr (Or.inr (Or.inr (Or.inr (Or.inr (Or.inr (Or.inr (Or.inr (Or.inr (Or.inr (Or.inr (Or.inr (Or.inr (Or.inr (Or.inr (Or.inr (Or.inr (Or.inr (Or.inr (Or.inr (Or.inr (Or.inr (Or.inr (Or.inr (Or.inr (Or.inr (Or.inr (Or.inr (Or.inl (Int32.toInt_inj.mp (q.trans (by decide)))))))))))))))))))))))))))))))
  · exact Or.inr (Or.inr (Or.inr (Or.inr (Or.inr (Or.inr (Or.inr (Or.inr (Or.inr (Or.inr (Or.inr (Or.inr (Or.inr (Or.inr (Or.inr (Or.inr (Or.inr (Or.inr (Or.inr (Or.inr (Or.inr (Or.inr (Or.inr (Or.inr (Or.inr (Or.inr (Or.inr (Or.inr (Or.inr (Or.inl (Int32.toInt_inj.mp (q.trans (by decide))))))))))))))))))))))))))))))))
  · exact Or.inr (Or.inr (Or.inr (Or.inr (Or.inr (Or.inr (Or.inr (Or.inr (Or.inr (Or.inr (Or.inr (Or.inr (Or.inr (Or.inr (Or.inr (Or.inr (Or.inr (Or.inr (Or.inr (Or.inr (Or.inr (Or.inr (Or.inr (Or.inr (Or.inr (Or.inr (Or.inr (Or.inr (Or.inr (Or.inr (Or.inl (Int32.toInt_inj.mp (q.trans (by decide)))))))))))))))))))))))))))))))))
  · exact Or.inr (Or.inr (Or.inr (Or.inr (Or.inr (Or.inr (Or.inr (Or.inr (Or.inr (Or.inr (Or.inr (Or.inr (Or.inr (Or.inr (Or.inr (Or.inr (Or.inr (Or.inr (Or.inr (Or.inr (Or.inr (Or.inr (Or.inr (Or.inr (Or.inr (Or.inr (Or.inr (Or.inr (Or.inr (Or.inr (Or.inr (Or.inl (Int32.toInt_inj.mp (q.trans (by decide))))))))))))))))))))))))))))))))))
  · exact Or.inr (Or.inr (Or.inr (Or.inr (Or.inr (Or.inr (Or.inr (Or.inr (Or.inr (Or.inr (Or.inr (Or.inr (Or.inr (Or.inr (Or.inr (Or.inr (Or.inr (Or.inr (Or.inr (Or.inr (Or.inr (Or.inr (Or.inr (Or.inr (Or.inr (Or.inr (Or.inr (Or.inr (Or.inr (Or.inr (Or.inr (Or.inr (Or.inl (Int32.toInt_inj.mp (q.trans (by decide)))))))))))))))))))))))))))))))))))
  · exact Or.inr (Or.inr (Or.inr (Or.inr (Or.inr (Or.inr (Or.inr (Or.inr (Or.inr (Or.inr (Or.inr (Or.inr (Or.inr (Or.inr (Or.inr (Or.inr (Or.inr (Or.inr (Or.inr (Or.inr (Or.inr (Or.inr (Or.inr (Or.inr (Or.inr (Or.inr (Or.inr (Or.inr (Or.inr (Or.inr (Or.inr (Or.inr (Or.inr (Or.inl (Int32.toInt_inj.mp (q.trans (by decide))))))))))))))))))))))))))))))))))))
  · exact Or.inr (Or.inr (Or.inr (Or.inr (Or.inr (Or.inr (Or.inr (Or.inr (Or.inr (Or.inr (Or.inr (Or.inr (Or.inr (Or.inr (Or.inr (Or.inr (Or.inr (Or.inr (Or.inr (Or.inr (Or.inr (Or.inr (Or.inr (Or.inr (Or.inr (Or.inr (Or.inr (Or.inr (Or.inr (Or.inr (Or.inr (Or.inr (Or.inr (Or.inr (Or.inl (Int32.toInt_inj.mp (q.trans (by decide)))))))))))))))))))))))))))))))))))))
  · exact Or.inr (Or.inr (Or.inr (Or.inr (Or.inr (Or.inr (Or.inr (Or.inr (Or.inr (Or.inr (Or.inr (Or.inr (Or.inr (Or.inr (Or.inr (Or.inr (Or.inr (Or.inr (Or.inr (Or.inr (Or.inr (Or.inr (Or.inr (Or.inr (Or.inr (Or.inr (Or.inr (Or.inr (Or.inr (Or.inr (Or.inr (Or.inr (Or.inr (Or.inr (Or.inr ((Int32.toInt_inj.mp (q.trans (by decide))))))))))))))))))))))))))))))))))))))
def own_gn (a : Addr) (w0 w1 w2 w14 w22 w23 w24 w25 w26 : Addr) : Int32 := (if a = w0 then (1 : Int32) else (if a = w1 then (1 : Int32) else (if a = w2 then (1 : Int32) else (if a = w14 then (1 : Int32) else (if a = w22 then (1 : Int32) else (if a = w23 then (1 : Int32) else (if a = w24 then (1 : Int32) else (if a = w25 then (1 : Int32) else (if a = w26 then (1 : Int32) else (0 : Int32))))))))))
theorem pn_0 : plainName "com/example/focus_crawl/focuscrawl/crawl/page/XPathFunction" = true := by first | (simp [plainName, overriddenIn]; done) | decide +kernel
theorem d1_0 : decode prog_49_method_9_code 0 = .ok (.aload_n 0, 1) := by decide +kernel
theorem d1_1 : decode prog_49_method_9_code 1 = .ok (.getstatic 3, 3) := by decide +kernel
theorem d1_4 : decode prog_49_method_9_code 4 = .ok (.if_acmp .eq 59, 3) := by decide +kernel
theorem d1_63 : decode prog_49_method_9_code 63 = .ok (.iconst 1, 1) := by decide +kernel
theorem d1_64 : decode prog_49_method_9_code 64 = .ok (.goto 4, 3) := by decide +kernel
theorem d1_68 : decode prog_49_method_9_code 68 = .ok (.ireturn, 1) := by decide +kernel
theorem d1_7 : decode prog_49_method_9_code 7 = .ok (.aload_n 0, 1) := by decide +kernel
theorem d1_8 : decode prog_49_method_9_code 8 = .ok (.getstatic 7, 3) := by decide +kernel
theorem d1_11 : decode prog_49_method_9_code 11 = .ok (.if_acmp .eq 52, 3) := by decide +kernel
theorem d1_14 : decode prog_49_method_9_code 14 = .ok (.aload_n 0, 1) := by decide +kernel
theorem d1_15 : decode prog_49_method_9_code 15 = .ok (.getstatic 10, 3) := by decide +kernel
theorem d1_18 : decode prog_49_method_9_code 18 = .ok (.if_acmp .eq 45, 3) := by decide +kernel
theorem d1_21 : decode prog_49_method_9_code 21 = .ok (.aload_n 0, 1) := by decide +kernel
theorem d1_22 : decode prog_49_method_9_code 22 = .ok (.getstatic 46, 3) := by decide +kernel
theorem d1_25 : decode prog_49_method_9_code 25 = .ok (.if_acmp .eq 38, 3) := by decide +kernel
theorem d1_28 : decode prog_49_method_9_code 28 = .ok (.aload_n 0, 1) := by decide +kernel
theorem d1_29 : decode prog_49_method_9_code 29 = .ok (.getstatic 70, 3) := by decide +kernel
theorem d1_32 : decode prog_49_method_9_code 32 = .ok (.if_acmp .eq 31, 3) := by decide +kernel
theorem d1_35 : decode prog_49_method_9_code 35 = .ok (.aload_n 0, 1) := by decide +kernel
theorem d1_36 : decode prog_49_method_9_code 36 = .ok (.getstatic 73, 3) := by decide +kernel
theorem d1_39 : decode prog_49_method_9_code 39 = .ok (.if_acmp .eq 24, 3) := by decide +kernel
theorem d1_42 : decode prog_49_method_9_code 42 = .ok (.aload_n 0, 1) := by decide +kernel
theorem d1_43 : decode prog_49_method_9_code 43 = .ok (.getstatic 76, 3) := by decide +kernel
theorem d1_46 : decode prog_49_method_9_code 46 = .ok (.if_acmp .eq 17, 3) := by decide +kernel
theorem d1_49 : decode prog_49_method_9_code 49 = .ok (.aload_n 0, 1) := by decide +kernel
theorem d1_50 : decode prog_49_method_9_code 50 = .ok (.getstatic 79, 3) := by decide +kernel
theorem d1_53 : decode prog_49_method_9_code 53 = .ok (.if_acmp .eq 10, 3) := by decide +kernel
theorem d1_56 : decode prog_49_method_9_code 56 = .ok (.aload_n 0, 1) := by decide +kernel
theorem d1_57 : decode prog_49_method_9_code 57 = .ok (.getstatic 82, 3) := by decide +kernel
theorem d1_60 : decode prog_49_method_9_code 60 = .ok (.if_acmp .ne 7, 3) := by decide +kernel
theorem d1_67 : decode prog_49_method_9_code 67 = .ok (.iconst 0, 1) := by decide +kernel
set_option maxRecDepth 65536 in
set_option maxHeartbeats 40000000 in
theorem own_gn_met (l : Launch) (Z : State) (a0 : Array Value) (hw : ∀ d ∈ tables_1, d.before a0 Z = true) (a : Addr) (w0 w1 w2 w14 w22 w23 w24 w25 w26 : Addr) (h0 : Heap) (S : own_S9 Z h0 w0 w1 w2 w14 w22 w23 w24 w25 w26) :
    own_Met l (⟨"com/example/focus_crawl/focuscrawl/crawl/page/XPathFunction", "givesNumber", "()Z"⟩ : MethodName) prog_49_method_9_code 1 (some .boolean) [] ({ frames := 0, cells := 0, slots := 0, locals := 0 } : Room) Z #[(.ref a)] h0 (fun v h L => v = some (.int (own_gn a w0 w1 w2 w14 w22 w23 w24 w25 w26)) ∧ h = h0 ∧ L = []) := by
  obtain ⟨S0, S1, S2, S14, S22, S23, S24, S25, S26⟩ := S
  refine own_enter pn_0 ?_
  intro p e s m below meth c T0 hx hby hml hret hlk hown hnm hZ X0 e0
  refine own_at (g' := (mkF m 0 #[oR a] [])) (by first | rfl | (simp [entryFrame, mkF, argsToLocals, Value.category]; done)) ?_
  show own_Go p e below _ T0 (mkF m 0 #[oR a] [])
  refine own_by (fun t_ k_ => XS.aloadN X0.here hx rfl (hb hby d1_0) rfl rfl  k_) ?_
  show own_Go p e below _ T0 (mkF m 1 #[oR a] [(.ref a)])
  obtain ⟨T1, XT1, eT1, stT1⟩ := getS2 X0 hx hZ hown (host := "") (Or.inl (hw _ (List.mem_of_getElem? (i := 82) rfl))) Via.refl e0 S0 (g := (mkF m 1 #[oR a] [(.ref a)])) rfl (hb hby d1_1)
  refine own_by stT1 ?_
  show own_Go p e below _ T1 (mkF m 4 #[oR a] [(.ref w0), (.ref a)])
  by_cases c4_1 : a = w0
  · refine own_by (fun t_ k_ => Jvm.RoadKit.acmp (g := (mkF m 4 #[oR a] [(.ref w0), (.ref a)])) XT1 hx rfl rfl rfl (pc0 := 4) (pc' := 63) (same := true) rfl (hb hby d1_4) rfl (decide_eq_true (congrArg Value.ref (c4_1))) (by decide) (by decide) k_) ?_
    show own_Go p e below _ T1 (mkF m 63 #[oR a] [])
    refine own_by (fun t_ k_ => XT.iconstV XT1.here hx rfl (1 : Int32) (hb hby d1_63) (by decide) k_) ?_
    show own_Go p e below _ T1 (mkF m 64 #[oR a] [(.int (1 : Int32))])
    refine own_by (fun t_ k_ => XS.goto XT1.here hx rfl (pc0 := 64) (pc' := 68) rfl (hb hby d1_64) (by decide) (by decide) k_) ?_
    show own_Go p e below _ T1 (mkF m 68 #[oR a] [(.int (1 : Int32))])
    exact own_retN XT1 hx hlk hret (by simp) (w := (1 : Int32)) (hb hby d1_68) (by decide) (by decide) (by decide) (⟨by rw [own_gn, if_pos c4_1], eT1, rfl⟩)
  · refine own_by (fun t_ k_ => Jvm.RoadKit.acmp (g := (mkF m 4 #[oR a] [(.ref w0), (.ref a)])) XT1 hx rfl rfl rfl (pc0 := 4) (pc' := 7) (same := false) rfl (hb hby d1_4) rfl (decide_eq_false fun q => (c4_1) (Value.ref.inj q)) (by decide) (by decide) k_) ?_
    show own_Go p e below _ T1 (mkF m 7 #[oR a] [])
    refine own_by (fun t_ k_ => XS.aloadN XT1.here hx rfl (hb hby d1_7) rfl rfl  k_) ?_
    show own_Go p e below _ T1 (mkF m 8 #[oR a] [(.ref a)])
    obtain ⟨T3, XT3, eT3, stT3⟩ := getS2 XT1 hx hZ hown (host := "") (Or.inl (hw _ (List.mem_of_getElem? (i := 83) rfl))) Via.refl eT1 S1 (g := (mkF m 8 #[oR a] [(.ref a)])) rfl (hb hby d1_8)
    refine own_by stT3 ?_
    show own_Go p e below _ T3 (mkF m 11 #[oR a] [(.ref w1), (.ref a)])
    by_cases c11_3 : a = w1
    · refine own_by (fun t_ k_ => Jvm.RoadKit.acmp (g := (mkF m 11 #[oR a] [(.ref w1), (.ref a)])) XT3 hx rfl rfl rfl (pc0 := 11) (pc' := 63) (same := true) rfl (hb hby d1_11) rfl (decide_eq_true (congrArg Value.ref (c11_3))) (by decide) (by decide) k_) ?_
      show own_Go p e below _ T3 (mkF m 63 #[oR a] [])
      refine own_by (fun t_ k_ => XT.iconstV XT3.here hx rfl (1 : Int32) (hb hby d1_63) (by decide) k_) ?_
      show own_Go p e below _ T3 (mkF m 64 #[oR a] [(.int (1 : Int32))])
      refine own_by (fun t_ k_ => XS.goto XT3.here hx rfl (pc0 := 64) (pc' := 68) rfl (hb hby d1_64) (by decide) (by decide) k_) ?_
      show own_Go p e below _ T3 (mkF m 68 #[oR a] [(.int (1 : Int32))])
      exact own_retN XT3 hx hlk hret (by simp) (w := (1 : Int32)) (hb hby d1_68) (by decide) (by decide) (by decide) (⟨by rw [own_gn, if_neg c4_1, if_pos c11_3], eT3, rfl⟩)
    · refine own_by (fun t_ k_ => Jvm.RoadKit.acmp (g := (mkF m 11 #[oR a] [(.ref w1), (.ref a)])) XT3 hx rfl rfl rfl (pc0 := 11) (pc' := 14) (same := false) rfl (hb hby d1_11) rfl (decide_eq_false fun q => (c11_3) (Value.ref.inj q)) (by decide) (by decide) k_) ?_
      show own_Go p e below _ T3 (mkF m 14 #[oR a] [])
      refine own_by (fun t_ k_ => XS.aloadN XT3.here hx rfl (hb hby d1_14) rfl rfl  k_) ?_
      show own_Go p e below _ T3 (mkF m 15 #[oR a] [(.ref a)])
      obtain ⟨T5, XT5, eT5, stT5⟩ := getS2 XT3 hx hZ hown (host := "") (Or.inl (hw _ (List.mem_of_getElem? (i := 84) rfl))) Via.refl eT3 S2 (g := (mkF m 15 #[oR a] [(.ref a)])) rfl (hb hby d1_15)
      refine own_by stT5 ?_
      show own_Go p e below _ T5 (mkF m 18 #[oR a] [(.ref w2), (.ref a)])
      by_cases c18_5 : a = w2
      · refine own_by (fun t_ k_ => Jvm.RoadKit.acmp (g := (mkF m 18 #[oR a] [(.ref w2), (.ref a)])) XT5 hx rfl rfl rfl (pc0 := 18) (pc' := 63) (same := true) rfl (hb hby d1_18) rfl (decide_eq_true (congrArg Value.ref (c18_5))) (by decide) (by decide) k_) ?_
        show own_Go p e below _ T5 (mkF m 63 #[oR a] [])
        refine own_by (fun t_ k_ => XT.iconstV XT5.here hx rfl (1 : Int32) (hb hby d1_63) (by decide) k_) ?_
        show own_Go p e below _ T5 (mkF m 64 #[oR a] [(.int (1 : Int32))])
        refine own_by (fun t_ k_ => XS.goto XT5.here hx rfl (pc0 := 64) (pc' := 68) rfl (hb hby d1_64) (by decide) (by decide) k_) ?_
        show own_Go p e below _ T5 (mkF m 68 #[oR a] [(.int (1 : Int32))])
        exact own_retN XT5 hx hlk hret (by simp) (w := (1 : Int32)) (hb hby d1_68) (by decide) (by decide) (by decide) (⟨by rw [own_gn, if_neg c4_1, if_neg c11_3, if_pos c18_5], eT5, rfl⟩)
      · refine own_by (fun t_ k_ => Jvm.RoadKit.acmp (g := (mkF m 18 #[oR a] [(.ref w2), (.ref a)])) XT5 hx rfl rfl rfl (pc0 := 18) (pc' := 21) (same := false) rfl (hb hby d1_18) rfl (decide_eq_false fun q => (c18_5) (Value.ref.inj q)) (by decide) (by decide) k_) ?_
        show own_Go p e below _ T5 (mkF m 21 #[oR a] [])
        refine own_by (fun t_ k_ => XS.aloadN XT5.here hx rfl (hb hby d1_21) rfl rfl  k_) ?_
        show own_Go p e below _ T5 (mkF m 22 #[oR a] [(.ref a)])
        obtain ⟨T7, XT7, eT7, stT7⟩ := getS2 XT5 hx hZ hown (host := "") (Or.inl (hw _ (List.mem_of_getElem? (i := 85) rfl))) Via.refl eT5 S14 (g := (mkF m 22 #[oR a] [(.ref a)])) rfl (hb hby d1_22)
        refine own_by stT7 ?_
        show own_Go p e below _ T7 (mkF m 25 #[oR a] [(.ref w14), (.ref a)])
        by_cases c25_7 : a = w14
        · refine own_by (fun t_ k_ => Jvm.RoadKit.acmp (g := (mkF m 25 #[oR a] [(.ref w14), (.ref a)])) XT7 hx rfl rfl rfl (pc0 := 25) (pc' := 63) (same := true) rfl (hb hby d1_25) rfl (decide_eq_true (congrArg Value.ref (c25_7))) (by decide) (by decide) k_) ?_
          show own_Go p e below _ T7 (mkF m 63 #[oR a] [])
          refine own_by (fun t_ k_ => XT.iconstV XT7.here hx rfl (1 : Int32) (hb hby d1_63) (by decide) k_) ?_
          show own_Go p e below _ T7 (mkF m 64 #[oR a] [(.int (1 : Int32))])
          refine own_by (fun t_ k_ => XS.goto XT7.here hx rfl (pc0 := 64) (pc' := 68) rfl (hb hby d1_64) (by decide) (by decide) k_) ?_
          show own_Go p e below _ T7 (mkF m 68 #[oR a] [(.int (1 : Int32))])
          exact own_retN XT7 hx hlk hret (by simp) (w := (1 : Int32)) (hb hby d1_68) (by decide) (by decide) (by decide) (⟨by rw [own_gn, if_neg c4_1, if_neg c11_3, if_neg c18_5, if_pos c25_7], eT7, rfl⟩)
        · refine own_by (fun t_ k_ => Jvm.RoadKit.acmp (g := (mkF m 25 #[oR a] [(.ref w14), (.ref a)])) XT7 hx rfl rfl rfl (pc0 := 25) (pc' := 28) (same := false) rfl (hb hby d1_25) rfl (decide_eq_false fun q => (c25_7) (Value.ref.inj q)) (by decide) (by decide) k_) ?_
          show own_Go p e below _ T7 (mkF m 28 #[oR a] [])
          refine own_by (fun t_ k_ => XS.aloadN XT7.here hx rfl (hb hby d1_28) rfl rfl  k_) ?_
          show own_Go p e below _ T7 (mkF m 29 #[oR a] [(.ref a)])
          obtain ⟨T9, XT9, eT9, stT9⟩ := getS2 XT7 hx hZ hown (host := "") (Or.inl (hw _ (List.mem_of_getElem? (i := 86) rfl))) Via.refl eT7 S22 (g := (mkF m 29 #[oR a] [(.ref a)])) rfl (hb hby d1_29)
          refine own_by stT9 ?_
          show own_Go p e below _ T9 (mkF m 32 #[oR a] [(.ref w22), (.ref a)])
          by_cases c32_9 : a = w22
          · refine own_by (fun t_ k_ => Jvm.RoadKit.acmp (g := (mkF m 32 #[oR a] [(.ref w22), (.ref a)])) XT9 hx rfl rfl rfl (pc0 := 32) (pc' := 63) (same := true) rfl (hb hby d1_32) rfl (decide_eq_true (congrArg Value.ref (c32_9))) (by decide) (by decide) k_) ?_
            show own_Go p e below _ T9 (mkF m 63 #[oR a] [])
            refine own_by (fun t_ k_ => XT.iconstV XT9.here hx rfl (1 : Int32) (hb hby d1_63) (by decide) k_) ?_
            show own_Go p e below _ T9 (mkF m 64 #[oR a] [(.int (1 : Int32))])
            refine own_by (fun t_ k_ => XS.goto XT9.here hx rfl (pc0 := 64) (pc' := 68) rfl (hb hby d1_64) (by decide) (by decide) k_) ?_
            show own_Go p e below _ T9 (mkF m 68 #[oR a] [(.int (1 : Int32))])
            exact own_retN XT9 hx hlk hret (by simp) (w := (1 : Int32)) (hb hby d1_68) (by decide) (by decide) (by decide) (⟨by rw [own_gn, if_neg c4_1, if_neg c11_3, if_neg c18_5, if_neg c25_7, if_pos c32_9], eT9, rfl⟩)
          · refine own_by (fun t_ k_ => Jvm.RoadKit.acmp (g := (mkF m 32 #[oR a] [(.ref w22), (.ref a)])) XT9 hx rfl rfl rfl (pc0 := 32) (pc' := 35) (same := false) rfl (hb hby d1_32) rfl (decide_eq_false fun q => (c32_9) (Value.ref.inj q)) (by decide) (by decide) k_) ?_
            show own_Go p e below _ T9 (mkF m 35 #[oR a] [])
            refine own_by (fun t_ k_ => XS.aloadN XT9.here hx rfl (hb hby d1_35) rfl rfl  k_) ?_
            show own_Go p e below _ T9 (mkF m 36 #[oR a] [(.ref a)])
            obtain ⟨T11, XT11, eT11, stT11⟩ := getS2 XT9 hx hZ hown (host := "") (Or.inl (hw _ (List.mem_of_getElem? (i := 87) rfl))) Via.refl eT9 S23 (g := (mkF m 36 #[oR a] [(.ref a)])) rfl (hb hby d1_36)
            refine own_by stT11 ?_
            show own_Go p e below _ T11 (mkF m 39 #[oR a] [(.ref w23), (.ref a)])
            by_cases c39_11 : a = w23
            · refine own_by (fun t_ k_ => Jvm.RoadKit.acmp (g := (mkF m 39 #[oR a] [(.ref w23), (.ref a)])) XT11 hx rfl rfl rfl (pc0 := 39) (pc' := 63) (same := true) rfl (hb hby d1_39) rfl (decide_eq_true (congrArg Value.ref (c39_11))) (by decide) (by decide) k_) ?_
              show own_Go p e below _ T11 (mkF m 63 #[oR a] [])
              refine own_by (fun t_ k_ => XT.iconstV XT11.here hx rfl (1 : Int32) (hb hby d1_63) (by decide) k_) ?_
              show own_Go p e below _ T11 (mkF m 64 #[oR a] [(.int (1 : Int32))])
              refine own_by (fun t_ k_ => XS.goto XT11.here hx rfl (pc0 := 64) (pc' := 68) rfl (hb hby d1_64) (by decide) (by decide) k_) ?_
              show own_Go p e below _ T11 (mkF m 68 #[oR a] [(.int (1 : Int32))])
              exact own_retN XT11 hx hlk hret (by simp) (w := (1 : Int32)) (hb hby d1_68) (by decide) (by decide) (by decide) (⟨by rw [own_gn, if_neg c4_1, if_neg c11_3, if_neg c18_5, if_neg c25_7, if_neg c32_9, if_pos c39_11], eT11, rfl⟩)
            · refine own_by (fun t_ k_ => Jvm.RoadKit.acmp (g := (mkF m 39 #[oR a] [(.ref w23), (.ref a)])) XT11 hx rfl rfl rfl (pc0 := 39) (pc' := 42) (same := false) rfl (hb hby d1_39) rfl (decide_eq_false fun q => (c39_11) (Value.ref.inj q)) (by decide) (by decide) k_) ?_
              show own_Go p e below _ T11 (mkF m 42 #[oR a] [])
              refine own_by (fun t_ k_ => XS.aloadN XT11.here hx rfl (hb hby d1_42) rfl rfl  k_) ?_
              show own_Go p e below _ T11 (mkF m 43 #[oR a] [(.ref a)])
              obtain ⟨T13, XT13, eT13, stT13⟩ := getS2 XT11 hx hZ hown (host := "") (Or.inl (hw _ (List.mem_of_getElem? (i := 88) rfl))) Via.refl eT11 S24 (g := (mkF m 43 #[oR a] [(.ref a)])) rfl (hb hby d1_43)
              refine own_by stT13 ?_
              show own_Go p e below _ T13 (mkF m 46 #[oR a] [(.ref w24), (.ref a)])
              by_cases c46_13 : a = w24
              · refine own_by (fun t_ k_ => Jvm.RoadKit.acmp (g := (mkF m 46 #[oR a] [(.ref w24), (.ref a)])) XT13 hx rfl rfl rfl (pc0 := 46) (pc' := 63) (same := true) rfl (hb hby d1_46) rfl (decide_eq_true (congrArg Value.ref (c46_13))) (by decide) (by decide) k_) ?_
                show own_Go p e below _ T13 (mkF m 63 #[oR a] [])
                refine own_by (fun t_ k_ => XT.iconstV XT13.here hx rfl (1 : Int32) (hb hby d1_63) (by decide) k_) ?_
                show own_Go p e below _ T13 (mkF m 64 #[oR a] [(.int (1 : Int32))])
                refine own_by (fun t_ k_ => XS.goto XT13.here hx rfl (pc0 := 64) (pc' := 68) rfl (hb hby d1_64) (by decide) (by decide) k_) ?_
                show own_Go p e below _ T13 (mkF m 68 #[oR a] [(.int (1 : Int32))])
                exact own_retN XT13 hx hlk hret (by simp) (w := (1 : Int32)) (hb hby d1_68) (by decide) (by decide) (by decide) (⟨by rw [own_gn, if_neg c4_1, if_neg c11_3, if_neg c18_5, if_neg c25_7, if_neg c32_9, if_neg c39_11, if_pos c46_13], eT13, rfl⟩)
              · refine own_by (fun t_ k_ => Jvm.RoadKit.acmp (g := (mkF m 46 #[oR a] [(.ref w24), (.ref a)])) XT13 hx rfl rfl rfl (pc0 := 46) (pc' := 49) (same := false) rfl (hb hby d1_46) rfl (decide_eq_false fun q => (c46_13) (Value.ref.inj q)) (by decide) (by decide) k_) ?_
                show own_Go p e below _ T13 (mkF m 49 #[oR a] [])
                refine own_by (fun t_ k_ => XS.aloadN XT13.here hx rfl (hb hby d1_49) rfl rfl  k_) ?_
                show own_Go p e below _ T13 (mkF m 50 #[oR a] [(.ref a)])
                obtain ⟨T15, XT15, eT15, stT15⟩ := getS2 XT13 hx hZ hown (host := "") (Or.inl (hw _ (List.mem_of_getElem? (i := 89) rfl))) Via.refl eT13 S25 (g := (mkF m 50 #[oR a] [(.ref a)])) rfl (hb hby d1_50)
                refine own_by stT15 ?_
                show own_Go p e below _ T15 (mkF m 53 #[oR a] [(.ref w25), (.ref a)])
                by_cases c53_15 : a = w25
                · refine own_by (fun t_ k_ => Jvm.RoadKit.acmp (g := (mkF m 53 #[oR a] [(.ref w25), (.ref a)])) XT15 hx rfl rfl rfl (pc0 := 53) (pc' := 63) (same := true) rfl (hb hby d1_53) rfl (decide_eq_true (congrArg Value.ref (c53_15))) (by decide) (by decide) k_) ?_
                  show own_Go p e below _ T15 (mkF m 63 #[oR a] [])
                  refine own_by (fun t_ k_ => XT.iconstV XT15.here hx rfl (1 : Int32) (hb hby d1_63) (by decide) k_) ?_
                  show own_Go p e below _ T15 (mkF m 64 #[oR a] [(.int (1 : Int32))])
                  refine own_by (fun t_ k_ => XS.goto XT15.here hx rfl (pc0 := 64) (pc' := 68) rfl (hb hby d1_64) (by decide) (by decide) k_) ?_
                  show own_Go p e below _ T15 (mkF m 68 #[oR a] [(.int (1 : Int32))])
                  exact own_retN XT15 hx hlk hret (by simp) (w := (1 : Int32)) (hb hby d1_68) (by decide) (by decide) (by decide) (⟨by rw [own_gn, if_neg c4_1, if_neg c11_3, if_neg c18_5, if_neg c25_7, if_neg c32_9, if_neg c39_11, if_neg c46_13, if_pos c53_15], eT15, rfl⟩)
                · refine own_by (fun t_ k_ => Jvm.RoadKit.acmp (g := (mkF m 53 #[oR a] [(.ref w25), (.ref a)])) XT15 hx rfl rfl rfl (pc0 := 53) (pc' := 56) (same := false) rfl (hb hby d1_53) rfl (decide_eq_false fun q => (c53_15) (Value.ref.inj q)) (by decide) (by decide) k_) ?_
                  show own_Go p e below _ T15 (mkF m 56 #[oR a] [])
                  refine own_by (fun t_ k_ => XS.aloadN XT15.here hx rfl (hb hby d1_56) rfl rfl  k_) ?_
                  show own_Go p e below _ T15 (mkF m 57 #[oR a] [(.ref a)])
                  obtain ⟨T17, XT17, eT17, stT17⟩ := getS2 XT15 hx hZ hown (host := "") (Or.inl (hw _ (List.mem_of_getElem? (i := 90) rfl))) Via.refl eT15 S26 (g := (mkF m 57 #[oR a] [(.ref a)])) rfl (hb hby d1_57)
                  refine own_by stT17 ?_
                  show own_Go p e below _ T17 (mkF m 60 #[oR a] [(.ref w26), (.ref a)])
                  by_cases c60_17 : a = w26
                  · refine own_by (fun t_ k_ => Jvm.RoadKit.acmp (g := (mkF m 60 #[oR a] [(.ref w26), (.ref a)])) XT17 hx rfl rfl rfl (pc0 := 60) (pc' := 63) (same := true) rfl (hb hby d1_60) rfl (decide_eq_true (congrArg Value.ref (c60_17))) (by decide) (by decide) k_) ?_
                    show own_Go p e below _ T17 (mkF m 63 #[oR a] [])
                    refine own_by (fun t_ k_ => XT.iconstV XT17.here hx rfl (1 : Int32) (hb hby d1_63) (by decide) k_) ?_
                    show own_Go p e below _ T17 (mkF m 64 #[oR a] [(.int (1 : Int32))])
                    refine own_by (fun t_ k_ => XS.goto XT17.here hx rfl (pc0 := 64) (pc' := 68) rfl (hb hby d1_64) (by decide) (by decide) k_) ?_
                    show own_Go p e below _ T17 (mkF m 68 #[oR a] [(.int (1 : Int32))])
                    exact own_retN XT17 hx hlk hret (by simp) (w := (1 : Int32)) (hb hby d1_68) (by decide) (by decide) (by decide) (⟨by rw [own_gn, if_neg c4_1, if_neg c11_3, if_neg c18_5, if_neg c25_7, if_neg c32_9, if_neg c39_11, if_neg c46_13, if_neg c53_15, if_pos c60_17], eT17, rfl⟩)
                  · refine own_by (fun t_ k_ => Jvm.RoadKit.acmp (g := (mkF m 60 #[oR a] [(.ref w26), (.ref a)])) XT17 hx rfl rfl rfl (pc0 := 60) (pc' := 67) (same := false) rfl (hb hby d1_60) rfl (decide_eq_false fun q => (c60_17) (Value.ref.inj q)) (by decide) (by decide) k_) ?_
                    show own_Go p e below _ T17 (mkF m 67 #[oR a] [])
                    refine own_by (fun t_ k_ => XT.iconstV XT17.here hx rfl (0 : Int32) (hb hby d1_67) (by decide) k_) ?_
                    show own_Go p e below _ T17 (mkF m 68 #[oR a] [(.int (0 : Int32))])
                    exact own_retN XT17 hx hlk hret (by simp) (w := (0 : Int32)) (hb hby d1_68) (by decide) (by decide) (by decide) (⟨by rw [own_gn, if_neg c4_1, if_neg c11_3, if_neg c18_5, if_neg c25_7, if_neg c32_9, if_neg c39_11, if_neg c46_13, if_neg c53_15, if_neg c60_17], eT17, rfl⟩)
theorem own_app0 {k : Nat} {L : List Loc} (N : Fr k L) : Fr k (L ++ []) := by rw [List.append_nil]; exact N
theorem pn_1 : plainName "com/example/focus_crawl/focuscrawl/crawl/page/XPathFunctionGivesNumberPinLaw" = true := by first | (simp [plainName, overriddenIn]; done) | decide +kernel
theorem pd_0 : parseMethodDescriptor "()Z" = some ⟨[], some .boolean⟩ := by decide +kernel
set_option maxRecDepth 65536 in
set_option maxHeartbeats 40000000 in
theorem own_law (l : Launch) (Z : State) (a0 : Array Value) (hw : ∀ d ∈ tables_1, d.before a0 Z = true) (i0 : Int32) (w0 w1 w2 w3 w4 w5 w6 w7 w8 w9 w10 w11 w12 w13 w14 w15 w16 w17 w18 w19 w20 w21 w22 w23 w24 w25 w26 w27 w28 w29 w30 w31 w32 w33 w34 w35 : Addr) (h0 : Heap) (S0 : Sta Z h0 "com/example/focus_crawl/focuscrawl/crawl/page/XPathFunction" "LAST" "Lcom/example/focus_crawl/focuscrawl/crawl/page/XPathFunction;" (.ref w0)) (S1 : Sta Z h0 "com/example/focus_crawl/focuscrawl/crawl/page/XPathFunction" "POSITION" "Lcom/example/focus_crawl/focuscrawl/crawl/page/XPathFunction;" (.ref w1)) (S2 : Sta Z h0 "com/example/focus_crawl/focuscrawl/crawl/page/XPathFunction" "COUNT" "Lcom/example/focus_crawl/focuscrawl/crawl/page/XPathFunction;" (.ref w2)) (S3 : Sta Z h0 "com/example/focus_crawl/focuscrawl/crawl/page/XPathFunction" "ID" "Lcom/example/focus_crawl/focuscrawl/crawl/page/XPathFunction;" (.ref w3)) (S4 : Sta Z h0 "com/example/focus_crawl/focuscrawl/crawl/page/XPathFunction" "LOCAL_NAME" "Lcom/example/focus_crawl/focuscrawl/crawl/page/XPathFunction;" (.ref w4)) (S5 : Sta Z h0 "com/example/focus_crawl/focuscrawl/crawl/page/XPathFunction" "NAMESPACE_URI" "Lcom/example/focus_crawl/focuscrawl/crawl/page/XPathFunction;" (.ref w5)) (S6 : Sta Z h0 "com/example/focus_crawl/focuscrawl/crawl/page/XPathFunction" "NAME" "Lcom/example/focus_crawl/focuscrawl/crawl/page/XPathFunction;" (.ref w6)) (S7 : Sta Z h0 "com/example/focus_crawl/focuscrawl/crawl/page/XPathFunction" "STRING" "Lcom/example/focus_crawl/focuscrawl/crawl/page/XPathFunction;" (.ref w7)) (S8 : Sta Z h0 "com/example/focus_crawl/focuscrawl/crawl/page/XPathFunction" "CONCAT" "Lcom/example/focus_crawl/focuscrawl/crawl/page/XPathFunction;" (.ref w8)) (S9 : Sta Z h0 "com/example/focus_crawl/focuscrawl/crawl/page/XPathFunction" "STARTS_WITH" "Lcom/example/focus_crawl/focuscrawl/crawl/page/XPathFunction;" (.ref w9)) (S10 : Sta Z h0 "com/example/focus_crawl/focuscrawl/crawl/page/XPathFunction" "CONTAINS" "Lcom/example/focus_crawl/focuscrawl/crawl/page/XPathFunction;" (.ref w10)) (S11 : Sta Z h0 "com/example/focus_crawl/focuscrawl/crawl/page/XPathFunction" "SUBSTRING_BEFORE" "Lcom/example/focus_crawl/focuscrawl/crawl/page/XPathFunction;" (.ref w11)) (S12 : Sta Z h0 "com/example/focus_crawl/focuscrawl/crawl/page/XPathFunction" "SUBSTRING_AFTER" "Lcom/example/focus_crawl/focuscrawl/crawl/page/XPathFunction;" (.ref w12)) (S13 : Sta Z h0 "com/example/focus_crawl/focuscrawl/crawl/page/XPathFunction" "SUBSTRING" "Lcom/example/focus_crawl/focuscrawl/crawl/page/XPathFunction;" (.ref w13)) (S14 : Sta Z h0 "com/example/focus_crawl/focuscrawl/crawl/page/XPathFunction" "STRING_LENGTH" "Lcom/example/focus_crawl/focuscrawl/crawl/page/XPathFunction;" (.ref w14)) (S15 : Sta Z h0 "com/example/focus_crawl/focuscrawl/crawl/page/XPathFunction" "NORMALIZE_SPACE" "Lcom/example/focus_crawl/focuscrawl/crawl/page/XPathFunction;" (.ref w15)) (S16 : Sta Z h0 "com/example/focus_crawl/focuscrawl/crawl/page/XPathFunction" "TRANSLATE" "Lcom/example/focus_crawl/focuscrawl/crawl/page/XPathFunction;" (.ref w16)) (S17 : Sta Z h0 "com/example/focus_crawl/focuscrawl/crawl/page/XPathFunction" "BOOLEAN" "Lcom/example/focus_crawl/focuscrawl/crawl/page/XPathFunction;" (.ref w17)) (S18 : Sta Z h0 "com/example/focus_crawl/focuscrawl/crawl/page/XPathFunction" "NOT" "Lcom/example/focus_crawl/focuscrawl/crawl/page/XPathFunction;" (.ref w18)) (S19 : Sta Z h0 "com/example/focus_crawl/focuscrawl/crawl/page/XPathFunction" "TRUE" "Lcom/example/focus_crawl/focuscrawl/crawl/page/XPathFunction;" (.ref w19)) (S20 : Sta Z h0 "com/example/focus_crawl/focuscrawl/crawl/page/XPathFunction" "FALSE" "Lcom/example/focus_crawl/focuscrawl/crawl/page/XPathFunction;" (.ref w20)) (S21 : Sta Z h0 "com/example/focus_crawl/focuscrawl/crawl/page/XPathFunction" "LANG" "Lcom/example/focus_crawl/focuscrawl/crawl/page/XPathFunction;" (.ref w21)) (S22 : Sta Z h0 "com/example/focus_crawl/focuscrawl/crawl/page/XPathFunction" "NUMBER" "Lcom/example/focus_crawl/focuscrawl/crawl/page/XPathFunction;" (.ref w22)) (S23 : Sta Z h0 "com/example/focus_crawl/focuscrawl/crawl/page/XPathFunction" "SUM" "Lcom/example/focus_crawl/focuscrawl/crawl/page/XPathFunction;" (.ref w23)) (S24 : Sta Z h0 "com/example/focus_crawl/focuscrawl/crawl/page/XPathFunction" "FLOOR" "Lcom/example/focus_crawl/focuscrawl/crawl/page/XPathFunction;" (.ref w24)) (S25 : Sta Z h0 "com/example/focus_crawl/focuscrawl/crawl/page/XPathFunction" "CEILING" "Lcom/example/focus_crawl/focuscrawl/crawl/page/XPathFunction;" (.ref w25)) (S26 : Sta Z h0 "com/example/focus_crawl/focuscrawl/crawl/page/XPathFunction" "ROUND" "Lcom/example/focus_crawl/focuscrawl/crawl/page/XPathFunction;" (.ref w26)) (S27 : Sta Z h0 "com/example/focus_crawl/focuscrawl/crawl/page/XPathFunction" "CURRENT" "Lcom/example/focus_crawl/focuscrawl/crawl/page/XPathFunction;" (.ref w27)) (S28 : Sta Z h0 "com/example/focus_crawl/focuscrawl/crawl/page/XPathFunction" "GENERATE_ID" "Lcom/example/focus_crawl/focuscrawl/crawl/page/XPathFunction;" (.ref w28)) (S29 : Sta Z h0 "com/example/focus_crawl/focuscrawl/crawl/page/XPathFunction" "SYSTEM_PROPERTY" "Lcom/example/focus_crawl/focuscrawl/crawl/page/XPathFunction;" (.ref w29)) (S30 : Sta Z h0 "com/example/focus_crawl/focuscrawl/crawl/page/XPathFunction" "FUNCTION_AVAILABLE" "Lcom/example/focus_crawl/focuscrawl/crawl/page/XPathFunction;" (.ref w30)) (S31 : Sta Z h0 "com/example/focus_crawl/focuscrawl/crawl/page/XPathFunction" "ELEMENT_AVAILABLE" "Lcom/example/focus_crawl/focuscrawl/crawl/page/XPathFunction;" (.ref w31)) (S32 : Sta Z h0 "com/example/focus_crawl/focuscrawl/crawl/page/XPathFunction" "UNPARSED_ENTITY_URI" "Lcom/example/focus_crawl/focuscrawl/crawl/page/XPathFunction;" (.ref w32)) (S33 : Sta Z h0 "com/example/focus_crawl/focuscrawl/crawl/page/XPathFunction" "DOCUMENT_LOCATION" "Lcom/example/focus_crawl/focuscrawl/crawl/page/XPathFunction;" (.ref w33)) (S34 : Sta Z h0 "com/example/focus_crawl/focuscrawl/crawl/page/XPathFunction" "KEY" "Lcom/example/focus_crawl/focuscrawl/crawl/page/XPathFunction;" (.ref w34)) (S35 : Sta Z h0 "com/example/focus_crawl/focuscrawl/crawl/page/XPathFunction" "HERE" "Lcom/example/focus_crawl/focuscrawl/crawl/page/XPathFunction;" (.ref w35)) (E0 : Exa Z h0 w0 "com/example/focus_crawl/focuscrawl/crawl/page/XPathFunction") (E1 : Exa Z h0 w1 "com/example/focus_crawl/focuscrawl/crawl/page/XPathFunction") (E2 : Exa Z h0 w2 "com/example/focus_crawl/focuscrawl/crawl/page/XPathFunction") (E3 : Exa Z h0 w3 "com/example/focus_crawl/focuscrawl/crawl/page/XPathFunction") (E4 : Exa Z h0 w4 "com/example/focus_crawl/focuscrawl/crawl/page/XPathFunction") (E5 : Exa Z h0 w5 "com/example/focus_crawl/focuscrawl/crawl/page/XPathFunction") (E6 : Exa Z h0 w6 "com/example/focus_crawl/focuscrawl/crawl/page/XPathFunction") (E7 : Exa Z h0 w7 "com/example/focus_crawl/focuscrawl/crawl/page/XPathFunction") (E8 : Exa Z h0 w8 "com/example/focus_crawl/focuscrawl/crawl/page/XPathFunction") (E9 : Exa Z h0 w9 "com/example/focus_crawl/focuscrawl/crawl/page/XPathFunction") (E10 : Exa Z h0 w10 "com/example/focus_crawl/focuscrawl/crawl/page/XPathFunction") (E11 : Exa Z h0 w11 "com/example/focus_crawl/focuscrawl/crawl/page/XPathFunction") (E12 : Exa Z h0 w12 "com/example/focus_crawl/focuscrawl/crawl/page/XPathFunction") (E13 : Exa Z h0 w13 "com/example/focus_crawl/focuscrawl/crawl/page/XPathFunction") (E14 : Exa Z h0 w14 "com/example/focus_crawl/focuscrawl/crawl/page/XPathFunction") (E15 : Exa Z h0 w15 "com/example/focus_crawl/focuscrawl/crawl/page/XPathFunction") (E16 : Exa Z h0 w16 "com/example/focus_crawl/focuscrawl/crawl/page/XPathFunction") (E17 : Exa Z h0 w17 "com/example/focus_crawl/focuscrawl/crawl/page/XPathFunction") (E18 : Exa Z h0 w18 "com/example/focus_crawl/focuscrawl/crawl/page/XPathFunction") (E19 : Exa Z h0 w19 "com/example/focus_crawl/focuscrawl/crawl/page/XPathFunction") (E20 : Exa Z h0 w20 "com/example/focus_crawl/focuscrawl/crawl/page/XPathFunction") (E21 : Exa Z h0 w21 "com/example/focus_crawl/focuscrawl/crawl/page/XPathFunction") (E22 : Exa Z h0 w22 "com/example/focus_crawl/focuscrawl/crawl/page/XPathFunction") (E23 : Exa Z h0 w23 "com/example/focus_crawl/focuscrawl/crawl/page/XPathFunction") (E24 : Exa Z h0 w24 "com/example/focus_crawl/focuscrawl/crawl/page/XPathFunction") (E25 : Exa Z h0 w25 "com/example/focus_crawl/focuscrawl/crawl/page/XPathFunction") (E26 : Exa Z h0 w26 "com/example/focus_crawl/focuscrawl/crawl/page/XPathFunction") (E27 : Exa Z h0 w27 "com/example/focus_crawl/focuscrawl/crawl/page/XPathFunction") (E28 : Exa Z h0 w28 "com/example/focus_crawl/focuscrawl/crawl/page/XPathFunction") (E29 : Exa Z h0 w29 "com/example/focus_crawl/focuscrawl/crawl/page/XPathFunction") (E30 : Exa Z h0 w30 "com/example/focus_crawl/focuscrawl/crawl/page/XPathFunction") (E31 : Exa Z h0 w31 "com/example/focus_crawl/focuscrawl/crawl/page/XPathFunction") (E32 : Exa Z h0 w32 "com/example/focus_crawl/focuscrawl/crawl/page/XPathFunction") (E33 : Exa Z h0 w33 "com/example/focus_crawl/focuscrawl/crawl/page/XPathFunction") (E34 : Exa Z h0 w34 "com/example/focus_crawl/focuscrawl/crawl/page/XPathFunction") (E35 : Exa Z h0 w35 "com/example/focus_crawl/focuscrawl/crawl/page/XPathFunction") (F0 : Fld Z h0 w0 "java/lang/Enum" "ordinal" "I" (.int (0 : Int32))) (F1 : Fld Z h0 w1 "java/lang/Enum" "ordinal" "I" (.int (1 : Int32))) (F2 : Fld Z h0 w2 "java/lang/Enum" "ordinal" "I" (.int (2 : Int32))) (F3 : Fld Z h0 w3 "java/lang/Enum" "ordinal" "I" (.int (3 : Int32))) (F4 : Fld Z h0 w4 "java/lang/Enum" "ordinal" "I" (.int (4 : Int32))) (F5 : Fld Z h0 w5 "java/lang/Enum" "ordinal" "I" (.int (5 : Int32))) (F6 : Fld Z h0 w6 "java/lang/Enum" "ordinal" "I" (.int (6 : Int32))) (F7 : Fld Z h0 w7 "java/lang/Enum" "ordinal" "I" (.int (7 : Int32))) (F8 : Fld Z h0 w8 "java/lang/Enum" "ordinal" "I" (.int (8 : Int32))) (F9 : Fld Z h0 w9 "java/lang/Enum" "ordinal" "I" (.int (9 : Int32))) (F10 : Fld Z h0 w10 "java/lang/Enum" "ordinal" "I" (.int (10 : Int32))) (F11 : Fld Z h0 w11 "java/lang/Enum" "ordinal" "I" (.int (11 : Int32))) (F12 : Fld Z h0 w12 "java/lang/Enum" "ordinal" "I" (.int (12 : Int32))) (F13 : Fld Z h0 w13 "java/lang/Enum" "ordinal" "I" (.int (13 : Int32))) (F14 : Fld Z h0 w14 "java/lang/Enum" "ordinal" "I" (.int (14 : Int32))) (F15 : Fld Z h0 w15 "java/lang/Enum" "ordinal" "I" (.int (15 : Int32))) (F16 : Fld Z h0 w16 "java/lang/Enum" "ordinal" "I" (.int (16 : Int32))) (F17 : Fld Z h0 w17 "java/lang/Enum" "ordinal" "I" (.int (17 : Int32))) (F18 : Fld Z h0 w18 "java/lang/Enum" "ordinal" "I" (.int (18 : Int32))) (F19 : Fld Z h0 w19 "java/lang/Enum" "ordinal" "I" (.int (19 : Int32))) (F20 : Fld Z h0 w20 "java/lang/Enum" "ordinal" "I" (.int (20 : Int32))) (F21 : Fld Z h0 w21 "java/lang/Enum" "ordinal" "I" (.int (21 : Int32))) (F22 : Fld Z h0 w22 "java/lang/Enum" "ordinal" "I" (.int (22 : Int32))) (F23 : Fld Z h0 w23 "java/lang/Enum" "ordinal" "I" (.int (23 : Int32))) (F24 : Fld Z h0 w24 "java/lang/Enum" "ordinal" "I" (.int (24 : Int32))) (F25 : Fld Z h0 w25 "java/lang/Enum" "ordinal" "I" (.int (25 : Int32))) (F26 : Fld Z h0 w26 "java/lang/Enum" "ordinal" "I" (.int (26 : Int32))) (F27 : Fld Z h0 w27 "java/lang/Enum" "ordinal" "I" (.int (27 : Int32))) (F28 : Fld Z h0 w28 "java/lang/Enum" "ordinal" "I" (.int (28 : Int32))) (F29 : Fld Z h0 w29 "java/lang/Enum" "ordinal" "I" (.int (29 : Int32))) (F30 : Fld Z h0 w30 "java/lang/Enum" "ordinal" "I" (.int (30 : Int32))) (F31 : Fld Z h0 w31 "java/lang/Enum" "ordinal" "I" (.int (31 : Int32))) (F32 : Fld Z h0 w32 "java/lang/Enum" "ordinal" "I" (.int (32 : Int32))) (F33 : Fld Z h0 w33 "java/lang/Enum" "ordinal" "I" (.int (33 : Int32))) (F34 : Fld Z h0 w34 "java/lang/Enum" "ordinal" "I" (.int (34 : Int32))) (F35 : Fld Z h0 w35 "java/lang/Enum" "ordinal" "I" (.int (35 : Int32))) :
    own_Met l x code maxLocals ret tables_1 room_1 Z #[(.int i0)] h0 (fun v h L => v = some (.int (1 : Int32)) ∧ Fr h0.size L) := by
  refine own_enter pn_1 ?_
  intro p e s m below meth c T0 hx hby hml hret hlk hown hnm hZ X0 e0
  refine own_at (g' := (mkF m 0 #[oI i0, .unset, .unset, .unset, .unset] [])) (by first | rfl | (simp [entryFrame, mkF, argsToLocals, Value.category, maxLocals]; done)) ?_
  show own_Go p e below _ T0 (mkF m 0 #[oI i0, .unset, .unset, .unset, .unset] [])
  refine own_by (fun t_ k_ => XT.bipushV X0.here hx rfl (36 : Int32) (hb hby at_0) (by decide) k_) ?_
  show own_Go p e below _ T0 (mkF m 2 #[oI i0, .unset, .unset, .unset, .unset] [(.int (36 : Int32))])
  refine own_newR X0 hx hZ hown (hw _ (List.mem_of_getElem? (i := 0) rfl)) (hw _ (List.mem_of_getElem? (i := 1) rfl)) e0 (hb hby at_2) 36 36 (by decide) (by decide) (by decide) (by decide) (by decide) (by decide) ?_
  intro T1 hT1 kA XT1 eT1 ET1 VT1 O
  have KT1 := own_ek ET1
  have NT1 := Fr.nil h0.size
  show own_Go p e below _ T1 (mkF m 5 #[oI i0, .unset, .unset, .unset, .unset] [(.ref h0.size)])
  refine own_by (fun t_ k_ => XS.dup XT1.here hx rfl (hb hby at_5) rfl rfl k_) ?_
  show own_Go p e below _ T1 (mkF m 6 #[oI i0, .unset, .unset, .unset, .unset] [(.ref h0.size), (.ref h0.size)])
  refine own_by (fun t_ k_ => XT.iconstV XT1.here hx rfl (0 : Int32) (hb hby at_6) (by decide) k_) ?_
  show own_Go p e below _ T1 (mkF m 7 #[oI i0, .unset, .unset, .unset, .unset] [(.int (0 : Int32)), (.ref h0.size), (.ref h0.size)])
  obtain ⟨T2, XT2, eT2, stT2⟩ := getS2 XT1 hx hZ hown (host := "") (Or.inl (hw _ (List.mem_of_getElem? (i := 2) rfl))) Via.refl eT1 (own_stak S0 KT1) (g := (mkF m 7 #[oI i0, .unset, .unset, .unset, .unset] [(.int (0 : Int32)), (.ref h0.size), (.ref h0.size)])) rfl (hb hby at_7)
  refine own_by stT2 ?_
  show own_Go p e below _ T2 (mkF m 10 #[oI i0, .unset, .unset, .unset, .unset] [(.ref w0), (.int (0 : Int32)), (.ref h0.size), (.ref h0.size)])
  refine own_stR XT2 hx hZ eT2 VT1 rfl 0 (by decide) (by decide) (by simp) (own_sto VT1 O (E0.keep KT1)) (hb hby at_10) ?_
  intro T3 hT3 XT3 eT3 WT3 YT3
  have VT3 : own_A Z hT3 h0.size (.object "com/example/focus_crawl/focuscrawl/crawl/page/XPathFunction") kA [(.ref w0), .null, .null, .null, .null, .null, .null, .null, .null, .null, .null, .null, .null, .null, .null, .null, .null, .null, .null, .null, .null, .null, .null, .null, .null, .null, .null, .null, .null, .null, .null, .null, .null, .null, .null, .null] := YT3
  have KT3 := KT1.wr WT3 (Or.inr (Nat.le_refl _))
  have NT3 := own_frs (i := 0) NT1 (Nat.le_refl h0.size)
  clear YT3
  show own_Go p e below _ T3 (mkF m 11 #[oI i0, .unset, .unset, .unset, .unset] [(.ref h0.size)])
  refine own_by (fun t_ k_ => XS.dup XT3.here hx rfl (hb hby at_11) rfl rfl k_) ?_
  show own_Go p e below _ T3 (mkF m 12 #[oI i0, .unset, .unset, .unset, .unset] [(.ref h0.size), (.ref h0.size)])
  refine own_by (fun t_ k_ => XT.iconstV XT3.here hx rfl (1 : Int32) (hb hby at_12) (by decide) k_) ?_
  show own_Go p e below _ T3 (mkF m 13 #[oI i0, .unset, .unset, .unset, .unset] [(.int (1 : Int32)), (.ref h0.size), (.ref h0.size)])
  obtain ⟨T4, XT4, eT4, stT4⟩ := getS2 XT3 hx hZ hown (host := "") (Or.inl (hw _ (List.mem_of_getElem? (i := 6) rfl))) Via.refl eT3 (own_stak S1 KT3) (g := (mkF m 13 #[oI i0, .unset, .unset, .unset, .unset] [(.int (1 : Int32)), (.ref h0.size), (.ref h0.size)])) rfl (hb hby at_13)
  refine own_by stT4 ?_
  show own_Go p e below _ T4 (mkF m 16 #[oI i0, .unset, .unset, .unset, .unset] [(.ref w1), (.int (1 : Int32)), (.ref h0.size), (.ref h0.size)])
  refine own_stR XT4 hx hZ eT4 VT3 rfl 1 (by decide) (by decide) (by simp) (own_sto VT3 O (E1.keep KT3)) (hb hby at_16) ?_
  intro T5 hT5 XT5 eT5 WT5 YT5
  have VT5 : own_A Z hT5 h0.size (.object "com/example/focus_crawl/focuscrawl/crawl/page/XPathFunction") kA [(.ref w0), (.ref w1), .null, .null, .null, .null, .null, .null, .null, .null, .null, .null, .null, .null, .null, .null, .null, .null, .null, .null, .null, .null, .null, .null, .null, .null, .null, .null, .null, .null, .null, .null, .null, .null, .null, .null] := YT5
  have KT5 := KT3.wr WT5 (Or.inr (Nat.le_refl _))
  have NT5 := own_frs (i := 1) NT3 (Nat.le_refl h0.size)
  clear YT5
  show own_Go p e below _ T5 (mkF m 17 #[oI i0, .unset, .unset, .unset, .unset] [(.ref h0.size)])
  refine own_by (fun t_ k_ => XS.dup XT5.here hx rfl (hb hby at_17) rfl rfl k_) ?_
  show own_Go p e below _ T5 (mkF m 18 #[oI i0, .unset, .unset, .unset, .unset] [(.ref h0.size), (.ref h0.size)])
  refine own_by (fun t_ k_ => XT.iconstV XT5.here hx rfl (2 : Int32) (hb hby at_18) (by decide) k_) ?_
  show own_Go p e below _ T5 (mkF m 19 #[oI i0, .unset, .unset, .unset, .unset] [(.int (2 : Int32)), (.ref h0.size), (.ref h0.size)])
  obtain ⟨T6, XT6, eT6, stT6⟩ := getS2 XT5 hx hZ hown (host := "") (Or.inl (hw _ (List.mem_of_getElem? (i := 8) rfl))) Via.refl eT5 (own_stak S2 KT5) (g := (mkF m 19 #[oI i0, .unset, .unset, .unset, .unset] [(.int (2 : Int32)), (.ref h0.size), (.ref h0.size)])) rfl (hb hby at_19)
  refine own_by stT6 ?_
  show own_Go p e below _ T6 (mkF m 22 #[oI i0, .unset, .unset, .unset, .unset] [(.ref w2), (.int (2 : Int32)), (.ref h0.size), (.ref h0.size)])
  refine own_stR XT6 hx hZ eT6 VT5 rfl 2 (by decide) (by decide) (by simp) (own_sto VT5 O (E2.keep KT5)) (hb hby at_22) ?_
  intro T7 hT7 XT7 eT7 WT7 YT7
  have VT7 : own_A Z hT7 h0.size (.object "com/example/focus_crawl/focuscrawl/crawl/page/XPathFunction") kA [(.ref w0), (.ref w1), (.ref w2), .null, .null, .null, .null, .null, .null, .null, .null, .null, .null, .null, .null, .null, .null, .null, .null, .null, .null, .null, .null, .null, .null, .null, .null, .null, .null, .null, .null, .null, .null, .null, .null, .null] := YT7
  have KT7 := KT5.wr WT7 (Or.inr (Nat.le_refl _))
  have NT7 := own_frs (i := 2) NT5 (Nat.le_refl h0.size)
  clear YT7
  show own_Go p e below _ T7 (mkF m 23 #[oI i0, .unset, .unset, .unset, .unset] [(.ref h0.size)])
  refine own_by (fun t_ k_ => XS.dup XT7.here hx rfl (hb hby at_23) rfl rfl k_) ?_
  show own_Go p e below _ T7 (mkF m 24 #[oI i0, .unset, .unset, .unset, .unset] [(.ref h0.size), (.ref h0.size)])
  refine own_by (fun t_ k_ => XT.iconstV XT7.here hx rfl (3 : Int32) (hb hby at_24) (by decide) k_) ?_
  show own_Go p e below _ T7 (mkF m 25 #[oI i0, .unset, .unset, .unset, .unset] [(.int (3 : Int32)), (.ref h0.size), (.ref h0.size)])
  obtain ⟨T8, XT8, eT8, stT8⟩ := getS2 XT7 hx hZ hown (host := "") (Or.inl (hw _ (List.mem_of_getElem? (i := 10) rfl))) Via.refl eT7 (own_stak S14 KT7) (g := (mkF m 25 #[oI i0, .unset, .unset, .unset, .unset] [(.int (3 : Int32)), (.ref h0.size), (.ref h0.size)])) rfl (hb hby at_25)
  refine own_by stT8 ?_
  show own_Go p e below _ T8 (mkF m 28 #[oI i0, .unset, .unset, .unset, .unset] [(.ref w14), (.int (3 : Int32)), (.ref h0.size), (.ref h0.size)])
  refine own_stR XT8 hx hZ eT8 VT7 rfl 3 (by decide) (by decide) (by simp) (own_sto VT7 O (E14.keep KT7)) (hb hby at_28) ?_
  intro T9 hT9 XT9 eT9 WT9 YT9
  have VT9 : own_A Z hT9 h0.size (.object "com/example/focus_crawl/focuscrawl/crawl/page/XPathFunction") kA [(.ref w0), (.ref w1), (.ref w2), (.ref w14), .null, .null, .null, .null, .null, .null, .null, .null, .null, .null, .null, .null, .null, .null, .null, .null, .null, .null, .null, .null, .null, .null, .null, .null, .null, .null, .null, .null, .null, .null, .null, .null] := YT9
  have KT9 := KT7.wr WT9 (Or.inr (Nat.le_refl _))
  have NT9 := own_frs (i := 3) NT7 (Nat.le_refl h0.size)
  clear YT9
  show own_Go p e below _ T9 (mkF m 29 #[oI i0, .unset, .unset, .unset, .unset] [(.ref h0.size)])
  refine own_by (fun t_ k_ => XS.dup XT9.here hx rfl (hb hby at_29) rfl rfl k_) ?_
  show own_Go p e below _ T9 (mkF m 30 #[oI i0, .unset, .unset, .unset, .unset] [(.ref h0.size), (.ref h0.size)])
  refine own_by (fun t_ k_ => XT.iconstV XT9.here hx rfl (4 : Int32) (hb hby at_30) (by decide) k_) ?_
  show own_Go p e below _ T9 (mkF m 31 #[oI i0, .unset, .unset, .unset, .unset] [(.int (4 : Int32)), (.ref h0.size), (.ref h0.size)])
  obtain ⟨T10, XT10, eT10, stT10⟩ := getS2 XT9 hx hZ hown (host := "") (Or.inl (hw _ (List.mem_of_getElem? (i := 12) rfl))) Via.refl eT9 (own_stak S22 KT9) (g := (mkF m 31 #[oI i0, .unset, .unset, .unset, .unset] [(.int (4 : Int32)), (.ref h0.size), (.ref h0.size)])) rfl (hb hby at_31)
  refine own_by stT10 ?_
  show own_Go p e below _ T10 (mkF m 34 #[oI i0, .unset, .unset, .unset, .unset] [(.ref w22), (.int (4 : Int32)), (.ref h0.size), (.ref h0.size)])
  refine own_stR XT10 hx hZ eT10 VT9 rfl 4 (by decide) (by decide) (by simp) (own_sto VT9 O (E22.keep KT9)) (hb hby at_34) ?_
  intro T11 hT11 XT11 eT11 WT11 YT11
  have VT11 : own_A Z hT11 h0.size (.object "com/example/focus_crawl/focuscrawl/crawl/page/XPathFunction") kA [(.ref w0), (.ref w1), (.ref w2), (.ref w14), (.ref w22), .null, .null, .null, .null, .null, .null, .null, .null, .null, .null, .null, .null, .null, .null, .null, .null, .null, .null, .null, .null, .null, .null, .null, .null, .null, .null, .null, .null, .null, .null, .null] := YT11
  have KT11 := KT9.wr WT11 (Or.inr (Nat.le_refl _))
  have NT11 := own_frs (i := 4) NT9 (Nat.le_refl h0.size)
  clear YT11
  show own_Go p e below _ T11 (mkF m 35 #[oI i0, .unset, .unset, .unset, .unset] [(.ref h0.size)])
  refine own_by (fun t_ k_ => XS.dup XT11.here hx rfl (hb hby at_35) rfl rfl k_) ?_
  show own_Go p e below _ T11 (mkF m 36 #[oI i0, .unset, .unset, .unset, .unset] [(.ref h0.size), (.ref h0.size)])
  refine own_by (fun t_ k_ => XT.iconstV XT11.here hx rfl (5 : Int32) (hb hby at_36) (by decide) k_) ?_
  show own_Go p e below _ T11 (mkF m 37 #[oI i0, .unset, .unset, .unset, .unset] [(.int (5 : Int32)), (.ref h0.size), (.ref h0.size)])
  obtain ⟨T12, XT12, eT12, stT12⟩ := getS2 XT11 hx hZ hown (host := "") (Or.inl (hw _ (List.mem_of_getElem? (i := 14) rfl))) Via.refl eT11 (own_stak S23 KT11) (g := (mkF m 37 #[oI i0, .unset, .unset, .unset, .unset] [(.int (5 : Int32)), (.ref h0.size), (.ref h0.size)])) rfl (hb hby at_37)
  refine own_by stT12 ?_
  show own_Go p e below _ T12 (mkF m 40 #[oI i0, .unset, .unset, .unset, .unset] [(.ref w23), (.int (5 : Int32)), (.ref h0.size), (.ref h0.size)])
  refine own_stR XT12 hx hZ eT12 VT11 rfl 5 (by decide) (by decide) (by simp) (own_sto VT11 O (E23.keep KT11)) (hb hby at_40) ?_
  intro T13 hT13 XT13 eT13 WT13 YT13
  have VT13 : own_A Z hT13 h0.size (.object "com/example/focus_crawl/focuscrawl/crawl/page/XPathFunction") kA [(.ref w0), (.ref w1), (.ref w2), (.ref w14), (.ref w22), (.ref w23), .null, .null, .null, .null, .null, .null, .null, .null, .null, .null, .null, .null, .null, .null, .null, .null, .null, .null, .null, .null, .null, .null, .null, .null, .null, .null, .null, .null, .null, .null] := YT13
  have KT13 := KT11.wr WT13 (Or.inr (Nat.le_refl _))
  have NT13 := own_frs (i := 5) NT11 (Nat.le_refl h0.size)
  clear YT13
  show own_Go p e below _ T13 (mkF m 41 #[oI i0, .unset, .unset, .unset, .unset] [(.ref h0.size)])
  refine own_by (fun t_ k_ => XS.dup XT13.here hx rfl (hb hby at_41) rfl rfl k_) ?_
  show own_Go p e below _ T13 (mkF m 42 #[oI i0, .unset, .unset, .unset, .unset] [(.ref h0.size), (.ref h0.size)])
  refine own_by (fun t_ k_ => XT.bipushV XT13.here hx rfl (6 : Int32) (hb hby at_42) (by decide) k_) ?_
  show own_Go p e below _ T13 (mkF m 44 #[oI i0, .unset, .unset, .unset, .unset] [(.int (6 : Int32)), (.ref h0.size), (.ref h0.size)])
  obtain ⟨T14, XT14, eT14, stT14⟩ := getS2 XT13 hx hZ hown (host := "") (Or.inl (hw _ (List.mem_of_getElem? (i := 16) rfl))) Via.refl eT13 (own_stak S24 KT13) (g := (mkF m 44 #[oI i0, .unset, .unset, .unset, .unset] [(.int (6 : Int32)), (.ref h0.size), (.ref h0.size)])) rfl (hb hby at_44)
  refine own_by stT14 ?_
  show own_Go p e below _ T14 (mkF m 47 #[oI i0, .unset, .unset, .unset, .unset] [(.ref w24), (.int (6 : Int32)), (.ref h0.size), (.ref h0.size)])
  refine own_stR XT14 hx hZ eT14 VT13 rfl 6 (by decide) (by decide) (by simp) (own_sto VT13 O (E24.keep KT13)) (hb hby at_47) ?_
  intro T15 hT15 XT15 eT15 WT15 YT15
  have VT15 : own_A Z hT15 h0.size (.object "com/example/focus_crawl/focuscrawl/crawl/page/XPathFunction") kA [(.ref w0), (.ref w1), (.ref w2), (.ref w14), (.ref w22), (.ref w23), (.ref w24), .null, .null, .null, .null, .null, .null, .null, .null, .null, .null, .null, .null, .null, .null, .null, .null, .null, .null, .null, .null, .null, .null, .null, .null, .null, .null, .null, .null, .null] := YT15
  have KT15 := KT13.wr WT15 (Or.inr (Nat.le_refl _))
  have NT15 := own_frs (i := 6) NT13 (Nat.le_refl h0.size)
  clear YT15
  show own_Go p e below _ T15 (mkF m 48 #[oI i0, .unset, .unset, .unset, .unset] [(.ref h0.size)])
  refine own_by (fun t_ k_ => XS.dup XT15.here hx rfl (hb hby at_48) rfl rfl k_) ?_
  show own_Go p e below _ T15 (mkF m 49 #[oI i0, .unset, .unset, .unset, .unset] [(.ref h0.size), (.ref h0.size)])
  refine own_by (fun t_ k_ => XT.bipushV XT15.here hx rfl (7 : Int32) (hb hby at_49) (by decide) k_) ?_
  show own_Go p e below _ T15 (mkF m 51 #[oI i0, .unset, .unset, .unset, .unset] [(.int (7 : Int32)), (.ref h0.size), (.ref h0.size)])
  obtain ⟨T16, XT16, eT16, stT16⟩ := getS2 XT15 hx hZ hown (host := "") (Or.inl (hw _ (List.mem_of_getElem? (i := 18) rfl))) Via.refl eT15 (own_stak S25 KT15) (g := (mkF m 51 #[oI i0, .unset, .unset, .unset, .unset] [(.int (7 : Int32)), (.ref h0.size), (.ref h0.size)])) rfl (hb hby at_51)
  refine own_by stT16 ?_
  show own_Go p e below _ T16 (mkF m 54 #[oI i0, .unset, .unset, .unset, .unset] [(.ref w25), (.int (7 : Int32)), (.ref h0.size), (.ref h0.size)])
  refine own_stR XT16 hx hZ eT16 VT15 rfl 7 (by decide) (by decide) (by simp) (own_sto VT15 O (E25.keep KT15)) (hb hby at_54) ?_
  intro T17 hT17 XT17 eT17 WT17 YT17
  have VT17 : own_A Z hT17 h0.size (.object "com/example/focus_crawl/focuscrawl/crawl/page/XPathFunction") kA [(.ref w0), (.ref w1), (.ref w2), (.ref w14), (.ref w22), (.ref w23), (.ref w24), (.ref w25), .null, .null, .null, .null, .null, .null, .null, .null, .null, .null, .null, .null, .null, .null, .null, .null, .null, .null, .null, .null, .null, .null, .null, .null, .null, .null, .null, .null] := YT17
  have KT17 := KT15.wr WT17 (Or.inr (Nat.le_refl _))
  have NT17 := own_frs (i := 7) NT15 (Nat.le_refl h0.size)
  clear YT17
  show own_Go p e below _ T17 (mkF m 55 #[oI i0, .unset, .unset, .unset, .unset] [(.ref h0.size)])
  refine own_by (fun t_ k_ => XS.dup XT17.here hx rfl (hb hby at_55) rfl rfl k_) ?_
  show own_Go p e below _ T17 (mkF m 56 #[oI i0, .unset, .unset, .unset, .unset] [(.ref h0.size), (.ref h0.size)])
  refine own_by (fun t_ k_ => XT.bipushV XT17.here hx rfl (8 : Int32) (hb hby at_56) (by decide) k_) ?_
  show own_Go p e below _ T17 (mkF m 58 #[oI i0, .unset, .unset, .unset, .unset] [(.int (8 : Int32)), (.ref h0.size), (.ref h0.size)])
  obtain ⟨T18, XT18, eT18, stT18⟩ := getS2 XT17 hx hZ hown (host := "") (Or.inl (hw _ (List.mem_of_getElem? (i := 20) rfl))) Via.refl eT17 (own_stak S26 KT17) (g := (mkF m 58 #[oI i0, .unset, .unset, .unset, .unset] [(.int (8 : Int32)), (.ref h0.size), (.ref h0.size)])) rfl (hb hby at_58)
  refine own_by stT18 ?_
  show own_Go p e below _ T18 (mkF m 61 #[oI i0, .unset, .unset, .unset, .unset] [(.ref w26), (.int (8 : Int32)), (.ref h0.size), (.ref h0.size)])
  refine own_stR XT18 hx hZ eT18 VT17 rfl 8 (by decide) (by decide) (by simp) (own_sto VT17 O (E26.keep KT17)) (hb hby at_61) ?_
  intro T19 hT19 XT19 eT19 WT19 YT19
  have VT19 : own_A Z hT19 h0.size (.object "com/example/focus_crawl/focuscrawl/crawl/page/XPathFunction") kA [(.ref w0), (.ref w1), (.ref w2), (.ref w14), (.ref w22), (.ref w23), (.ref w24), (.ref w25), (.ref w26), .null, .null, .null, .null, .null, .null, .null, .null, .null, .null, .null, .null, .null, .null, .null, .null, .null, .null, .null, .null, .null, .null, .null, .null, .null, .null, .null] := YT19
  have KT19 := KT17.wr WT19 (Or.inr (Nat.le_refl _))
  have NT19 := own_frs (i := 8) NT17 (Nat.le_refl h0.size)
  clear YT19
  show own_Go p e below _ T19 (mkF m 62 #[oI i0, .unset, .unset, .unset, .unset] [(.ref h0.size)])
  refine own_by (fun t_ k_ => XS.dup XT19.here hx rfl (hb hby at_62) rfl rfl k_) ?_
  show own_Go p e below _ T19 (mkF m 63 #[oI i0, .unset, .unset, .unset, .unset] [(.ref h0.size), (.ref h0.size)])
  refine own_by (fun t_ k_ => XT.bipushV XT19.here hx rfl (9 : Int32) (hb hby at_63) (by decide) k_) ?_
  show own_Go p e below _ T19 (mkF m 65 #[oI i0, .unset, .unset, .unset, .unset] [(.int (9 : Int32)), (.ref h0.size), (.ref h0.size)])
  obtain ⟨T20, XT20, eT20, stT20⟩ := getS2 XT19 hx hZ hown (host := "") (Or.inl (hw _ (List.mem_of_getElem? (i := 22) rfl))) Via.refl eT19 (own_stak S3 KT19) (g := (mkF m 65 #[oI i0, .unset, .unset, .unset, .unset] [(.int (9 : Int32)), (.ref h0.size), (.ref h0.size)])) rfl (hb hby at_65)
  refine own_by stT20 ?_
  show own_Go p e below _ T20 (mkF m 68 #[oI i0, .unset, .unset, .unset, .unset] [(.ref w3), (.int (9 : Int32)), (.ref h0.size), (.ref h0.size)])
  refine own_stR XT20 hx hZ eT20 VT19 rfl 9 (by decide) (by decide) (by simp) (own_sto VT19 O (E3.keep KT19)) (hb hby at_68) ?_
  intro T21 hT21 XT21 eT21 WT21 YT21
  have VT21 : own_A Z hT21 h0.size (.object "com/example/focus_crawl/focuscrawl/crawl/page/XPathFunction") kA [(.ref w0), (.ref w1), (.ref w2), (.ref w14), (.ref w22), (.ref w23), (.ref w24), (.ref w25), (.ref w26), (.ref w3), .null, .null, .null, .null, .null, .null, .null, .null, .null, .null, .null, .null, .null, .null, .null, .null, .null, .null, .null, .null, .null, .null, .null, .null, .null, .null] := YT21
  have KT21 := KT19.wr WT21 (Or.inr (Nat.le_refl _))
  have NT21 := own_frs (i := 9) NT19 (Nat.le_refl h0.size)
  clear YT21
  show own_Go p e below _ T21 (mkF m 69 #[oI i0, .unset, .unset, .unset, .unset] [(.ref h0.size)])
  refine own_by (fun t_ k_ => XS.dup XT21.here hx rfl (hb hby at_69) rfl rfl k_) ?_
  show own_Go p e below _ T21 (mkF m 70 #[oI i0, .unset, .unset, .unset, .unset] [(.ref h0.size), (.ref h0.size)])
  refine own_by (fun t_ k_ => XT.bipushV XT21.here hx rfl (10 : Int32) (hb hby at_70) (by decide) k_) ?_
  show own_Go p e below _ T21 (mkF m 72 #[oI i0, .unset, .unset, .unset, .unset] [(.int (10 : Int32)), (.ref h0.size), (.ref h0.size)])
  obtain ⟨T22, XT22, eT22, stT22⟩ := getS2 XT21 hx hZ hown (host := "") (Or.inl (hw _ (List.mem_of_getElem? (i := 24) rfl))) Via.refl eT21 (own_stak S4 KT21) (g := (mkF m 72 #[oI i0, .unset, .unset, .unset, .unset] [(.int (10 : Int32)), (.ref h0.size), (.ref h0.size)])) rfl (hb hby at_72)
  refine own_by stT22 ?_
  show own_Go p e below _ T22 (mkF m 75 #[oI i0, .unset, .unset, .unset, .unset] [(.ref w4), (.int (10 : Int32)), (.ref h0.size), (.ref h0.size)])
  refine own_stR XT22 hx hZ eT22 VT21 rfl 10 (by decide) (by decide) (by simp) (own_sto VT21 O (E4.keep KT21)) (hb hby at_75) ?_
  intro T23 hT23 XT23 eT23 WT23 YT23
  have VT23 : own_A Z hT23 h0.size (.object "com/example/focus_crawl/focuscrawl/crawl/page/XPathFunction") kA [(.ref w0), (.ref w1), (.ref w2), (.ref w14), (.ref w22), (.ref w23), (.ref w24), (.ref w25), (.ref w26), (.ref w3), (.ref w4), .null, .null, .null, .null, .null, .null, .null, .null, .null, .null, .null, .null, .null, .null, .null, .null, .null, .null, .null, .null, .null, .null, .null, .null, .null] := YT23
  have KT23 := KT21.wr WT23 (Or.inr (Nat.le_refl _))
  have NT23 := own_frs (i := 10) NT21 (Nat.le_refl h0.size)
  clear YT23
  show own_Go p e below _ T23 (mkF m 76 #[oI i0, .unset, .unset, .unset, .unset] [(.ref h0.size)])
  refine own_by (fun t_ k_ => XS.dup XT23.here hx rfl (hb hby at_76) rfl rfl k_) ?_
  show own_Go p e below _ T23 (mkF m 77 #[oI i0, .unset, .unset, .unset, .unset] [(.ref h0.size), (.ref h0.size)])
  refine own_by (fun t_ k_ => XT.bipushV XT23.here hx rfl (11 : Int32) (hb hby at_77) (by decide) k_) ?_
  show own_Go p e below _ T23 (mkF m 79 #[oI i0, .unset, .unset, .unset, .unset] [(.int (11 : Int32)), (.ref h0.size), (.ref h0.size)])
  obtain ⟨T24, XT24, eT24, stT24⟩ := getS2 XT23 hx hZ hown (host := "") (Or.inl (hw _ (List.mem_of_getElem? (i := 26) rfl))) Via.refl eT23 (own_stak S5 KT23) (g := (mkF m 79 #[oI i0, .unset, .unset, .unset, .unset] [(.int (11 : Int32)), (.ref h0.size), (.ref h0.size)])) rfl (hb hby at_79)
  refine own_by stT24 ?_
  show own_Go p e below _ T24 (mkF m 82 #[oI i0, .unset, .unset, .unset, .unset] [(.ref w5), (.int (11 : Int32)), (.ref h0.size), (.ref h0.size)])
  refine own_stR XT24 hx hZ eT24 VT23 rfl 11 (by decide) (by decide) (by simp) (own_sto VT23 O (E5.keep KT23)) (hb hby at_82) ?_
  intro T25 hT25 XT25 eT25 WT25 YT25
  have VT25 : own_A Z hT25 h0.size (.object "com/example/focus_crawl/focuscrawl/crawl/page/XPathFunction") kA [(.ref w0), (.ref w1), (.ref w2), (.ref w14), (.ref w22), (.ref w23), (.ref w24), (.ref w25), (.ref w26), (.ref w3), (.ref w4), (.ref w5), .null, .null, .null, .null, .null, .null, .null, .null, .null, .null, .null, .null, .null, .null, .null, .null, .null, .null, .null, .null, .null, .null, .null, .null] := YT25
  have KT25 := KT23.wr WT25 (Or.inr (Nat.le_refl _))
  have NT25 := own_frs (i := 11) NT23 (Nat.le_refl h0.size)
  clear YT25
  show own_Go p e below _ T25 (mkF m 83 #[oI i0, .unset, .unset, .unset, .unset] [(.ref h0.size)])
  refine own_by (fun t_ k_ => XS.dup XT25.here hx rfl (hb hby at_83) rfl rfl k_) ?_
  show own_Go p e below _ T25 (mkF m 84 #[oI i0, .unset, .unset, .unset, .unset] [(.ref h0.size), (.ref h0.size)])
  refine own_by (fun t_ k_ => XT.bipushV XT25.here hx rfl (12 : Int32) (hb hby at_84) (by decide) k_) ?_
  show own_Go p e below _ T25 (mkF m 86 #[oI i0, .unset, .unset, .unset, .unset] [(.int (12 : Int32)), (.ref h0.size), (.ref h0.size)])
  obtain ⟨T26, XT26, eT26, stT26⟩ := getS2 XT25 hx hZ hown (host := "") (Or.inl (hw _ (List.mem_of_getElem? (i := 28) rfl))) Via.refl eT25 (own_stak S6 KT25) (g := (mkF m 86 #[oI i0, .unset, .unset, .unset, .unset] [(.int (12 : Int32)), (.ref h0.size), (.ref h0.size)])) rfl (hb hby at_86)
  refine own_by stT26 ?_
  show own_Go p e below _ T26 (mkF m 89 #[oI i0, .unset, .unset, .unset, .unset] [(.ref w6), (.int (12 : Int32)), (.ref h0.size), (.ref h0.size)])
  refine own_stR XT26 hx hZ eT26 VT25 rfl 12 (by decide) (by decide) (by simp) (own_sto VT25 O (E6.keep KT25)) (hb hby at_89) ?_
  intro T27 hT27 XT27 eT27 WT27 YT27
  have VT27 : own_A Z hT27 h0.size (.object "com/example/focus_crawl/focuscrawl/crawl/page/XPathFunction") kA [(.ref w0), (.ref w1), (.ref w2), (.ref w14), (.ref w22), (.ref w23), (.ref w24), (.ref w25), (.ref w26), (.ref w3), (.ref w4), (.ref w5), (.ref w6), .null, .null, .null, .null, .null, .null, .null, .null, .null, .null, .null, .null, .null, .null, .null, .null, .null, .null, .null, .null, .null, .null, .null] := YT27
  have KT27 := KT25.wr WT27 (Or.inr (Nat.le_refl _))
  have NT27 := own_frs (i := 12) NT25 (Nat.le_refl h0.size)
  clear YT27
  show own_Go p e below _ T27 (mkF m 90 #[oI i0, .unset, .unset, .unset, .unset] [(.ref h0.size)])
  refine own_by (fun t_ k_ => XS.dup XT27.here hx rfl (hb hby at_90) rfl rfl k_) ?_
  show own_Go p e below _ T27 (mkF m 91 #[oI i0, .unset, .unset, .unset, .unset] [(.ref h0.size), (.ref h0.size)])
  refine own_by (fun t_ k_ => XT.bipushV XT27.here hx rfl (13 : Int32) (hb hby at_91) (by decide) k_) ?_
  show own_Go p e below _ T27 (mkF m 93 #[oI i0, .unset, .unset, .unset, .unset] [(.int (13 : Int32)), (.ref h0.size), (.ref h0.size)])
  obtain ⟨T28, XT28, eT28, stT28⟩ := getS2 XT27 hx hZ hown (host := "") (Or.inl (hw _ (List.mem_of_getElem? (i := 30) rfl))) Via.refl eT27 (own_stak S7 KT27) (g := (mkF m 93 #[oI i0, .unset, .unset, .unset, .unset] [(.int (13 : Int32)), (.ref h0.size), (.ref h0.size)])) rfl (hb hby at_93)
  refine own_by stT28 ?_
  show own_Go p e below _ T28 (mkF m 96 #[oI i0, .unset, .unset, .unset, .unset] [(.ref w7), (.int (13 : Int32)), (.ref h0.size), (.ref h0.size)])
  refine own_stR XT28 hx hZ eT28 VT27 rfl 13 (by decide) (by decide) (by simp) (own_sto VT27 O (E7.keep KT27)) (hb hby at_96) ?_
  intro T29 hT29 XT29 eT29 WT29 YT29
  have VT29 : own_A Z hT29 h0.size (.object "com/example/focus_crawl/focuscrawl/crawl/page/XPathFunction") kA [(.ref w0), (.ref w1), (.ref w2), (.ref w14), (.ref w22), (.ref w23), (.ref w24), (.ref w25), (.ref w26), (.ref w3), (.ref w4), (.ref w5), (.ref w6), (.ref w7), .null, .null, .null, .null, .null, .null, .null, .null, .null, .null, .null, .null, .null, .null, .null, .null, .null, .null, .null, .null, .null, .null] := YT29
  have KT29 := KT27.wr WT29 (Or.inr (Nat.le_refl _))
  have NT29 := own_frs (i := 13) NT27 (Nat.le_refl h0.size)
  clear YT29
  show own_Go p e below _ T29 (mkF m 97 #[oI i0, .unset, .unset, .unset, .unset] [(.ref h0.size)])
  refine own_by (fun t_ k_ => XS.dup XT29.here hx rfl (hb hby at_97) rfl rfl k_) ?_
  show own_Go p e below _ T29 (mkF m 98 #[oI i0, .unset, .unset, .unset, .unset] [(.ref h0.size), (.ref h0.size)])
  refine own_by (fun t_ k_ => XT.bipushV XT29.here hx rfl (14 : Int32) (hb hby at_98) (by decide) k_) ?_
  show own_Go p e below _ T29 (mkF m 100 #[oI i0, .unset, .unset, .unset, .unset] [(.int (14 : Int32)), (.ref h0.size), (.ref h0.size)])
  obtain ⟨T30, XT30, eT30, stT30⟩ := getS2 XT29 hx hZ hown (host := "") (Or.inl (hw _ (List.mem_of_getElem? (i := 32) rfl))) Via.refl eT29 (own_stak S8 KT29) (g := (mkF m 100 #[oI i0, .unset, .unset, .unset, .unset] [(.int (14 : Int32)), (.ref h0.size), (.ref h0.size)])) rfl (hb hby at_100)
  refine own_by stT30 ?_
  show own_Go p e below _ T30 (mkF m 103 #[oI i0, .unset, .unset, .unset, .unset] [(.ref w8), (.int (14 : Int32)), (.ref h0.size), (.ref h0.size)])
  refine own_stR XT30 hx hZ eT30 VT29 rfl 14 (by decide) (by decide) (by simp) (own_sto VT29 O (E8.keep KT29)) (hb hby at_103) ?_
  intro T31 hT31 XT31 eT31 WT31 YT31
  have VT31 : own_A Z hT31 h0.size (.object "com/example/focus_crawl/focuscrawl/crawl/page/XPathFunction") kA [(.ref w0), (.ref w1), (.ref w2), (.ref w14), (.ref w22), (.ref w23), (.ref w24), (.ref w25), (.ref w26), (.ref w3), (.ref w4), (.ref w5), (.ref w6), (.ref w7), (.ref w8), .null, .null, .null, .null, .null, .null, .null, .null, .null, .null, .null, .null, .null, .null, .null, .null, .null, .null, .null, .null, .null] := YT31
  have KT31 := KT29.wr WT31 (Or.inr (Nat.le_refl _))
  have NT31 := own_frs (i := 14) NT29 (Nat.le_refl h0.size)
  clear YT31
  show own_Go p e below _ T31 (mkF m 104 #[oI i0, .unset, .unset, .unset, .unset] [(.ref h0.size)])
  refine own_by (fun t_ k_ => XS.dup XT31.here hx rfl (hb hby at_104) rfl rfl k_) ?_
  show own_Go p e below _ T31 (mkF m 105 #[oI i0, .unset, .unset, .unset, .unset] [(.ref h0.size), (.ref h0.size)])
  refine own_by (fun t_ k_ => XT.bipushV XT31.here hx rfl (15 : Int32) (hb hby at_105) (by decide) k_) ?_
  show own_Go p e below _ T31 (mkF m 107 #[oI i0, .unset, .unset, .unset, .unset] [(.int (15 : Int32)), (.ref h0.size), (.ref h0.size)])
  obtain ⟨T32, XT32, eT32, stT32⟩ := getS2 XT31 hx hZ hown (host := "") (Or.inl (hw _ (List.mem_of_getElem? (i := 34) rfl))) Via.refl eT31 (own_stak S9 KT31) (g := (mkF m 107 #[oI i0, .unset, .unset, .unset, .unset] [(.int (15 : Int32)), (.ref h0.size), (.ref h0.size)])) rfl (hb hby at_107)
  refine own_by stT32 ?_
  show own_Go p e below _ T32 (mkF m 110 #[oI i0, .unset, .unset, .unset, .unset] [(.ref w9), (.int (15 : Int32)), (.ref h0.size), (.ref h0.size)])
  refine own_stR XT32 hx hZ eT32 VT31 rfl 15 (by decide) (by decide) (by simp) (own_sto VT31 O (E9.keep KT31)) (hb hby at_110) ?_
  intro T33 hT33 XT33 eT33 WT33 YT33
  have VT33 : own_A Z hT33 h0.size (.object "com/example/focus_crawl/focuscrawl/crawl/page/XPathFunction") kA [(.ref w0), (.ref w1), (.ref w2), (.ref w14), (.ref w22), (.ref w23), (.ref w24), (.ref w25), (.ref w26), (.ref w3), (.ref w4), (.ref w5), (.ref w6), (.ref w7), (.ref w8), (.ref w9), .null, .null, .null, .null, .null, .null, .null, .null, .null, .null, .null, .null, .null, .null, .null, .null, .null, .null, .null, .null] := YT33
  have KT33 := KT31.wr WT33 (Or.inr (Nat.le_refl _))
  have NT33 := own_frs (i := 15) NT31 (Nat.le_refl h0.size)
  clear YT33
  show own_Go p e below _ T33 (mkF m 111 #[oI i0, .unset, .unset, .unset, .unset] [(.ref h0.size)])
  refine own_by (fun t_ k_ => XS.dup XT33.here hx rfl (hb hby at_111) rfl rfl k_) ?_
  show own_Go p e below _ T33 (mkF m 112 #[oI i0, .unset, .unset, .unset, .unset] [(.ref h0.size), (.ref h0.size)])
  refine own_by (fun t_ k_ => XT.bipushV XT33.here hx rfl (16 : Int32) (hb hby at_112) (by decide) k_) ?_
  show own_Go p e below _ T33 (mkF m 114 #[oI i0, .unset, .unset, .unset, .unset] [(.int (16 : Int32)), (.ref h0.size), (.ref h0.size)])
  obtain ⟨T34, XT34, eT34, stT34⟩ := getS2 XT33 hx hZ hown (host := "") (Or.inl (hw _ (List.mem_of_getElem? (i := 36) rfl))) Via.refl eT33 (own_stak S10 KT33) (g := (mkF m 114 #[oI i0, .unset, .unset, .unset, .unset] [(.int (16 : Int32)), (.ref h0.size), (.ref h0.size)])) rfl (hb hby at_114)
  refine own_by stT34 ?_
  show own_Go p e below _ T34 (mkF m 117 #[oI i0, .unset, .unset, .unset, .unset] [(.ref w10), (.int (16 : Int32)), (.ref h0.size), (.ref h0.size)])
  refine own_stR XT34 hx hZ eT34 VT33 rfl 16 (by decide) (by decide) (by simp) (own_sto VT33 O (E10.keep KT33)) (hb hby at_117) ?_
  intro T35 hT35 XT35 eT35 WT35 YT35
  have VT35 : own_A Z hT35 h0.size (.object "com/example/focus_crawl/focuscrawl/crawl/page/XPathFunction") kA [(.ref w0), (.ref w1), (.ref w2), (.ref w14), (.ref w22), (.ref w23), (.ref w24), (.ref w25), (.ref w26), (.ref w3), (.ref w4), (.ref w5), (.ref w6), (.ref w7), (.ref w8), (.ref w9), (.ref w10), .null, .null, .null, .null, .null, .null, .null, .null, .null, .null, .null, .null, .null, .null, .null, .null, .null, .null, .null] := YT35
  have KT35 := KT33.wr WT35 (Or.inr (Nat.le_refl _))
  have NT35 := own_frs (i := 16) NT33 (Nat.le_refl h0.size)
  clear YT35
  show own_Go p e below _ T35 (mkF m 118 #[oI i0, .unset, .unset, .unset, .unset] [(.ref h0.size)])
  refine own_by (fun t_ k_ => XS.dup XT35.here hx rfl (hb hby at_118) rfl rfl k_) ?_
  show own_Go p e below _ T35 (mkF m 119 #[oI i0, .unset, .unset, .unset, .unset] [(.ref h0.size), (.ref h0.size)])
  refine own_by (fun t_ k_ => XT.bipushV XT35.here hx rfl (17 : Int32) (hb hby at_119) (by decide) k_) ?_
  show own_Go p e below _ T35 (mkF m 121 #[oI i0, .unset, .unset, .unset, .unset] [(.int (17 : Int32)), (.ref h0.size), (.ref h0.size)])
  obtain ⟨T36, XT36, eT36, stT36⟩ := getS2 XT35 hx hZ hown (host := "") (Or.inl (hw _ (List.mem_of_getElem? (i := 38) rfl))) Via.refl eT35 (own_stak S11 KT35) (g := (mkF m 121 #[oI i0, .unset, .unset, .unset, .unset] [(.int (17 : Int32)), (.ref h0.size), (.ref h0.size)])) rfl (hb hby at_121)
  refine own_by stT36 ?_
  show own_Go p e below _ T36 (mkF m 124 #[oI i0, .unset, .unset, .unset, .unset] [(.ref w11), (.int (17 : Int32)), (.ref h0.size), (.ref h0.size)])
  refine own_stR XT36 hx hZ eT36 VT35 rfl 17 (by decide) (by decide) (by simp) (own_sto VT35 O (E11.keep KT35)) (hb hby at_124) ?_
  intro T37 hT37 XT37 eT37 WT37 YT37
  have VT37 : own_A Z hT37 h0.size (.object "com/example/focus_crawl/focuscrawl/crawl/page/XPathFunction") kA [(.ref w0), (.ref w1), (.ref w2), (.ref w14), (.ref w22), (.ref w23), (.ref w24), (.ref w25), (.ref w26), (.ref w3), (.ref w4), (.ref w5), (.ref w6), (.ref w7), (.ref w8), (.ref w9), (.ref w10), (.ref w11), .null, .null, .null, .null, .null, .null, .null, .null, .null, .null, .null, .null, .null, .null, .null, .null, .null, .null] := YT37
  have KT37 := KT35.wr WT37 (Or.inr (Nat.le_refl _))
  have NT37 := own_frs (i := 17) NT35 (Nat.le_refl h0.size)
  clear YT37
  show own_Go p e below _ T37 (mkF m 125 #[oI i0, .unset, .unset, .unset, .unset] [(.ref h0.size)])
  refine own_by (fun t_ k_ => XS.dup XT37.here hx rfl (hb hby at_125) rfl rfl k_) ?_
  show own_Go p e below _ T37 (mkF m 126 #[oI i0, .unset, .unset, .unset, .unset] [(.ref h0.size), (.ref h0.size)])
  refine own_by (fun t_ k_ => XT.bipushV XT37.here hx rfl (18 : Int32) (hb hby at_126) (by decide) k_) ?_
  show own_Go p e below _ T37 (mkF m 128 #[oI i0, .unset, .unset, .unset, .unset] [(.int (18 : Int32)), (.ref h0.size), (.ref h0.size)])
  obtain ⟨T38, XT38, eT38, stT38⟩ := getS2 XT37 hx hZ hown (host := "") (Or.inl (hw _ (List.mem_of_getElem? (i := 40) rfl))) Via.refl eT37 (own_stak S12 KT37) (g := (mkF m 128 #[oI i0, .unset, .unset, .unset, .unset] [(.int (18 : Int32)), (.ref h0.size), (.ref h0.size)])) rfl (hb hby at_128)
  refine own_by stT38 ?_
  show own_Go p e below _ T38 (mkF m 131 #[oI i0, .unset, .unset, .unset, .unset] [(.ref w12), (.int (18 : Int32)), (.ref h0.size), (.ref h0.size)])
  refine own_stR XT38 hx hZ eT38 VT37 rfl 18 (by decide) (by decide) (by simp) (own_sto VT37 O (E12.keep KT37)) (hb hby at_131) ?_
  intro T39 hT39 XT39 eT39 WT39 YT39
  have VT39 : own_A Z hT39 h0.size (.object "com/example/focus_crawl/focuscrawl/crawl/page/XPathFunction") kA [(.ref w0), (.ref w1), (.ref w2), (.ref w14), (.ref w22), (.ref w23), (.ref w24), (.ref w25), (.ref w26), (.ref w3), (.ref w4), (.ref w5), (.ref w6), (.ref w7), (.ref w8), (.ref w9), (.ref w10), (.ref w11), (.ref w12), .null, .null, .null, .null, .null, .null, .null, .null, .null, .null, .null, .null, .null, .null, .null, .null, .null] := YT39
  have KT39 := KT37.wr WT39 (Or.inr (Nat.le_refl _))
  have NT39 := own_frs (i := 18) NT37 (Nat.le_refl h0.size)
  clear YT39
  show own_Go p e below _ T39 (mkF m 132 #[oI i0, .unset, .unset, .unset, .unset] [(.ref h0.size)])
  refine own_by (fun t_ k_ => XS.dup XT39.here hx rfl (hb hby at_132) rfl rfl k_) ?_
  show own_Go p e below _ T39 (mkF m 133 #[oI i0, .unset, .unset, .unset, .unset] [(.ref h0.size), (.ref h0.size)])
  refine own_by (fun t_ k_ => XT.bipushV XT39.here hx rfl (19 : Int32) (hb hby at_133) (by decide) k_) ?_
  show own_Go p e below _ T39 (mkF m 135 #[oI i0, .unset, .unset, .unset, .unset] [(.int (19 : Int32)), (.ref h0.size), (.ref h0.size)])
  obtain ⟨T40, XT40, eT40, stT40⟩ := getS2 XT39 hx hZ hown (host := "") (Or.inl (hw _ (List.mem_of_getElem? (i := 42) rfl))) Via.refl eT39 (own_stak S13 KT39) (g := (mkF m 135 #[oI i0, .unset, .unset, .unset, .unset] [(.int (19 : Int32)), (.ref h0.size), (.ref h0.size)])) rfl (hb hby at_135)
  refine own_by stT40 ?_
  show own_Go p e below _ T40 (mkF m 138 #[oI i0, .unset, .unset, .unset, .unset] [(.ref w13), (.int (19 : Int32)), (.ref h0.size), (.ref h0.size)])
  refine own_stR XT40 hx hZ eT40 VT39 rfl 19 (by decide) (by decide) (by simp) (own_sto VT39 O (E13.keep KT39)) (hb hby at_138) ?_
  intro T41 hT41 XT41 eT41 WT41 YT41
  have VT41 : own_A Z hT41 h0.size (.object "com/example/focus_crawl/focuscrawl/crawl/page/XPathFunction") kA [(.ref w0), (.ref w1), (.ref w2), (.ref w14), (.ref w22), (.ref w23), (.ref w24), (.ref w25), (.ref w26), (.ref w3), (.ref w4), (.ref w5), (.ref w6), (.ref w7), (.ref w8), (.ref w9), (.ref w10), (.ref w11), (.ref w12), (.ref w13), .null, .null, .null, .null, .null, .null, .null, .null, .null, .null, .null, .null, .null, .null, .null, .null] := YT41
  have KT41 := KT39.wr WT41 (Or.inr (Nat.le_refl _))
  have NT41 := own_frs (i := 19) NT39 (Nat.le_refl h0.size)
  clear YT41
  show own_Go p e below _ T41 (mkF m 139 #[oI i0, .unset, .unset, .unset, .unset] [(.ref h0.size)])
  refine own_by (fun t_ k_ => XS.dup XT41.here hx rfl (hb hby at_139) rfl rfl k_) ?_
  show own_Go p e below _ T41 (mkF m 140 #[oI i0, .unset, .unset, .unset, .unset] [(.ref h0.size), (.ref h0.size)])
  refine own_by (fun t_ k_ => XT.bipushV XT41.here hx rfl (20 : Int32) (hb hby at_140) (by decide) k_) ?_
  show own_Go p e below _ T41 (mkF m 142 #[oI i0, .unset, .unset, .unset, .unset] [(.int (20 : Int32)), (.ref h0.size), (.ref h0.size)])
  obtain ⟨T42, XT42, eT42, stT42⟩ := getS2 XT41 hx hZ hown (host := "") (Or.inl (hw _ (List.mem_of_getElem? (i := 44) rfl))) Via.refl eT41 (own_stak S15 KT41) (g := (mkF m 142 #[oI i0, .unset, .unset, .unset, .unset] [(.int (20 : Int32)), (.ref h0.size), (.ref h0.size)])) rfl (hb hby at_142)
  refine own_by stT42 ?_
  show own_Go p e below _ T42 (mkF m 145 #[oI i0, .unset, .unset, .unset, .unset] [(.ref w15), (.int (20 : Int32)), (.ref h0.size), (.ref h0.size)])
  refine own_stR XT42 hx hZ eT42 VT41 rfl 20 (by decide) (by decide) (by simp) (own_sto VT41 O (E15.keep KT41)) (hb hby at_145) ?_
  intro T43 hT43 XT43 eT43 WT43 YT43
  have VT43 : own_A Z hT43 h0.size (.object "com/example/focus_crawl/focuscrawl/crawl/page/XPathFunction") kA [(.ref w0), (.ref w1), (.ref w2), (.ref w14), (.ref w22), (.ref w23), (.ref w24), (.ref w25), (.ref w26), (.ref w3), (.ref w4), (.ref w5), (.ref w6), (.ref w7), (.ref w8), (.ref w9), (.ref w10), (.ref w11), (.ref w12), (.ref w13), (.ref w15), .null, .null, .null, .null, .null, .null, .null, .null, .null, .null, .null, .null, .null, .null, .null] := YT43
  have KT43 := KT41.wr WT43 (Or.inr (Nat.le_refl _))
  have NT43 := own_frs (i := 20) NT41 (Nat.le_refl h0.size)
  clear YT43
  show own_Go p e below _ T43 (mkF m 146 #[oI i0, .unset, .unset, .unset, .unset] [(.ref h0.size)])
  refine own_by (fun t_ k_ => XS.dup XT43.here hx rfl (hb hby at_146) rfl rfl k_) ?_
  show own_Go p e below _ T43 (mkF m 147 #[oI i0, .unset, .unset, .unset, .unset] [(.ref h0.size), (.ref h0.size)])
  refine own_by (fun t_ k_ => XT.bipushV XT43.here hx rfl (21 : Int32) (hb hby at_147) (by decide) k_) ?_
  show own_Go p e below _ T43 (mkF m 149 #[oI i0, .unset, .unset, .unset, .unset] [(.int (21 : Int32)), (.ref h0.size), (.ref h0.size)])
  obtain ⟨T44, XT44, eT44, stT44⟩ := getS2 XT43 hx hZ hown (host := "") (Or.inl (hw _ (List.mem_of_getElem? (i := 46) rfl))) Via.refl eT43 (own_stak S16 KT43) (g := (mkF m 149 #[oI i0, .unset, .unset, .unset, .unset] [(.int (21 : Int32)), (.ref h0.size), (.ref h0.size)])) rfl (hb hby at_149)
  refine own_by stT44 ?_
  show own_Go p e below _ T44 (mkF m 152 #[oI i0, .unset, .unset, .unset, .unset] [(.ref w16), (.int (21 : Int32)), (.ref h0.size), (.ref h0.size)])
  refine own_stR XT44 hx hZ eT44 VT43 rfl 21 (by decide) (by decide) (by simp) (own_sto VT43 O (E16.keep KT43)) (hb hby at_152) ?_
  intro T45 hT45 XT45 eT45 WT45 YT45
  have VT45 : own_A Z hT45 h0.size (.object "com/example/focus_crawl/focuscrawl/crawl/page/XPathFunction") kA [(.ref w0), (.ref w1), (.ref w2), (.ref w14), (.ref w22), (.ref w23), (.ref w24), (.ref w25), (.ref w26), (.ref w3), (.ref w4), (.ref w5), (.ref w6), (.ref w7), (.ref w8), (.ref w9), (.ref w10), (.ref w11), (.ref w12), (.ref w13), (.ref w15), (.ref w16), .null, .null, .null, .null, .null, .null, .null, .null, .null, .null, .null, .null, .null, .null] := YT45
  have KT45 := KT43.wr WT45 (Or.inr (Nat.le_refl _))
  have NT45 := own_frs (i := 21) NT43 (Nat.le_refl h0.size)
  clear YT45
  show own_Go p e below _ T45 (mkF m 153 #[oI i0, .unset, .unset, .unset, .unset] [(.ref h0.size)])
  refine own_by (fun t_ k_ => XS.dup XT45.here hx rfl (hb hby at_153) rfl rfl k_) ?_
  show own_Go p e below _ T45 (mkF m 154 #[oI i0, .unset, .unset, .unset, .unset] [(.ref h0.size), (.ref h0.size)])
  refine own_by (fun t_ k_ => XT.bipushV XT45.here hx rfl (22 : Int32) (hb hby at_154) (by decide) k_) ?_
  show own_Go p e below _ T45 (mkF m 156 #[oI i0, .unset, .unset, .unset, .unset] [(.int (22 : Int32)), (.ref h0.size), (.ref h0.size)])
  obtain ⟨T46, XT46, eT46, stT46⟩ := getS2 XT45 hx hZ hown (host := "") (Or.inl (hw _ (List.mem_of_getElem? (i := 48) rfl))) Via.refl eT45 (own_stak S17 KT45) (g := (mkF m 156 #[oI i0, .unset, .unset, .unset, .unset] [(.int (22 : Int32)), (.ref h0.size), (.ref h0.size)])) rfl (hb hby at_156)
  refine own_by stT46 ?_
  show own_Go p e below _ T46 (mkF m 159 #[oI i0, .unset, .unset, .unset, .unset] [(.ref w17), (.int (22 : Int32)), (.ref h0.size), (.ref h0.size)])
  refine own_stR XT46 hx hZ eT46 VT45 rfl 22 (by decide) (by decide) (by simp) (own_sto VT45 O (E17.keep KT45)) (hb hby at_159) ?_
  intro T47 hT47 XT47 eT47 WT47 YT47
  have VT47 : own_A Z hT47 h0.size (.object "com/example/focus_crawl/focuscrawl/crawl/page/XPathFunction") kA [(.ref w0), (.ref w1), (.ref w2), (.ref w14), (.ref w22), (.ref w23), (.ref w24), (.ref w25), (.ref w26), (.ref w3), (.ref w4), (.ref w5), (.ref w6), (.ref w7), (.ref w8), (.ref w9), (.ref w10), (.ref w11), (.ref w12), (.ref w13), (.ref w15), (.ref w16), (.ref w17), .null, .null, .null, .null, .null, .null, .null, .null, .null, .null, .null, .null, .null] := YT47
  have KT47 := KT45.wr WT47 (Or.inr (Nat.le_refl _))
  have NT47 := own_frs (i := 22) NT45 (Nat.le_refl h0.size)
  clear YT47
  show own_Go p e below _ T47 (mkF m 160 #[oI i0, .unset, .unset, .unset, .unset] [(.ref h0.size)])
  refine own_by (fun t_ k_ => XS.dup XT47.here hx rfl (hb hby at_160) rfl rfl k_) ?_
  show own_Go p e below _ T47 (mkF m 161 #[oI i0, .unset, .unset, .unset, .unset] [(.ref h0.size), (.ref h0.size)])
  refine own_by (fun t_ k_ => XT.bipushV XT47.here hx rfl (23 : Int32) (hb hby at_161) (by decide) k_) ?_
  show own_Go p e below _ T47 (mkF m 163 #[oI i0, .unset, .unset, .unset, .unset] [(.int (23 : Int32)), (.ref h0.size), (.ref h0.size)])
  obtain ⟨T48, XT48, eT48, stT48⟩ := getS2 XT47 hx hZ hown (host := "") (Or.inl (hw _ (List.mem_of_getElem? (i := 50) rfl))) Via.refl eT47 (own_stak S18 KT47) (g := (mkF m 163 #[oI i0, .unset, .unset, .unset, .unset] [(.int (23 : Int32)), (.ref h0.size), (.ref h0.size)])) rfl (hb hby at_163)
  refine own_by stT48 ?_
  show own_Go p e below _ T48 (mkF m 166 #[oI i0, .unset, .unset, .unset, .unset] [(.ref w18), (.int (23 : Int32)), (.ref h0.size), (.ref h0.size)])
  refine own_stR XT48 hx hZ eT48 VT47 rfl 23 (by decide) (by decide) (by simp) (own_sto VT47 O (E18.keep KT47)) (hb hby at_166) ?_
  intro T49 hT49 XT49 eT49 WT49 YT49
  have VT49 : own_A Z hT49 h0.size (.object "com/example/focus_crawl/focuscrawl/crawl/page/XPathFunction") kA [(.ref w0), (.ref w1), (.ref w2), (.ref w14), (.ref w22), (.ref w23), (.ref w24), (.ref w25), (.ref w26), (.ref w3), (.ref w4), (.ref w5), (.ref w6), (.ref w7), (.ref w8), (.ref w9), (.ref w10), (.ref w11), (.ref w12), (.ref w13), (.ref w15), (.ref w16), (.ref w17), (.ref w18), .null, .null, .null, .null, .null, .null, .null, .null, .null, .null, .null, .null] := YT49
  have KT49 := KT47.wr WT49 (Or.inr (Nat.le_refl _))
  have NT49 := own_frs (i := 23) NT47 (Nat.le_refl h0.size)
  clear YT49
  show own_Go p e below _ T49 (mkF m 167 #[oI i0, .unset, .unset, .unset, .unset] [(.ref h0.size)])
  refine own_by (fun t_ k_ => XS.dup XT49.here hx rfl (hb hby at_167) rfl rfl k_) ?_
  show own_Go p e below _ T49 (mkF m 168 #[oI i0, .unset, .unset, .unset, .unset] [(.ref h0.size), (.ref h0.size)])
  refine own_by (fun t_ k_ => XT.bipushV XT49.here hx rfl (24 : Int32) (hb hby at_168) (by decide) k_) ?_
  show own_Go p e below _ T49 (mkF m 170 #[oI i0, .unset, .unset, .unset, .unset] [(.int (24 : Int32)), (.ref h0.size), (.ref h0.size)])
  obtain ⟨T50, XT50, eT50, stT50⟩ := getS2 XT49 hx hZ hown (host := "") (Or.inl (hw _ (List.mem_of_getElem? (i := 52) rfl))) Via.refl eT49 (own_stak S19 KT49) (g := (mkF m 170 #[oI i0, .unset, .unset, .unset, .unset] [(.int (24 : Int32)), (.ref h0.size), (.ref h0.size)])) rfl (hb hby at_170)
  refine own_by stT50 ?_
  show own_Go p e below _ T50 (mkF m 173 #[oI i0, .unset, .unset, .unset, .unset] [(.ref w19), (.int (24 : Int32)), (.ref h0.size), (.ref h0.size)])
  refine own_stR XT50 hx hZ eT50 VT49 rfl 24 (by decide) (by decide) (by simp) (own_sto VT49 O (E19.keep KT49)) (hb hby at_173) ?_
  intro T51 hT51 XT51 eT51 WT51 YT51
  have VT51 : own_A Z hT51 h0.size (.object "com/example/focus_crawl/focuscrawl/crawl/page/XPathFunction") kA [(.ref w0), (.ref w1), (.ref w2), (.ref w14), (.ref w22), (.ref w23), (.ref w24), (.ref w25), (.ref w26), (.ref w3), (.ref w4), (.ref w5), (.ref w6), (.ref w7), (.ref w8), (.ref w9), (.ref w10), (.ref w11), (.ref w12), (.ref w13), (.ref w15), (.ref w16), (.ref w17), (.ref w18), (.ref w19), .null, .null, .null, .null, .null, .null, .null, .null, .null, .null, .null] := YT51
  have KT51 := KT49.wr WT51 (Or.inr (Nat.le_refl _))
  have NT51 := own_frs (i := 24) NT49 (Nat.le_refl h0.size)
  clear YT51
  show own_Go p e below _ T51 (mkF m 174 #[oI i0, .unset, .unset, .unset, .unset] [(.ref h0.size)])
  refine own_by (fun t_ k_ => XS.dup XT51.here hx rfl (hb hby at_174) rfl rfl k_) ?_
  show own_Go p e below _ T51 (mkF m 175 #[oI i0, .unset, .unset, .unset, .unset] [(.ref h0.size), (.ref h0.size)])
  refine own_by (fun t_ k_ => XT.bipushV XT51.here hx rfl (25 : Int32) (hb hby at_175) (by decide) k_) ?_
  show own_Go p e below _ T51 (mkF m 177 #[oI i0, .unset, .unset, .unset, .unset] [(.int (25 : Int32)), (.ref h0.size), (.ref h0.size)])
  obtain ⟨T52, XT52, eT52, stT52⟩ := getS2 XT51 hx hZ hown (host := "") (Or.inl (hw _ (List.mem_of_getElem? (i := 54) rfl))) Via.refl eT51 (own_stak S20 KT51) (g := (mkF m 177 #[oI i0, .unset, .unset, .unset, .unset] [(.int (25 : Int32)), (.ref h0.size), (.ref h0.size)])) rfl (hb hby at_177)
  refine own_by stT52 ?_
  show own_Go p e below _ T52 (mkF m 180 #[oI i0, .unset, .unset, .unset, .unset] [(.ref w20), (.int (25 : Int32)), (.ref h0.size), (.ref h0.size)])
  refine own_stR XT52 hx hZ eT52 VT51 rfl 25 (by decide) (by decide) (by simp) (own_sto VT51 O (E20.keep KT51)) (hb hby at_180) ?_
  intro T53 hT53 XT53 eT53 WT53 YT53
  have VT53 : own_A Z hT53 h0.size (.object "com/example/focus_crawl/focuscrawl/crawl/page/XPathFunction") kA [(.ref w0), (.ref w1), (.ref w2), (.ref w14), (.ref w22), (.ref w23), (.ref w24), (.ref w25), (.ref w26), (.ref w3), (.ref w4), (.ref w5), (.ref w6), (.ref w7), (.ref w8), (.ref w9), (.ref w10), (.ref w11), (.ref w12), (.ref w13), (.ref w15), (.ref w16), (.ref w17), (.ref w18), (.ref w19), (.ref w20), .null, .null, .null, .null, .null, .null, .null, .null, .null, .null] := YT53
  have KT53 := KT51.wr WT53 (Or.inr (Nat.le_refl _))
  have NT53 := own_frs (i := 25) NT51 (Nat.le_refl h0.size)
  clear YT53
  show own_Go p e below _ T53 (mkF m 181 #[oI i0, .unset, .unset, .unset, .unset] [(.ref h0.size)])
  refine own_by (fun t_ k_ => XS.dup XT53.here hx rfl (hb hby at_181) rfl rfl k_) ?_
  show own_Go p e below _ T53 (mkF m 182 #[oI i0, .unset, .unset, .unset, .unset] [(.ref h0.size), (.ref h0.size)])
  refine own_by (fun t_ k_ => XT.bipushV XT53.here hx rfl (26 : Int32) (hb hby at_182) (by decide) k_) ?_
  show own_Go p e below _ T53 (mkF m 184 #[oI i0, .unset, .unset, .unset, .unset] [(.int (26 : Int32)), (.ref h0.size), (.ref h0.size)])
  obtain ⟨T54, XT54, eT54, stT54⟩ := getS2 XT53 hx hZ hown (host := "") (Or.inl (hw _ (List.mem_of_getElem? (i := 56) rfl))) Via.refl eT53 (own_stak S21 KT53) (g := (mkF m 184 #[oI i0, .unset, .unset, .unset, .unset] [(.int (26 : Int32)), (.ref h0.size), (.ref h0.size)])) rfl (hb hby at_184)
  refine own_by stT54 ?_
  show own_Go p e below _ T54 (mkF m 187 #[oI i0, .unset, .unset, .unset, .unset] [(.ref w21), (.int (26 : Int32)), (.ref h0.size), (.ref h0.size)])
  refine own_stR XT54 hx hZ eT54 VT53 rfl 26 (by decide) (by decide) (by simp) (own_sto VT53 O (E21.keep KT53)) (hb hby at_187) ?_
  intro T55 hT55 XT55 eT55 WT55 YT55
  have VT55 : own_A Z hT55 h0.size (.object "com/example/focus_crawl/focuscrawl/crawl/page/XPathFunction") kA [(.ref w0), (.ref w1), (.ref w2), (.ref w14), (.ref w22), (.ref w23), (.ref w24), (.ref w25), (.ref w26), (.ref w3), (.ref w4), (.ref w5), (.ref w6), (.ref w7), (.ref w8), (.ref w9), (.ref w10), (.ref w11), (.ref w12), (.ref w13), (.ref w15), (.ref w16), (.ref w17), (.ref w18), (.ref w19), (.ref w20), (.ref w21), .null, .null, .null, .null, .null, .null, .null, .null, .null] := YT55
  have KT55 := KT53.wr WT55 (Or.inr (Nat.le_refl _))
  have NT55 := own_frs (i := 26) NT53 (Nat.le_refl h0.size)
  clear YT55
  show own_Go p e below _ T55 (mkF m 188 #[oI i0, .unset, .unset, .unset, .unset] [(.ref h0.size)])
  refine own_by (fun t_ k_ => XS.dup XT55.here hx rfl (hb hby at_188) rfl rfl k_) ?_
  show own_Go p e below _ T55 (mkF m 189 #[oI i0, .unset, .unset, .unset, .unset] [(.ref h0.size), (.ref h0.size)])
  refine own_by (fun t_ k_ => XT.bipushV XT55.here hx rfl (27 : Int32) (hb hby at_189) (by decide) k_) ?_
  show own_Go p e below _ T55 (mkF m 191 #[oI i0, .unset, .unset, .unset, .unset] [(.int (27 : Int32)), (.ref h0.size), (.ref h0.size)])
  obtain ⟨T56, XT56, eT56, stT56⟩ := getS2 XT55 hx hZ hown (host := "") (Or.inl (hw _ (List.mem_of_getElem? (i := 58) rfl))) Via.refl eT55 (own_stak S27 KT55) (g := (mkF m 191 #[oI i0, .unset, .unset, .unset, .unset] [(.int (27 : Int32)), (.ref h0.size), (.ref h0.size)])) rfl (hb hby at_191)
  refine own_by stT56 ?_
  show own_Go p e below _ T56 (mkF m 194 #[oI i0, .unset, .unset, .unset, .unset] [(.ref w27), (.int (27 : Int32)), (.ref h0.size), (.ref h0.size)])
  refine own_stR XT56 hx hZ eT56 VT55 rfl 27 (by decide) (by decide) (by simp) (own_sto VT55 O (E27.keep KT55)) (hb hby at_194) ?_
  intro T57 hT57 XT57 eT57 WT57 YT57
  have VT57 : own_A Z hT57 h0.size (.object "com/example/focus_crawl/focuscrawl/crawl/page/XPathFunction") kA [(.ref w0), (.ref w1), (.ref w2), (.ref w14), (.ref w22), (.ref w23), (.ref w24), (.ref w25), (.ref w26), (.ref w3), (.ref w4), (.ref w5), (.ref w6), (.ref w7), (.ref w8), (.ref w9), (.ref w10), (.ref w11), (.ref w12), (.ref w13), (.ref w15), (.ref w16), (.ref w17), (.ref w18), (.ref w19), (.ref w20), (.ref w21), (.ref w27), .null, .null, .null, .null, .null, .null, .null, .null] := YT57
  have KT57 := KT55.wr WT57 (Or.inr (Nat.le_refl _))
  have NT57 := own_frs (i := 27) NT55 (Nat.le_refl h0.size)
  clear YT57
  show own_Go p e below _ T57 (mkF m 195 #[oI i0, .unset, .unset, .unset, .unset] [(.ref h0.size)])
  refine own_by (fun t_ k_ => XS.dup XT57.here hx rfl (hb hby at_195) rfl rfl k_) ?_
  show own_Go p e below _ T57 (mkF m 196 #[oI i0, .unset, .unset, .unset, .unset] [(.ref h0.size), (.ref h0.size)])
  refine own_by (fun t_ k_ => XT.bipushV XT57.here hx rfl (28 : Int32) (hb hby at_196) (by decide) k_) ?_
  show own_Go p e below _ T57 (mkF m 198 #[oI i0, .unset, .unset, .unset, .unset] [(.int (28 : Int32)), (.ref h0.size), (.ref h0.size)])
  obtain ⟨T58, XT58, eT58, stT58⟩ := getS2 XT57 hx hZ hown (host := "") (Or.inl (hw _ (List.mem_of_getElem? (i := 60) rfl))) Via.refl eT57 (own_stak S28 KT57) (g := (mkF m 198 #[oI i0, .unset, .unset, .unset, .unset] [(.int (28 : Int32)), (.ref h0.size), (.ref h0.size)])) rfl (hb hby at_198)
  refine own_by stT58 ?_
  show own_Go p e below _ T58 (mkF m 201 #[oI i0, .unset, .unset, .unset, .unset] [(.ref w28), (.int (28 : Int32)), (.ref h0.size), (.ref h0.size)])
  refine own_stR XT58 hx hZ eT58 VT57 rfl 28 (by decide) (by decide) (by simp) (own_sto VT57 O (E28.keep KT57)) (hb hby at_201) ?_
  intro T59 hT59 XT59 eT59 WT59 YT59
  have VT59 : own_A Z hT59 h0.size (.object "com/example/focus_crawl/focuscrawl/crawl/page/XPathFunction") kA [(.ref w0), (.ref w1), (.ref w2), (.ref w14), (.ref w22), (.ref w23), (.ref w24), (.ref w25), (.ref w26), (.ref w3), (.ref w4), (.ref w5), (.ref w6), (.ref w7), (.ref w8), (.ref w9), (.ref w10), (.ref w11), (.ref w12), (.ref w13), (.ref w15), (.ref w16), (.ref w17), (.ref w18), (.ref w19), (.ref w20), (.ref w21), (.ref w27), (.ref w28), .null, .null, .null, .null, .null, .null, .null] := YT59
  have KT59 := KT57.wr WT59 (Or.inr (Nat.le_refl _))
  have NT59 := own_frs (i := 28) NT57 (Nat.le_refl h0.size)
  clear YT59
  show own_Go p e below _ T59 (mkF m 202 #[oI i0, .unset, .unset, .unset, .unset] [(.ref h0.size)])
  refine own_by (fun t_ k_ => XS.dup XT59.here hx rfl (hb hby at_202) rfl rfl k_) ?_
  show own_Go p e below _ T59 (mkF m 203 #[oI i0, .unset, .unset, .unset, .unset] [(.ref h0.size), (.ref h0.size)])
  refine own_by (fun t_ k_ => XT.bipushV XT59.here hx rfl (29 : Int32) (hb hby at_203) (by decide) k_) ?_
  show own_Go p e below _ T59 (mkF m 205 #[oI i0, .unset, .unset, .unset, .unset] [(.int (29 : Int32)), (.ref h0.size), (.ref h0.size)])
  obtain ⟨T60, XT60, eT60, stT60⟩ := getS2 XT59 hx hZ hown (host := "") (Or.inl (hw _ (List.mem_of_getElem? (i := 62) rfl))) Via.refl eT59 (own_stak S29 KT59) (g := (mkF m 205 #[oI i0, .unset, .unset, .unset, .unset] [(.int (29 : Int32)), (.ref h0.size), (.ref h0.size)])) rfl (hb hby at_205)
  refine own_by stT60 ?_
  show own_Go p e below _ T60 (mkF m 208 #[oI i0, .unset, .unset, .unset, .unset] [(.ref w29), (.int (29 : Int32)), (.ref h0.size), (.ref h0.size)])
  refine own_stR XT60 hx hZ eT60 VT59 rfl 29 (by decide) (by decide) (by simp) (own_sto VT59 O (E29.keep KT59)) (hb hby at_208) ?_
  intro T61 hT61 XT61 eT61 WT61 YT61
  have VT61 : own_A Z hT61 h0.size (.object "com/example/focus_crawl/focuscrawl/crawl/page/XPathFunction") kA [(.ref w0), (.ref w1), (.ref w2), (.ref w14), (.ref w22), (.ref w23), (.ref w24), (.ref w25), (.ref w26), (.ref w3), (.ref w4), (.ref w5), (.ref w6), (.ref w7), (.ref w8), (.ref w9), (.ref w10), (.ref w11), (.ref w12), (.ref w13), (.ref w15), (.ref w16), (.ref w17), (.ref w18), (.ref w19), (.ref w20), (.ref w21), (.ref w27), (.ref w28), (.ref w29), .null, .null, .null, .null, .null, .null] := YT61
  have KT61 := KT59.wr WT61 (Or.inr (Nat.le_refl _))
  have NT61 := own_frs (i := 29) NT59 (Nat.le_refl h0.size)
  clear YT61
  show own_Go p e below _ T61 (mkF m 209 #[oI i0, .unset, .unset, .unset, .unset] [(.ref h0.size)])
  refine own_by (fun t_ k_ => XS.dup XT61.here hx rfl (hb hby at_209) rfl rfl k_) ?_
  show own_Go p e below _ T61 (mkF m 210 #[oI i0, .unset, .unset, .unset, .unset] [(.ref h0.size), (.ref h0.size)])
  refine own_by (fun t_ k_ => XT.bipushV XT61.here hx rfl (30 : Int32) (hb hby at_210) (by decide) k_) ?_
  show own_Go p e below _ T61 (mkF m 212 #[oI i0, .unset, .unset, .unset, .unset] [(.int (30 : Int32)), (.ref h0.size), (.ref h0.size)])
  obtain ⟨T62, XT62, eT62, stT62⟩ := getS2 XT61 hx hZ hown (host := "") (Or.inl (hw _ (List.mem_of_getElem? (i := 64) rfl))) Via.refl eT61 (own_stak S30 KT61) (g := (mkF m 212 #[oI i0, .unset, .unset, .unset, .unset] [(.int (30 : Int32)), (.ref h0.size), (.ref h0.size)])) rfl (hb hby at_212)
  refine own_by stT62 ?_
  show own_Go p e below _ T62 (mkF m 215 #[oI i0, .unset, .unset, .unset, .unset] [(.ref w30), (.int (30 : Int32)), (.ref h0.size), (.ref h0.size)])
  refine own_stR XT62 hx hZ eT62 VT61 rfl 30 (by decide) (by decide) (by simp) (own_sto VT61 O (E30.keep KT61)) (hb hby at_215) ?_
  intro T63 hT63 XT63 eT63 WT63 YT63
  have VT63 : own_A Z hT63 h0.size (.object "com/example/focus_crawl/focuscrawl/crawl/page/XPathFunction") kA [(.ref w0), (.ref w1), (.ref w2), (.ref w14), (.ref w22), (.ref w23), (.ref w24), (.ref w25), (.ref w26), (.ref w3), (.ref w4), (.ref w5), (.ref w6), (.ref w7), (.ref w8), (.ref w9), (.ref w10), (.ref w11), (.ref w12), (.ref w13), (.ref w15), (.ref w16), (.ref w17), (.ref w18), (.ref w19), (.ref w20), (.ref w21), (.ref w27), (.ref w28), (.ref w29), (.ref w30), .null, .null, .null, .null, .null] := YT63
  have KT63 := KT61.wr WT63 (Or.inr (Nat.le_refl _))
  have NT63 := own_frs (i := 30) NT61 (Nat.le_refl h0.size)
  clear YT63
  show own_Go p e below _ T63 (mkF m 216 #[oI i0, .unset, .unset, .unset, .unset] [(.ref h0.size)])
  refine own_by (fun t_ k_ => XS.dup XT63.here hx rfl (hb hby at_216) rfl rfl k_) ?_
  show own_Go p e below _ T63 (mkF m 217 #[oI i0, .unset, .unset, .unset, .unset] [(.ref h0.size), (.ref h0.size)])
  refine own_by (fun t_ k_ => XT.bipushV XT63.here hx rfl (31 : Int32) (hb hby at_217) (by decide) k_) ?_
  show own_Go p e below _ T63 (mkF m 219 #[oI i0, .unset, .unset, .unset, .unset] [(.int (31 : Int32)), (.ref h0.size), (.ref h0.size)])
  obtain ⟨T64, XT64, eT64, stT64⟩ := getS2 XT63 hx hZ hown (host := "") (Or.inl (hw _ (List.mem_of_getElem? (i := 66) rfl))) Via.refl eT63 (own_stak S31 KT63) (g := (mkF m 219 #[oI i0, .unset, .unset, .unset, .unset] [(.int (31 : Int32)), (.ref h0.size), (.ref h0.size)])) rfl (hb hby at_219)
  refine own_by stT64 ?_
  show own_Go p e below _ T64 (mkF m 222 #[oI i0, .unset, .unset, .unset, .unset] [(.ref w31), (.int (31 : Int32)), (.ref h0.size), (.ref h0.size)])
  refine own_stR XT64 hx hZ eT64 VT63 rfl 31 (by decide) (by decide) (by simp) (own_sto VT63 O (E31.keep KT63)) (hb hby at_222) ?_
  intro T65 hT65 XT65 eT65 WT65 YT65
  have VT65 : own_A Z hT65 h0.size (.object "com/example/focus_crawl/focuscrawl/crawl/page/XPathFunction") kA [(.ref w0), (.ref w1), (.ref w2), (.ref w14), (.ref w22), (.ref w23), (.ref w24), (.ref w25), (.ref w26), (.ref w3), (.ref w4), (.ref w5), (.ref w6), (.ref w7), (.ref w8), (.ref w9), (.ref w10), (.ref w11), (.ref w12), (.ref w13), (.ref w15), (.ref w16), (.ref w17), (.ref w18), (.ref w19), (.ref w20), (.ref w21), (.ref w27), (.ref w28), (.ref w29), (.ref w30), (.ref w31), .null, .null, .null, .null] := YT65
  have KT65 := KT63.wr WT65 (Or.inr (Nat.le_refl _))
  have NT65 := own_frs (i := 31) NT63 (Nat.le_refl h0.size)
  clear YT65
  show own_Go p e below _ T65 (mkF m 223 #[oI i0, .unset, .unset, .unset, .unset] [(.ref h0.size)])
  refine own_by (fun t_ k_ => XS.dup XT65.here hx rfl (hb hby at_223) rfl rfl k_) ?_
  show own_Go p e below _ T65 (mkF m 224 #[oI i0, .unset, .unset, .unset, .unset] [(.ref h0.size), (.ref h0.size)])
  refine own_by (fun t_ k_ => XT.bipushV XT65.here hx rfl (32 : Int32) (hb hby at_224) (by decide) k_) ?_
  show own_Go p e below _ T65 (mkF m 226 #[oI i0, .unset, .unset, .unset, .unset] [(.int (32 : Int32)), (.ref h0.size), (.ref h0.size)])
  obtain ⟨T66, XT66, eT66, stT66⟩ := getS2 XT65 hx hZ hown (host := "") (Or.inl (hw _ (List.mem_of_getElem? (i := 68) rfl))) Via.refl eT65 (own_stak S32 KT65) (g := (mkF m 226 #[oI i0, .unset, .unset, .unset, .unset] [(.int (32 : Int32)), (.ref h0.size), (.ref h0.size)])) rfl (hb hby at_226)
  refine own_by stT66 ?_
  show own_Go p e below _ T66 (mkF m 229 #[oI i0, .unset, .unset, .unset, .unset] [(.ref w32), (.int (32 : Int32)), (.ref h0.size), (.ref h0.size)])
  refine own_stR XT66 hx hZ eT66 VT65 rfl 32 (by decide) (by decide) (by simp) (own_sto VT65 O (E32.keep KT65)) (hb hby at_229) ?_
  intro T67 hT67 XT67 eT67 WT67 YT67
  have VT67 : own_A Z hT67 h0.size (.object "com/example/focus_crawl/focuscrawl/crawl/page/XPathFunction") kA [(.ref w0), (.ref w1), (.ref w2), (.ref w14), (.ref w22), (.ref w23), (.ref w24), (.ref w25), (.ref w26), (.ref w3), (.ref w4), (.ref w5), (.ref w6), (.ref w7), (.ref w8), (.ref w9), (.ref w10), (.ref w11), (.ref w12), (.ref w13), (.ref w15), (.ref w16), (.ref w17), (.ref w18), (.ref w19), (.ref w20), (.ref w21), (.ref w27), (.ref w28), (.ref w29), (.ref w30), (.ref w31), (.ref w32), .null, .null, .null] := YT67
  have KT67 := KT65.wr WT67 (Or.inr (Nat.le_refl _))
  have NT67 := own_frs (i := 32) NT65 (Nat.le_refl h0.size)
  clear YT67
  show own_Go p e below _ T67 (mkF m 230 #[oI i0, .unset, .unset, .unset, .unset] [(.ref h0.size)])
  refine own_by (fun t_ k_ => XS.dup XT67.here hx rfl (hb hby at_230) rfl rfl k_) ?_
  show own_Go p e below _ T67 (mkF m 231 #[oI i0, .unset, .unset, .unset, .unset] [(.ref h0.size), (.ref h0.size)])
  refine own_by (fun t_ k_ => XT.bipushV XT67.here hx rfl (33 : Int32) (hb hby at_231) (by decide) k_) ?_
  show own_Go p e below _ T67 (mkF m 233 #[oI i0, .unset, .unset, .unset, .unset] [(.int (33 : Int32)), (.ref h0.size), (.ref h0.size)])
  obtain ⟨T68, XT68, eT68, stT68⟩ := getS2 XT67 hx hZ hown (host := "") (Or.inl (hw _ (List.mem_of_getElem? (i := 70) rfl))) Via.refl eT67 (own_stak S33 KT67) (g := (mkF m 233 #[oI i0, .unset, .unset, .unset, .unset] [(.int (33 : Int32)), (.ref h0.size), (.ref h0.size)])) rfl (hb hby at_233)
  refine own_by stT68 ?_
  show own_Go p e below _ T68 (mkF m 236 #[oI i0, .unset, .unset, .unset, .unset] [(.ref w33), (.int (33 : Int32)), (.ref h0.size), (.ref h0.size)])
  refine own_stR XT68 hx hZ eT68 VT67 rfl 33 (by decide) (by decide) (by simp) (own_sto VT67 O (E33.keep KT67)) (hb hby at_236) ?_
  intro T69 hT69 XT69 eT69 WT69 YT69
  have VT69 : own_A Z hT69 h0.size (.object "com/example/focus_crawl/focuscrawl/crawl/page/XPathFunction") kA [(.ref w0), (.ref w1), (.ref w2), (.ref w14), (.ref w22), (.ref w23), (.ref w24), (.ref w25), (.ref w26), (.ref w3), (.ref w4), (.ref w5), (.ref w6), (.ref w7), (.ref w8), (.ref w9), (.ref w10), (.ref w11), (.ref w12), (.ref w13), (.ref w15), (.ref w16), (.ref w17), (.ref w18), (.ref w19), (.ref w20), (.ref w21), (.ref w27), (.ref w28), (.ref w29), (.ref w30), (.ref w31), (.ref w32), (.ref w33), .null, .null] := YT69
  have KT69 := KT67.wr WT69 (Or.inr (Nat.le_refl _))
  have NT69 := own_frs (i := 33) NT67 (Nat.le_refl h0.size)
  clear YT69
  show own_Go p e below _ T69 (mkF m 237 #[oI i0, .unset, .unset, .unset, .unset] [(.ref h0.size)])
  refine own_by (fun t_ k_ => XS.dup XT69.here hx rfl (hb hby at_237) rfl rfl k_) ?_
  show own_Go p e below _ T69 (mkF m 238 #[oI i0, .unset, .unset, .unset, .unset] [(.ref h0.size), (.ref h0.size)])
  refine own_by (fun t_ k_ => XT.bipushV XT69.here hx rfl (34 : Int32) (hb hby at_238) (by decide) k_) ?_
  show own_Go p e below _ T69 (mkF m 240 #[oI i0, .unset, .unset, .unset, .unset] [(.int (34 : Int32)), (.ref h0.size), (.ref h0.size)])
  obtain ⟨T70, XT70, eT70, stT70⟩ := getS2 XT69 hx hZ hown (host := "") (Or.inl (hw _ (List.mem_of_getElem? (i := 72) rfl))) Via.refl eT69 (own_stak S34 KT69) (g := (mkF m 240 #[oI i0, .unset, .unset, .unset, .unset] [(.int (34 : Int32)), (.ref h0.size), (.ref h0.size)])) rfl (hb hby at_240)
  refine own_by stT70 ?_
  show own_Go p e below _ T70 (mkF m 243 #[oI i0, .unset, .unset, .unset, .unset] [(.ref w34), (.int (34 : Int32)), (.ref h0.size), (.ref h0.size)])
  refine own_stR XT70 hx hZ eT70 VT69 rfl 34 (by decide) (by decide) (by simp) (own_sto VT69 O (E34.keep KT69)) (hb hby at_243) ?_
  intro T71 hT71 XT71 eT71 WT71 YT71
  have VT71 : own_A Z hT71 h0.size (.object "com/example/focus_crawl/focuscrawl/crawl/page/XPathFunction") kA [(.ref w0), (.ref w1), (.ref w2), (.ref w14), (.ref w22), (.ref w23), (.ref w24), (.ref w25), (.ref w26), (.ref w3), (.ref w4), (.ref w5), (.ref w6), (.ref w7), (.ref w8), (.ref w9), (.ref w10), (.ref w11), (.ref w12), (.ref w13), (.ref w15), (.ref w16), (.ref w17), (.ref w18), (.ref w19), (.ref w20), (.ref w21), (.ref w27), (.ref w28), (.ref w29), (.ref w30), (.ref w31), (.ref w32), (.ref w33), (.ref w34), .null] := YT71
  have KT71 := KT69.wr WT71 (Or.inr (Nat.le_refl _))
  have NT71 := own_frs (i := 34) NT69 (Nat.le_refl h0.size)
  clear YT71
  show own_Go p e below _ T71 (mkF m 244 #[oI i0, .unset, .unset, .unset, .unset] [(.ref h0.size)])
  refine own_by (fun t_ k_ => XS.dup XT71.here hx rfl (hb hby at_244) rfl rfl k_) ?_
  show own_Go p e below _ T71 (mkF m 245 #[oI i0, .unset, .unset, .unset, .unset] [(.ref h0.size), (.ref h0.size)])
  refine own_by (fun t_ k_ => XT.bipushV XT71.here hx rfl (35 : Int32) (hb hby at_245) (by decide) k_) ?_
  show own_Go p e below _ T71 (mkF m 247 #[oI i0, .unset, .unset, .unset, .unset] [(.int (35 : Int32)), (.ref h0.size), (.ref h0.size)])
  obtain ⟨T72, XT72, eT72, stT72⟩ := getS2 XT71 hx hZ hown (host := "") (Or.inl (hw _ (List.mem_of_getElem? (i := 74) rfl))) Via.refl eT71 (own_stak S35 KT71) (g := (mkF m 247 #[oI i0, .unset, .unset, .unset, .unset] [(.int (35 : Int32)), (.ref h0.size), (.ref h0.size)])) rfl (hb hby at_247)
  refine own_by stT72 ?_
  show own_Go p e below _ T72 (mkF m 250 #[oI i0, .unset, .unset, .unset, .unset] [(.ref w35), (.int (35 : Int32)), (.ref h0.size), (.ref h0.size)])
  refine own_stR XT72 hx hZ eT72 VT71 rfl 35 (by decide) (by decide) (by simp) (own_sto VT71 O (E35.keep KT71)) (hb hby at_250) ?_
  intro T73 hT73 XT73 eT73 WT73 YT73
  have VT73 : own_A Z hT73 h0.size (.object "com/example/focus_crawl/focuscrawl/crawl/page/XPathFunction") kA [(.ref w0), (.ref w1), (.ref w2), (.ref w14), (.ref w22), (.ref w23), (.ref w24), (.ref w25), (.ref w26), (.ref w3), (.ref w4), (.ref w5), (.ref w6), (.ref w7), (.ref w8), (.ref w9), (.ref w10), (.ref w11), (.ref w12), (.ref w13), (.ref w15), (.ref w16), (.ref w17), (.ref w18), (.ref w19), (.ref w20), (.ref w21), (.ref w27), (.ref w28), (.ref w29), (.ref w30), (.ref w31), (.ref w32), (.ref w33), (.ref w34), (.ref w35)] := YT73
  have KT73 := KT71.wr WT73 (Or.inr (Nat.le_refl _))
  have NT73 := own_frs (i := 35) NT71 (Nat.le_refl h0.size)
  clear YT73
  show own_Go p e below _ T73 (mkF m 251 #[oI i0, .unset, .unset, .unset, .unset] [(.ref h0.size)])
  refine own_by (fun t_ k_ => XS.astoreN XT73.here hx rfl (hb hby at_251) rfl rfl (l' := #[oI i0, oR h0.size, .unset, .unset, .unset]) rfl k_) ?_
  show own_Go p e below _ T73 (mkF m 252 #[oI i0, oR h0.size, .unset, .unset, .unset] [])
  rcases own_rem36 i0 with hk | hk | hk | hk | hk | hk | hk | hk | hk | hk | hk | hk | hk | hk | hk | hk | hk | hk | hk | hk | hk | hk | hk | hk | hk | hk | hk | hk | hk | hk | hk | hk | hk | hk | hk | hk
  · refine own_by (fun t_ k_ => XS.iloadN XT73.here hx rfl (hb hby at_252) rfl  k_) ?_
    show own_Go p e below _ T73 (mkF m 253 #[oI i0, oR h0.size, .unset, .unset, .unset] [(.int i0)])
    refine own_by (fun t_ k_ => XT73.ldcI hx hown (mvT hZ (hw _ (List.mem_of_getElem? (i := 76) rfl))) rfl (hb hby at_253) k_) ?_
    show own_Go p e below _ T73 (mkF m 255 #[oI i0, oR h0.size, .unset, .unset, .unset] [(.int (2147483647 : Int32)), (.int i0)])
    refine own_by (fun t_ k_ => XS.iand XT73.here hx rfl (hb hby at_255) rfl k_) ?_
    show own_Go p e below _ T73 (mkF m 256 #[oI i0, oR h0.size, .unset, .unset, .unset] [(.int (i0 &&& (2147483647 : Int32)))])
    refine own_by (fun t_ k_ => XT.bipushV XT73.here hx rfl (36 : Int32) (hb hby at_256) (by decide) k_) ?_
    show own_Go p e below _ T73 (mkF m 258 #[oI i0, oR h0.size, .unset, .unset, .unset] [(.int (36 : Int32)), (.int (i0 &&& (2147483647 : Int32)))])
    refine own_by (fun t_ k_ => iremM XT73 hx rfl (hb hby at_258) rfl (by decide) k_) ?_
    show own_Go p e below _ T73 (mkF m 259 #[oI i0, oR h0.size, .unset, .unset, .unset] [(.int ((i0 &&& (2147483647 : Int32)) % (36 : Int32)))])
    rw [hk]
    show own_Go p e below _ T73 (mkF m 259 #[oI i0, oR h0.size, .unset, .unset, .unset] [(.int (0 : Int32))])
    refine own_by (fun t_ k_ => XS.istoreN XT73.here hx rfl (hb hby at_259) rfl (l' := #[oI i0, oR h0.size, oI (0 : Int32), .unset, .unset]) rfl k_) ?_
    show own_Go p e below _ T73 (mkF m 260 #[oI i0, oR h0.size, oI (0 : Int32), .unset, .unset] [])
    refine own_by (fun t_ k_ => XS.aloadN XT73.here hx rfl (hb hby at_260) rfl rfl  k_) ?_
    show own_Go p e below _ T73 (mkF m 261 #[oI i0, oR h0.size, oI (0 : Int32), .unset, .unset] [(.ref h0.size)])
    refine own_by (fun t_ k_ => XS.iloadN XT73.here hx rfl (hb hby at_261) rfl  k_) ?_
    show own_Go p e below _ T73 (mkF m 262 #[oI i0, oR h0.size, oI (0 : Int32), .unset, .unset] [(.int (0 : Int32)), (.ref h0.size)])
    refine own_ldR XT73 hx hZ eT73 VT73 rfl 0 (by decide) (by decide) (v := (.ref w0)) rfl (hb hby at_262) ?_
    show own_Go p e below _ T73 (mkF m 263 #[oI i0, oR h0.size, oI (0 : Int32), .unset, .unset] [(.ref w0)])
    refine own_by (fun t_ k_ => XS.astoreN XT73.here hx rfl (hb hby at_263) rfl rfl (l' := #[oI i0, oR h0.size, oI (0 : Int32), oR w0, .unset]) rfl k_) ?_
    show own_Go p e below _ T73 (mkF m 264 #[oI i0, oR h0.size, oI (0 : Int32), oR w0, .unset] [])
    refine own_by (fun t_ k_ => XS.iloadN XT73.here hx rfl (hb hby at_264) rfl  k_) ?_
    show own_Go p e below _ T73 (mkF m 265 #[oI i0, oR h0.size, oI (0 : Int32), oR w0, .unset] [(.int (0 : Int32))])
    refine own_by (fun t_ k_ => XT.bipushV XT73.here hx rfl (9 : Int32) (hb hby at_265) (by decide) k_) ?_
    show own_Go p e below _ T73 (mkF m 267 #[oI i0, oR h0.size, oI (0 : Int32), oR w0, .unset] [(.int (9 : Int32)), (.int (0 : Int32))])
    refine own_by (fun t_ k_ => XS.icmpNo XT73.here hx rfl (hb hby at_267) rfl (XT.ii_ge_f (by decide)) k_) ?_
    show own_Go p e below _ T73 (mkF m 270 #[oI i0, oR h0.size, oI (0 : Int32), oR w0, .unset] [])
    refine own_by (fun t_ k_ => XT.iconstV XT73.here hx rfl (1 : Int32) (hb hby at_270) (by decide) k_) ?_
    show own_Go p e below _ T73 (mkF m 271 #[oI i0, oR h0.size, oI (0 : Int32), oR w0, .unset] [(.int (1 : Int32))])
    refine own_by (fun t_ k_ => XS.goto XT73.here hx rfl (pc0 := 271) (pc' := 275) rfl (hb hby at_271) (by decide) (by decide) k_) ?_
    show own_Go p e below _ T73 (mkF m 275 #[oI i0, oR h0.size, oI (0 : Int32), oR w0, .unset] [(.int (1 : Int32))])
    refine own_by (fun t_ k_ => XS.istore XT73.here hx rfl (hb hby at_275) rfl (l' := #[oI i0, oR h0.size, oI (0 : Int32), oR w0, oI (1 : Int32)]) rfl k_) ?_
    show own_Go p e below _ T73 (mkF m 277 #[oI i0, oR h0.size, oI (0 : Int32), oR w0, oI (1 : Int32)] [])
    refine own_by (fun t_ k_ => XS.aloadN XT73.here hx rfl (hb hby at_277) rfl rfl  k_) ?_
    show own_Go p e below _ T73 (mkF m 278 #[oI i0, oR h0.size, oI (0 : Int32), oR w0, oI (1 : Int32)] [(.ref w0)])
    refine own_callV XT73 hx hZ hown (hw _ (List.mem_of_getElem? (i := 77) rfl)) (hw _ (List.mem_of_getElem? (i := 78) rfl)) (hw _ (List.mem_of_getElem? (i := 80) rfl)) (hw _ (List.mem_of_getElem? (i := 79) rfl)) (hw _ (List.mem_of_getElem? (i := 81) rfl)) (hw _ (List.mem_of_getElem? (i := 3) rfl)) (by decide) eT73 (b := w0) (E0.keep KT73) (argsL := []) (rest := []) (own_gn_met l Z a0 hw w0 w0 w1 w2 w14 w22 w23 w24 w25 w26 hT73 ⟨own_stak S0 KT73, own_stak S1 KT73, own_stak S2 KT73, own_stak S14 KT73, own_stak S22 KT73, own_stak S23 KT73, own_stak S24 KT73, own_stak S25 KT73, own_stak S26 KT73⟩) 0 (by decide) (by decide) (by rw [hml]; rfl) (lenOf pd_0 rfl) (Nat.le_of_eq rfl) (hb hby at_278) (by decide) (by decide) (st := [(.ref w0)]) rfl ?_
    intro T74 LT74 vT74 XT74 hQT74
    obtain ⟨rfl, eT74, rfl⟩ := hQT74
    show own_Go p e below _ T74 (mkF m 281 #[oI i0, oR h0.size, oI (0 : Int32), oR w0, oI (1 : Int32)] [(.int (own_gn w0 w0 w1 w2 w14 w22 w23 w24 w25 w26))])
    rw [show own_gn w0 w0 w1 w2 w14 w22 w23 w24 w25 w26 = (1 : Int32) by rw [own_gn, if_pos rfl]]
    show own_Go p e below _ T74 (mkF m 281 #[oI i0, oR h0.size, oI (0 : Int32), oR w0, oI (1 : Int32)] [(.int (1 : Int32))])
    refine own_by (fun t_ k_ => XS.iload XT74.here hx rfl (hb hby at_281) rfl  k_) ?_
    show own_Go p e below _ T74 (mkF m 283 #[oI i0, oR h0.size, oI (0 : Int32), oR w0, oI (1 : Int32)] [(.int (1 : Int32)), (.int (1 : Int32))])
    refine own_by (fun t_ k_ => XS.icmpNo XT74.here hx rfl (hb hby at_283) rfl (XT.ii_ne_f (by decide)) k_) ?_
    show own_Go p e below _ T74 (mkF m 286 #[oI i0, oR h0.size, oI (0 : Int32), oR w0, oI (1 : Int32)] [])
    refine own_by (fun t_ k_ => XT.iconstV XT74.here hx rfl (1 : Int32) (hb hby at_286) (by decide) k_) ?_
    show own_Go p e below _ T74 (mkF m 287 #[oI i0, oR h0.size, oI (0 : Int32), oR w0, oI (1 : Int32)] [(.int (1 : Int32))])
    refine own_by (fun t_ k_ => XS.goto XT74.here hx rfl (pc0 := 287) (pc' := 291) rfl (hb hby at_287) (by decide) (by decide) k_) ?_
    show own_Go p e below _ T74 (mkF m 291 #[oI i0, oR h0.size, oI (0 : Int32), oR w0, oI (1 : Int32)] [(.int (1 : Int32))])
    exact own_retN XT74 hx hlk hret (by simp) (w := (1 : Int32)) (hb hby at_291) (by decide) (by decide) (by decide) (⟨rfl, own_app0 NT73⟩)
  · refine own_by (fun t_ k_ => XS.iloadN XT73.here hx rfl (hb hby at_252) rfl  k_) ?_
    show own_Go p e below _ T73 (mkF m 253 #[oI i0, oR h0.size, .unset, .unset, .unset] [(.int i0)])
    refine own_by (fun t_ k_ => XT73.ldcI hx hown (mvT hZ (hw _ (List.mem_of_getElem? (i := 76) rfl))) rfl (hb hby at_253) k_) ?_
    show own_Go p e below _ T73 (mkF m 255 #[oI i0, oR h0.size, .unset, .unset, .unset] [(.int (2147483647 : Int32)), (.int i0)])
    refine own_by (fun t_ k_ => XS.iand XT73.here hx rfl (hb hby at_255) rfl k_) ?_
    show own_Go p e below _ T73 (mkF m 256 #[oI i0, oR h0.size, .unset, .unset, .unset] [(.int (i0 &&& (2147483647 : Int32)))])
    refine own_by (fun t_ k_ => XT.bipushV XT73.here hx rfl (36 : Int32) (hb hby at_256) (by decide) k_) ?_
    show own_Go p e below _ T73 (mkF m 258 #[oI i0, oR h0.size, .unset, .unset, .unset] [(.int (36 : Int32)), (.int (i0 &&& (2147483647 : Int32)))])
    refine own_by (fun t_ k_ => iremM XT73 hx rfl (hb hby at_258) rfl (by decide) k_) ?_
    show own_Go p e below _ T73 (mkF m 259 #[oI i0, oR h0.size, .unset, .unset, .unset] [(.int ((i0 &&& (2147483647 : Int32)) % (36 : Int32)))])
    rw [hk]
    show own_Go p e below _ T73 (mkF m 259 #[oI i0, oR h0.size, .unset, .unset, .unset] [(.int (1 : Int32))])
    refine own_by (fun t_ k_ => XS.istoreN XT73.here hx rfl (hb hby at_259) rfl (l' := #[oI i0, oR h0.size, oI (1 : Int32), .unset, .unset]) rfl k_) ?_
    show own_Go p e below _ T73 (mkF m 260 #[oI i0, oR h0.size, oI (1 : Int32), .unset, .unset] [])
    refine own_by (fun t_ k_ => XS.aloadN XT73.here hx rfl (hb hby at_260) rfl rfl  k_) ?_
    show own_Go p e below _ T73 (mkF m 261 #[oI i0, oR h0.size, oI (1 : Int32), .unset, .unset] [(.ref h0.size)])
    refine own_by (fun t_ k_ => XS.iloadN XT73.here hx rfl (hb hby at_261) rfl  k_) ?_
    show own_Go p e below _ T73 (mkF m 262 #[oI i0, oR h0.size, oI (1 : Int32), .unset, .unset] [(.int (1 : Int32)), (.ref h0.size)])
    refine own_ldR XT73 hx hZ eT73 VT73 rfl 1 (by decide) (by decide) (v := (.ref w1)) rfl (hb hby at_262) ?_
    show own_Go p e below _ T73 (mkF m 263 #[oI i0, oR h0.size, oI (1 : Int32), .unset, .unset] [(.ref w1)])
    refine own_by (fun t_ k_ => XS.astoreN XT73.here hx rfl (hb hby at_263) rfl rfl (l' := #[oI i0, oR h0.size, oI (1 : Int32), oR w1, .unset]) rfl k_) ?_
    show own_Go p e below _ T73 (mkF m 264 #[oI i0, oR h0.size, oI (1 : Int32), oR w1, .unset] [])
    refine own_by (fun t_ k_ => XS.iloadN XT73.here hx rfl (hb hby at_264) rfl  k_) ?_
    show own_Go p e below _ T73 (mkF m 265 #[oI i0, oR h0.size, oI (1 : Int32), oR w1, .unset] [(.int (1 : Int32))])
    refine own_by (fun t_ k_ => XT.bipushV XT73.here hx rfl (9 : Int32) (hb hby at_265) (by decide) k_) ?_
    show own_Go p e below _ T73 (mkF m 267 #[oI i0, oR h0.size, oI (1 : Int32), oR w1, .unset] [(.int (9 : Int32)), (.int (1 : Int32))])
    refine own_by (fun t_ k_ => XS.icmpNo XT73.here hx rfl (hb hby at_267) rfl (XT.ii_ge_f (by decide)) k_) ?_
    show own_Go p e below _ T73 (mkF m 270 #[oI i0, oR h0.size, oI (1 : Int32), oR w1, .unset] [])
    refine own_by (fun t_ k_ => XT.iconstV XT73.here hx rfl (1 : Int32) (hb hby at_270) (by decide) k_) ?_
    show own_Go p e below _ T73 (mkF m 271 #[oI i0, oR h0.size, oI (1 : Int32), oR w1, .unset] [(.int (1 : Int32))])
    refine own_by (fun t_ k_ => XS.goto XT73.here hx rfl (pc0 := 271) (pc' := 275) rfl (hb hby at_271) (by decide) (by decide) k_) ?_
    show own_Go p e below _ T73 (mkF m 275 #[oI i0, oR h0.size, oI (1 : Int32), oR w1, .unset] [(.int (1 : Int32))])
    refine own_by (fun t_ k_ => XS.istore XT73.here hx rfl (hb hby at_275) rfl (l' := #[oI i0, oR h0.size, oI (1 : Int32), oR w1, oI (1 : Int32)]) rfl k_) ?_
    show own_Go p e below _ T73 (mkF m 277 #[oI i0, oR h0.size, oI (1 : Int32), oR w1, oI (1 : Int32)] [])
    refine own_by (fun t_ k_ => XS.aloadN XT73.here hx rfl (hb hby at_277) rfl rfl  k_) ?_
    show own_Go p e below _ T73 (mkF m 278 #[oI i0, oR h0.size, oI (1 : Int32), oR w1, oI (1 : Int32)] [(.ref w1)])
    refine own_callV XT73 hx hZ hown (hw _ (List.mem_of_getElem? (i := 77) rfl)) (hw _ (List.mem_of_getElem? (i := 78) rfl)) (hw _ (List.mem_of_getElem? (i := 80) rfl)) (hw _ (List.mem_of_getElem? (i := 79) rfl)) (hw _ (List.mem_of_getElem? (i := 81) rfl)) (hw _ (List.mem_of_getElem? (i := 3) rfl)) (by decide) eT73 (b := w1) (E1.keep KT73) (argsL := []) (rest := []) (own_gn_met l Z a0 hw w1 w0 w1 w2 w14 w22 w23 w24 w25 w26 hT73 ⟨own_stak S0 KT73, own_stak S1 KT73, own_stak S2 KT73, own_stak S14 KT73, own_stak S22 KT73, own_stak S23 KT73, own_stak S24 KT73, own_stak S25 KT73, own_stak S26 KT73⟩) 0 (by decide) (by decide) (by rw [hml]; rfl) (lenOf pd_0 rfl) (Nat.le_of_eq rfl) (hb hby at_278) (by decide) (by decide) (st := [(.ref w1)]) rfl ?_
    intro T75 LT75 vT75 XT75 hQT75
    obtain ⟨rfl, eT75, rfl⟩ := hQT75
    show own_Go p e below _ T75 (mkF m 281 #[oI i0, oR h0.size, oI (1 : Int32), oR w1, oI (1 : Int32)] [(.int (own_gn w1 w0 w1 w2 w14 w22 w23 w24 w25 w26))])
    rw [show own_gn w1 w0 w1 w2 w14 w22 w23 w24 w25 w26 = (1 : Int32) by rw [own_gn, if_neg (F1.ne F0 (by decide)), if_pos rfl]]
    show own_Go p e below _ T75 (mkF m 281 #[oI i0, oR h0.size, oI (1 : Int32), oR w1, oI (1 : Int32)] [(.int (1 : Int32))])
    refine own_by (fun t_ k_ => XS.iload XT75.here hx rfl (hb hby at_281) rfl  k_) ?_
    show own_Go p e below _ T75 (mkF m 283 #[oI i0, oR h0.size, oI (1 : Int32), oR w1, oI (1 : Int32)] [(.int (1 : Int32)), (.int (1 : Int32))])
    refine own_by (fun t_ k_ => XS.icmpNo XT75.here hx rfl (hb hby at_283) rfl (XT.ii_ne_f (by decide)) k_) ?_
    show own_Go p e below _ T75 (mkF m 286 #[oI i0, oR h0.size, oI (1 : Int32), oR w1, oI (1 : Int32)] [])
    refine own_by (fun t_ k_ => XT.iconstV XT75.here hx rfl (1 : Int32) (hb hby at_286) (by decide) k_) ?_
    show own_Go p e below _ T75 (mkF m 287 #[oI i0, oR h0.size, oI (1 : Int32), oR w1, oI (1 : Int32)] [(.int (1 : Int32))])
    refine own_by (fun t_ k_ => XS.goto XT75.here hx rfl (pc0 := 287) (pc' := 291) rfl (hb hby at_287) (by decide) (by decide) k_) ?_
    show own_Go p e below _ T75 (mkF m 291 #[oI i0, oR h0.size, oI (1 : Int32), oR w1, oI (1 : Int32)] [(.int (1 : Int32))])
    exact own_retN XT75 hx hlk hret (by simp) (w := (1 : Int32)) (hb hby at_291) (by decide) (by decide) (by decide) (⟨rfl, own_app0 NT73⟩)
  · refine own_by (fun t_ k_ => XS.iloadN XT73.here hx rfl (hb hby at_252) rfl  k_) ?_
    show own_Go p e below _ T73 (mkF m 253 #[oI i0, oR h0.size, .unset, .unset, .unset] [(.int i0)])
    refine own_by (fun t_ k_ => XT73.ldcI hx hown (mvT hZ (hw _ (List.mem_of_getElem? (i := 76) rfl))) rfl (hb hby at_253) k_) ?_
    show own_Go p e below _ T73 (mkF m 255 #[oI i0, oR h0.size, .unset, .unset, .unset] [(.int (2147483647 : Int32)), (.int i0)])
    refine own_by (fun t_ k_ => XS.iand XT73.here hx rfl (hb hby at_255) rfl k_) ?_
    show own_Go p e below _ T73 (mkF m 256 #[oI i0, oR h0.size, .unset, .unset, .unset] [(.int (i0 &&& (2147483647 : Int32)))])
    refine own_by (fun t_ k_ => XT.bipushV XT73.here hx rfl (36 : Int32) (hb hby at_256) (by decide) k_) ?_
    show own_Go p e below _ T73 (mkF m 258 #[oI i0, oR h0.size, .unset, .unset, .unset] [(.int (36 : Int32)), (.int (i0 &&& (2147483647 : Int32)))])
    refine own_by (fun t_ k_ => iremM XT73 hx rfl (hb hby at_258) rfl (by decide) k_) ?_
    show own_Go p e below _ T73 (mkF m 259 #[oI i0, oR h0.size, .unset, .unset, .unset] [(.int ((i0 &&& (2147483647 : Int32)) % (36 : Int32)))])
    rw [hk]
    show own_Go p e below _ T73 (mkF m 259 #[oI i0, oR h0.size, .unset, .unset, .unset] [(.int (2 : Int32))])
    refine own_by (fun t_ k_ => XS.istoreN XT73.here hx rfl (hb hby at_259) rfl (l' := #[oI i0, oR h0.size, oI (2 : Int32), .unset, .unset]) rfl k_) ?_
    show own_Go p e below _ T73 (mkF m 260 #[oI i0, oR h0.size, oI (2 : Int32), .unset, .unset] [])
    refine own_by (fun t_ k_ => XS.aloadN XT73.here hx rfl (hb hby at_260) rfl rfl  k_) ?_
    show own_Go p e below _ T73 (mkF m 261 #[oI i0, oR h0.size, oI (2 : Int32), .unset, .unset] [(.ref h0.size)])
    refine own_by (fun t_ k_ => XS.iloadN XT73.here hx rfl (hb hby at_261) rfl  k_) ?_
    show own_Go p e below _ T73 (mkF m 262 #[oI i0, oR h0.size, oI (2 : Int32), .unset, .unset] [(.int (2 : Int32)), (.ref h0.size)])
    refine own_ldR XT73 hx hZ eT73 VT73 rfl 2 (by decide) (by decide) (v := (.ref w2)) rfl (hb hby at_262) ?_
    show own_Go p e below _ T73 (mkF m 263 #[oI i0, oR h0.size, oI (2 : Int32), .unset, .unset] [(.ref w2)])
    refine own_by (fun t_ k_ => XS.astoreN XT73.here hx rfl (hb hby at_263) rfl rfl (l' := #[oI i0, oR h0.size, oI (2 : Int32), oR w2, .unset]) rfl k_) ?_
    show own_Go p e below _ T73 (mkF m 264 #[oI i0, oR h0.size, oI (2 : Int32), oR w2, .unset] [])
    refine own_by (fun t_ k_ => XS.iloadN XT73.here hx rfl (hb hby at_264) rfl  k_) ?_
    show own_Go p e below _ T73 (mkF m 265 #[oI i0, oR h0.size, oI (2 : Int32), oR w2, .unset] [(.int (2 : Int32))])
    refine own_by (fun t_ k_ => XT.bipushV XT73.here hx rfl (9 : Int32) (hb hby at_265) (by decide) k_) ?_
    show own_Go p e below _ T73 (mkF m 267 #[oI i0, oR h0.size, oI (2 : Int32), oR w2, .unset] [(.int (9 : Int32)), (.int (2 : Int32))])
    refine own_by (fun t_ k_ => XS.icmpNo XT73.here hx rfl (hb hby at_267) rfl (XT.ii_ge_f (by decide)) k_) ?_
    show own_Go p e below _ T73 (mkF m 270 #[oI i0, oR h0.size, oI (2 : Int32), oR w2, .unset] [])
    refine own_by (fun t_ k_ => XT.iconstV XT73.here hx rfl (1 : Int32) (hb hby at_270) (by decide) k_) ?_
    show own_Go p e below _ T73 (mkF m 271 #[oI i0, oR h0.size, oI (2 : Int32), oR w2, .unset] [(.int (1 : Int32))])
    refine own_by (fun t_ k_ => XS.goto XT73.here hx rfl (pc0 := 271) (pc' := 275) rfl (hb hby at_271) (by decide) (by decide) k_) ?_
    show own_Go p e below _ T73 (mkF m 275 #[oI i0, oR h0.size, oI (2 : Int32), oR w2, .unset] [(.int (1 : Int32))])
    refine own_by (fun t_ k_ => XS.istore XT73.here hx rfl (hb hby at_275) rfl (l' := #[oI i0, oR h0.size, oI (2 : Int32), oR w2, oI (1 : Int32)]) rfl k_) ?_
    show own_Go p e below _ T73 (mkF m 277 #[oI i0, oR h0.size, oI (2 : Int32), oR w2, oI (1 : Int32)] [])
    refine own_by (fun t_ k_ => XS.aloadN XT73.here hx rfl (hb hby at_277) rfl rfl  k_) ?_
    show own_Go p e below _ T73 (mkF m 278 #[oI i0, oR h0.size, oI (2 : Int32), oR w2, oI (1 : Int32)] [(.ref w2)])
    refine own_callV XT73 hx hZ hown (hw _ (List.mem_of_getElem? (i := 77) rfl)) (hw _ (List.mem_of_getElem? (i := 78) rfl)) (hw _ (List.mem_of_getElem? (i := 80) rfl)) (hw _ (List.mem_of_getElem? (i := 79) rfl)) (hw _ (List.mem_of_getElem? (i := 81) rfl)) (hw _ (List.mem_of_getElem? (i := 3) rfl)) (by decide) eT73 (b := w2) (E2.keep KT73) (argsL := []) (rest := []) (own_gn_met l Z a0 hw w2 w0 w1 w2 w14 w22 w23 w24 w25 w26 hT73 ⟨own_stak S0 KT73, own_stak S1 KT73, own_stak S2 KT73, own_stak S14 KT73, own_stak S22 KT73, own_stak S23 KT73, own_stak S24 KT73, own_stak S25 KT73, own_stak S26 KT73⟩) 0 (by decide) (by decide) (by rw [hml]; rfl) (lenOf pd_0 rfl) (Nat.le_of_eq rfl) (hb hby at_278) (by decide) (by decide) (st := [(.ref w2)]) rfl ?_
    intro T76 LT76 vT76 XT76 hQT76
    obtain ⟨rfl, eT76, rfl⟩ := hQT76
    show own_Go p e below _ T76 (mkF m 281 #[oI i0, oR h0.size, oI (2 : Int32), oR w2, oI (1 : Int32)] [(.int (own_gn w2 w0 w1 w2 w14 w22 w23 w24 w25 w26))])
    rw [show own_gn w2 w0 w1 w2 w14 w22 w23 w24 w25 w26 = (1 : Int32) by rw [own_gn, if_neg (F2.ne F0 (by decide)), if_neg (F2.ne F1 (by decide)), if_pos rfl]]
    show own_Go p e below _ T76 (mkF m 281 #[oI i0, oR h0.size, oI (2 : Int32), oR w2, oI (1 : Int32)] [(.int (1 : Int32))])
    refine own_by (fun t_ k_ => XS.iload XT76.here hx rfl (hb hby at_281) rfl  k_) ?_
    show own_Go p e below _ T76 (mkF m 283 #[oI i0, oR h0.size, oI (2 : Int32), oR w2, oI (1 : Int32)] [(.int (1 : Int32)), (.int (1 : Int32))])
    refine own_by (fun t_ k_ => XS.icmpNo XT76.here hx rfl (hb hby at_283) rfl (XT.ii_ne_f (by decide)) k_) ?_
    show own_Go p e below _ T76 (mkF m 286 #[oI i0, oR h0.size, oI (2 : Int32), oR w2, oI (1 : Int32)] [])
    refine own_by (fun t_ k_ => XT.iconstV XT76.here hx rfl (1 : Int32) (hb hby at_286) (by decide) k_) ?_
    show own_Go p e below _ T76 (mkF m 287 #[oI i0, oR h0.size, oI (2 : Int32), oR w2, oI (1 : Int32)] [(.int (1 : Int32))])
    refine own_by (fun t_ k_ => XS.goto XT76.here hx rfl (pc0 := 287) (pc' := 291) rfl (hb hby at_287) (by decide) (by decide) k_) ?_
    show own_Go p e below _ T76 (mkF m 291 #[oI i0, oR h0.size, oI (2 : Int32), oR w2, oI (1 : Int32)] [(.int (1 : Int32))])
    exact own_retN XT76 hx hlk hret (by simp) (w := (1 : Int32)) (hb hby at_291) (by decide) (by decide) (by decide) (⟨rfl, own_app0 NT73⟩)
  · refine own_by (fun t_ k_ => XS.iloadN XT73.here hx rfl (hb hby at_252) rfl  k_) ?_
    show own_Go p e below _ T73 (mkF m 253 #[oI i0, oR h0.size, .unset, .unset, .unset] [(.int i0)])
    refine own_by (fun t_ k_ => XT73.ldcI hx hown (mvT hZ (hw _ (List.mem_of_getElem? (i := 76) rfl))) rfl (hb hby at_253) k_) ?_
    show own_Go p e below _ T73 (mkF m 255 #[oI i0, oR h0.size, .unset, .unset, .unset] [(.int (2147483647 : Int32)), (.int i0)])
    refine own_by (fun t_ k_ => XS.iand XT73.here hx rfl (hb hby at_255) rfl k_) ?_
    show own_Go p e below _ T73 (mkF m 256 #[oI i0, oR h0.size, .unset, .unset, .unset] [(.int (i0 &&& (2147483647 : Int32)))])
    refine own_by (fun t_ k_ => XT.bipushV XT73.here hx rfl (36 : Int32) (hb hby at_256) (by decide) k_) ?_
    show own_Go p e below _ T73 (mkF m 258 #[oI i0, oR h0.size, .unset, .unset, .unset] [(.int (36 : Int32)), (.int (i0 &&& (2147483647 : Int32)))])
    refine own_by (fun t_ k_ => iremM XT73 hx rfl (hb hby at_258) rfl (by decide) k_) ?_
    show own_Go p e below _ T73 (mkF m 259 #[oI i0, oR h0.size, .unset, .unset, .unset] [(.int ((i0 &&& (2147483647 : Int32)) % (36 : Int32)))])
    rw [hk]
    show own_Go p e below _ T73 (mkF m 259 #[oI i0, oR h0.size, .unset, .unset, .unset] [(.int (3 : Int32))])
    refine own_by (fun t_ k_ => XS.istoreN XT73.here hx rfl (hb hby at_259) rfl (l' := #[oI i0, oR h0.size, oI (3 : Int32), .unset, .unset]) rfl k_) ?_
    show own_Go p e below _ T73 (mkF m 260 #[oI i0, oR h0.size, oI (3 : Int32), .unset, .unset] [])
    refine own_by (fun t_ k_ => XS.aloadN XT73.here hx rfl (hb hby at_260) rfl rfl  k_) ?_
    show own_Go p e below _ T73 (mkF m 261 #[oI i0, oR h0.size, oI (3 : Int32), .unset, .unset] [(.ref h0.size)])
    refine own_by (fun t_ k_ => XS.iloadN XT73.here hx rfl (hb hby at_261) rfl  k_) ?_
    show own_Go p e below _ T73 (mkF m 262 #[oI i0, oR h0.size, oI (3 : Int32), .unset, .unset] [(.int (3 : Int32)), (.ref h0.size)])
    refine own_ldR XT73 hx hZ eT73 VT73 rfl 3 (by decide) (by decide) (v := (.ref w14)) rfl (hb hby at_262) ?_
    show own_Go p e below _ T73 (mkF m 263 #[oI i0, oR h0.size, oI (3 : Int32), .unset, .unset] [(.ref w14)])
    refine own_by (fun t_ k_ => XS.astoreN XT73.here hx rfl (hb hby at_263) rfl rfl (l' := #[oI i0, oR h0.size, oI (3 : Int32), oR w14, .unset]) rfl k_) ?_
    show own_Go p e below _ T73 (mkF m 264 #[oI i0, oR h0.size, oI (3 : Int32), oR w14, .unset] [])
    refine own_by (fun t_ k_ => XS.iloadN XT73.here hx rfl (hb hby at_264) rfl  k_) ?_
    show own_Go p e below _ T73 (mkF m 265 #[oI i0, oR h0.size, oI (3 : Int32), oR w14, .unset] [(.int (3 : Int32))])
    refine own_by (fun t_ k_ => XT.bipushV XT73.here hx rfl (9 : Int32) (hb hby at_265) (by decide) k_) ?_
    show own_Go p e below _ T73 (mkF m 267 #[oI i0, oR h0.size, oI (3 : Int32), oR w14, .unset] [(.int (9 : Int32)), (.int (3 : Int32))])
    refine own_by (fun t_ k_ => XS.icmpNo XT73.here hx rfl (hb hby at_267) rfl (XT.ii_ge_f (by decide)) k_) ?_
    show own_Go p e below _ T73 (mkF m 270 #[oI i0, oR h0.size, oI (3 : Int32), oR w14, .unset] [])
    refine own_by (fun t_ k_ => XT.iconstV XT73.here hx rfl (1 : Int32) (hb hby at_270) (by decide) k_) ?_
    show own_Go p e below _ T73 (mkF m 271 #[oI i0, oR h0.size, oI (3 : Int32), oR w14, .unset] [(.int (1 : Int32))])
    refine own_by (fun t_ k_ => XS.goto XT73.here hx rfl (pc0 := 271) (pc' := 275) rfl (hb hby at_271) (by decide) (by decide) k_) ?_
    show own_Go p e below _ T73 (mkF m 275 #[oI i0, oR h0.size, oI (3 : Int32), oR w14, .unset] [(.int (1 : Int32))])
    refine own_by (fun t_ k_ => XS.istore XT73.here hx rfl (hb hby at_275) rfl (l' := #[oI i0, oR h0.size, oI (3 : Int32), oR w14, oI (1 : Int32)]) rfl k_) ?_
    show own_Go p e below _ T73 (mkF m 277 #[oI i0, oR h0.size, oI (3 : Int32), oR w14, oI (1 : Int32)] [])
    refine own_by (fun t_ k_ => XS.aloadN XT73.here hx rfl (hb hby at_277) rfl rfl  k_) ?_
    show own_Go p e below _ T73 (mkF m 278 #[oI i0, oR h0.size, oI (3 : Int32), oR w14, oI (1 : Int32)] [(.ref w14)])
    refine own_callV XT73 hx hZ hown (hw _ (List.mem_of_getElem? (i := 77) rfl)) (hw _ (List.mem_of_getElem? (i := 78) rfl)) (hw _ (List.mem_of_getElem? (i := 80) rfl)) (hw _ (List.mem_of_getElem? (i := 79) rfl)) (hw _ (List.mem_of_getElem? (i := 81) rfl)) (hw _ (List.mem_of_getElem? (i := 3) rfl)) (by decide) eT73 (b := w14) (E14.keep KT73) (argsL := []) (rest := []) (own_gn_met l Z a0 hw w14 w0 w1 w2 w14 w22 w23 w24 w25 w26 hT73 ⟨own_stak S0 KT73, own_stak S1 KT73, own_stak S2 KT73, own_stak S14 KT73, own_stak S22 KT73, own_stak S23 KT73, own_stak S24 KT73, own_stak S25 KT73, own_stak S26 KT73⟩) 0 (by decide) (by decide) (by rw [hml]; rfl) (lenOf pd_0 rfl) (Nat.le_of_eq rfl) (hb hby at_278) (by decide) (by decide) (st := [(.ref w14)]) rfl ?_
    intro T77 LT77 vT77 XT77 hQT77
    obtain ⟨rfl, eT77, rfl⟩ := hQT77
    show own_Go p e below _ T77 (mkF m 281 #[oI i0, oR h0.size, oI (3 : Int32), oR w14, oI (1 : Int32)] [(.int (own_gn w14 w0 w1 w2 w14 w22 w23 w24 w25 w26))])
    rw [show own_gn w14 w0 w1 w2 w14 w22 w23 w24 w25 w26 = (1 : Int32) by rw [own_gn, if_neg (F14.ne F0 (by decide)), if_neg (F14.ne F1 (by decide)), if_neg (F14.ne F2 (by decide)), if_pos rfl]]
    show own_Go p e below _ T77 (mkF m 281 #[oI i0, oR h0.size, oI (3 : Int32), oR w14, oI (1 : Int32)] [(.int (1 : Int32))])
    refine own_by (fun t_ k_ => XS.iload XT77.here hx rfl (hb hby at_281) rfl  k_) ?_
    show own_Go p e below _ T77 (mkF m 283 #[oI i0, oR h0.size, oI (3 : Int32), oR w14, oI (1 : Int32)] [(.int (1 : Int32)), (.int (1 : Int32))])
    refine own_by (fun t_ k_ => XS.icmpNo XT77.here hx rfl (hb hby at_283) rfl (XT.ii_ne_f (by decide)) k_) ?_
    show own_Go p e below _ T77 (mkF m 286 #[oI i0, oR h0.size, oI (3 : Int32), oR w14, oI (1 : Int32)] [])
    refine own_by (fun t_ k_ => XT.iconstV XT77.here hx rfl (1 : Int32) (hb hby at_286) (by decide) k_) ?_
    show own_Go p e below _ T77 (mkF m 287 #[oI i0, oR h0.size, oI (3 : Int32), oR w14, oI (1 : Int32)] [(.int (1 : Int32))])
    refine own_by (fun t_ k_ => XS.goto XT77.here hx rfl (pc0 := 287) (pc' := 291) rfl (hb hby at_287) (by decide) (by decide) k_) ?_
    show own_Go p e below _ T77 (mkF m 291 #[oI i0, oR h0.size, oI (3 : Int32), oR w14, oI (1 : Int32)] [(.int (1 : Int32))])
    exact own_retN XT77 hx hlk hret (by simp) (w := (1 : Int32)) (hb hby at_291) (by decide) (by decide) (by decide) (⟨rfl, own_app0 NT73⟩)
  · refine own_by (fun t_ k_ => XS.iloadN XT73.here hx rfl (hb hby at_252) rfl  k_) ?_
    show own_Go p e below _ T73 (mkF m 253 #[oI i0, oR h0.size, .unset, .unset, .unset] [(.int i0)])
    refine own_by (fun t_ k_ => XT73.ldcI hx hown (mvT hZ (hw _ (List.mem_of_getElem? (i := 76) rfl))) rfl (hb hby at_253) k_) ?_
    show own_Go p e below _ T73 (mkF m 255 #[oI i0, oR h0.size, .unset, .unset, .unset] [(.int (2147483647 : Int32)), (.int i0)])
    refine own_by (fun t_ k_ => XS.iand XT73.here hx rfl (hb hby at_255) rfl k_) ?_
    show own_Go p e below _ T73 (mkF m 256 #[oI i0, oR h0.size, .unset, .unset, .unset] [(.int (i0 &&& (2147483647 : Int32)))])
    refine own_by (fun t_ k_ => XT.bipushV XT73.here hx rfl (36 : Int32) (hb hby at_256) (by decide) k_) ?_
    show own_Go p e below _ T73 (mkF m 258 #[oI i0, oR h0.size, .unset, .unset, .unset] [(.int (36 : Int32)), (.int (i0 &&& (2147483647 : Int32)))])
    refine own_by (fun t_ k_ => iremM XT73 hx rfl (hb hby at_258) rfl (by decide) k_) ?_
    show own_Go p e below _ T73 (mkF m 259 #[oI i0, oR h0.size, .unset, .unset, .unset] [(.int ((i0 &&& (2147483647 : Int32)) % (36 : Int32)))])
    rw [hk]
    show own_Go p e below _ T73 (mkF m 259 #[oI i0, oR h0.size, .unset, .unset, .unset] [(.int (4 : Int32))])
    refine own_by (fun t_ k_ => XS.istoreN XT73.here hx rfl (hb hby at_259) rfl (l' := #[oI i0, oR h0.size, oI (4 : Int32), .unset, .unset]) rfl k_) ?_
    show own_Go p e below _ T73 (mkF m 260 #[oI i0, oR h0.size, oI (4 : Int32), .unset, .unset] [])
    refine own_by (fun t_ k_ => XS.aloadN XT73.here hx rfl (hb hby at_260) rfl rfl  k_) ?_
    show own_Go p e below _ T73 (mkF m 261 #[oI i0, oR h0.size, oI (4 : Int32), .unset, .unset] [(.ref h0.size)])
    refine own_by (fun t_ k_ => XS.iloadN XT73.here hx rfl (hb hby at_261) rfl  k_) ?_
    show own_Go p e below _ T73 (mkF m 262 #[oI i0, oR h0.size, oI (4 : Int32), .unset, .unset] [(.int (4 : Int32)), (.ref h0.size)])
    refine own_ldR XT73 hx hZ eT73 VT73 rfl 4 (by decide) (by decide) (v := (.ref w22)) rfl (hb hby at_262) ?_
    show own_Go p e below _ T73 (mkF m 263 #[oI i0, oR h0.size, oI (4 : Int32), .unset, .unset] [(.ref w22)])
    refine own_by (fun t_ k_ => XS.astoreN XT73.here hx rfl (hb hby at_263) rfl rfl (l' := #[oI i0, oR h0.size, oI (4 : Int32), oR w22, .unset]) rfl k_) ?_
    show own_Go p e below _ T73 (mkF m 264 #[oI i0, oR h0.size, oI (4 : Int32), oR w22, .unset] [])
    refine own_by (fun t_ k_ => XS.iloadN XT73.here hx rfl (hb hby at_264) rfl  k_) ?_
    show own_Go p e below _ T73 (mkF m 265 #[oI i0, oR h0.size, oI (4 : Int32), oR w22, .unset] [(.int (4 : Int32))])
    refine own_by (fun t_ k_ => XT.bipushV XT73.here hx rfl (9 : Int32) (hb hby at_265) (by decide) k_) ?_
    show own_Go p e below _ T73 (mkF m 267 #[oI i0, oR h0.size, oI (4 : Int32), oR w22, .unset] [(.int (9 : Int32)), (.int (4 : Int32))])
    refine own_by (fun t_ k_ => XS.icmpNo XT73.here hx rfl (hb hby at_267) rfl (XT.ii_ge_f (by decide)) k_) ?_
    show own_Go p e below _ T73 (mkF m 270 #[oI i0, oR h0.size, oI (4 : Int32), oR w22, .unset] [])
    refine own_by (fun t_ k_ => XT.iconstV XT73.here hx rfl (1 : Int32) (hb hby at_270) (by decide) k_) ?_
    show own_Go p e below _ T73 (mkF m 271 #[oI i0, oR h0.size, oI (4 : Int32), oR w22, .unset] [(.int (1 : Int32))])
    refine own_by (fun t_ k_ => XS.goto XT73.here hx rfl (pc0 := 271) (pc' := 275) rfl (hb hby at_271) (by decide) (by decide) k_) ?_
    show own_Go p e below _ T73 (mkF m 275 #[oI i0, oR h0.size, oI (4 : Int32), oR w22, .unset] [(.int (1 : Int32))])
    refine own_by (fun t_ k_ => XS.istore XT73.here hx rfl (hb hby at_275) rfl (l' := #[oI i0, oR h0.size, oI (4 : Int32), oR w22, oI (1 : Int32)]) rfl k_) ?_
    show own_Go p e below _ T73 (mkF m 277 #[oI i0, oR h0.size, oI (4 : Int32), oR w22, oI (1 : Int32)] [])
    refine own_by (fun t_ k_ => XS.aloadN XT73.here hx rfl (hb hby at_277) rfl rfl  k_) ?_
    show own_Go p e below _ T73 (mkF m 278 #[oI i0, oR h0.size, oI (4 : Int32), oR w22, oI (1 : Int32)] [(.ref w22)])
    refine own_callV XT73 hx hZ hown (hw _ (List.mem_of_getElem? (i := 77) rfl)) (hw _ (List.mem_of_getElem? (i := 78) rfl)) (hw _ (List.mem_of_getElem? (i := 80) rfl)) (hw _ (List.mem_of_getElem? (i := 79) rfl)) (hw _ (List.mem_of_getElem? (i := 81) rfl)) (hw _ (List.mem_of_getElem? (i := 3) rfl)) (by decide) eT73 (b := w22) (E22.keep KT73) (argsL := []) (rest := []) (own_gn_met l Z a0 hw w22 w0 w1 w2 w14 w22 w23 w24 w25 w26 hT73 ⟨own_stak S0 KT73, own_stak S1 KT73, own_stak S2 KT73, own_stak S14 KT73, own_stak S22 KT73, own_stak S23 KT73, own_stak S24 KT73, own_stak S25 KT73, own_stak S26 KT73⟩) 0 (by decide) (by decide) (by rw [hml]; rfl) (lenOf pd_0 rfl) (Nat.le_of_eq rfl) (hb hby at_278) (by decide) (by decide) (st := [(.ref w22)]) rfl ?_
    intro T78 LT78 vT78 XT78 hQT78
    obtain ⟨rfl, eT78, rfl⟩ := hQT78
    show own_Go p e below _ T78 (mkF m 281 #[oI i0, oR h0.size, oI (4 : Int32), oR w22, oI (1 : Int32)] [(.int (own_gn w22 w0 w1 w2 w14 w22 w23 w24 w25 w26))])
    rw [show own_gn w22 w0 w1 w2 w14 w22 w23 w24 w25 w26 = (1 : Int32) by rw [own_gn, if_neg (F22.ne F0 (by decide)), if_neg (F22.ne F1 (by decide)), if_neg (F22.ne F2 (by decide)), if_neg (F22.ne F14 (by decide)), if_pos rfl]]
    show own_Go p e below _ T78 (mkF m 281 #[oI i0, oR h0.size, oI (4 : Int32), oR w22, oI (1 : Int32)] [(.int (1 : Int32))])
    refine own_by (fun t_ k_ => XS.iload XT78.here hx rfl (hb hby at_281) rfl  k_) ?_
    show own_Go p e below _ T78 (mkF m 283 #[oI i0, oR h0.size, oI (4 : Int32), oR w22, oI (1 : Int32)] [(.int (1 : Int32)), (.int (1 : Int32))])
    refine own_by (fun t_ k_ => XS.icmpNo XT78.here hx rfl (hb hby at_283) rfl (XT.ii_ne_f (by decide)) k_) ?_
    show own_Go p e below _ T78 (mkF m 286 #[oI i0, oR h0.size, oI (4 : Int32), oR w22, oI (1 : Int32)] [])
    refine own_by (fun t_ k_ => XT.iconstV XT78.here hx rfl (1 : Int32) (hb hby at_286) (by decide) k_) ?_
    show own_Go p e below _ T78 (mkF m 287 #[oI i0, oR h0.size, oI (4 : Int32), oR w22, oI (1 : Int32)] [(.int (1 : Int32))])
    refine own_by (fun t_ k_ => XS.goto XT78.here hx rfl (pc0 := 287) (pc' := 291) rfl (hb hby at_287) (by decide) (by decide) k_) ?_
    show own_Go p e below _ T78 (mkF m 291 #[oI i0, oR h0.size, oI (4 : Int32), oR w22, oI (1 : Int32)] [(.int (1 : Int32))])
    exact own_retN XT78 hx hlk hret (by simp) (w := (1 : Int32)) (hb hby at_291) (by decide) (by decide) (by decide) (⟨rfl, own_app0 NT73⟩)
  · refine own_by (fun t_ k_ => XS.iloadN XT73.here hx rfl (hb hby at_252) rfl  k_) ?_
    show own_Go p e below _ T73 (mkF m 253 #[oI i0, oR h0.size, .unset, .unset, .unset] [(.int i0)])
    refine own_by (fun t_ k_ => XT73.ldcI hx hown (mvT hZ (hw _ (List.mem_of_getElem? (i := 76) rfl))) rfl (hb hby at_253) k_) ?_
    show own_Go p e below _ T73 (mkF m 255 #[oI i0, oR h0.size, .unset, .unset, .unset] [(.int (2147483647 : Int32)), (.int i0)])
    refine own_by (fun t_ k_ => XS.iand XT73.here hx rfl (hb hby at_255) rfl k_) ?_
    show own_Go p e below _ T73 (mkF m 256 #[oI i0, oR h0.size, .unset, .unset, .unset] [(.int (i0 &&& (2147483647 : Int32)))])
    refine own_by (fun t_ k_ => XT.bipushV XT73.here hx rfl (36 : Int32) (hb hby at_256) (by decide) k_) ?_
    show own_Go p e below _ T73 (mkF m 258 #[oI i0, oR h0.size, .unset, .unset, .unset] [(.int (36 : Int32)), (.int (i0 &&& (2147483647 : Int32)))])
    refine own_by (fun t_ k_ => iremM XT73 hx rfl (hb hby at_258) rfl (by decide) k_) ?_
    show own_Go p e below _ T73 (mkF m 259 #[oI i0, oR h0.size, .unset, .unset, .unset] [(.int ((i0 &&& (2147483647 : Int32)) % (36 : Int32)))])
    rw [hk]
    show own_Go p e below _ T73 (mkF m 259 #[oI i0, oR h0.size, .unset, .unset, .unset] [(.int (5 : Int32))])
    refine own_by (fun t_ k_ => XS.istoreN XT73.here hx rfl (hb hby at_259) rfl (l' := #[oI i0, oR h0.size, oI (5 : Int32), .unset, .unset]) rfl k_) ?_
    show own_Go p e below _ T73 (mkF m 260 #[oI i0, oR h0.size, oI (5 : Int32), .unset, .unset] [])
    refine own_by (fun t_ k_ => XS.aloadN XT73.here hx rfl (hb hby at_260) rfl rfl  k_) ?_
    show own_Go p e below _ T73 (mkF m 261 #[oI i0, oR h0.size, oI (5 : Int32), .unset, .unset] [(.ref h0.size)])
    refine own_by (fun t_ k_ => XS.iloadN XT73.here hx rfl (hb hby at_261) rfl  k_) ?_
    show own_Go p e below _ T73 (mkF m 262 #[oI i0, oR h0.size, oI (5 : Int32), .unset, .unset] [(.int (5 : Int32)), (.ref h0.size)])
    refine own_ldR XT73 hx hZ eT73 VT73 rfl 5 (by decide) (by decide) (v := (.ref w23)) rfl (hb hby at_262) ?_
    show own_Go p e below _ T73 (mkF m 263 #[oI i0, oR h0.size, oI (5 : Int32), .unset, .unset] [(.ref w23)])
    refine own_by (fun t_ k_ => XS.astoreN XT73.here hx rfl (hb hby at_263) rfl rfl (l' := #[oI i0, oR h0.size, oI (5 : Int32), oR w23, .unset]) rfl k_) ?_
    show own_Go p e below _ T73 (mkF m 264 #[oI i0, oR h0.size, oI (5 : Int32), oR w23, .unset] [])
    refine own_by (fun t_ k_ => XS.iloadN XT73.here hx rfl (hb hby at_264) rfl  k_) ?_
    show own_Go p e below _ T73 (mkF m 265 #[oI i0, oR h0.size, oI (5 : Int32), oR w23, .unset] [(.int (5 : Int32))])
    refine own_by (fun t_ k_ => XT.bipushV XT73.here hx rfl (9 : Int32) (hb hby at_265) (by decide) k_) ?_
    show own_Go p e below _ T73 (mkF m 267 #[oI i0, oR h0.size, oI (5 : Int32), oR w23, .unset] [(.int (9 : Int32)), (.int (5 : Int32))])
    refine own_by (fun t_ k_ => XS.icmpNo XT73.here hx rfl (hb hby at_267) rfl (XT.ii_ge_f (by decide)) k_) ?_
    show own_Go p e below _ T73 (mkF m 270 #[oI i0, oR h0.size, oI (5 : Int32), oR w23, .unset] [])
    refine own_by (fun t_ k_ => XT.iconstV XT73.here hx rfl (1 : Int32) (hb hby at_270) (by decide) k_) ?_
    show own_Go p e below _ T73 (mkF m 271 #[oI i0, oR h0.size, oI (5 : Int32), oR w23, .unset] [(.int (1 : Int32))])
    refine own_by (fun t_ k_ => XS.goto XT73.here hx rfl (pc0 := 271) (pc' := 275) rfl (hb hby at_271) (by decide) (by decide) k_) ?_
    show own_Go p e below _ T73 (mkF m 275 #[oI i0, oR h0.size, oI (5 : Int32), oR w23, .unset] [(.int (1 : Int32))])
    refine own_by (fun t_ k_ => XS.istore XT73.here hx rfl (hb hby at_275) rfl (l' := #[oI i0, oR h0.size, oI (5 : Int32), oR w23, oI (1 : Int32)]) rfl k_) ?_
    show own_Go p e below _ T73 (mkF m 277 #[oI i0, oR h0.size, oI (5 : Int32), oR w23, oI (1 : Int32)] [])
    refine own_by (fun t_ k_ => XS.aloadN XT73.here hx rfl (hb hby at_277) rfl rfl  k_) ?_
    show own_Go p e below _ T73 (mkF m 278 #[oI i0, oR h0.size, oI (5 : Int32), oR w23, oI (1 : Int32)] [(.ref w23)])
    refine own_callV XT73 hx hZ hown (hw _ (List.mem_of_getElem? (i := 77) rfl)) (hw _ (List.mem_of_getElem? (i := 78) rfl)) (hw _ (List.mem_of_getElem? (i := 80) rfl)) (hw _ (List.mem_of_getElem? (i := 79) rfl)) (hw _ (List.mem_of_getElem? (i := 81) rfl)) (hw _ (List.mem_of_getElem? (i := 3) rfl)) (by decide) eT73 (b := w23) (E23.keep KT73) (argsL := []) (rest := []) (own_gn_met l Z a0 hw w23 w0 w1 w2 w14 w22 w23 w24 w25 w26 hT73 ⟨own_stak S0 KT73, own_stak S1 KT73, own_stak S2 KT73, own_stak S14 KT73, own_stak S22 KT73, own_stak S23 KT73, own_stak S24 KT73, own_stak S25 KT73, own_stak S26 KT73⟩) 0 (by decide) (by decide) (by rw [hml]; rfl) (lenOf pd_0 rfl) (Nat.le_of_eq rfl) (hb hby at_278) (by decide) (by decide) (st := [(.ref w23)]) rfl ?_
    intro T79 LT79 vT79 XT79 hQT79
    obtain ⟨rfl, eT79, rfl⟩ := hQT79
    show own_Go p e below _ T79 (mkF m 281 #[oI i0, oR h0.size, oI (5 : Int32), oR w23, oI (1 : Int32)] [(.int (own_gn w23 w0 w1 w2 w14 w22 w23 w24 w25 w26))])
    rw [show own_gn w23 w0 w1 w2 w14 w22 w23 w24 w25 w26 = (1 : Int32) by rw [own_gn, if_neg (F23.ne F0 (by decide)), if_neg (F23.ne F1 (by decide)), if_neg (F23.ne F2 (by decide)), if_neg (F23.ne F14 (by decide)), if_neg (F23.ne F22 (by decide)), if_pos rfl]]
    show own_Go p e below _ T79 (mkF m 281 #[oI i0, oR h0.size, oI (5 : Int32), oR w23, oI (1 : Int32)] [(.int (1 : Int32))])
    refine own_by (fun t_ k_ => XS.iload XT79.here hx rfl (hb hby at_281) rfl  k_) ?_
    show own_Go p e below _ T79 (mkF m 283 #[oI i0, oR h0.size, oI (5 : Int32), oR w23, oI (1 : Int32)] [(.int (1 : Int32)), (.int (1 : Int32))])
    refine own_by (fun t_ k_ => XS.icmpNo XT79.here hx rfl (hb hby at_283) rfl (XT.ii_ne_f (by decide)) k_) ?_
    show own_Go p e below _ T79 (mkF m 286 #[oI i0, oR h0.size, oI (5 : Int32), oR w23, oI (1 : Int32)] [])
    refine own_by (fun t_ k_ => XT.iconstV XT79.here hx rfl (1 : Int32) (hb hby at_286) (by decide) k_) ?_
    show own_Go p e below _ T79 (mkF m 287 #[oI i0, oR h0.size, oI (5 : Int32), oR w23, oI (1 : Int32)] [(.int (1 : Int32))])
    refine own_by (fun t_ k_ => XS.goto XT79.here hx rfl (pc0 := 287) (pc' := 291) rfl (hb hby at_287) (by decide) (by decide) k_) ?_
    show own_Go p e below _ T79 (mkF m 291 #[oI i0, oR h0.size, oI (5 : Int32), oR w23, oI (1 : Int32)] [(.int (1 : Int32))])
    exact own_retN XT79 hx hlk hret (by simp) (w := (1 : Int32)) (hb hby at_291) (by decide) (by decide) (by decide) (⟨rfl, own_app0 NT73⟩)
  · refine own_by (fun t_ k_ => XS.iloadN XT73.here hx rfl (hb hby at_252) rfl  k_) ?_
    show own_Go p e below _ T73 (mkF m 253 #[oI i0, oR h0.size, .unset, .unset, .unset] [(.int i0)])
    refine own_by (fun t_ k_ => XT73.ldcI hx hown (mvT hZ (hw _ (List.mem_of_getElem? (i := 76) rfl))) rfl (hb hby at_253) k_) ?_
    show own_Go p e below _ T73 (mkF m 255 #[oI i0, oR h0.size, .unset, .unset, .unset] [(.int (2147483647 : Int32)), (.int i0)])
    refine own_by (fun t_ k_ => XS.iand XT73.here hx rfl (hb hby at_255) rfl k_) ?_
    show own_Go p e below _ T73 (mkF m 256 #[oI i0, oR h0.size, .unset, .unset, .unset] [(.int (i0 &&& (2147483647 : Int32)))])
    refine own_by (fun t_ k_ => XT.bipushV XT73.here hx rfl (36 : Int32) (hb hby at_256) (by decide) k_) ?_
    show own_Go p e below _ T73 (mkF m 258 #[oI i0, oR h0.size, .unset, .unset, .unset] [(.int (36 : Int32)), (.int (i0 &&& (2147483647 : Int32)))])
    refine own_by (fun t_ k_ => iremM XT73 hx rfl (hb hby at_258) rfl (by decide) k_) ?_
    show own_Go p e below _ T73 (mkF m 259 #[oI i0, oR h0.size, .unset, .unset, .unset] [(.int ((i0 &&& (2147483647 : Int32)) % (36 : Int32)))])
    rw [hk]
    show own_Go p e below _ T73 (mkF m 259 #[oI i0, oR h0.size, .unset, .unset, .unset] [(.int (6 : Int32))])
    refine own_by (fun t_ k_ => XS.istoreN XT73.here hx rfl (hb hby at_259) rfl (l' := #[oI i0, oR h0.size, oI (6 : Int32), .unset, .unset]) rfl k_) ?_
    show own_Go p e below _ T73 (mkF m 260 #[oI i0, oR h0.size, oI (6 : Int32), .unset, .unset] [])
    refine own_by (fun t_ k_ => XS.aloadN XT73.here hx rfl (hb hby at_260) rfl rfl  k_) ?_
    show own_Go p e below _ T73 (mkF m 261 #[oI i0, oR h0.size, oI (6 : Int32), .unset, .unset] [(.ref h0.size)])
    refine own_by (fun t_ k_ => XS.iloadN XT73.here hx rfl (hb hby at_261) rfl  k_) ?_
    show own_Go p e below _ T73 (mkF m 262 #[oI i0, oR h0.size, oI (6 : Int32), .unset, .unset] [(.int (6 : Int32)), (.ref h0.size)])
    refine own_ldR XT73 hx hZ eT73 VT73 rfl 6 (by decide) (by decide) (v := (.ref w24)) rfl (hb hby at_262) ?_
    show own_Go p e below _ T73 (mkF m 263 #[oI i0, oR h0.size, oI (6 : Int32), .unset, .unset] [(.ref w24)])
    refine own_by (fun t_ k_ => XS.astoreN XT73.here hx rfl (hb hby at_263) rfl rfl (l' := #[oI i0, oR h0.size, oI (6 : Int32), oR w24, .unset]) rfl k_) ?_
    show own_Go p e below _ T73 (mkF m 264 #[oI i0, oR h0.size, oI (6 : Int32), oR w24, .unset] [])
    refine own_by (fun t_ k_ => XS.iloadN XT73.here hx rfl (hb hby at_264) rfl  k_) ?_
    show own_Go p e below _ T73 (mkF m 265 #[oI i0, oR h0.size, oI (6 : Int32), oR w24, .unset] [(.int (6 : Int32))])
    refine own_by (fun t_ k_ => XT.bipushV XT73.here hx rfl (9 : Int32) (hb hby at_265) (by decide) k_) ?_
    show own_Go p e below _ T73 (mkF m 267 #[oI i0, oR h0.size, oI (6 : Int32), oR w24, .unset] [(.int (9 : Int32)), (.int (6 : Int32))])
    refine own_by (fun t_ k_ => XS.icmpNo XT73.here hx rfl (hb hby at_267) rfl (XT.ii_ge_f (by decide)) k_) ?_
    show own_Go p e below _ T73 (mkF m 270 #[oI i0, oR h0.size, oI (6 : Int32), oR w24, .unset] [])
    refine own_by (fun t_ k_ => XT.iconstV XT73.here hx rfl (1 : Int32) (hb hby at_270) (by decide) k_) ?_
    show own_Go p e below _ T73 (mkF m 271 #[oI i0, oR h0.size, oI (6 : Int32), oR w24, .unset] [(.int (1 : Int32))])
    refine own_by (fun t_ k_ => XS.goto XT73.here hx rfl (pc0 := 271) (pc' := 275) rfl (hb hby at_271) (by decide) (by decide) k_) ?_
    show own_Go p e below _ T73 (mkF m 275 #[oI i0, oR h0.size, oI (6 : Int32), oR w24, .unset] [(.int (1 : Int32))])
    refine own_by (fun t_ k_ => XS.istore XT73.here hx rfl (hb hby at_275) rfl (l' := #[oI i0, oR h0.size, oI (6 : Int32), oR w24, oI (1 : Int32)]) rfl k_) ?_
    show own_Go p e below _ T73 (mkF m 277 #[oI i0, oR h0.size, oI (6 : Int32), oR w24, oI (1 : Int32)] [])
    refine own_by (fun t_ k_ => XS.aloadN XT73.here hx rfl (hb hby at_277) rfl rfl  k_) ?_
    show own_Go p e below _ T73 (mkF m 278 #[oI i0, oR h0.size, oI (6 : Int32), oR w24, oI (1 : Int32)] [(.ref w24)])
    refine own_callV XT73 hx hZ hown (hw _ (List.mem_of_getElem? (i := 77) rfl)) (hw _ (List.mem_of_getElem? (i := 78) rfl)) (hw _ (List.mem_of_getElem? (i := 80) rfl)) (hw _ (List.mem_of_getElem? (i := 79) rfl)) (hw _ (List.mem_of_getElem? (i := 81) rfl)) (hw _ (List.mem_of_getElem? (i := 3) rfl)) (by decide) eT73 (b := w24) (E24.keep KT73) (argsL := []) (rest := []) (own_gn_met l Z a0 hw w24 w0 w1 w2 w14 w22 w23 w24 w25 w26 hT73 ⟨own_stak S0 KT73, own_stak S1 KT73, own_stak S2 KT73, own_stak S14 KT73, own_stak S22 KT73, own_stak S23 KT73, own_stak S24 KT73, own_stak S25 KT73, own_stak S26 KT73⟩) 0 (by decide) (by decide) (by rw [hml]; rfl) (lenOf pd_0 rfl) (Nat.le_of_eq rfl) (hb hby at_278) (by decide) (by decide) (st := [(.ref w24)]) rfl ?_
    intro T80 LT80 vT80 XT80 hQT80
    obtain ⟨rfl, eT80, rfl⟩ := hQT80
    show own_Go p e below _ T80 (mkF m 281 #[oI i0, oR h0.size, oI (6 : Int32), oR w24, oI (1 : Int32)] [(.int (own_gn w24 w0 w1 w2 w14 w22 w23 w24 w25 w26))])
    rw [show own_gn w24 w0 w1 w2 w14 w22 w23 w24 w25 w26 = (1 : Int32) by rw [own_gn, if_neg (F24.ne F0 (by decide)), if_neg (F24.ne F1 (by decide)), if_neg (F24.ne F2 (by decide)), if_neg (F24.ne F14 (by decide)), if_neg (F24.ne F22 (by decide)), if_neg (F24.ne F23 (by decide)), if_pos rfl]]
    show own_Go p e below _ T80 (mkF m 281 #[oI i0, oR h0.size, oI (6 : Int32), oR w24, oI (1 : Int32)] [(.int (1 : Int32))])
    refine own_by (fun t_ k_ => XS.iload XT80.here hx rfl (hb hby at_281) rfl  k_) ?_
    show own_Go p e below _ T80 (mkF m 283 #[oI i0, oR h0.size, oI (6 : Int32), oR w24, oI (1 : Int32)] [(.int (1 : Int32)), (.int (1 : Int32))])
    refine own_by (fun t_ k_ => XS.icmpNo XT80.here hx rfl (hb hby at_283) rfl (XT.ii_ne_f (by decide)) k_) ?_
    show own_Go p e below _ T80 (mkF m 286 #[oI i0, oR h0.size, oI (6 : Int32), oR w24, oI (1 : Int32)] [])
    refine own_by (fun t_ k_ => XT.iconstV XT80.here hx rfl (1 : Int32) (hb hby at_286) (by decide) k_) ?_
    show own_Go p e below _ T80 (mkF m 287 #[oI i0, oR h0.size, oI (6 : Int32), oR w24, oI (1 : Int32)] [(.int (1 : Int32))])
    refine own_by (fun t_ k_ => XS.goto XT80.here hx rfl (pc0 := 287) (pc' := 291) rfl (hb hby at_287) (by decide) (by decide) k_) ?_
    show own_Go p e below _ T80 (mkF m 291 #[oI i0, oR h0.size, oI (6 : Int32), oR w24, oI (1 : Int32)] [(.int (1 : Int32))])
    exact own_retN XT80 hx hlk hret (by simp) (w := (1 : Int32)) (hb hby at_291) (by decide) (by decide) (by decide) (⟨rfl, own_app0 NT73⟩)
  · refine own_by (fun t_ k_ => XS.iloadN XT73.here hx rfl (hb hby at_252) rfl  k_) ?_
    show own_Go p e below _ T73 (mkF m 253 #[oI i0, oR h0.size, .unset, .unset, .unset] [(.int i0)])
    refine own_by (fun t_ k_ => XT73.ldcI hx hown (mvT hZ (hw _ (List.mem_of_getElem? (i := 76) rfl))) rfl (hb hby at_253) k_) ?_
    show own_Go p e below _ T73 (mkF m 255 #[oI i0, oR h0.size, .unset, .unset, .unset] [(.int (2147483647 : Int32)), (.int i0)])
    refine own_by (fun t_ k_ => XS.iand XT73.here hx rfl (hb hby at_255) rfl k_) ?_
    show own_Go p e below _ T73 (mkF m 256 #[oI i0, oR h0.size, .unset, .unset, .unset] [(.int (i0 &&& (2147483647 : Int32)))])
    refine own_by (fun t_ k_ => XT.bipushV XT73.here hx rfl (36 : Int32) (hb hby at_256) (by decide) k_) ?_
    show own_Go p e below _ T73 (mkF m 258 #[oI i0, oR h0.size, .unset, .unset, .unset] [(.int (36 : Int32)), (.int (i0 &&& (2147483647 : Int32)))])
    refine own_by (fun t_ k_ => iremM XT73 hx rfl (hb hby at_258) rfl (by decide) k_) ?_
    show own_Go p e below _ T73 (mkF m 259 #[oI i0, oR h0.size, .unset, .unset, .unset] [(.int ((i0 &&& (2147483647 : Int32)) % (36 : Int32)))])
    rw [hk]
    show own_Go p e below _ T73 (mkF m 259 #[oI i0, oR h0.size, .unset, .unset, .unset] [(.int (7 : Int32))])
    refine own_by (fun t_ k_ => XS.istoreN XT73.here hx rfl (hb hby at_259) rfl (l' := #[oI i0, oR h0.size, oI (7 : Int32), .unset, .unset]) rfl k_) ?_
    show own_Go p e below _ T73 (mkF m 260 #[oI i0, oR h0.size, oI (7 : Int32), .unset, .unset] [])
    refine own_by (fun t_ k_ => XS.aloadN XT73.here hx rfl (hb hby at_260) rfl rfl  k_) ?_
    show own_Go p e below _ T73 (mkF m 261 #[oI i0, oR h0.size, oI (7 : Int32), .unset, .unset] [(.ref h0.size)])
    refine own_by (fun t_ k_ => XS.iloadN XT73.here hx rfl (hb hby at_261) rfl  k_) ?_
    show own_Go p e below _ T73 (mkF m 262 #[oI i0, oR h0.size, oI (7 : Int32), .unset, .unset] [(.int (7 : Int32)), (.ref h0.size)])
    refine own_ldR XT73 hx hZ eT73 VT73 rfl 7 (by decide) (by decide) (v := (.ref w25)) rfl (hb hby at_262) ?_
    show own_Go p e below _ T73 (mkF m 263 #[oI i0, oR h0.size, oI (7 : Int32), .unset, .unset] [(.ref w25)])
    refine own_by (fun t_ k_ => XS.astoreN XT73.here hx rfl (hb hby at_263) rfl rfl (l' := #[oI i0, oR h0.size, oI (7 : Int32), oR w25, .unset]) rfl k_) ?_
    show own_Go p e below _ T73 (mkF m 264 #[oI i0, oR h0.size, oI (7 : Int32), oR w25, .unset] [])
    refine own_by (fun t_ k_ => XS.iloadN XT73.here hx rfl (hb hby at_264) rfl  k_) ?_
    show own_Go p e below _ T73 (mkF m 265 #[oI i0, oR h0.size, oI (7 : Int32), oR w25, .unset] [(.int (7 : Int32))])
    refine own_by (fun t_ k_ => XT.bipushV XT73.here hx rfl (9 : Int32) (hb hby at_265) (by decide) k_) ?_
    show own_Go p e below _ T73 (mkF m 267 #[oI i0, oR h0.size, oI (7 : Int32), oR w25, .unset] [(.int (9 : Int32)), (.int (7 : Int32))])
    refine own_by (fun t_ k_ => XS.icmpNo XT73.here hx rfl (hb hby at_267) rfl (XT.ii_ge_f (by decide)) k_) ?_
    show own_Go p e below _ T73 (mkF m 270 #[oI i0, oR h0.size, oI (7 : Int32), oR w25, .unset] [])
    refine own_by (fun t_ k_ => XT.iconstV XT73.here hx rfl (1 : Int32) (hb hby at_270) (by decide) k_) ?_
    show own_Go p e below _ T73 (mkF m 271 #[oI i0, oR h0.size, oI (7 : Int32), oR w25, .unset] [(.int (1 : Int32))])
    refine own_by (fun t_ k_ => XS.goto XT73.here hx rfl (pc0 := 271) (pc' := 275) rfl (hb hby at_271) (by decide) (by decide) k_) ?_
    show own_Go p e below _ T73 (mkF m 275 #[oI i0, oR h0.size, oI (7 : Int32), oR w25, .unset] [(.int (1 : Int32))])
    refine own_by (fun t_ k_ => XS.istore XT73.here hx rfl (hb hby at_275) rfl (l' := #[oI i0, oR h0.size, oI (7 : Int32), oR w25, oI (1 : Int32)]) rfl k_) ?_
    show own_Go p e below _ T73 (mkF m 277 #[oI i0, oR h0.size, oI (7 : Int32), oR w25, oI (1 : Int32)] [])
    refine own_by (fun t_ k_ => XS.aloadN XT73.here hx rfl (hb hby at_277) rfl rfl  k_) ?_
    show own_Go p e below _ T73 (mkF m 278 #[oI i0, oR h0.size, oI (7 : Int32), oR w25, oI (1 : Int32)] [(.ref w25)])
    refine own_callV XT73 hx hZ hown (hw _ (List.mem_of_getElem? (i := 77) rfl)) (hw _ (List.mem_of_getElem? (i := 78) rfl)) (hw _ (List.mem_of_getElem? (i := 80) rfl)) (hw _ (List.mem_of_getElem? (i := 79) rfl)) (hw _ (List.mem_of_getElem? (i := 81) rfl)) (hw _ (List.mem_of_getElem? (i := 3) rfl)) (by decide) eT73 (b := w25) (E25.keep KT73) (argsL := []) (rest := []) (own_gn_met l Z a0 hw w25 w0 w1 w2 w14 w22 w23 w24 w25 w26 hT73 ⟨own_stak S0 KT73, own_stak S1 KT73, own_stak S2 KT73, own_stak S14 KT73, own_stak S22 KT73, own_stak S23 KT73, own_stak S24 KT73, own_stak S25 KT73, own_stak S26 KT73⟩) 0 (by decide) (by decide) (by rw [hml]; rfl) (lenOf pd_0 rfl) (Nat.le_of_eq rfl) (hb hby at_278) (by decide) (by decide) (st := [(.ref w25)]) rfl ?_
    intro T81 LT81 vT81 XT81 hQT81
    obtain ⟨rfl, eT81, rfl⟩ := hQT81
    show own_Go p e below _ T81 (mkF m 281 #[oI i0, oR h0.size, oI (7 : Int32), oR w25, oI (1 : Int32)] [(.int (own_gn w25 w0 w1 w2 w14 w22 w23 w24 w25 w26))])
    rw [show own_gn w25 w0 w1 w2 w14 w22 w23 w24 w25 w26 = (1 : Int32) by rw [own_gn, if_neg (F25.ne F0 (by decide)), if_neg (F25.ne F1 (by decide)), if_neg (F25.ne F2 (by decide)), if_neg (F25.ne F14 (by decide)), if_neg (F25.ne F22 (by decide)), if_neg (F25.ne F23 (by decide)), if_neg (F25.ne F24 (by decide)), if_pos rfl]]
    show own_Go p e below _ T81 (mkF m 281 #[oI i0, oR h0.size, oI (7 : Int32), oR w25, oI (1 : Int32)] [(.int (1 : Int32))])
    refine own_by (fun t_ k_ => XS.iload XT81.here hx rfl (hb hby at_281) rfl  k_) ?_
    show own_Go p e below _ T81 (mkF m 283 #[oI i0, oR h0.size, oI (7 : Int32), oR w25, oI (1 : Int32)] [(.int (1 : Int32)), (.int (1 : Int32))])
    refine own_by (fun t_ k_ => XS.icmpNo XT81.here hx rfl (hb hby at_283) rfl (XT.ii_ne_f (by decide)) k_) ?_
    show own_Go p e below _ T81 (mkF m 286 #[oI i0, oR h0.size, oI (7 : Int32), oR w25, oI (1 : Int32)] [])
    refine own_by (fun t_ k_ => XT.iconstV XT81.here hx rfl (1 : Int32) (hb hby at_286) (by decide) k_) ?_
    show own_Go p e below _ T81 (mkF m 287 #[oI i0, oR h0.size, oI (7 : Int32), oR w25, oI (1 : Int32)] [(.int (1 : Int32))])
    refine own_by (fun t_ k_ => XS.goto XT81.here hx rfl (pc0 := 287) (pc' := 291) rfl (hb hby at_287) (by decide) (by decide) k_) ?_
    show own_Go p e below _ T81 (mkF m 291 #[oI i0, oR h0.size, oI (7 : Int32), oR w25, oI (1 : Int32)] [(.int (1 : Int32))])
    exact own_retN XT81 hx hlk hret (by simp) (w := (1 : Int32)) (hb hby at_291) (by decide) (by decide) (by decide) (⟨rfl, own_app0 NT73⟩)
  · refine own_by (fun t_ k_ => XS.iloadN XT73.here hx rfl (hb hby at_252) rfl  k_) ?_
    show own_Go p e below _ T73 (mkF m 253 #[oI i0, oR h0.size, .unset, .unset, .unset] [(.int i0)])
    refine own_by (fun t_ k_ => XT73.ldcI hx hown (mvT hZ (hw _ (List.mem_of_getElem? (i := 76) rfl))) rfl (hb hby at_253) k_) ?_
    show own_Go p e below _ T73 (mkF m 255 #[oI i0, oR h0.size, .unset, .unset, .unset] [(.int (2147483647 : Int32)), (.int i0)])
    refine own_by (fun t_ k_ => XS.iand XT73.here hx rfl (hb hby at_255) rfl k_) ?_
    show own_Go p e below _ T73 (mkF m 256 #[oI i0, oR h0.size, .unset, .unset, .unset] [(.int (i0 &&& (2147483647 : Int32)))])
    refine own_by (fun t_ k_ => XT.bipushV XT73.here hx rfl (36 : Int32) (hb hby at_256) (by decide) k_) ?_
    show own_Go p e below _ T73 (mkF m 258 #[oI i0, oR h0.size, .unset, .unset, .unset] [(.int (36 : Int32)), (.int (i0 &&& (2147483647 : Int32)))])
    refine own_by (fun t_ k_ => iremM XT73 hx rfl (hb hby at_258) rfl (by decide) k_) ?_
    show own_Go p e below _ T73 (mkF m 259 #[oI i0, oR h0.size, .unset, .unset, .unset] [(.int ((i0 &&& (2147483647 : Int32)) % (36 : Int32)))])
    rw [hk]
    show own_Go p e below _ T73 (mkF m 259 #[oI i0, oR h0.size, .unset, .unset, .unset] [(.int (8 : Int32))])
    refine own_by (fun t_ k_ => XS.istoreN XT73.here hx rfl (hb hby at_259) rfl (l' := #[oI i0, oR h0.size, oI (8 : Int32), .unset, .unset]) rfl k_) ?_
    show own_Go p e below _ T73 (mkF m 260 #[oI i0, oR h0.size, oI (8 : Int32), .unset, .unset] [])
    refine own_by (fun t_ k_ => XS.aloadN XT73.here hx rfl (hb hby at_260) rfl rfl  k_) ?_
    show own_Go p e below _ T73 (mkF m 261 #[oI i0, oR h0.size, oI (8 : Int32), .unset, .unset] [(.ref h0.size)])
    refine own_by (fun t_ k_ => XS.iloadN XT73.here hx rfl (hb hby at_261) rfl  k_) ?_
    show own_Go p e below _ T73 (mkF m 262 #[oI i0, oR h0.size, oI (8 : Int32), .unset, .unset] [(.int (8 : Int32)), (.ref h0.size)])
    refine own_ldR XT73 hx hZ eT73 VT73 rfl 8 (by decide) (by decide) (v := (.ref w26)) rfl (hb hby at_262) ?_
    show own_Go p e below _ T73 (mkF m 263 #[oI i0, oR h0.size, oI (8 : Int32), .unset, .unset] [(.ref w26)])
    refine own_by (fun t_ k_ => XS.astoreN XT73.here hx rfl (hb hby at_263) rfl rfl (l' := #[oI i0, oR h0.size, oI (8 : Int32), oR w26, .unset]) rfl k_) ?_
    show own_Go p e below _ T73 (mkF m 264 #[oI i0, oR h0.size, oI (8 : Int32), oR w26, .unset] [])
    refine own_by (fun t_ k_ => XS.iloadN XT73.here hx rfl (hb hby at_264) rfl  k_) ?_
    show own_Go p e below _ T73 (mkF m 265 #[oI i0, oR h0.size, oI (8 : Int32), oR w26, .unset] [(.int (8 : Int32))])
    refine own_by (fun t_ k_ => XT.bipushV XT73.here hx rfl (9 : Int32) (hb hby at_265) (by decide) k_) ?_
    show own_Go p e below _ T73 (mkF m 267 #[oI i0, oR h0.size, oI (8 : Int32), oR w26, .unset] [(.int (9 : Int32)), (.int (8 : Int32))])
    refine own_by (fun t_ k_ => XS.icmpNo XT73.here hx rfl (hb hby at_267) rfl (XT.ii_ge_f (by decide)) k_) ?_
    show own_Go p e below _ T73 (mkF m 270 #[oI i0, oR h0.size, oI (8 : Int32), oR w26, .unset] [])
    refine own_by (fun t_ k_ => XT.iconstV XT73.here hx rfl (1 : Int32) (hb hby at_270) (by decide) k_) ?_
    show own_Go p e below _ T73 (mkF m 271 #[oI i0, oR h0.size, oI (8 : Int32), oR w26, .unset] [(.int (1 : Int32))])
    refine own_by (fun t_ k_ => XS.goto XT73.here hx rfl (pc0 := 271) (pc' := 275) rfl (hb hby at_271) (by decide) (by decide) k_) ?_
    show own_Go p e below _ T73 (mkF m 275 #[oI i0, oR h0.size, oI (8 : Int32), oR w26, .unset] [(.int (1 : Int32))])
    refine own_by (fun t_ k_ => XS.istore XT73.here hx rfl (hb hby at_275) rfl (l' := #[oI i0, oR h0.size, oI (8 : Int32), oR w26, oI (1 : Int32)]) rfl k_) ?_
    show own_Go p e below _ T73 (mkF m 277 #[oI i0, oR h0.size, oI (8 : Int32), oR w26, oI (1 : Int32)] [])
    refine own_by (fun t_ k_ => XS.aloadN XT73.here hx rfl (hb hby at_277) rfl rfl  k_) ?_
    show own_Go p e below _ T73 (mkF m 278 #[oI i0, oR h0.size, oI (8 : Int32), oR w26, oI (1 : Int32)] [(.ref w26)])
    refine own_callV XT73 hx hZ hown (hw _ (List.mem_of_getElem? (i := 77) rfl)) (hw _ (List.mem_of_getElem? (i := 78) rfl)) (hw _ (List.mem_of_getElem? (i := 80) rfl)) (hw _ (List.mem_of_getElem? (i := 79) rfl)) (hw _ (List.mem_of_getElem? (i := 81) rfl)) (hw _ (List.mem_of_getElem? (i := 3) rfl)) (by decide) eT73 (b := w26) (E26.keep KT73) (argsL := []) (rest := []) (own_gn_met l Z a0 hw w26 w0 w1 w2 w14 w22 w23 w24 w25 w26 hT73 ⟨own_stak S0 KT73, own_stak S1 KT73, own_stak S2 KT73, own_stak S14 KT73, own_stak S22 KT73, own_stak S23 KT73, own_stak S24 KT73, own_stak S25 KT73, own_stak S26 KT73⟩) 0 (by decide) (by decide) (by rw [hml]; rfl) (lenOf pd_0 rfl) (Nat.le_of_eq rfl) (hb hby at_278) (by decide) (by decide) (st := [(.ref w26)]) rfl ?_
    intro T82 LT82 vT82 XT82 hQT82
    obtain ⟨rfl, eT82, rfl⟩ := hQT82
    show own_Go p e below _ T82 (mkF m 281 #[oI i0, oR h0.size, oI (8 : Int32), oR w26, oI (1 : Int32)] [(.int (own_gn w26 w0 w1 w2 w14 w22 w23 w24 w25 w26))])
    rw [show own_gn w26 w0 w1 w2 w14 w22 w23 w24 w25 w26 = (1 : Int32) by rw [own_gn, if_neg (F26.ne F0 (by decide)), if_neg (F26.ne F1 (by decide)), if_neg (F26.ne F2 (by decide)), if_neg (F26.ne F14 (by decide)), if_neg (F26.ne F22 (by decide)), if_neg (F26.ne F23 (by decide)), if_neg (F26.ne F24 (by decide)), if_neg (F26.ne F25 (by decide)), if_pos rfl]]
    show own_Go p e below _ T82 (mkF m 281 #[oI i0, oR h0.size, oI (8 : Int32), oR w26, oI (1 : Int32)] [(.int (1 : Int32))])
    refine own_by (fun t_ k_ => XS.iload XT82.here hx rfl (hb hby at_281) rfl  k_) ?_
    show own_Go p e below _ T82 (mkF m 283 #[oI i0, oR h0.size, oI (8 : Int32), oR w26, oI (1 : Int32)] [(.int (1 : Int32)), (.int (1 : Int32))])
    refine own_by (fun t_ k_ => XS.icmpNo XT82.here hx rfl (hb hby at_283) rfl (XT.ii_ne_f (by decide)) k_) ?_
    show own_Go p e below _ T82 (mkF m 286 #[oI i0, oR h0.size, oI (8 : Int32), oR w26, oI (1 : Int32)] [])
    refine own_by (fun t_ k_ => XT.iconstV XT82.here hx rfl (1 : Int32) (hb hby at_286) (by decide) k_) ?_
    show own_Go p e below _ T82 (mkF m 287 #[oI i0, oR h0.size, oI (8 : Int32), oR w26, oI (1 : Int32)] [(.int (1 : Int32))])
    refine own_by (fun t_ k_ => XS.goto XT82.here hx rfl (pc0 := 287) (pc' := 291) rfl (hb hby at_287) (by decide) (by decide) k_) ?_
    show own_Go p e below _ T82 (mkF m 291 #[oI i0, oR h0.size, oI (8 : Int32), oR w26, oI (1 : Int32)] [(.int (1 : Int32))])
    exact own_retN XT82 hx hlk hret (by simp) (w := (1 : Int32)) (hb hby at_291) (by decide) (by decide) (by decide) (⟨rfl, own_app0 NT73⟩)
  · refine own_by (fun t_ k_ => XS.iloadN XT73.here hx rfl (hb hby at_252) rfl  k_) ?_
    show own_Go p e below _ T73 (mkF m 253 #[oI i0, oR h0.size, .unset, .unset, .unset] [(.int i0)])
    refine own_by (fun t_ k_ => XT73.ldcI hx hown (mvT hZ (hw _ (List.mem_of_getElem? (i := 76) rfl))) rfl (hb hby at_253) k_) ?_
    show own_Go p e below _ T73 (mkF m 255 #[oI i0, oR h0.size, .unset, .unset, .unset] [(.int (2147483647 : Int32)), (.int i0)])
    refine own_by (fun t_ k_ => XS.iand XT73.here hx rfl (hb hby at_255) rfl k_) ?_
    show own_Go p e below _ T73 (mkF m 256 #[oI i0, oR h0.size, .unset, .unset, .unset] [(.int (i0 &&& (2147483647 : Int32)))])
    refine own_by (fun t_ k_ => XT.bipushV XT73.here hx rfl (36 : Int32) (hb hby at_256) (by decide) k_) ?_
    show own_Go p e below _ T73 (mkF m 258 #[oI i0, oR h0.size, .unset, .unset, .unset] [(.int (36 : Int32)), (.int (i0 &&& (2147483647 : Int32)))])
    refine own_by (fun t_ k_ => iremM XT73 hx rfl (hb hby at_258) rfl (by decide) k_) ?_
    show own_Go p e below _ T73 (mkF m 259 #[oI i0, oR h0.size, .unset, .unset, .unset] [(.int ((i0 &&& (2147483647 : Int32)) % (36 : Int32)))])
    rw [hk]
    show own_Go p e below _ T73 (mkF m 259 #[oI i0, oR h0.size, .unset, .unset, .unset] [(.int (9 : Int32))])
    refine own_by (fun t_ k_ => XS.istoreN XT73.here hx rfl (hb hby at_259) rfl (l' := #[oI i0, oR h0.size, oI (9 : Int32), .unset, .unset]) rfl k_) ?_
    show own_Go p e below _ T73 (mkF m 260 #[oI i0, oR h0.size, oI (9 : Int32), .unset, .unset] [])
    refine own_by (fun t_ k_ => XS.aloadN XT73.here hx rfl (hb hby at_260) rfl rfl  k_) ?_
    show own_Go p e below _ T73 (mkF m 261 #[oI i0, oR h0.size, oI (9 : Int32), .unset, .unset] [(.ref h0.size)])
    refine own_by (fun t_ k_ => XS.iloadN XT73.here hx rfl (hb hby at_261) rfl  k_) ?_
    show own_Go p e below _ T73 (mkF m 262 #[oI i0, oR h0.size, oI (9 : Int32), .unset, .unset] [(.int (9 : Int32)), (.ref h0.size)])
    refine own_ldR XT73 hx hZ eT73 VT73 rfl 9 (by decide) (by decide) (v := (.ref w3)) rfl (hb hby at_262) ?_
    show own_Go p e below _ T73 (mkF m 263 #[oI i0, oR h0.size, oI (9 : Int32), .unset, .unset] [(.ref w3)])
    refine own_by (fun t_ k_ => XS.astoreN XT73.here hx rfl (hb hby at_263) rfl rfl (l' := #[oI i0, oR h0.size, oI (9 : Int32), oR w3, .unset]) rfl k_) ?_
    show own_Go p e below _ T73 (mkF m 264 #[oI i0, oR h0.size, oI (9 : Int32), oR w3, .unset] [])
    refine own_by (fun t_ k_ => XS.iloadN XT73.here hx rfl (hb hby at_264) rfl  k_) ?_
    show own_Go p e below _ T73 (mkF m 265 #[oI i0, oR h0.size, oI (9 : Int32), oR w3, .unset] [(.int (9 : Int32))])
    refine own_by (fun t_ k_ => XT.bipushV XT73.here hx rfl (9 : Int32) (hb hby at_265) (by decide) k_) ?_
    show own_Go p e below _ T73 (mkF m 267 #[oI i0, oR h0.size, oI (9 : Int32), oR w3, .unset] [(.int (9 : Int32)), (.int (9 : Int32))])
    refine own_by (fun t_ k_ => XS.icmpYes XT73.here hx rfl (pc0 := 267) (pc' := 274) rfl (hb hby at_267) rfl (XT.ii_ge_t (by decide)) (by decide) (by decide) k_) ?_
    show own_Go p e below _ T73 (mkF m 274 #[oI i0, oR h0.size, oI (9 : Int32), oR w3, .unset] [])
    refine own_by (fun t_ k_ => XT.iconstV XT73.here hx rfl (0 : Int32) (hb hby at_274) (by decide) k_) ?_
    show own_Go p e below _ T73 (mkF m 275 #[oI i0, oR h0.size, oI (9 : Int32), oR w3, .unset] [(.int (0 : Int32))])
    refine own_by (fun t_ k_ => XS.istore XT73.here hx rfl (hb hby at_275) rfl (l' := #[oI i0, oR h0.size, oI (9 : Int32), oR w3, oI (0 : Int32)]) rfl k_) ?_
    show own_Go p e below _ T73 (mkF m 277 #[oI i0, oR h0.size, oI (9 : Int32), oR w3, oI (0 : Int32)] [])
    refine own_by (fun t_ k_ => XS.aloadN XT73.here hx rfl (hb hby at_277) rfl rfl  k_) ?_
    show own_Go p e below _ T73 (mkF m 278 #[oI i0, oR h0.size, oI (9 : Int32), oR w3, oI (0 : Int32)] [(.ref w3)])
    refine own_callV XT73 hx hZ hown (hw _ (List.mem_of_getElem? (i := 77) rfl)) (hw _ (List.mem_of_getElem? (i := 78) rfl)) (hw _ (List.mem_of_getElem? (i := 80) rfl)) (hw _ (List.mem_of_getElem? (i := 79) rfl)) (hw _ (List.mem_of_getElem? (i := 81) rfl)) (hw _ (List.mem_of_getElem? (i := 3) rfl)) (by decide) eT73 (b := w3) (E3.keep KT73) (argsL := []) (rest := []) (own_gn_met l Z a0 hw w3 w0 w1 w2 w14 w22 w23 w24 w25 w26 hT73 ⟨own_stak S0 KT73, own_stak S1 KT73, own_stak S2 KT73, own_stak S14 KT73, own_stak S22 KT73, own_stak S23 KT73, own_stak S24 KT73, own_stak S25 KT73, own_stak S26 KT73⟩) 0 (by decide) (by decide) (by rw [hml]; rfl) (lenOf pd_0 rfl) (Nat.le_of_eq rfl) (hb hby at_278) (by decide) (by decide) (st := [(.ref w3)]) rfl ?_
    intro T83 LT83 vT83 XT83 hQT83
    obtain ⟨rfl, eT83, rfl⟩ := hQT83
    show own_Go p e below _ T83 (mkF m 281 #[oI i0, oR h0.size, oI (9 : Int32), oR w3, oI (0 : Int32)] [(.int (own_gn w3 w0 w1 w2 w14 w22 w23 w24 w25 w26))])
    rw [show own_gn w3 w0 w1 w2 w14 w22 w23 w24 w25 w26 = (0 : Int32) by rw [own_gn, if_neg (F3.ne F0 (by decide)), if_neg (F3.ne F1 (by decide)), if_neg (F3.ne F2 (by decide)), if_neg (F3.ne F14 (by decide)), if_neg (F3.ne F22 (by decide)), if_neg (F3.ne F23 (by decide)), if_neg (F3.ne F24 (by decide)), if_neg (F3.ne F25 (by decide)), if_neg (F3.ne F26 (by decide))]]
    show own_Go p e below _ T83 (mkF m 281 #[oI i0, oR h0.size, oI (9 : Int32), oR w3, oI (0 : Int32)] [(.int (0 : Int32))])
    refine own_by (fun t_ k_ => XS.iload XT83.here hx rfl (hb hby at_281) rfl  k_) ?_
    show own_Go p e below _ T83 (mkF m 283 #[oI i0, oR h0.size, oI (9 : Int32), oR w3, oI (0 : Int32)] [(.int (0 : Int32)), (.int (0 : Int32))])
    refine own_by (fun t_ k_ => XS.icmpNo XT83.here hx rfl (hb hby at_283) rfl (XT.ii_ne_f (by decide)) k_) ?_
    show own_Go p e below _ T83 (mkF m 286 #[oI i0, oR h0.size, oI (9 : Int32), oR w3, oI (0 : Int32)] [])
    refine own_by (fun t_ k_ => XT.iconstV XT83.here hx rfl (1 : Int32) (hb hby at_286) (by decide) k_) ?_
    show own_Go p e below _ T83 (mkF m 287 #[oI i0, oR h0.size, oI (9 : Int32), oR w3, oI (0 : Int32)] [(.int (1 : Int32))])
    refine own_by (fun t_ k_ => XS.goto XT83.here hx rfl (pc0 := 287) (pc' := 291) rfl (hb hby at_287) (by decide) (by decide) k_) ?_
    show own_Go p e below _ T83 (mkF m 291 #[oI i0, oR h0.size, oI (9 : Int32), oR w3, oI (0 : Int32)] [(.int (1 : Int32))])
    exact own_retN XT83 hx hlk hret (by simp) (w := (1 : Int32)) (hb hby at_291) (by decide) (by decide) (by decide) (⟨rfl, own_app0 NT73⟩)
  · refine own_by (fun t_ k_ => XS.iloadN XT73.here hx rfl (hb hby at_252) rfl  k_) ?_
    show own_Go p e below _ T73 (mkF m 253 #[oI i0, oR h0.size, .unset, .unset, .unset] [(.int i0)])
    refine own_by (fun t_ k_ => XT73.ldcI hx hown (mvT hZ (hw _ (List.mem_of_getElem? (i := 76) rfl))) rfl (hb hby at_253) k_) ?_
    show own_Go p e below _ T73 (mkF m 255 #[oI i0, oR h0.size, .unset, .unset, .unset] [(.int (2147483647 : Int32)), (.int i0)])
    refine own_by (fun t_ k_ => XS.iand XT73.here hx rfl (hb hby at_255) rfl k_) ?_
    show own_Go p e below _ T73 (mkF m 256 #[oI i0, oR h0.size, .unset, .unset, .unset] [(.int (i0 &&& (2147483647 : Int32)))])
    refine own_by (fun t_ k_ => XT.bipushV XT73.here hx rfl (36 : Int32) (hb hby at_256) (by decide) k_) ?_
    show own_Go p e below _ T73 (mkF m 258 #[oI i0, oR h0.size, .unset, .unset, .unset] [(.int (36 : Int32)), (.int (i0 &&& (2147483647 : Int32)))])
    refine own_by (fun t_ k_ => iremM XT73 hx rfl (hb hby at_258) rfl (by decide) k_) ?_
    show own_Go p e below _ T73 (mkF m 259 #[oI i0, oR h0.size, .unset, .unset, .unset] [(.int ((i0 &&& (2147483647 : Int32)) % (36 : Int32)))])
    rw [hk]
    show own_Go p e below _ T73 (mkF m 259 #[oI i0, oR h0.size, .unset, .unset, .unset] [(.int (10 : Int32))])
    refine own_by (fun t_ k_ => XS.istoreN XT73.here hx rfl (hb hby at_259) rfl (l' := #[oI i0, oR h0.size, oI (10 : Int32), .unset, .unset]) rfl k_) ?_
    show own_Go p e below _ T73 (mkF m 260 #[oI i0, oR h0.size, oI (10 : Int32), .unset, .unset] [])
    refine own_by (fun t_ k_ => XS.aloadN XT73.here hx rfl (hb hby at_260) rfl rfl  k_) ?_
    show own_Go p e below _ T73 (mkF m 261 #[oI i0, oR h0.size, oI (10 : Int32), .unset, .unset] [(.ref h0.size)])
    refine own_by (fun t_ k_ => XS.iloadN XT73.here hx rfl (hb hby at_261) rfl  k_) ?_
    show own_Go p e below _ T73 (mkF m 262 #[oI i0, oR h0.size, oI (10 : Int32), .unset, .unset] [(.int (10 : Int32)), (.ref h0.size)])
    refine own_ldR XT73 hx hZ eT73 VT73 rfl 10 (by decide) (by decide) (v := (.ref w4)) rfl (hb hby at_262) ?_
    show own_Go p e below _ T73 (mkF m 263 #[oI i0, oR h0.size, oI (10 : Int32), .unset, .unset] [(.ref w4)])
    refine own_by (fun t_ k_ => XS.astoreN XT73.here hx rfl (hb hby at_263) rfl rfl (l' := #[oI i0, oR h0.size, oI (10 : Int32), oR w4, .unset]) rfl k_) ?_
    show own_Go p e below _ T73 (mkF m 264 #[oI i0, oR h0.size, oI (10 : Int32), oR w4, .unset] [])
    refine own_by (fun t_ k_ => XS.iloadN XT73.here hx rfl (hb hby at_264) rfl  k_) ?_
    show own_Go p e below _ T73 (mkF m 265 #[oI i0, oR h0.size, oI (10 : Int32), oR w4, .unset] [(.int (10 : Int32))])
    refine own_by (fun t_ k_ => XT.bipushV XT73.here hx rfl (9 : Int32) (hb hby at_265) (by decide) k_) ?_
    show own_Go p e below _ T73 (mkF m 267 #[oI i0, oR h0.size, oI (10 : Int32), oR w4, .unset] [(.int (9 : Int32)), (.int (10 : Int32))])
    refine own_by (fun t_ k_ => XS.icmpYes XT73.here hx rfl (pc0 := 267) (pc' := 274) rfl (hb hby at_267) rfl (XT.ii_ge_t (by decide)) (by decide) (by decide) k_) ?_
    show own_Go p e below _ T73 (mkF m 274 #[oI i0, oR h0.size, oI (10 : Int32), oR w4, .unset] [])
    refine own_by (fun t_ k_ => XT.iconstV XT73.here hx rfl (0 : Int32) (hb hby at_274) (by decide) k_) ?_
    show own_Go p e below _ T73 (mkF m 275 #[oI i0, oR h0.size, oI (10 : Int32), oR w4, .unset] [(.int (0 : Int32))])
    refine own_by (fun t_ k_ => XS.istore XT73.here hx rfl (hb hby at_275) rfl (l' := #[oI i0, oR h0.size, oI (10 : Int32), oR w4, oI (0 : Int32)]) rfl k_) ?_
    show own_Go p e below _ T73 (mkF m 277 #[oI i0, oR h0.size, oI (10 : Int32), oR w4, oI (0 : Int32)] [])
    refine own_by (fun t_ k_ => XS.aloadN XT73.here hx rfl (hb hby at_277) rfl rfl  k_) ?_
    show own_Go p e below _ T73 (mkF m 278 #[oI i0, oR h0.size, oI (10 : Int32), oR w4, oI (0 : Int32)] [(.ref w4)])
    refine own_callV XT73 hx hZ hown (hw _ (List.mem_of_getElem? (i := 77) rfl)) (hw _ (List.mem_of_getElem? (i := 78) rfl)) (hw _ (List.mem_of_getElem? (i := 80) rfl)) (hw _ (List.mem_of_getElem? (i := 79) rfl)) (hw _ (List.mem_of_getElem? (i := 81) rfl)) (hw _ (List.mem_of_getElem? (i := 3) rfl)) (by decide) eT73 (b := w4) (E4.keep KT73) (argsL := []) (rest := []) (own_gn_met l Z a0 hw w4 w0 w1 w2 w14 w22 w23 w24 w25 w26 hT73 ⟨own_stak S0 KT73, own_stak S1 KT73, own_stak S2 KT73, own_stak S14 KT73, own_stak S22 KT73, own_stak S23 KT73, own_stak S24 KT73, own_stak S25 KT73, own_stak S26 KT73⟩) 0 (by decide) (by decide) (by rw [hml]; rfl) (lenOf pd_0 rfl) (Nat.le_of_eq rfl) (hb hby at_278) (by decide) (by decide) (st := [(.ref w4)]) rfl ?_
    intro T84 LT84 vT84 XT84 hQT84
    obtain ⟨rfl, eT84, rfl⟩ := hQT84
    show own_Go p e below _ T84 (mkF m 281 #[oI i0, oR h0.size, oI (10 : Int32), oR w4, oI (0 : Int32)] [(.int (own_gn w4 w0 w1 w2 w14 w22 w23 w24 w25 w26))])
    rw [show own_gn w4 w0 w1 w2 w14 w22 w23 w24 w25 w26 = (0 : Int32) by rw [own_gn, if_neg (F4.ne F0 (by decide)), if_neg (F4.ne F1 (by decide)), if_neg (F4.ne F2 (by decide)), if_neg (F4.ne F14 (by decide)), if_neg (F4.ne F22 (by decide)), if_neg (F4.ne F23 (by decide)), if_neg (F4.ne F24 (by decide)), if_neg (F4.ne F25 (by decide)), if_neg (F4.ne F26 (by decide))]]
    show own_Go p e below _ T84 (mkF m 281 #[oI i0, oR h0.size, oI (10 : Int32), oR w4, oI (0 : Int32)] [(.int (0 : Int32))])
    refine own_by (fun t_ k_ => XS.iload XT84.here hx rfl (hb hby at_281) rfl  k_) ?_
    show own_Go p e below _ T84 (mkF m 283 #[oI i0, oR h0.size, oI (10 : Int32), oR w4, oI (0 : Int32)] [(.int (0 : Int32)), (.int (0 : Int32))])
    refine own_by (fun t_ k_ => XS.icmpNo XT84.here hx rfl (hb hby at_283) rfl (XT.ii_ne_f (by decide)) k_) ?_
    show own_Go p e below _ T84 (mkF m 286 #[oI i0, oR h0.size, oI (10 : Int32), oR w4, oI (0 : Int32)] [])
    refine own_by (fun t_ k_ => XT.iconstV XT84.here hx rfl (1 : Int32) (hb hby at_286) (by decide) k_) ?_
    show own_Go p e below _ T84 (mkF m 287 #[oI i0, oR h0.size, oI (10 : Int32), oR w4, oI (0 : Int32)] [(.int (1 : Int32))])
    refine own_by (fun t_ k_ => XS.goto XT84.here hx rfl (pc0 := 287) (pc' := 291) rfl (hb hby at_287) (by decide) (by decide) k_) ?_
    show own_Go p e below _ T84 (mkF m 291 #[oI i0, oR h0.size, oI (10 : Int32), oR w4, oI (0 : Int32)] [(.int (1 : Int32))])
    exact own_retN XT84 hx hlk hret (by simp) (w := (1 : Int32)) (hb hby at_291) (by decide) (by decide) (by decide) (⟨rfl, own_app0 NT73⟩)
  · refine own_by (fun t_ k_ => XS.iloadN XT73.here hx rfl (hb hby at_252) rfl  k_) ?_
    show own_Go p e below _ T73 (mkF m 253 #[oI i0, oR h0.size, .unset, .unset, .unset] [(.int i0)])
    refine own_by (fun t_ k_ => XT73.ldcI hx hown (mvT hZ (hw _ (List.mem_of_getElem? (i := 76) rfl))) rfl (hb hby at_253) k_) ?_
    show own_Go p e below _ T73 (mkF m 255 #[oI i0, oR h0.size, .unset, .unset, .unset] [(.int (2147483647 : Int32)), (.int i0)])
    refine own_by (fun t_ k_ => XS.iand XT73.here hx rfl (hb hby at_255) rfl k_) ?_
    show own_Go p e below _ T73 (mkF m 256 #[oI i0, oR h0.size, .unset, .unset, .unset] [(.int (i0 &&& (2147483647 : Int32)))])
    refine own_by (fun t_ k_ => XT.bipushV XT73.here hx rfl (36 : Int32) (hb hby at_256) (by decide) k_) ?_
    show own_Go p e below _ T73 (mkF m 258 #[oI i0, oR h0.size, .unset, .unset, .unset] [(.int (36 : Int32)), (.int (i0 &&& (2147483647 : Int32)))])
    refine own_by (fun t_ k_ => iremM XT73 hx rfl (hb hby at_258) rfl (by decide) k_) ?_
    show own_Go p e below _ T73 (mkF m 259 #[oI i0, oR h0.size, .unset, .unset, .unset] [(.int ((i0 &&& (2147483647 : Int32)) % (36 : Int32)))])
    rw [hk]
    show own_Go p e below _ T73 (mkF m 259 #[oI i0, oR h0.size, .unset, .unset, .unset] [(.int (11 : Int32))])
    refine own_by (fun t_ k_ => XS.istoreN XT73.here hx rfl (hb hby at_259) rfl (l' := #[oI i0, oR h0.size, oI (11 : Int32), .unset, .unset]) rfl k_) ?_
    show own_Go p e below _ T73 (mkF m 260 #[oI i0, oR h0.size, oI (11 : Int32), .unset, .unset] [])
    refine own_by (fun t_ k_ => XS.aloadN XT73.here hx rfl (hb hby at_260) rfl rfl  k_) ?_
    show own_Go p e below _ T73 (mkF m 261 #[oI i0, oR h0.size, oI (11 : Int32), .unset, .unset] [(.ref h0.size)])
    refine own_by (fun t_ k_ => XS.iloadN XT73.here hx rfl (hb hby at_261) rfl  k_) ?_
    show own_Go p e below _ T73 (mkF m 262 #[oI i0, oR h0.size, oI (11 : Int32), .unset, .unset] [(.int (11 : Int32)), (.ref h0.size)])
    refine own_ldR XT73 hx hZ eT73 VT73 rfl 11 (by decide) (by decide) (v := (.ref w5)) rfl (hb hby at_262) ?_
    show own_Go p e below _ T73 (mkF m 263 #[oI i0, oR h0.size, oI (11 : Int32), .unset, .unset] [(.ref w5)])
    refine own_by (fun t_ k_ => XS.astoreN XT73.here hx rfl (hb hby at_263) rfl rfl (l' := #[oI i0, oR h0.size, oI (11 : Int32), oR w5, .unset]) rfl k_) ?_
    show own_Go p e below _ T73 (mkF m 264 #[oI i0, oR h0.size, oI (11 : Int32), oR w5, .unset] [])
    refine own_by (fun t_ k_ => XS.iloadN XT73.here hx rfl (hb hby at_264) rfl  k_) ?_
    show own_Go p e below _ T73 (mkF m 265 #[oI i0, oR h0.size, oI (11 : Int32), oR w5, .unset] [(.int (11 : Int32))])
    refine own_by (fun t_ k_ => XT.bipushV XT73.here hx rfl (9 : Int32) (hb hby at_265) (by decide) k_) ?_
    show own_Go p e below _ T73 (mkF m 267 #[oI i0, oR h0.size, oI (11 : Int32), oR w5, .unset] [(.int (9 : Int32)), (.int (11 : Int32))])
    refine own_by (fun t_ k_ => XS.icmpYes XT73.here hx rfl (pc0 := 267) (pc' := 274) rfl (hb hby at_267) rfl (XT.ii_ge_t (by decide)) (by decide) (by decide) k_) ?_
    show own_Go p e below _ T73 (mkF m 274 #[oI i0, oR h0.size, oI (11 : Int32), oR w5, .unset] [])
    refine own_by (fun t_ k_ => XT.iconstV XT73.here hx rfl (0 : Int32) (hb hby at_274) (by decide) k_) ?_
    show own_Go p e below _ T73 (mkF m 275 #[oI i0, oR h0.size, oI (11 : Int32), oR w5, .unset] [(.int (0 : Int32))])
    refine own_by (fun t_ k_ => XS.istore XT73.here hx rfl (hb hby at_275) rfl (l' := #[oI i0, oR h0.size, oI (11 : Int32), oR w5, oI (0 : Int32)]) rfl k_) ?_
    show own_Go p e below _ T73 (mkF m 277 #[oI i0, oR h0.size, oI (11 : Int32), oR w5, oI (0 : Int32)] [])
    refine own_by (fun t_ k_ => XS.aloadN XT73.here hx rfl (hb hby at_277) rfl rfl  k_) ?_
    show own_Go p e below _ T73 (mkF m 278 #[oI i0, oR h0.size, oI (11 : Int32), oR w5, oI (0 : Int32)] [(.ref w5)])
    refine own_callV XT73 hx hZ hown (hw _ (List.mem_of_getElem? (i := 77) rfl)) (hw _ (List.mem_of_getElem? (i := 78) rfl)) (hw _ (List.mem_of_getElem? (i := 80) rfl)) (hw _ (List.mem_of_getElem? (i := 79) rfl)) (hw _ (List.mem_of_getElem? (i := 81) rfl)) (hw _ (List.mem_of_getElem? (i := 3) rfl)) (by decide) eT73 (b := w5) (E5.keep KT73) (argsL := []) (rest := []) (own_gn_met l Z a0 hw w5 w0 w1 w2 w14 w22 w23 w24 w25 w26 hT73 ⟨own_stak S0 KT73, own_stak S1 KT73, own_stak S2 KT73, own_stak S14 KT73, own_stak S22 KT73, own_stak S23 KT73, own_stak S24 KT73, own_stak S25 KT73, own_stak S26 KT73⟩) 0 (by decide) (by decide) (by rw [hml]; rfl) (lenOf pd_0 rfl) (Nat.le_of_eq rfl) (hb hby at_278) (by decide) (by decide) (st := [(.ref w5)]) rfl ?_
    intro T85 LT85 vT85 XT85 hQT85
    obtain ⟨rfl, eT85, rfl⟩ := hQT85
    show own_Go p e below _ T85 (mkF m 281 #[oI i0, oR h0.size, oI (11 : Int32), oR w5, oI (0 : Int32)] [(.int (own_gn w5 w0 w1 w2 w14 w22 w23 w24 w25 w26))])
    rw [show own_gn w5 w0 w1 w2 w14 w22 w23 w24 w25 w26 = (0 : Int32) by rw [own_gn, if_neg (F5.ne F0 (by decide)), if_neg (F5.ne F1 (by decide)), if_neg (F5.ne F2 (by decide)), if_neg (F5.ne F14 (by decide)), if_neg (F5.ne F22 (by decide)), if_neg (F5.ne F23 (by decide)), if_neg (F5.ne F24 (by decide)), if_neg (F5.ne F25 (by decide)), if_neg (F5.ne F26 (by decide))]]
    show own_Go p e below _ T85 (mkF m 281 #[oI i0, oR h0.size, oI (11 : Int32), oR w5, oI (0 : Int32)] [(.int (0 : Int32))])
    refine own_by (fun t_ k_ => XS.iload XT85.here hx rfl (hb hby at_281) rfl  k_) ?_
    show own_Go p e below _ T85 (mkF m 283 #[oI i0, oR h0.size, oI (11 : Int32), oR w5, oI (0 : Int32)] [(.int (0 : Int32)), (.int (0 : Int32))])
    refine own_by (fun t_ k_ => XS.icmpNo XT85.here hx rfl (hb hby at_283) rfl (XT.ii_ne_f (by decide)) k_) ?_
    show own_Go p e below _ T85 (mkF m 286 #[oI i0, oR h0.size, oI (11 : Int32), oR w5, oI (0 : Int32)] [])
    refine own_by (fun t_ k_ => XT.iconstV XT85.here hx rfl (1 : Int32) (hb hby at_286) (by decide) k_) ?_
    show own_Go p e below _ T85 (mkF m 287 #[oI i0, oR h0.size, oI (11 : Int32), oR w5, oI (0 : Int32)] [(.int (1 : Int32))])
    refine own_by (fun t_ k_ => XS.goto XT85.here hx rfl (pc0 := 287) (pc' := 291) rfl (hb hby at_287) (by decide) (by decide) k_) ?_
    show own_Go p e below _ T85 (mkF m 291 #[oI i0, oR h0.size, oI (11 : Int32), oR w5, oI (0 : Int32)] [(.int (1 : Int32))])
    exact own_retN XT85 hx hlk hret (by simp) (w := (1 : Int32)) (hb hby at_291) (by decide) (by decide) (by decide) (⟨rfl, own_app0 NT73⟩)
  · refine own_by (fun t_ k_ => XS.iloadN XT73.here hx rfl (hb hby at_252) rfl  k_) ?_
    show own_Go p e below _ T73 (mkF m 253 #[oI i0, oR h0.size, .unset, .unset, .unset] [(.int i0)])
    refine own_by (fun t_ k_ => XT73.ldcI hx hown (mvT hZ (hw _ (List.mem_of_getElem? (i := 76) rfl))) rfl (hb hby at_253) k_) ?_
    show own_Go p e below _ T73 (mkF m 255 #[oI i0, oR h0.size, .unset, .unset, .unset] [(.int (2147483647 : Int32)), (.int i0)])
    refine own_by (fun t_ k_ => XS.iand XT73.here hx rfl (hb hby at_255) rfl k_) ?_
    show own_Go p e below _ T73 (mkF m 256 #[oI i0, oR h0.size, .unset, .unset, .unset] [(.int (i0 &&& (2147483647 : Int32)))])
    refine own_by (fun t_ k_ => XT.bipushV XT73.here hx rfl (36 : Int32) (hb hby at_256) (by decide) k_) ?_
    show own_Go p e below _ T73 (mkF m 258 #[oI i0, oR h0.size, .unset, .unset, .unset] [(.int (36 : Int32)), (.int (i0 &&& (2147483647 : Int32)))])
    refine own_by (fun t_ k_ => iremM XT73 hx rfl (hb hby at_258) rfl (by decide) k_) ?_
    show own_Go p e below _ T73 (mkF m 259 #[oI i0, oR h0.size, .unset, .unset, .unset] [(.int ((i0 &&& (2147483647 : Int32)) % (36 : Int32)))])
    rw [hk]
    show own_Go p e below _ T73 (mkF m 259 #[oI i0, oR h0.size, .unset, .unset, .unset] [(.int (12 : Int32))])
    refine own_by (fun t_ k_ => XS.istoreN XT73.here hx rfl (hb hby at_259) rfl (l' := #[oI i0, oR h0.size, oI (12 : Int32), .unset, .unset]) rfl k_) ?_
    show own_Go p e below _ T73 (mkF m 260 #[oI i0, oR h0.size, oI (12 : Int32), .unset, .unset] [])
    refine own_by (fun t_ k_ => XS.aloadN XT73.here hx rfl (hb hby at_260) rfl rfl  k_) ?_
    show own_Go p e below _ T73 (mkF m 261 #[oI i0, oR h0.size, oI (12 : Int32), .unset, .unset] [(.ref h0.size)])
    refine own_by (fun t_ k_ => XS.iloadN XT73.here hx rfl (hb hby at_261) rfl  k_) ?_
    show own_Go p e below _ T73 (mkF m 262 #[oI i0, oR h0.size, oI (12 : Int32), .unset, .unset] [(.int (12 : Int32)), (.ref h0.size)])
    refine own_ldR XT73 hx hZ eT73 VT73 rfl 12 (by decide) (by decide) (v := (.ref w6)) rfl (hb hby at_262) ?_
    show own_Go p e below _ T73 (mkF m 263 #[oI i0, oR h0.size, oI (12 : Int32), .unset, .unset] [(.ref w6)])
    refine own_by (fun t_ k_ => XS.astoreN XT73.here hx rfl (hb hby at_263) rfl rfl (l' := #[oI i0, oR h0.size, oI (12 : Int32), oR w6, .unset]) rfl k_) ?_
    show own_Go p e below _ T73 (mkF m 264 #[oI i0, oR h0.size, oI (12 : Int32), oR w6, .unset] [])
    refine own_by (fun t_ k_ => XS.iloadN XT73.here hx rfl (hb hby at_264) rfl  k_) ?_
    show own_Go p e below _ T73 (mkF m 265 #[oI i0, oR h0.size, oI (12 : Int32), oR w6, .unset] [(.int (12 : Int32))])
    refine own_by (fun t_ k_ => XT.bipushV XT73.here hx rfl (9 : Int32) (hb hby at_265) (by decide) k_) ?_
    show own_Go p e below _ T73 (mkF m 267 #[oI i0, oR h0.size, oI (12 : Int32), oR w6, .unset] [(.int (9 : Int32)), (.int (12 : Int32))])
    refine own_by (fun t_ k_ => XS.icmpYes XT73.here hx rfl (pc0 := 267) (pc' := 274) rfl (hb hby at_267) rfl (XT.ii_ge_t (by decide)) (by decide) (by decide) k_) ?_
    show own_Go p e below _ T73 (mkF m 274 #[oI i0, oR h0.size, oI (12 : Int32), oR w6, .unset] [])
    refine own_by (fun t_ k_ => XT.iconstV XT73.here hx rfl (0 : Int32) (hb hby at_274) (by decide) k_) ?_
    show own_Go p e below _ T73 (mkF m 275 #[oI i0, oR h0.size, oI (12 : Int32), oR w6, .unset] [(.int (0 : Int32))])
    refine own_by (fun t_ k_ => XS.istore XT73.here hx rfl (hb hby at_275) rfl (l' := #[oI i0, oR h0.size, oI (12 : Int32), oR w6, oI (0 : Int32)]) rfl k_) ?_
    show own_Go p e below _ T73 (mkF m 277 #[oI i0, oR h0.size, oI (12 : Int32), oR w6, oI (0 : Int32)] [])
    refine own_by (fun t_ k_ => XS.aloadN XT73.here hx rfl (hb hby at_277) rfl rfl  k_) ?_
    show own_Go p e below _ T73 (mkF m 278 #[oI i0, oR h0.size, oI (12 : Int32), oR w6, oI (0 : Int32)] [(.ref w6)])
    refine own_callV XT73 hx hZ hown (hw _ (List.mem_of_getElem? (i := 77) rfl)) (hw _ (List.mem_of_getElem? (i := 78) rfl)) (hw _ (List.mem_of_getElem? (i := 80) rfl)) (hw _ (List.mem_of_getElem? (i := 79) rfl)) (hw _ (List.mem_of_getElem? (i := 81) rfl)) (hw _ (List.mem_of_getElem? (i := 3) rfl)) (by decide) eT73 (b := w6) (E6.keep KT73) (argsL := []) (rest := []) (own_gn_met l Z a0 hw w6 w0 w1 w2 w14 w22 w23 w24 w25 w26 hT73 ⟨own_stak S0 KT73, own_stak S1 KT73, own_stak S2 KT73, own_stak S14 KT73, own_stak S22 KT73, own_stak S23 KT73, own_stak S24 KT73, own_stak S25 KT73, own_stak S26 KT73⟩) 0 (by decide) (by decide) (by rw [hml]; rfl) (lenOf pd_0 rfl) (Nat.le_of_eq rfl) (hb hby at_278) (by decide) (by decide) (st := [(.ref w6)]) rfl ?_
    intro T86 LT86 vT86 XT86 hQT86
    obtain ⟨rfl, eT86, rfl⟩ := hQT86
    show own_Go p e below _ T86 (mkF m 281 #[oI i0, oR h0.size, oI (12 : Int32), oR w6, oI (0 : Int32)] [(.int (own_gn w6 w0 w1 w2 w14 w22 w23 w24 w25 w26))])
    rw [show own_gn w6 w0 w1 w2 w14 w22 w23 w24 w25 w26 = (0 : Int32) by rw [own_gn, if_neg (F6.ne F0 (by decide)), if_neg (F6.ne F1 (by decide)), if_neg (F6.ne F2 (by decide)), if_neg (F6.ne F14 (by decide)), if_neg (F6.ne F22 (by decide)), if_neg (F6.ne F23 (by decide)), if_neg (F6.ne F24 (by decide)), if_neg (F6.ne F25 (by decide)), if_neg (F6.ne F26 (by decide))]]
    show own_Go p e below _ T86 (mkF m 281 #[oI i0, oR h0.size, oI (12 : Int32), oR w6, oI (0 : Int32)] [(.int (0 : Int32))])
    refine own_by (fun t_ k_ => XS.iload XT86.here hx rfl (hb hby at_281) rfl  k_) ?_
    show own_Go p e below _ T86 (mkF m 283 #[oI i0, oR h0.size, oI (12 : Int32), oR w6, oI (0 : Int32)] [(.int (0 : Int32)), (.int (0 : Int32))])
    refine own_by (fun t_ k_ => XS.icmpNo XT86.here hx rfl (hb hby at_283) rfl (XT.ii_ne_f (by decide)) k_) ?_
    show own_Go p e below _ T86 (mkF m 286 #[oI i0, oR h0.size, oI (12 : Int32), oR w6, oI (0 : Int32)] [])
    refine own_by (fun t_ k_ => XT.iconstV XT86.here hx rfl (1 : Int32) (hb hby at_286) (by decide) k_) ?_
    show own_Go p e below _ T86 (mkF m 287 #[oI i0, oR h0.size, oI (12 : Int32), oR w6, oI (0 : Int32)] [(.int (1 : Int32))])
    refine own_by (fun t_ k_ => XS.goto XT86.here hx rfl (pc0 := 287) (pc' := 291) rfl (hb hby at_287) (by decide) (by decide) k_) ?_
    show own_Go p e below _ T86 (mkF m 291 #[oI i0, oR h0.size, oI (12 : Int32), oR w6, oI (0 : Int32)] [(.int (1 : Int32))])
    exact own_retN XT86 hx hlk hret (by simp) (w := (1 : Int32)) (hb hby at_291) (by decide) (by decide) (by decide) (⟨rfl, own_app0 NT73⟩)
  · refine own_by (fun t_ k_ => XS.iloadN XT73.here hx rfl (hb hby at_252) rfl  k_) ?_
    show own_Go p e below _ T73 (mkF m 253 #[oI i0, oR h0.size, .unset, .unset, .unset] [(.int i0)])
    refine own_by (fun t_ k_ => XT73.ldcI hx hown (mvT hZ (hw _ (List.mem_of_getElem? (i := 76) rfl))) rfl (hb hby at_253) k_) ?_
    show own_Go p e below _ T73 (mkF m 255 #[oI i0, oR h0.size, .unset, .unset, .unset] [(.int (2147483647 : Int32)), (.int i0)])
    refine own_by (fun t_ k_ => XS.iand XT73.here hx rfl (hb hby at_255) rfl k_) ?_
    show own_Go p e below _ T73 (mkF m 256 #[oI i0, oR h0.size, .unset, .unset, .unset] [(.int (i0 &&& (2147483647 : Int32)))])
    refine own_by (fun t_ k_ => XT.bipushV XT73.here hx rfl (36 : Int32) (hb hby at_256) (by decide) k_) ?_
    show own_Go p e below _ T73 (mkF m 258 #[oI i0, oR h0.size, .unset, .unset, .unset] [(.int (36 : Int32)), (.int (i0 &&& (2147483647 : Int32)))])
    refine own_by (fun t_ k_ => iremM XT73 hx rfl (hb hby at_258) rfl (by decide) k_) ?_
    show own_Go p e below _ T73 (mkF m 259 #[oI i0, oR h0.size, .unset, .unset, .unset] [(.int ((i0 &&& (2147483647 : Int32)) % (36 : Int32)))])
    rw [hk]
    show own_Go p e below _ T73 (mkF m 259 #[oI i0, oR h0.size, .unset, .unset, .unset] [(.int (13 : Int32))])
    refine own_by (fun t_ k_ => XS.istoreN XT73.here hx rfl (hb hby at_259) rfl (l' := #[oI i0, oR h0.size, oI (13 : Int32), .unset, .unset]) rfl k_) ?_
    show own_Go p e below _ T73 (mkF m 260 #[oI i0, oR h0.size, oI (13 : Int32), .unset, .unset] [])
    refine own_by (fun t_ k_ => XS.aloadN XT73.here hx rfl (hb hby at_260) rfl rfl  k_) ?_
    show own_Go p e below _ T73 (mkF m 261 #[oI i0, oR h0.size, oI (13 : Int32), .unset, .unset] [(.ref h0.size)])
    refine own_by (fun t_ k_ => XS.iloadN XT73.here hx rfl (hb hby at_261) rfl  k_) ?_
    show own_Go p e below _ T73 (mkF m 262 #[oI i0, oR h0.size, oI (13 : Int32), .unset, .unset] [(.int (13 : Int32)), (.ref h0.size)])
    refine own_ldR XT73 hx hZ eT73 VT73 rfl 13 (by decide) (by decide) (v := (.ref w7)) rfl (hb hby at_262) ?_
    show own_Go p e below _ T73 (mkF m 263 #[oI i0, oR h0.size, oI (13 : Int32), .unset, .unset] [(.ref w7)])
    refine own_by (fun t_ k_ => XS.astoreN XT73.here hx rfl (hb hby at_263) rfl rfl (l' := #[oI i0, oR h0.size, oI (13 : Int32), oR w7, .unset]) rfl k_) ?_
    show own_Go p e below _ T73 (mkF m 264 #[oI i0, oR h0.size, oI (13 : Int32), oR w7, .unset] [])
    refine own_by (fun t_ k_ => XS.iloadN XT73.here hx rfl (hb hby at_264) rfl  k_) ?_
    show own_Go p e below _ T73 (mkF m 265 #[oI i0, oR h0.size, oI (13 : Int32), oR w7, .unset] [(.int (13 : Int32))])
    refine own_by (fun t_ k_ => XT.bipushV XT73.here hx rfl (9 : Int32) (hb hby at_265) (by decide) k_) ?_
    show own_Go p e below _ T73 (mkF m 267 #[oI i0, oR h0.size, oI (13 : Int32), oR w7, .unset] [(.int (9 : Int32)), (.int (13 : Int32))])
    refine own_by (fun t_ k_ => XS.icmpYes XT73.here hx rfl (pc0 := 267) (pc' := 274) rfl (hb hby at_267) rfl (XT.ii_ge_t (by decide)) (by decide) (by decide) k_) ?_
    show own_Go p e below _ T73 (mkF m 274 #[oI i0, oR h0.size, oI (13 : Int32), oR w7, .unset] [])
    refine own_by (fun t_ k_ => XT.iconstV XT73.here hx rfl (0 : Int32) (hb hby at_274) (by decide) k_) ?_
    show own_Go p e below _ T73 (mkF m 275 #[oI i0, oR h0.size, oI (13 : Int32), oR w7, .unset] [(.int (0 : Int32))])
    refine own_by (fun t_ k_ => XS.istore XT73.here hx rfl (hb hby at_275) rfl (l' := #[oI i0, oR h0.size, oI (13 : Int32), oR w7, oI (0 : Int32)]) rfl k_) ?_
    show own_Go p e below _ T73 (mkF m 277 #[oI i0, oR h0.size, oI (13 : Int32), oR w7, oI (0 : Int32)] [])
    refine own_by (fun t_ k_ => XS.aloadN XT73.here hx rfl (hb hby at_277) rfl rfl  k_) ?_
    show own_Go p e below _ T73 (mkF m 278 #[oI i0, oR h0.size, oI (13 : Int32), oR w7, oI (0 : Int32)] [(.ref w7)])
    refine own_callV XT73 hx hZ hown (hw _ (List.mem_of_getElem? (i := 77) rfl)) (hw _ (List.mem_of_getElem? (i := 78) rfl)) (hw _ (List.mem_of_getElem? (i := 80) rfl)) (hw _ (List.mem_of_getElem? (i := 79) rfl)) (hw _ (List.mem_of_getElem? (i := 81) rfl)) (hw _ (List.mem_of_getElem? (i := 3) rfl)) (by decide) eT73 (b := w7) (E7.keep KT73) (argsL := []) (rest := []) (own_gn_met l Z a0 hw w7 w0 w1 w2 w14 w22 w23 w24 w25 w26 hT73 ⟨own_stak S0 KT73, own_stak S1 KT73, own_stak S2 KT73, own_stak S14 KT73, own_stak S22 KT73, own_stak S23 KT73, own_stak S24 KT73, own_stak S25 KT73, own_stak S26 KT73⟩) 0 (by decide) (by decide) (by rw [hml]; rfl) (lenOf pd_0 rfl) (Nat.le_of_eq rfl) (hb hby at_278) (by decide) (by decide) (st := [(.ref w7)]) rfl ?_
    intro T87 LT87 vT87 XT87 hQT87
    obtain ⟨rfl, eT87, rfl⟩ := hQT87
    show own_Go p e below _ T87 (mkF m 281 #[oI i0, oR h0.size, oI (13 : Int32), oR w7, oI (0 : Int32)] [(.int (own_gn w7 w0 w1 w2 w14 w22 w23 w24 w25 w26))])
    rw [show own_gn w7 w0 w1 w2 w14 w22 w23 w24 w25 w26 = (0 : Int32) by rw [own_gn, if_neg (F7.ne F0 (by decide)), if_neg (F7.ne F1 (by decide)), if_neg (F7.ne F2 (by decide)), if_neg (F7.ne F14 (by decide)), if_neg (F7.ne F22 (by decide)), if_neg (F7.ne F23 (by decide)), if_neg (F7.ne F24 (by decide)), if_neg (F7.ne F25 (by decide)), if_neg (F7.ne F26 (by decide))]]
    show own_Go p e below _ T87 (mkF m 281 #[oI i0, oR h0.size, oI (13 : Int32), oR w7, oI (0 : Int32)] [(.int (0 : Int32))])
    refine own_by (fun t_ k_ => XS.iload XT87.here hx rfl (hb hby at_281) rfl  k_) ?_
    show own_Go p e below _ T87 (mkF m 283 #[oI i0, oR h0.size, oI (13 : Int32), oR w7, oI (0 : Int32)] [(.int (0 : Int32)), (.int (0 : Int32))])
    refine own_by (fun t_ k_ => XS.icmpNo XT87.here hx rfl (hb hby at_283) rfl (XT.ii_ne_f (by decide)) k_) ?_
    show own_Go p e below _ T87 (mkF m 286 #[oI i0, oR h0.size, oI (13 : Int32), oR w7, oI (0 : Int32)] [])
    refine own_by (fun t_ k_ => XT.iconstV XT87.here hx rfl (1 : Int32) (hb hby at_286) (by decide) k_) ?_
    show own_Go p e below _ T87 (mkF m 287 #[oI i0, oR h0.size, oI (13 : Int32), oR w7, oI (0 : Int32)] [(.int (1 : Int32))])
    refine own_by (fun t_ k_ => XS.goto XT87.here hx rfl (pc0 := 287) (pc' := 291) rfl (hb hby at_287) (by decide) (by decide) k_) ?_
    show own_Go p e below _ T87 (mkF m 291 #[oI i0, oR h0.size, oI (13 : Int32), oR w7, oI (0 : Int32)] [(.int (1 : Int32))])
    exact own_retN XT87 hx hlk hret (by simp) (w := (1 : Int32)) (hb hby at_291) (by decide) (by decide) (by decide) (⟨rfl, own_app0 NT73⟩)
  · refine own_by (fun t_ k_ => XS.iloadN XT73.here hx rfl (hb hby at_252) rfl  k_) ?_
    show own_Go p e below _ T73 (mkF m 253 #[oI i0, oR h0.size, .unset, .unset, .unset] [(.int i0)])
    refine own_by (fun t_ k_ => XT73.ldcI hx hown (mvT hZ (hw _ (List.mem_of_getElem? (i := 76) rfl))) rfl (hb hby at_253) k_) ?_
    show own_Go p e below _ T73 (mkF m 255 #[oI i0, oR h0.size, .unset, .unset, .unset] [(.int (2147483647 : Int32)), (.int i0)])
    refine own_by (fun t_ k_ => XS.iand XT73.here hx rfl (hb hby at_255) rfl k_) ?_
    show own_Go p e below _ T73 (mkF m 256 #[oI i0, oR h0.size, .unset, .unset, .unset] [(.int (i0 &&& (2147483647 : Int32)))])
    refine own_by (fun t_ k_ => XT.bipushV XT73.here hx rfl (36 : Int32) (hb hby at_256) (by decide) k_) ?_
    show own_Go p e below _ T73 (mkF m 258 #[oI i0, oR h0.size, .unset, .unset, .unset] [(.int (36 : Int32)), (.int (i0 &&& (2147483647 : Int32)))])
    refine own_by (fun t_ k_ => iremM XT73 hx rfl (hb hby at_258) rfl (by decide) k_) ?_
    show own_Go p e below _ T73 (mkF m 259 #[oI i0, oR h0.size, .unset, .unset, .unset] [(.int ((i0 &&& (2147483647 : Int32)) % (36 : Int32)))])
    rw [hk]
    show own_Go p e below _ T73 (mkF m 259 #[oI i0, oR h0.size, .unset, .unset, .unset] [(.int (14 : Int32))])
    refine own_by (fun t_ k_ => XS.istoreN XT73.here hx rfl (hb hby at_259) rfl (l' := #[oI i0, oR h0.size, oI (14 : Int32), .unset, .unset]) rfl k_) ?_
    show own_Go p e below _ T73 (mkF m 260 #[oI i0, oR h0.size, oI (14 : Int32), .unset, .unset] [])
    refine own_by (fun t_ k_ => XS.aloadN XT73.here hx rfl (hb hby at_260) rfl rfl  k_) ?_
    show own_Go p e below _ T73 (mkF m 261 #[oI i0, oR h0.size, oI (14 : Int32), .unset, .unset] [(.ref h0.size)])
    refine own_by (fun t_ k_ => XS.iloadN XT73.here hx rfl (hb hby at_261) rfl  k_) ?_
    show own_Go p e below _ T73 (mkF m 262 #[oI i0, oR h0.size, oI (14 : Int32), .unset, .unset] [(.int (14 : Int32)), (.ref h0.size)])
    refine own_ldR XT73 hx hZ eT73 VT73 rfl 14 (by decide) (by decide) (v := (.ref w8)) rfl (hb hby at_262) ?_
    show own_Go p e below _ T73 (mkF m 263 #[oI i0, oR h0.size, oI (14 : Int32), .unset, .unset] [(.ref w8)])
    refine own_by (fun t_ k_ => XS.astoreN XT73.here hx rfl (hb hby at_263) rfl rfl (l' := #[oI i0, oR h0.size, oI (14 : Int32), oR w8, .unset]) rfl k_) ?_
    show own_Go p e below _ T73 (mkF m 264 #[oI i0, oR h0.size, oI (14 : Int32), oR w8, .unset] [])
    refine own_by (fun t_ k_ => XS.iloadN XT73.here hx rfl (hb hby at_264) rfl  k_) ?_
    show own_Go p e below _ T73 (mkF m 265 #[oI i0, oR h0.size, oI (14 : Int32), oR w8, .unset] [(.int (14 : Int32))])
    refine own_by (fun t_ k_ => XT.bipushV XT73.here hx rfl (9 : Int32) (hb hby at_265) (by decide) k_) ?_
    show own_Go p e below _ T73 (mkF m 267 #[oI i0, oR h0.size, oI (14 : Int32), oR w8, .unset] [(.int (9 : Int32)), (.int (14 : Int32))])
    refine own_by (fun t_ k_ => XS.icmpYes XT73.here hx rfl (pc0 := 267) (pc' := 274) rfl (hb hby at_267) rfl (XT.ii_ge_t (by decide)) (by decide) (by decide) k_) ?_
    show own_Go p e below _ T73 (mkF m 274 #[oI i0, oR h0.size, oI (14 : Int32), oR w8, .unset] [])
    refine own_by (fun t_ k_ => XT.iconstV XT73.here hx rfl (0 : Int32) (hb hby at_274) (by decide) k_) ?_
    show own_Go p e below _ T73 (mkF m 275 #[oI i0, oR h0.size, oI (14 : Int32), oR w8, .unset] [(.int (0 : Int32))])
    refine own_by (fun t_ k_ => XS.istore XT73.here hx rfl (hb hby at_275) rfl (l' := #[oI i0, oR h0.size, oI (14 : Int32), oR w8, oI (0 : Int32)]) rfl k_) ?_
    show own_Go p e below _ T73 (mkF m 277 #[oI i0, oR h0.size, oI (14 : Int32), oR w8, oI (0 : Int32)] [])
    refine own_by (fun t_ k_ => XS.aloadN XT73.here hx rfl (hb hby at_277) rfl rfl  k_) ?_
    show own_Go p e below _ T73 (mkF m 278 #[oI i0, oR h0.size, oI (14 : Int32), oR w8, oI (0 : Int32)] [(.ref w8)])
    refine own_callV XT73 hx hZ hown (hw _ (List.mem_of_getElem? (i := 77) rfl)) (hw _ (List.mem_of_getElem? (i := 78) rfl)) (hw _ (List.mem_of_getElem? (i := 80) rfl)) (hw _ (List.mem_of_getElem? (i := 79) rfl)) (hw _ (List.mem_of_getElem? (i := 81) rfl)) (hw _ (List.mem_of_getElem? (i := 3) rfl)) (by decide) eT73 (b := w8) (E8.keep KT73) (argsL := []) (rest := []) (own_gn_met l Z a0 hw w8 w0 w1 w2 w14 w22 w23 w24 w25 w26 hT73 ⟨own_stak S0 KT73, own_stak S1 KT73, own_stak S2 KT73, own_stak S14 KT73, own_stak S22 KT73, own_stak S23 KT73, own_stak S24 KT73, own_stak S25 KT73, own_stak S26 KT73⟩) 0 (by decide) (by decide) (by rw [hml]; rfl) (lenOf pd_0 rfl) (Nat.le_of_eq rfl) (hb hby at_278) (by decide) (by decide) (st := [(.ref w8)]) rfl ?_
    intro T88 LT88 vT88 XT88 hQT88
    obtain ⟨rfl, eT88, rfl⟩ := hQT88
    show own_Go p e below _ T88 (mkF m 281 #[oI i0, oR h0.size, oI (14 : Int32), oR w8, oI (0 : Int32)] [(.int (own_gn w8 w0 w1 w2 w14 w22 w23 w24 w25 w26))])
    rw [show own_gn w8 w0 w1 w2 w14 w22 w23 w24 w25 w26 = (0 : Int32) by rw [own_gn, if_neg (F8.ne F0 (by decide)), if_neg (F8.ne F1 (by decide)), if_neg (F8.ne F2 (by decide)), if_neg (F8.ne F14 (by decide)), if_neg (F8.ne F22 (by decide)), if_neg (F8.ne F23 (by decide)), if_neg (F8.ne F24 (by decide)), if_neg (F8.ne F25 (by decide)), if_neg (F8.ne F26 (by decide))]]
    show own_Go p e below _ T88 (mkF m 281 #[oI i0, oR h0.size, oI (14 : Int32), oR w8, oI (0 : Int32)] [(.int (0 : Int32))])
    refine own_by (fun t_ k_ => XS.iload XT88.here hx rfl (hb hby at_281) rfl  k_) ?_
    show own_Go p e below _ T88 (mkF m 283 #[oI i0, oR h0.size, oI (14 : Int32), oR w8, oI (0 : Int32)] [(.int (0 : Int32)), (.int (0 : Int32))])
    refine own_by (fun t_ k_ => XS.icmpNo XT88.here hx rfl (hb hby at_283) rfl (XT.ii_ne_f (by decide)) k_) ?_
    show own_Go p e below _ T88 (mkF m 286 #[oI i0, oR h0.size, oI (14 : Int32), oR w8, oI (0 : Int32)] [])
    refine own_by (fun t_ k_ => XT.iconstV XT88.here hx rfl (1 : Int32) (hb hby at_286) (by decide) k_) ?_
    show own_Go p e below _ T88 (mkF m 287 #[oI i0, oR h0.size, oI (14 : Int32), oR w8, oI (0 : Int32)] [(.int (1 : Int32))])
    refine own_by (fun t_ k_ => XS.goto XT88.here hx rfl (pc0 := 287) (pc' := 291) rfl (hb hby at_287) (by decide) (by decide) k_) ?_
    show own_Go p e below _ T88 (mkF m 291 #[oI i0, oR h0.size, oI (14 : Int32), oR w8, oI (0 : Int32)] [(.int (1 : Int32))])
    exact own_retN XT88 hx hlk hret (by simp) (w := (1 : Int32)) (hb hby at_291) (by decide) (by decide) (by decide) (⟨rfl, own_app0 NT73⟩)
  · refine own_by (fun t_ k_ => XS.iloadN XT73.here hx rfl (hb hby at_252) rfl  k_) ?_
    show own_Go p e below _ T73 (mkF m 253 #[oI i0, oR h0.size, .unset, .unset, .unset] [(.int i0)])
    refine own_by (fun t_ k_ => XT73.ldcI hx hown (mvT hZ (hw _ (List.mem_of_getElem? (i := 76) rfl))) rfl (hb hby at_253) k_) ?_
    show own_Go p e below _ T73 (mkF m 255 #[oI i0, oR h0.size, .unset, .unset, .unset] [(.int (2147483647 : Int32)), (.int i0)])
    refine own_by (fun t_ k_ => XS.iand XT73.here hx rfl (hb hby at_255) rfl k_) ?_
    show own_Go p e below _ T73 (mkF m 256 #[oI i0, oR h0.size, .unset, .unset, .unset] [(.int (i0 &&& (2147483647 : Int32)))])
    refine own_by (fun t_ k_ => XT.bipushV XT73.here hx rfl (36 : Int32) (hb hby at_256) (by decide) k_) ?_
    show own_Go p e below _ T73 (mkF m 258 #[oI i0, oR h0.size, .unset, .unset, .unset] [(.int (36 : Int32)), (.int (i0 &&& (2147483647 : Int32)))])
    refine own_by (fun t_ k_ => iremM XT73 hx rfl (hb hby at_258) rfl (by decide) k_) ?_
    show own_Go p e below _ T73 (mkF m 259 #[oI i0, oR h0.size, .unset, .unset, .unset] [(.int ((i0 &&& (2147483647 : Int32)) % (36 : Int32)))])
    rw [hk]
    show own_Go p e below _ T73 (mkF m 259 #[oI i0, oR h0.size, .unset, .unset, .unset] [(.int (15 : Int32))])
    refine own_by (fun t_ k_ => XS.istoreN XT73.here hx rfl (hb hby at_259) rfl (l' := #[oI i0, oR h0.size, oI (15 : Int32), .unset, .unset]) rfl k_) ?_
    show own_Go p e below _ T73 (mkF m 260 #[oI i0, oR h0.size, oI (15 : Int32), .unset, .unset] [])
    refine own_by (fun t_ k_ => XS.aloadN XT73.here hx rfl (hb hby at_260) rfl rfl  k_) ?_
    show own_Go p e below _ T73 (mkF m 261 #[oI i0, oR h0.size, oI (15 : Int32), .unset, .unset] [(.ref h0.size)])
    refine own_by (fun t_ k_ => XS.iloadN XT73.here hx rfl (hb hby at_261) rfl  k_) ?_
    show own_Go p e below _ T73 (mkF m 262 #[oI i0, oR h0.size, oI (15 : Int32), .unset, .unset] [(.int (15 : Int32)), (.ref h0.size)])
    refine own_ldR XT73 hx hZ eT73 VT73 rfl 15 (by decide) (by decide) (v := (.ref w9)) rfl (hb hby at_262) ?_
    show own_Go p e below _ T73 (mkF m 263 #[oI i0, oR h0.size, oI (15 : Int32), .unset, .unset] [(.ref w9)])
    refine own_by (fun t_ k_ => XS.astoreN XT73.here hx rfl (hb hby at_263) rfl rfl (l' := #[oI i0, oR h0.size, oI (15 : Int32), oR w9, .unset]) rfl k_) ?_
    show own_Go p e below _ T73 (mkF m 264 #[oI i0, oR h0.size, oI (15 : Int32), oR w9, .unset] [])
    refine own_by (fun t_ k_ => XS.iloadN XT73.here hx rfl (hb hby at_264) rfl  k_) ?_
    show own_Go p e below _ T73 (mkF m 265 #[oI i0, oR h0.size, oI (15 : Int32), oR w9, .unset] [(.int (15 : Int32))])
    refine own_by (fun t_ k_ => XT.bipushV XT73.here hx rfl (9 : Int32) (hb hby at_265) (by decide) k_) ?_
    show own_Go p e below _ T73 (mkF m 267 #[oI i0, oR h0.size, oI (15 : Int32), oR w9, .unset] [(.int (9 : Int32)), (.int (15 : Int32))])
    refine own_by (fun t_ k_ => XS.icmpYes XT73.here hx rfl (pc0 := 267) (pc' := 274) rfl (hb hby at_267) rfl (XT.ii_ge_t (by decide)) (by decide) (by decide) k_) ?_
    show own_Go p e below _ T73 (mkF m 274 #[oI i0, oR h0.size, oI (15 : Int32), oR w9, .unset] [])
    refine own_by (fun t_ k_ => XT.iconstV XT73.here hx rfl (0 : Int32) (hb hby at_274) (by decide) k_) ?_
    show own_Go p e below _ T73 (mkF m 275 #[oI i0, oR h0.size, oI (15 : Int32), oR w9, .unset] [(.int (0 : Int32))])
    refine own_by (fun t_ k_ => XS.istore XT73.here hx rfl (hb hby at_275) rfl (l' := #[oI i0, oR h0.size, oI (15 : Int32), oR w9, oI (0 : Int32)]) rfl k_) ?_
    show own_Go p e below _ T73 (mkF m 277 #[oI i0, oR h0.size, oI (15 : Int32), oR w9, oI (0 : Int32)] [])
    refine own_by (fun t_ k_ => XS.aloadN XT73.here hx rfl (hb hby at_277) rfl rfl  k_) ?_
    show own_Go p e below _ T73 (mkF m 278 #[oI i0, oR h0.size, oI (15 : Int32), oR w9, oI (0 : Int32)] [(.ref w9)])
    refine own_callV XT73 hx hZ hown (hw _ (List.mem_of_getElem? (i := 77) rfl)) (hw _ (List.mem_of_getElem? (i := 78) rfl)) (hw _ (List.mem_of_getElem? (i := 80) rfl)) (hw _ (List.mem_of_getElem? (i := 79) rfl)) (hw _ (List.mem_of_getElem? (i := 81) rfl)) (hw _ (List.mem_of_getElem? (i := 3) rfl)) (by decide) eT73 (b := w9) (E9.keep KT73) (argsL := []) (rest := []) (own_gn_met l Z a0 hw w9 w0 w1 w2 w14 w22 w23 w24 w25 w26 hT73 ⟨own_stak S0 KT73, own_stak S1 KT73, own_stak S2 KT73, own_stak S14 KT73, own_stak S22 KT73, own_stak S23 KT73, own_stak S24 KT73, own_stak S25 KT73, own_stak S26 KT73⟩) 0 (by decide) (by decide) (by rw [hml]; rfl) (lenOf pd_0 rfl) (Nat.le_of_eq rfl) (hb hby at_278) (by decide) (by decide) (st := [(.ref w9)]) rfl ?_
    intro T89 LT89 vT89 XT89 hQT89
    obtain ⟨rfl, eT89, rfl⟩ := hQT89
    show own_Go p e below _ T89 (mkF m 281 #[oI i0, oR h0.size, oI (15 : Int32), oR w9, oI (0 : Int32)] [(.int (own_gn w9 w0 w1 w2 w14 w22 w23 w24 w25 w26))])
    rw [show own_gn w9 w0 w1 w2 w14 w22 w23 w24 w25 w26 = (0 : Int32) by rw [own_gn, if_neg (F9.ne F0 (by decide)), if_neg (F9.ne F1 (by decide)), if_neg (F9.ne F2 (by decide)), if_neg (F9.ne F14 (by decide)), if_neg (F9.ne F22 (by decide)), if_neg (F9.ne F23 (by decide)), if_neg (F9.ne F24 (by decide)), if_neg (F9.ne F25 (by decide)), if_neg (F9.ne F26 (by decide))]]
    show own_Go p e below _ T89 (mkF m 281 #[oI i0, oR h0.size, oI (15 : Int32), oR w9, oI (0 : Int32)] [(.int (0 : Int32))])
    refine own_by (fun t_ k_ => XS.iload XT89.here hx rfl (hb hby at_281) rfl  k_) ?_
    show own_Go p e below _ T89 (mkF m 283 #[oI i0, oR h0.size, oI (15 : Int32), oR w9, oI (0 : Int32)] [(.int (0 : Int32)), (.int (0 : Int32))])
    refine own_by (fun t_ k_ => XS.icmpNo XT89.here hx rfl (hb hby at_283) rfl (XT.ii_ne_f (by decide)) k_) ?_
    show own_Go p e below _ T89 (mkF m 286 #[oI i0, oR h0.size, oI (15 : Int32), oR w9, oI (0 : Int32)] [])
    refine own_by (fun t_ k_ => XT.iconstV XT89.here hx rfl (1 : Int32) (hb hby at_286) (by decide) k_) ?_
    show own_Go p e below _ T89 (mkF m 287 #[oI i0, oR h0.size, oI (15 : Int32), oR w9, oI (0 : Int32)] [(.int (1 : Int32))])
    refine own_by (fun t_ k_ => XS.goto XT89.here hx rfl (pc0 := 287) (pc' := 291) rfl (hb hby at_287) (by decide) (by decide) k_) ?_
    show own_Go p e below _ T89 (mkF m 291 #[oI i0, oR h0.size, oI (15 : Int32), oR w9, oI (0 : Int32)] [(.int (1 : Int32))])
    exact own_retN XT89 hx hlk hret (by simp) (w := (1 : Int32)) (hb hby at_291) (by decide) (by decide) (by decide) (⟨rfl, own_app0 NT73⟩)
  · refine own_by (fun t_ k_ => XS.iloadN XT73.here hx rfl (hb hby at_252) rfl  k_) ?_
    show own_Go p e below _ T73 (mkF m 253 #[oI i0, oR h0.size, .unset, .unset, .unset] [(.int i0)])
    refine own_by (fun t_ k_ => XT73.ldcI hx hown (mvT hZ (hw _ (List.mem_of_getElem? (i := 76) rfl))) rfl (hb hby at_253) k_) ?_
    show own_Go p e below _ T73 (mkF m 255 #[oI i0, oR h0.size, .unset, .unset, .unset] [(.int (2147483647 : Int32)), (.int i0)])
    refine own_by (fun t_ k_ => XS.iand XT73.here hx rfl (hb hby at_255) rfl k_) ?_
    show own_Go p e below _ T73 (mkF m 256 #[oI i0, oR h0.size, .unset, .unset, .unset] [(.int (i0 &&& (2147483647 : Int32)))])
    refine own_by (fun t_ k_ => XT.bipushV XT73.here hx rfl (36 : Int32) (hb hby at_256) (by decide) k_) ?_
    show own_Go p e below _ T73 (mkF m 258 #[oI i0, oR h0.size, .unset, .unset, .unset] [(.int (36 : Int32)), (.int (i0 &&& (2147483647 : Int32)))])
    refine own_by (fun t_ k_ => iremM XT73 hx rfl (hb hby at_258) rfl (by decide) k_) ?_
    show own_Go p e below _ T73 (mkF m 259 #[oI i0, oR h0.size, .unset, .unset, .unset] [(.int ((i0 &&& (2147483647 : Int32)) % (36 : Int32)))])
    rw [hk]
    show own_Go p e below _ T73 (mkF m 259 #[oI i0, oR h0.size, .unset, .unset, .unset] [(.int (16 : Int32))])
    refine own_by (fun t_ k_ => XS.istoreN XT73.here hx rfl (hb hby at_259) rfl (l' := #[oI i0, oR h0.size, oI (16 : Int32), .unset, .unset]) rfl k_) ?_
    show own_Go p e below _ T73 (mkF m 260 #[oI i0, oR h0.size, oI (16 : Int32), .unset, .unset] [])
    refine own_by (fun t_ k_ => XS.aloadN XT73.here hx rfl (hb hby at_260) rfl rfl  k_) ?_
    show own_Go p e below _ T73 (mkF m 261 #[oI i0, oR h0.size, oI (16 : Int32), .unset, .unset] [(.ref h0.size)])
    refine own_by (fun t_ k_ => XS.iloadN XT73.here hx rfl (hb hby at_261) rfl  k_) ?_
    show own_Go p e below _ T73 (mkF m 262 #[oI i0, oR h0.size, oI (16 : Int32), .unset, .unset] [(.int (16 : Int32)), (.ref h0.size)])
    refine own_ldR XT73 hx hZ eT73 VT73 rfl 16 (by decide) (by decide) (v := (.ref w10)) rfl (hb hby at_262) ?_
    show own_Go p e below _ T73 (mkF m 263 #[oI i0, oR h0.size, oI (16 : Int32), .unset, .unset] [(.ref w10)])
    refine own_by (fun t_ k_ => XS.astoreN XT73.here hx rfl (hb hby at_263) rfl rfl (l' := #[oI i0, oR h0.size, oI (16 : Int32), oR w10, .unset]) rfl k_) ?_
    show own_Go p e below _ T73 (mkF m 264 #[oI i0, oR h0.size, oI (16 : Int32), oR w10, .unset] [])
    refine own_by (fun t_ k_ => XS.iloadN XT73.here hx rfl (hb hby at_264) rfl  k_) ?_
    show own_Go p e below _ T73 (mkF m 265 #[oI i0, oR h0.size, oI (16 : Int32), oR w10, .unset] [(.int (16 : Int32))])
    refine own_by (fun t_ k_ => XT.bipushV XT73.here hx rfl (9 : Int32) (hb hby at_265) (by decide) k_) ?_
    show own_Go p e below _ T73 (mkF m 267 #[oI i0, oR h0.size, oI (16 : Int32), oR w10, .unset] [(.int (9 : Int32)), (.int (16 : Int32))])
    refine own_by (fun t_ k_ => XS.icmpYes XT73.here hx rfl (pc0 := 267) (pc' := 274) rfl (hb hby at_267) rfl (XT.ii_ge_t (by decide)) (by decide) (by decide) k_) ?_
    show own_Go p e below _ T73 (mkF m 274 #[oI i0, oR h0.size, oI (16 : Int32), oR w10, .unset] [])
    refine own_by (fun t_ k_ => XT.iconstV XT73.here hx rfl (0 : Int32) (hb hby at_274) (by decide) k_) ?_
    show own_Go p e below _ T73 (mkF m 275 #[oI i0, oR h0.size, oI (16 : Int32), oR w10, .unset] [(.int (0 : Int32))])
    refine own_by (fun t_ k_ => XS.istore XT73.here hx rfl (hb hby at_275) rfl (l' := #[oI i0, oR h0.size, oI (16 : Int32), oR w10, oI (0 : Int32)]) rfl k_) ?_
    show own_Go p e below _ T73 (mkF m 277 #[oI i0, oR h0.size, oI (16 : Int32), oR w10, oI (0 : Int32)] [])
    refine own_by (fun t_ k_ => XS.aloadN XT73.here hx rfl (hb hby at_277) rfl rfl  k_) ?_
    show own_Go p e below _ T73 (mkF m 278 #[oI i0, oR h0.size, oI (16 : Int32), oR w10, oI (0 : Int32)] [(.ref w10)])
    refine own_callV XT73 hx hZ hown (hw _ (List.mem_of_getElem? (i := 77) rfl)) (hw _ (List.mem_of_getElem? (i := 78) rfl)) (hw _ (List.mem_of_getElem? (i := 80) rfl)) (hw _ (List.mem_of_getElem? (i := 79) rfl)) (hw _ (List.mem_of_getElem? (i := 81) rfl)) (hw _ (List.mem_of_getElem? (i := 3) rfl)) (by decide) eT73 (b := w10) (E10.keep KT73) (argsL := []) (rest := []) (own_gn_met l Z a0 hw w10 w0 w1 w2 w14 w22 w23 w24 w25 w26 hT73 ⟨own_stak S0 KT73, own_stak S1 KT73, own_stak S2 KT73, own_stak S14 KT73, own_stak S22 KT73, own_stak S23 KT73, own_stak S24 KT73, own_stak S25 KT73, own_stak S26 KT73⟩) 0 (by decide) (by decide) (by rw [hml]; rfl) (lenOf pd_0 rfl) (Nat.le_of_eq rfl) (hb hby at_278) (by decide) (by decide) (st := [(.ref w10)]) rfl ?_
    intro T90 LT90 vT90 XT90 hQT90
    obtain ⟨rfl, eT90, rfl⟩ := hQT90
    show own_Go p e below _ T90 (mkF m 281 #[oI i0, oR h0.size, oI (16 : Int32), oR w10, oI (0 : Int32)] [(.int (own_gn w10 w0 w1 w2 w14 w22 w23 w24 w25 w26))])
    rw [show own_gn w10 w0 w1 w2 w14 w22 w23 w24 w25 w26 = (0 : Int32) by rw [own_gn, if_neg (F10.ne F0 (by decide)), if_neg (F10.ne F1 (by decide)), if_neg (F10.ne F2 (by decide)), if_neg (F10.ne F14 (by decide)), if_neg (F10.ne F22 (by decide)), if_neg (F10.ne F23 (by decide)), if_neg (F10.ne F24 (by decide)), if_neg (F10.ne F25 (by decide)), if_neg (F10.ne F26 (by decide))]]
    show own_Go p e below _ T90 (mkF m 281 #[oI i0, oR h0.size, oI (16 : Int32), oR w10, oI (0 : Int32)] [(.int (0 : Int32))])
    refine own_by (fun t_ k_ => XS.iload XT90.here hx rfl (hb hby at_281) rfl  k_) ?_
    show own_Go p e below _ T90 (mkF m 283 #[oI i0, oR h0.size, oI (16 : Int32), oR w10, oI (0 : Int32)] [(.int (0 : Int32)), (.int (0 : Int32))])
    refine own_by (fun t_ k_ => XS.icmpNo XT90.here hx rfl (hb hby at_283) rfl (XT.ii_ne_f (by decide)) k_) ?_
    show own_Go p e below _ T90 (mkF m 286 #[oI i0, oR h0.size, oI (16 : Int32), oR w10, oI (0 : Int32)] [])
    refine own_by (fun t_ k_ => XT.iconstV XT90.here hx rfl (1 : Int32) (hb hby at_286) (by decide) k_) ?_
    show own_Go p e below _ T90 (mkF m 287 #[oI i0, oR h0.size, oI (16 : Int32), oR w10, oI (0 : Int32)] [(.int (1 : Int32))])
    refine own_by (fun t_ k_ => XS.goto XT90.here hx rfl (pc0 := 287) (pc' := 291) rfl (hb hby at_287) (by decide) (by decide) k_) ?_
    show own_Go p e below _ T90 (mkF m 291 #[oI i0, oR h0.size, oI (16 : Int32), oR w10, oI (0 : Int32)] [(.int (1 : Int32))])
    exact own_retN XT90 hx hlk hret (by simp) (w := (1 : Int32)) (hb hby at_291) (by decide) (by decide) (by decide) (⟨rfl, own_app0 NT73⟩)
  · refine own_by (fun t_ k_ => XS.iloadN XT73.here hx rfl (hb hby at_252) rfl  k_) ?_
    show own_Go p e below _ T73 (mkF m 253 #[oI i0, oR h0.size, .unset, .unset, .unset] [(.int i0)])
    refine own_by (fun t_ k_ => XT73.ldcI hx hown (mvT hZ (hw _ (List.mem_of_getElem? (i := 76) rfl))) rfl (hb hby at_253) k_) ?_
    show own_Go p e below _ T73 (mkF m 255 #[oI i0, oR h0.size, .unset, .unset, .unset] [(.int (2147483647 : Int32)), (.int i0)])
    refine own_by (fun t_ k_ => XS.iand XT73.here hx rfl (hb hby at_255) rfl k_) ?_
    show own_Go p e below _ T73 (mkF m 256 #[oI i0, oR h0.size, .unset, .unset, .unset] [(.int (i0 &&& (2147483647 : Int32)))])
    refine own_by (fun t_ k_ => XT.bipushV XT73.here hx rfl (36 : Int32) (hb hby at_256) (by decide) k_) ?_
    show own_Go p e below _ T73 (mkF m 258 #[oI i0, oR h0.size, .unset, .unset, .unset] [(.int (36 : Int32)), (.int (i0 &&& (2147483647 : Int32)))])
    refine own_by (fun t_ k_ => iremM XT73 hx rfl (hb hby at_258) rfl (by decide) k_) ?_
    show own_Go p e below _ T73 (mkF m 259 #[oI i0, oR h0.size, .unset, .unset, .unset] [(.int ((i0 &&& (2147483647 : Int32)) % (36 : Int32)))])
    rw [hk]
    show own_Go p e below _ T73 (mkF m 259 #[oI i0, oR h0.size, .unset, .unset, .unset] [(.int (17 : Int32))])
    refine own_by (fun t_ k_ => XS.istoreN XT73.here hx rfl (hb hby at_259) rfl (l' := #[oI i0, oR h0.size, oI (17 : Int32), .unset, .unset]) rfl k_) ?_
    show own_Go p e below _ T73 (mkF m 260 #[oI i0, oR h0.size, oI (17 : Int32), .unset, .unset] [])
    refine own_by (fun t_ k_ => XS.aloadN XT73.here hx rfl (hb hby at_260) rfl rfl  k_) ?_
    show own_Go p e below _ T73 (mkF m 261 #[oI i0, oR h0.size, oI (17 : Int32), .unset, .unset] [(.ref h0.size)])
    refine own_by (fun t_ k_ => XS.iloadN XT73.here hx rfl (hb hby at_261) rfl  k_) ?_
    show own_Go p e below _ T73 (mkF m 262 #[oI i0, oR h0.size, oI (17 : Int32), .unset, .unset] [(.int (17 : Int32)), (.ref h0.size)])
    refine own_ldR XT73 hx hZ eT73 VT73 rfl 17 (by decide) (by decide) (v := (.ref w11)) rfl (hb hby at_262) ?_
    show own_Go p e below _ T73 (mkF m 263 #[oI i0, oR h0.size, oI (17 : Int32), .unset, .unset] [(.ref w11)])
    refine own_by (fun t_ k_ => XS.astoreN XT73.here hx rfl (hb hby at_263) rfl rfl (l' := #[oI i0, oR h0.size, oI (17 : Int32), oR w11, .unset]) rfl k_) ?_
    show own_Go p e below _ T73 (mkF m 264 #[oI i0, oR h0.size, oI (17 : Int32), oR w11, .unset] [])
    refine own_by (fun t_ k_ => XS.iloadN XT73.here hx rfl (hb hby at_264) rfl  k_) ?_
    show own_Go p e below _ T73 (mkF m 265 #[oI i0, oR h0.size, oI (17 : Int32), oR w11, .unset] [(.int (17 : Int32))])
    refine own_by (fun t_ k_ => XT.bipushV XT73.here hx rfl (9 : Int32) (hb hby at_265) (by decide) k_) ?_
    show own_Go p e below _ T73 (mkF m 267 #[oI i0, oR h0.size, oI (17 : Int32), oR w11, .unset] [(.int (9 : Int32)), (.int (17 : Int32))])
    refine own_by (fun t_ k_ => XS.icmpYes XT73.here hx rfl (pc0 := 267) (pc' := 274) rfl (hb hby at_267) rfl (XT.ii_ge_t (by decide)) (by decide) (by decide) k_) ?_
    show own_Go p e below _ T73 (mkF m 274 #[oI i0, oR h0.size, oI (17 : Int32), oR w11, .unset] [])
    refine own_by (fun t_ k_ => XT.iconstV XT73.here hx rfl (0 : Int32) (hb hby at_274) (by decide) k_) ?_
    show own_Go p e below _ T73 (mkF m 275 #[oI i0, oR h0.size, oI (17 : Int32), oR w11, .unset] [(.int (0 : Int32))])
    refine own_by (fun t_ k_ => XS.istore XT73.here hx rfl (hb hby at_275) rfl (l' := #[oI i0, oR h0.size, oI (17 : Int32), oR w11, oI (0 : Int32)]) rfl k_) ?_
    show own_Go p e below _ T73 (mkF m 277 #[oI i0, oR h0.size, oI (17 : Int32), oR w11, oI (0 : Int32)] [])
    refine own_by (fun t_ k_ => XS.aloadN XT73.here hx rfl (hb hby at_277) rfl rfl  k_) ?_
    show own_Go p e below _ T73 (mkF m 278 #[oI i0, oR h0.size, oI (17 : Int32), oR w11, oI (0 : Int32)] [(.ref w11)])
    refine own_callV XT73 hx hZ hown (hw _ (List.mem_of_getElem? (i := 77) rfl)) (hw _ (List.mem_of_getElem? (i := 78) rfl)) (hw _ (List.mem_of_getElem? (i := 80) rfl)) (hw _ (List.mem_of_getElem? (i := 79) rfl)) (hw _ (List.mem_of_getElem? (i := 81) rfl)) (hw _ (List.mem_of_getElem? (i := 3) rfl)) (by decide) eT73 (b := w11) (E11.keep KT73) (argsL := []) (rest := []) (own_gn_met l Z a0 hw w11 w0 w1 w2 w14 w22 w23 w24 w25 w26 hT73 ⟨own_stak S0 KT73, own_stak S1 KT73, own_stak S2 KT73, own_stak S14 KT73, own_stak S22 KT73, own_stak S23 KT73, own_stak S24 KT73, own_stak S25 KT73, own_stak S26 KT73⟩) 0 (by decide) (by decide) (by rw [hml]; rfl) (lenOf pd_0 rfl) (Nat.le_of_eq rfl) (hb hby at_278) (by decide) (by decide) (st := [(.ref w11)]) rfl ?_
    intro T91 LT91 vT91 XT91 hQT91
    obtain ⟨rfl, eT91, rfl⟩ := hQT91
    show own_Go p e below _ T91 (mkF m 281 #[oI i0, oR h0.size, oI (17 : Int32), oR w11, oI (0 : Int32)] [(.int (own_gn w11 w0 w1 w2 w14 w22 w23 w24 w25 w26))])
    rw [show own_gn w11 w0 w1 w2 w14 w22 w23 w24 w25 w26 = (0 : Int32) by rw [own_gn, if_neg (F11.ne F0 (by decide)), if_neg (F11.ne F1 (by decide)), if_neg (F11.ne F2 (by decide)), if_neg (F11.ne F14 (by decide)), if_neg (F11.ne F22 (by decide)), if_neg (F11.ne F23 (by decide)), if_neg (F11.ne F24 (by decide)), if_neg (F11.ne F25 (by decide)), if_neg (F11.ne F26 (by decide))]]
    show own_Go p e below _ T91 (mkF m 281 #[oI i0, oR h0.size, oI (17 : Int32), oR w11, oI (0 : Int32)] [(.int (0 : Int32))])
    refine own_by (fun t_ k_ => XS.iload XT91.here hx rfl (hb hby at_281) rfl  k_) ?_
    show own_Go p e below _ T91 (mkF m 283 #[oI i0, oR h0.size, oI (17 : Int32), oR w11, oI (0 : Int32)] [(.int (0 : Int32)), (.int (0 : Int32))])
    refine own_by (fun t_ k_ => XS.icmpNo XT91.here hx rfl (hb hby at_283) rfl (XT.ii_ne_f (by decide)) k_) ?_
    show own_Go p e below _ T91 (mkF m 286 #[oI i0, oR h0.size, oI (17 : Int32), oR w11, oI (0 : Int32)] [])
    refine own_by (fun t_ k_ => XT.iconstV XT91.here hx rfl (1 : Int32) (hb hby at_286) (by decide) k_) ?_
    show own_Go p e below _ T91 (mkF m 287 #[oI i0, oR h0.size, oI (17 : Int32), oR w11, oI (0 : Int32)] [(.int (1 : Int32))])
    refine own_by (fun t_ k_ => XS.goto XT91.here hx rfl (pc0 := 287) (pc' := 291) rfl (hb hby at_287) (by decide) (by decide) k_) ?_
    show own_Go p e below _ T91 (mkF m 291 #[oI i0, oR h0.size, oI (17 : Int32), oR w11, oI (0 : Int32)] [(.int (1 : Int32))])
    exact own_retN XT91 hx hlk hret (by simp) (w := (1 : Int32)) (hb hby at_291) (by decide) (by decide) (by decide) (⟨rfl, own_app0 NT73⟩)
  · refine own_by (fun t_ k_ => XS.iloadN XT73.here hx rfl (hb hby at_252) rfl  k_) ?_
    show own_Go p e below _ T73 (mkF m 253 #[oI i0, oR h0.size, .unset, .unset, .unset] [(.int i0)])
    refine own_by (fun t_ k_ => XT73.ldcI hx hown (mvT hZ (hw _ (List.mem_of_getElem? (i := 76) rfl))) rfl (hb hby at_253) k_) ?_
    show own_Go p e below _ T73 (mkF m 255 #[oI i0, oR h0.size, .unset, .unset, .unset] [(.int (2147483647 : Int32)), (.int i0)])
    refine own_by (fun t_ k_ => XS.iand XT73.here hx rfl (hb hby at_255) rfl k_) ?_
    show own_Go p e below _ T73 (mkF m 256 #[oI i0, oR h0.size, .unset, .unset, .unset] [(.int (i0 &&& (2147483647 : Int32)))])
    refine own_by (fun t_ k_ => XT.bipushV XT73.here hx rfl (36 : Int32) (hb hby at_256) (by decide) k_) ?_
    show own_Go p e below _ T73 (mkF m 258 #[oI i0, oR h0.size, .unset, .unset, .unset] [(.int (36 : Int32)), (.int (i0 &&& (2147483647 : Int32)))])
    refine own_by (fun t_ k_ => iremM XT73 hx rfl (hb hby at_258) rfl (by decide) k_) ?_
    show own_Go p e below _ T73 (mkF m 259 #[oI i0, oR h0.size, .unset, .unset, .unset] [(.int ((i0 &&& (2147483647 : Int32)) % (36 : Int32)))])
    rw [hk]
    show own_Go p e below _ T73 (mkF m 259 #[oI i0, oR h0.size, .unset, .unset, .unset] [(.int (18 : Int32))])
    refine own_by (fun t_ k_ => XS.istoreN XT73.here hx rfl (hb hby at_259) rfl (l' := #[oI i0, oR h0.size, oI (18 : Int32), .unset, .unset]) rfl k_) ?_
    show own_Go p e below _ T73 (mkF m 260 #[oI i0, oR h0.size, oI (18 : Int32), .unset, .unset] [])
    refine own_by (fun t_ k_ => XS.aloadN XT73.here hx rfl (hb hby at_260) rfl rfl  k_) ?_
    show own_Go p e below _ T73 (mkF m 261 #[oI i0, oR h0.size, oI (18 : Int32), .unset, .unset] [(.ref h0.size)])
    refine own_by (fun t_ k_ => XS.iloadN XT73.here hx rfl (hb hby at_261) rfl  k_) ?_
    show own_Go p e below _ T73 (mkF m 262 #[oI i0, oR h0.size, oI (18 : Int32), .unset, .unset] [(.int (18 : Int32)), (.ref h0.size)])
    refine own_ldR XT73 hx hZ eT73 VT73 rfl 18 (by decide) (by decide) (v := (.ref w12)) rfl (hb hby at_262) ?_
    show own_Go p e below _ T73 (mkF m 263 #[oI i0, oR h0.size, oI (18 : Int32), .unset, .unset] [(.ref w12)])
    refine own_by (fun t_ k_ => XS.astoreN XT73.here hx rfl (hb hby at_263) rfl rfl (l' := #[oI i0, oR h0.size, oI (18 : Int32), oR w12, .unset]) rfl k_) ?_
    show own_Go p e below _ T73 (mkF m 264 #[oI i0, oR h0.size, oI (18 : Int32), oR w12, .unset] [])
    refine own_by (fun t_ k_ => XS.iloadN XT73.here hx rfl (hb hby at_264) rfl  k_) ?_
    show own_Go p e below _ T73 (mkF m 265 #[oI i0, oR h0.size, oI (18 : Int32), oR w12, .unset] [(.int (18 : Int32))])
    refine own_by (fun t_ k_ => XT.bipushV XT73.here hx rfl (9 : Int32) (hb hby at_265) (by decide) k_) ?_
    show own_Go p e below _ T73 (mkF m 267 #[oI i0, oR h0.size, oI (18 : Int32), oR w12, .unset] [(.int (9 : Int32)), (.int (18 : Int32))])
    refine own_by (fun t_ k_ => XS.icmpYes XT73.here hx rfl (pc0 := 267) (pc' := 274) rfl (hb hby at_267) rfl (XT.ii_ge_t (by decide)) (by decide) (by decide) k_) ?_
    show own_Go p e below _ T73 (mkF m 274 #[oI i0, oR h0.size, oI (18 : Int32), oR w12, .unset] [])
    refine own_by (fun t_ k_ => XT.iconstV XT73.here hx rfl (0 : Int32) (hb hby at_274) (by decide) k_) ?_
    show own_Go p e below _ T73 (mkF m 275 #[oI i0, oR h0.size, oI (18 : Int32), oR w12, .unset] [(.int (0 : Int32))])
    refine own_by (fun t_ k_ => XS.istore XT73.here hx rfl (hb hby at_275) rfl (l' := #[oI i0, oR h0.size, oI (18 : Int32), oR w12, oI (0 : Int32)]) rfl k_) ?_
    show own_Go p e below _ T73 (mkF m 277 #[oI i0, oR h0.size, oI (18 : Int32), oR w12, oI (0 : Int32)] [])
    refine own_by (fun t_ k_ => XS.aloadN XT73.here hx rfl (hb hby at_277) rfl rfl  k_) ?_
    show own_Go p e below _ T73 (mkF m 278 #[oI i0, oR h0.size, oI (18 : Int32), oR w12, oI (0 : Int32)] [(.ref w12)])
    refine own_callV XT73 hx hZ hown (hw _ (List.mem_of_getElem? (i := 77) rfl)) (hw _ (List.mem_of_getElem? (i := 78) rfl)) (hw _ (List.mem_of_getElem? (i := 80) rfl)) (hw _ (List.mem_of_getElem? (i := 79) rfl)) (hw _ (List.mem_of_getElem? (i := 81) rfl)) (hw _ (List.mem_of_getElem? (i := 3) rfl)) (by decide) eT73 (b := w12) (E12.keep KT73) (argsL := []) (rest := []) (own_gn_met l Z a0 hw w12 w0 w1 w2 w14 w22 w23 w24 w25 w26 hT73 ⟨own_stak S0 KT73, own_stak S1 KT73, own_stak S2 KT73, own_stak S14 KT73, own_stak S22 KT73, own_stak S23 KT73, own_stak S24 KT73, own_stak S25 KT73, own_stak S26 KT73⟩) 0 (by decide) (by decide) (by rw [hml]; rfl) (lenOf pd_0 rfl) (Nat.le_of_eq rfl) (hb hby at_278) (by decide) (by decide) (st := [(.ref w12)]) rfl ?_
    intro T92 LT92 vT92 XT92 hQT92
    obtain ⟨rfl, eT92, rfl⟩ := hQT92
    show own_Go p e below _ T92 (mkF m 281 #[oI i0, oR h0.size, oI (18 : Int32), oR w12, oI (0 : Int32)] [(.int (own_gn w12 w0 w1 w2 w14 w22 w23 w24 w25 w26))])
    rw [show own_gn w12 w0 w1 w2 w14 w22 w23 w24 w25 w26 = (0 : Int32) by rw [own_gn, if_neg (F12.ne F0 (by decide)), if_neg (F12.ne F1 (by decide)), if_neg (F12.ne F2 (by decide)), if_neg (F12.ne F14 (by decide)), if_neg (F12.ne F22 (by decide)), if_neg (F12.ne F23 (by decide)), if_neg (F12.ne F24 (by decide)), if_neg (F12.ne F25 (by decide)), if_neg (F12.ne F26 (by decide))]]
    show own_Go p e below _ T92 (mkF m 281 #[oI i0, oR h0.size, oI (18 : Int32), oR w12, oI (0 : Int32)] [(.int (0 : Int32))])
    refine own_by (fun t_ k_ => XS.iload XT92.here hx rfl (hb hby at_281) rfl  k_) ?_
    show own_Go p e below _ T92 (mkF m 283 #[oI i0, oR h0.size, oI (18 : Int32), oR w12, oI (0 : Int32)] [(.int (0 : Int32)), (.int (0 : Int32))])
    refine own_by (fun t_ k_ => XS.icmpNo XT92.here hx rfl (hb hby at_283) rfl (XT.ii_ne_f (by decide)) k_) ?_
    show own_Go p e below _ T92 (mkF m 286 #[oI i0, oR h0.size, oI (18 : Int32), oR w12, oI (0 : Int32)] [])
    refine own_by (fun t_ k_ => XT.iconstV XT92.here hx rfl (1 : Int32) (hb hby at_286) (by decide) k_) ?_
    show own_Go p e below _ T92 (mkF m 287 #[oI i0, oR h0.size, oI (18 : Int32), oR w12, oI (0 : Int32)] [(.int (1 : Int32))])
    refine own_by (fun t_ k_ => XS.goto XT92.here hx rfl (pc0 := 287) (pc' := 291) rfl (hb hby at_287) (by decide) (by decide) k_) ?_
    show own_Go p e below _ T92 (mkF m 291 #[oI i0, oR h0.size, oI (18 : Int32), oR w12, oI (0 : Int32)] [(.int (1 : Int32))])
    exact own_retN XT92 hx hlk hret (by simp) (w := (1 : Int32)) (hb hby at_291) (by decide) (by decide) (by decide) (⟨rfl, own_app0 NT73⟩)
  · refine own_by (fun t_ k_ => XS.iloadN XT73.here hx rfl (hb hby at_252) rfl  k_) ?_
    show own_Go p e below _ T73 (mkF m 253 #[oI i0, oR h0.size, .unset, .unset, .unset] [(.int i0)])
    refine own_by (fun t_ k_ => XT73.ldcI hx hown (mvT hZ (hw _ (List.mem_of_getElem? (i := 76) rfl))) rfl (hb hby at_253) k_) ?_
    show own_Go p e below _ T73 (mkF m 255 #[oI i0, oR h0.size, .unset, .unset, .unset] [(.int (2147483647 : Int32)), (.int i0)])
    refine own_by (fun t_ k_ => XS.iand XT73.here hx rfl (hb hby at_255) rfl k_) ?_
    show own_Go p e below _ T73 (mkF m 256 #[oI i0, oR h0.size, .unset, .unset, .unset] [(.int (i0 &&& (2147483647 : Int32)))])
    refine own_by (fun t_ k_ => XT.bipushV XT73.here hx rfl (36 : Int32) (hb hby at_256) (by decide) k_) ?_
    show own_Go p e below _ T73 (mkF m 258 #[oI i0, oR h0.size, .unset, .unset, .unset] [(.int (36 : Int32)), (.int (i0 &&& (2147483647 : Int32)))])
    refine own_by (fun t_ k_ => iremM XT73 hx rfl (hb hby at_258) rfl (by decide) k_) ?_
    show own_Go p e below _ T73 (mkF m 259 #[oI i0, oR h0.size, .unset, .unset, .unset] [(.int ((i0 &&& (2147483647 : Int32)) % (36 : Int32)))])
    rw [hk]
    show own_Go p e below _ T73 (mkF m 259 #[oI i0, oR h0.size, .unset, .unset, .unset] [(.int (19 : Int32))])
    refine own_by (fun t_ k_ => XS.istoreN XT73.here hx rfl (hb hby at_259) rfl (l' := #[oI i0, oR h0.size, oI (19 : Int32), .unset, .unset]) rfl k_) ?_
    show own_Go p e below _ T73 (mkF m 260 #[oI i0, oR h0.size, oI (19 : Int32), .unset, .unset] [])
    refine own_by (fun t_ k_ => XS.aloadN XT73.here hx rfl (hb hby at_260) rfl rfl  k_) ?_
    show own_Go p e below _ T73 (mkF m 261 #[oI i0, oR h0.size, oI (19 : Int32), .unset, .unset] [(.ref h0.size)])
    refine own_by (fun t_ k_ => XS.iloadN XT73.here hx rfl (hb hby at_261) rfl  k_) ?_
    show own_Go p e below _ T73 (mkF m 262 #[oI i0, oR h0.size, oI (19 : Int32), .unset, .unset] [(.int (19 : Int32)), (.ref h0.size)])
    refine own_ldR XT73 hx hZ eT73 VT73 rfl 19 (by decide) (by decide) (v := (.ref w13)) rfl (hb hby at_262) ?_
    show own_Go p e below _ T73 (mkF m 263 #[oI i0, oR h0.size, oI (19 : Int32), .unset, .unset] [(.ref w13)])
    refine own_by (fun t_ k_ => XS.astoreN XT73.here hx rfl (hb hby at_263) rfl rfl (l' := #[oI i0, oR h0.size, oI (19 : Int32), oR w13, .unset]) rfl k_) ?_
    show own_Go p e below _ T73 (mkF m 264 #[oI i0, oR h0.size, oI (19 : Int32), oR w13, .unset] [])
    refine own_by (fun t_ k_ => XS.iloadN XT73.here hx rfl (hb hby at_264) rfl  k_) ?_
    show own_Go p e below _ T73 (mkF m 265 #[oI i0, oR h0.size, oI (19 : Int32), oR w13, .unset] [(.int (19 : Int32))])
    refine own_by (fun t_ k_ => XT.bipushV XT73.here hx rfl (9 : Int32) (hb hby at_265) (by decide) k_) ?_
    show own_Go p e below _ T73 (mkF m 267 #[oI i0, oR h0.size, oI (19 : Int32), oR w13, .unset] [(.int (9 : Int32)), (.int (19 : Int32))])
    refine own_by (fun t_ k_ => XS.icmpYes XT73.here hx rfl (pc0 := 267) (pc' := 274) rfl (hb hby at_267) rfl (XT.ii_ge_t (by decide)) (by decide) (by decide) k_) ?_
    show own_Go p e below _ T73 (mkF m 274 #[oI i0, oR h0.size, oI (19 : Int32), oR w13, .unset] [])
    refine own_by (fun t_ k_ => XT.iconstV XT73.here hx rfl (0 : Int32) (hb hby at_274) (by decide) k_) ?_
    show own_Go p e below _ T73 (mkF m 275 #[oI i0, oR h0.size, oI (19 : Int32), oR w13, .unset] [(.int (0 : Int32))])
    refine own_by (fun t_ k_ => XS.istore XT73.here hx rfl (hb hby at_275) rfl (l' := #[oI i0, oR h0.size, oI (19 : Int32), oR w13, oI (0 : Int32)]) rfl k_) ?_
    show own_Go p e below _ T73 (mkF m 277 #[oI i0, oR h0.size, oI (19 : Int32), oR w13, oI (0 : Int32)] [])
    refine own_by (fun t_ k_ => XS.aloadN XT73.here hx rfl (hb hby at_277) rfl rfl  k_) ?_
    show own_Go p e below _ T73 (mkF m 278 #[oI i0, oR h0.size, oI (19 : Int32), oR w13, oI (0 : Int32)] [(.ref w13)])
    refine own_callV XT73 hx hZ hown (hw _ (List.mem_of_getElem? (i := 77) rfl)) (hw _ (List.mem_of_getElem? (i := 78) rfl)) (hw _ (List.mem_of_getElem? (i := 80) rfl)) (hw _ (List.mem_of_getElem? (i := 79) rfl)) (hw _ (List.mem_of_getElem? (i := 81) rfl)) (hw _ (List.mem_of_getElem? (i := 3) rfl)) (by decide) eT73 (b := w13) (E13.keep KT73) (argsL := []) (rest := []) (own_gn_met l Z a0 hw w13 w0 w1 w2 w14 w22 w23 w24 w25 w26 hT73 ⟨own_stak S0 KT73, own_stak S1 KT73, own_stak S2 KT73, own_stak S14 KT73, own_stak S22 KT73, own_stak S23 KT73, own_stak S24 KT73, own_stak S25 KT73, own_stak S26 KT73⟩) 0 (by decide) (by decide) (by rw [hml]; rfl) (lenOf pd_0 rfl) (Nat.le_of_eq rfl) (hb hby at_278) (by decide) (by decide) (st := [(.ref w13)]) rfl ?_
    intro T93 LT93 vT93 XT93 hQT93
    obtain ⟨rfl, eT93, rfl⟩ := hQT93
    show own_Go p e below _ T93 (mkF m 281 #[oI i0, oR h0.size, oI (19 : Int32), oR w13, oI (0 : Int32)] [(.int (own_gn w13 w0 w1 w2 w14 w22 w23 w24 w25 w26))])
    rw [show own_gn w13 w0 w1 w2 w14 w22 w23 w24 w25 w26 = (0 : Int32) by rw [own_gn, if_neg (F13.ne F0 (by decide)), if_neg (F13.ne F1 (by decide)), if_neg (F13.ne F2 (by decide)), if_neg (F13.ne F14 (by decide)), if_neg (F13.ne F22 (by decide)), if_neg (F13.ne F23 (by decide)), if_neg (F13.ne F24 (by decide)), if_neg (F13.ne F25 (by decide)), if_neg (F13.ne F26 (by decide))]]
    show own_Go p e below _ T93 (mkF m 281 #[oI i0, oR h0.size, oI (19 : Int32), oR w13, oI (0 : Int32)] [(.int (0 : Int32))])
    refine own_by (fun t_ k_ => XS.iload XT93.here hx rfl (hb hby at_281) rfl  k_) ?_
    show own_Go p e below _ T93 (mkF m 283 #[oI i0, oR h0.size, oI (19 : Int32), oR w13, oI (0 : Int32)] [(.int (0 : Int32)), (.int (0 : Int32))])
    refine own_by (fun t_ k_ => XS.icmpNo XT93.here hx rfl (hb hby at_283) rfl (XT.ii_ne_f (by decide)) k_) ?_
    show own_Go p e below _ T93 (mkF m 286 #[oI i0, oR h0.size, oI (19 : Int32), oR w13, oI (0 : Int32)] [])
    refine own_by (fun t_ k_ => XT.iconstV XT93.here hx rfl (1 : Int32) (hb hby at_286) (by decide) k_) ?_
    show own_Go p e below _ T93 (mkF m 287 #[oI i0, oR h0.size, oI (19 : Int32), oR w13, oI (0 : Int32)] [(.int (1 : Int32))])
    refine own_by (fun t_ k_ => XS.goto XT93.here hx rfl (pc0 := 287) (pc' := 291) rfl (hb hby at_287) (by decide) (by decide) k_) ?_
    show own_Go p e below _ T93 (mkF m 291 #[oI i0, oR h0.size, oI (19 : Int32), oR w13, oI (0 : Int32)] [(.int (1 : Int32))])
    exact own_retN XT93 hx hlk hret (by simp) (w := (1 : Int32)) (hb hby at_291) (by decide) (by decide) (by decide) (⟨rfl, own_app0 NT73⟩)
  · refine own_by (fun t_ k_ => XS.iloadN XT73.here hx rfl (hb hby at_252) rfl  k_) ?_
    show own_Go p e below _ T73 (mkF m 253 #[oI i0, oR h0.size, .unset, .unset, .unset] [(.int i0)])
    refine own_by (fun t_ k_ => XT73.ldcI hx hown (mvT hZ (hw _ (List.mem_of_getElem? (i := 76) rfl))) rfl (hb hby at_253) k_) ?_
    show own_Go p e below _ T73 (mkF m 255 #[oI i0, oR h0.size, .unset, .unset, .unset] [(.int (2147483647 : Int32)), (.int i0)])
    refine own_by (fun t_ k_ => XS.iand XT73.here hx rfl (hb hby at_255) rfl k_) ?_
    show own_Go p e below _ T73 (mkF m 256 #[oI i0, oR h0.size, .unset, .unset, .unset] [(.int (i0 &&& (2147483647 : Int32)))])
    refine own_by (fun t_ k_ => XT.bipushV XT73.here hx rfl (36 : Int32) (hb hby at_256) (by decide) k_) ?_
    show own_Go p e below _ T73 (mkF m 258 #[oI i0, oR h0.size, .unset, .unset, .unset] [(.int (36 : Int32)), (.int (i0 &&& (2147483647 : Int32)))])
    refine own_by (fun t_ k_ => iremM XT73 hx rfl (hb hby at_258) rfl (by decide) k_) ?_
    show own_Go p e below _ T73 (mkF m 259 #[oI i0, oR h0.size, .unset, .unset, .unset] [(.int ((i0 &&& (2147483647 : Int32)) % (36 : Int32)))])
    rw [hk]
    show own_Go p e below _ T73 (mkF m 259 #[oI i0, oR h0.size, .unset, .unset, .unset] [(.int (20 : Int32))])
    refine own_by (fun t_ k_ => XS.istoreN XT73.here hx rfl (hb hby at_259) rfl (l' := #[oI i0, oR h0.size, oI (20 : Int32), .unset, .unset]) rfl k_) ?_
    show own_Go p e below _ T73 (mkF m 260 #[oI i0, oR h0.size, oI (20 : Int32), .unset, .unset] [])
    refine own_by (fun t_ k_ => XS.aloadN XT73.here hx rfl (hb hby at_260) rfl rfl  k_) ?_
    show own_Go p e below _ T73 (mkF m 261 #[oI i0, oR h0.size, oI (20 : Int32), .unset, .unset] [(.ref h0.size)])
    refine own_by (fun t_ k_ => XS.iloadN XT73.here hx rfl (hb hby at_261) rfl  k_) ?_
    show own_Go p e below _ T73 (mkF m 262 #[oI i0, oR h0.size, oI (20 : Int32), .unset, .unset] [(.int (20 : Int32)), (.ref h0.size)])
    refine own_ldR XT73 hx hZ eT73 VT73 rfl 20 (by decide) (by decide) (v := (.ref w15)) rfl (hb hby at_262) ?_
    show own_Go p e below _ T73 (mkF m 263 #[oI i0, oR h0.size, oI (20 : Int32), .unset, .unset] [(.ref w15)])
    refine own_by (fun t_ k_ => XS.astoreN XT73.here hx rfl (hb hby at_263) rfl rfl (l' := #[oI i0, oR h0.size, oI (20 : Int32), oR w15, .unset]) rfl k_) ?_
    show own_Go p e below _ T73 (mkF m 264 #[oI i0, oR h0.size, oI (20 : Int32), oR w15, .unset] [])
    refine own_by (fun t_ k_ => XS.iloadN XT73.here hx rfl (hb hby at_264) rfl  k_) ?_
    show own_Go p e below _ T73 (mkF m 265 #[oI i0, oR h0.size, oI (20 : Int32), oR w15, .unset] [(.int (20 : Int32))])
    refine own_by (fun t_ k_ => XT.bipushV XT73.here hx rfl (9 : Int32) (hb hby at_265) (by decide) k_) ?_
    show own_Go p e below _ T73 (mkF m 267 #[oI i0, oR h0.size, oI (20 : Int32), oR w15, .unset] [(.int (9 : Int32)), (.int (20 : Int32))])
    refine own_by (fun t_ k_ => XS.icmpYes XT73.here hx rfl (pc0 := 267) (pc' := 274) rfl (hb hby at_267) rfl (XT.ii_ge_t (by decide)) (by decide) (by decide) k_) ?_
    show own_Go p e below _ T73 (mkF m 274 #[oI i0, oR h0.size, oI (20 : Int32), oR w15, .unset] [])
    refine own_by (fun t_ k_ => XT.iconstV XT73.here hx rfl (0 : Int32) (hb hby at_274) (by decide) k_) ?_
    show own_Go p e below _ T73 (mkF m 275 #[oI i0, oR h0.size, oI (20 : Int32), oR w15, .unset] [(.int (0 : Int32))])
    refine own_by (fun t_ k_ => XS.istore XT73.here hx rfl (hb hby at_275) rfl (l' := #[oI i0, oR h0.size, oI (20 : Int32), oR w15, oI (0 : Int32)]) rfl k_) ?_
    show own_Go p e below _ T73 (mkF m 277 #[oI i0, oR h0.size, oI (20 : Int32), oR w15, oI (0 : Int32)] [])
    refine own_by (fun t_ k_ => XS.aloadN XT73.here hx rfl (hb hby at_277) rfl rfl  k_) ?_
    show own_Go p e below _ T73 (mkF m 278 #[oI i0, oR h0.size, oI (20 : Int32), oR w15, oI (0 : Int32)] [(.ref w15)])
    refine own_callV XT73 hx hZ hown (hw _ (List.mem_of_getElem? (i := 77) rfl)) (hw _ (List.mem_of_getElem? (i := 78) rfl)) (hw _ (List.mem_of_getElem? (i := 80) rfl)) (hw _ (List.mem_of_getElem? (i := 79) rfl)) (hw _ (List.mem_of_getElem? (i := 81) rfl)) (hw _ (List.mem_of_getElem? (i := 3) rfl)) (by decide) eT73 (b := w15) (E15.keep KT73) (argsL := []) (rest := []) (own_gn_met l Z a0 hw w15 w0 w1 w2 w14 w22 w23 w24 w25 w26 hT73 ⟨own_stak S0 KT73, own_stak S1 KT73, own_stak S2 KT73, own_stak S14 KT73, own_stak S22 KT73, own_stak S23 KT73, own_stak S24 KT73, own_stak S25 KT73, own_stak S26 KT73⟩) 0 (by decide) (by decide) (by rw [hml]; rfl) (lenOf pd_0 rfl) (Nat.le_of_eq rfl) (hb hby at_278) (by decide) (by decide) (st := [(.ref w15)]) rfl ?_
    intro T94 LT94 vT94 XT94 hQT94
    obtain ⟨rfl, eT94, rfl⟩ := hQT94
    show own_Go p e below _ T94 (mkF m 281 #[oI i0, oR h0.size, oI (20 : Int32), oR w15, oI (0 : Int32)] [(.int (own_gn w15 w0 w1 w2 w14 w22 w23 w24 w25 w26))])
    rw [show own_gn w15 w0 w1 w2 w14 w22 w23 w24 w25 w26 = (0 : Int32) by rw [own_gn, if_neg (F15.ne F0 (by decide)), if_neg (F15.ne F1 (by decide)), if_neg (F15.ne F2 (by decide)), if_neg (F15.ne F14 (by decide)), if_neg (F15.ne F22 (by decide)), if_neg (F15.ne F23 (by decide)), if_neg (F15.ne F24 (by decide)), if_neg (F15.ne F25 (by decide)), if_neg (F15.ne F26 (by decide))]]
    show own_Go p e below _ T94 (mkF m 281 #[oI i0, oR h0.size, oI (20 : Int32), oR w15, oI (0 : Int32)] [(.int (0 : Int32))])
    refine own_by (fun t_ k_ => XS.iload XT94.here hx rfl (hb hby at_281) rfl  k_) ?_
    show own_Go p e below _ T94 (mkF m 283 #[oI i0, oR h0.size, oI (20 : Int32), oR w15, oI (0 : Int32)] [(.int (0 : Int32)), (.int (0 : Int32))])
    refine own_by (fun t_ k_ => XS.icmpNo XT94.here hx rfl (hb hby at_283) rfl (XT.ii_ne_f (by decide)) k_) ?_
    show own_Go p e below _ T94 (mkF m 286 #[oI i0, oR h0.size, oI (20 : Int32), oR w15, oI (0 : Int32)] [])
    refine own_by (fun t_ k_ => XT.iconstV XT94.here hx rfl (1 : Int32) (hb hby at_286) (by decide) k_) ?_
    show own_Go p e below _ T94 (mkF m 287 #[oI i0, oR h0.size, oI (20 : Int32), oR w15, oI (0 : Int32)] [(.int (1 : Int32))])
    refine own_by (fun t_ k_ => XS.goto XT94.here hx rfl (pc0 := 287) (pc' := 291) rfl (hb hby at_287) (by decide) (by decide) k_) ?_
    show own_Go p e below _ T94 (mkF m 291 #[oI i0, oR h0.size, oI (20 : Int32), oR w15, oI (0 : Int32)] [(.int (1 : Int32))])
    exact own_retN XT94 hx hlk hret (by simp) (w := (1 : Int32)) (hb hby at_291) (by decide) (by decide) (by decide) (⟨rfl, own_app0 NT73⟩)
  · refine own_by (fun t_ k_ => XS.iloadN XT73.here hx rfl (hb hby at_252) rfl  k_) ?_
    show own_Go p e below _ T73 (mkF m 253 #[oI i0, oR h0.size, .unset, .unset, .unset] [(.int i0)])
    refine own_by (fun t_ k_ => XT73.ldcI hx hown (mvT hZ (hw _ (List.mem_of_getElem? (i := 76) rfl))) rfl (hb hby at_253) k_) ?_
    show own_Go p e below _ T73 (mkF m 255 #[oI i0, oR h0.size, .unset, .unset, .unset] [(.int (2147483647 : Int32)), (.int i0)])
    refine own_by (fun t_ k_ => XS.iand XT73.here hx rfl (hb hby at_255) rfl k_) ?_
    show own_Go p e below _ T73 (mkF m 256 #[oI i0, oR h0.size, .unset, .unset, .unset] [(.int (i0 &&& (2147483647 : Int32)))])
    refine own_by (fun t_ k_ => XT.bipushV XT73.here hx rfl (36 : Int32) (hb hby at_256) (by decide) k_) ?_
    show own_Go p e below _ T73 (mkF m 258 #[oI i0, oR h0.size, .unset, .unset, .unset] [(.int (36 : Int32)), (.int (i0 &&& (2147483647 : Int32)))])
    refine own_by (fun t_ k_ => iremM XT73 hx rfl (hb hby at_258) rfl (by decide) k_) ?_
    show own_Go p e below _ T73 (mkF m 259 #[oI i0, oR h0.size, .unset, .unset, .unset] [(.int ((i0 &&& (2147483647 : Int32)) % (36 : Int32)))])
    rw [hk]
    show own_Go p e below _ T73 (mkF m 259 #[oI i0, oR h0.size, .unset, .unset, .unset] [(.int (21 : Int32))])
    refine own_by (fun t_ k_ => XS.istoreN XT73.here hx rfl (hb hby at_259) rfl (l' := #[oI i0, oR h0.size, oI (21 : Int32), .unset, .unset]) rfl k_) ?_
    show own_Go p e below _ T73 (mkF m 260 #[oI i0, oR h0.size, oI (21 : Int32), .unset, .unset] [])
    refine own_by (fun t_ k_ => XS.aloadN XT73.here hx rfl (hb hby at_260) rfl rfl  k_) ?_
    show own_Go p e below _ T73 (mkF m 261 #[oI i0, oR h0.size, oI (21 : Int32), .unset, .unset] [(.ref h0.size)])
    refine own_by (fun t_ k_ => XS.iloadN XT73.here hx rfl (hb hby at_261) rfl  k_) ?_
    show own_Go p e below _ T73 (mkF m 262 #[oI i0, oR h0.size, oI (21 : Int32), .unset, .unset] [(.int (21 : Int32)), (.ref h0.size)])
    refine own_ldR XT73 hx hZ eT73 VT73 rfl 21 (by decide) (by decide) (v := (.ref w16)) rfl (hb hby at_262) ?_
    show own_Go p e below _ T73 (mkF m 263 #[oI i0, oR h0.size, oI (21 : Int32), .unset, .unset] [(.ref w16)])
    refine own_by (fun t_ k_ => XS.astoreN XT73.here hx rfl (hb hby at_263) rfl rfl (l' := #[oI i0, oR h0.size, oI (21 : Int32), oR w16, .unset]) rfl k_) ?_
    show own_Go p e below _ T73 (mkF m 264 #[oI i0, oR h0.size, oI (21 : Int32), oR w16, .unset] [])
    refine own_by (fun t_ k_ => XS.iloadN XT73.here hx rfl (hb hby at_264) rfl  k_) ?_
    show own_Go p e below _ T73 (mkF m 265 #[oI i0, oR h0.size, oI (21 : Int32), oR w16, .unset] [(.int (21 : Int32))])
    refine own_by (fun t_ k_ => XT.bipushV XT73.here hx rfl (9 : Int32) (hb hby at_265) (by decide) k_) ?_
    show own_Go p e below _ T73 (mkF m 267 #[oI i0, oR h0.size, oI (21 : Int32), oR w16, .unset] [(.int (9 : Int32)), (.int (21 : Int32))])
    refine own_by (fun t_ k_ => XS.icmpYes XT73.here hx rfl (pc0 := 267) (pc' := 274) rfl (hb hby at_267) rfl (XT.ii_ge_t (by decide)) (by decide) (by decide) k_) ?_
    show own_Go p e below _ T73 (mkF m 274 #[oI i0, oR h0.size, oI (21 : Int32), oR w16, .unset] [])
    refine own_by (fun t_ k_ => XT.iconstV XT73.here hx rfl (0 : Int32) (hb hby at_274) (by decide) k_) ?_
    show own_Go p e below _ T73 (mkF m 275 #[oI i0, oR h0.size, oI (21 : Int32), oR w16, .unset] [(.int (0 : Int32))])
    refine own_by (fun t_ k_ => XS.istore XT73.here hx rfl (hb hby at_275) rfl (l' := #[oI i0, oR h0.size, oI (21 : Int32), oR w16, oI (0 : Int32)]) rfl k_) ?_
    show own_Go p e below _ T73 (mkF m 277 #[oI i0, oR h0.size, oI (21 : Int32), oR w16, oI (0 : Int32)] [])
    refine own_by (fun t_ k_ => XS.aloadN XT73.here hx rfl (hb hby at_277) rfl rfl  k_) ?_
    show own_Go p e below _ T73 (mkF m 278 #[oI i0, oR h0.size, oI (21 : Int32), oR w16, oI (0 : Int32)] [(.ref w16)])
    refine own_callV XT73 hx hZ hown (hw _ (List.mem_of_getElem? (i := 77) rfl)) (hw _ (List.mem_of_getElem? (i := 78) rfl)) (hw _ (List.mem_of_getElem? (i := 80) rfl)) (hw _ (List.mem_of_getElem? (i := 79) rfl)) (hw _ (List.mem_of_getElem? (i := 81) rfl)) (hw _ (List.mem_of_getElem? (i := 3) rfl)) (by decide) eT73 (b := w16) (E16.keep KT73) (argsL := []) (rest := []) (own_gn_met l Z a0 hw w16 w0 w1 w2 w14 w22 w23 w24 w25 w26 hT73 ⟨own_stak S0 KT73, own_stak S1 KT73, own_stak S2 KT73, own_stak S14 KT73, own_stak S22 KT73, own_stak S23 KT73, own_stak S24 KT73, own_stak S25 KT73, own_stak S26 KT73⟩) 0 (by decide) (by decide) (by rw [hml]; rfl) (lenOf pd_0 rfl) (Nat.le_of_eq rfl) (hb hby at_278) (by decide) (by decide) (st := [(.ref w16)]) rfl ?_
    intro T95 LT95 vT95 XT95 hQT95
    obtain ⟨rfl, eT95, rfl⟩ := hQT95
    show own_Go p e below _ T95 (mkF m 281 #[oI i0, oR h0.size, oI (21 : Int32), oR w16, oI (0 : Int32)] [(.int (own_gn w16 w0 w1 w2 w14 w22 w23 w24 w25 w26))])
    rw [show own_gn w16 w0 w1 w2 w14 w22 w23 w24 w25 w26 = (0 : Int32) by rw [own_gn, if_neg (F16.ne F0 (by decide)), if_neg (F16.ne F1 (by decide)), if_neg (F16.ne F2 (by decide)), if_neg (F16.ne F14 (by decide)), if_neg (F16.ne F22 (by decide)), if_neg (F16.ne F23 (by decide)), if_neg (F16.ne F24 (by decide)), if_neg (F16.ne F25 (by decide)), if_neg (F16.ne F26 (by decide))]]
    show own_Go p e below _ T95 (mkF m 281 #[oI i0, oR h0.size, oI (21 : Int32), oR w16, oI (0 : Int32)] [(.int (0 : Int32))])
    refine own_by (fun t_ k_ => XS.iload XT95.here hx rfl (hb hby at_281) rfl  k_) ?_
    show own_Go p e below _ T95 (mkF m 283 #[oI i0, oR h0.size, oI (21 : Int32), oR w16, oI (0 : Int32)] [(.int (0 : Int32)), (.int (0 : Int32))])
    refine own_by (fun t_ k_ => XS.icmpNo XT95.here hx rfl (hb hby at_283) rfl (XT.ii_ne_f (by decide)) k_) ?_
    show own_Go p e below _ T95 (mkF m 286 #[oI i0, oR h0.size, oI (21 : Int32), oR w16, oI (0 : Int32)] [])
    refine own_by (fun t_ k_ => XT.iconstV XT95.here hx rfl (1 : Int32) (hb hby at_286) (by decide) k_) ?_
    show own_Go p e below _ T95 (mkF m 287 #[oI i0, oR h0.size, oI (21 : Int32), oR w16, oI (0 : Int32)] [(.int (1 : Int32))])
    refine own_by (fun t_ k_ => XS.goto XT95.here hx rfl (pc0 := 287) (pc' := 291) rfl (hb hby at_287) (by decide) (by decide) k_) ?_
    show own_Go p e below _ T95 (mkF m 291 #[oI i0, oR h0.size, oI (21 : Int32), oR w16, oI (0 : Int32)] [(.int (1 : Int32))])
    exact own_retN XT95 hx hlk hret (by simp) (w := (1 : Int32)) (hb hby at_291) (by decide) (by decide) (by decide) (⟨rfl, own_app0 NT73⟩)
  · refine own_by (fun t_ k_ => XS.iloadN XT73.here hx rfl (hb hby at_252) rfl  k_) ?_
    show own_Go p e below _ T73 (mkF m 253 #[oI i0, oR h0.size, .unset, .unset, .unset] [(.int i0)])
    refine own_by (fun t_ k_ => XT73.ldcI hx hown (mvT hZ (hw _ (List.mem_of_getElem? (i := 76) rfl))) rfl (hb hby at_253) k_) ?_
    show own_Go p e below _ T73 (mkF m 255 #[oI i0, oR h0.size, .unset, .unset, .unset] [(.int (2147483647 : Int32)), (.int i0)])
    refine own_by (fun t_ k_ => XS.iand XT73.here hx rfl (hb hby at_255) rfl k_) ?_
    show own_Go p e below _ T73 (mkF m 256 #[oI i0, oR h0.size, .unset, .unset, .unset] [(.int (i0 &&& (2147483647 : Int32)))])
    refine own_by (fun t_ k_ => XT.bipushV XT73.here hx rfl (36 : Int32) (hb hby at_256) (by decide) k_) ?_
    show own_Go p e below _ T73 (mkF m 258 #[oI i0, oR h0.size, .unset, .unset, .unset] [(.int (36 : Int32)), (.int (i0 &&& (2147483647 : Int32)))])
    refine own_by (fun t_ k_ => iremM XT73 hx rfl (hb hby at_258) rfl (by decide) k_) ?_
    show own_Go p e below _ T73 (mkF m 259 #[oI i0, oR h0.size, .unset, .unset, .unset] [(.int ((i0 &&& (2147483647 : Int32)) % (36 : Int32)))])
    rw [hk]
    show own_Go p e below _ T73 (mkF m 259 #[oI i0, oR h0.size, .unset, .unset, .unset] [(.int (22 : Int32))])
    refine own_by (fun t_ k_ => XS.istoreN XT73.here hx rfl (hb hby at_259) rfl (l' := #[oI i0, oR h0.size, oI (22 : Int32), .unset, .unset]) rfl k_) ?_
    show own_Go p e below _ T73 (mkF m 260 #[oI i0, oR h0.size, oI (22 : Int32), .unset, .unset] [])
    refine own_by (fun t_ k_ => XS.aloadN XT73.here hx rfl (hb hby at_260) rfl rfl  k_) ?_
    show own_Go p e below _ T73 (mkF m 261 #[oI i0, oR h0.size, oI (22 : Int32), .unset, .unset] [(.ref h0.size)])
    refine own_by (fun t_ k_ => XS.iloadN XT73.here hx rfl (hb hby at_261) rfl  k_) ?_
    show own_Go p e below _ T73 (mkF m 262 #[oI i0, oR h0.size, oI (22 : Int32), .unset, .unset] [(.int (22 : Int32)), (.ref h0.size)])
    refine own_ldR XT73 hx hZ eT73 VT73 rfl 22 (by decide) (by decide) (v := (.ref w17)) rfl (hb hby at_262) ?_
    show own_Go p e below _ T73 (mkF m 263 #[oI i0, oR h0.size, oI (22 : Int32), .unset, .unset] [(.ref w17)])
    refine own_by (fun t_ k_ => XS.astoreN XT73.here hx rfl (hb hby at_263) rfl rfl (l' := #[oI i0, oR h0.size, oI (22 : Int32), oR w17, .unset]) rfl k_) ?_
    show own_Go p e below _ T73 (mkF m 264 #[oI i0, oR h0.size, oI (22 : Int32), oR w17, .unset] [])
    refine own_by (fun t_ k_ => XS.iloadN XT73.here hx rfl (hb hby at_264) rfl  k_) ?_
    show own_Go p e below _ T73 (mkF m 265 #[oI i0, oR h0.size, oI (22 : Int32), oR w17, .unset] [(.int (22 : Int32))])
    refine own_by (fun t_ k_ => XT.bipushV XT73.here hx rfl (9 : Int32) (hb hby at_265) (by decide) k_) ?_
    show own_Go p e below _ T73 (mkF m 267 #[oI i0, oR h0.size, oI (22 : Int32), oR w17, .unset] [(.int (9 : Int32)), (.int (22 : Int32))])
    refine own_by (fun t_ k_ => XS.icmpYes XT73.here hx rfl (pc0 := 267) (pc' := 274) rfl (hb hby at_267) rfl (XT.ii_ge_t (by decide)) (by decide) (by decide) k_) ?_
    show own_Go p e below _ T73 (mkF m 274 #[oI i0, oR h0.size, oI (22 : Int32), oR w17, .unset] [])
    refine own_by (fun t_ k_ => XT.iconstV XT73.here hx rfl (0 : Int32) (hb hby at_274) (by decide) k_) ?_
    show own_Go p e below _ T73 (mkF m 275 #[oI i0, oR h0.size, oI (22 : Int32), oR w17, .unset] [(.int (0 : Int32))])
    refine own_by (fun t_ k_ => XS.istore XT73.here hx rfl (hb hby at_275) rfl (l' := #[oI i0, oR h0.size, oI (22 : Int32), oR w17, oI (0 : Int32)]) rfl k_) ?_
    show own_Go p e below _ T73 (mkF m 277 #[oI i0, oR h0.size, oI (22 : Int32), oR w17, oI (0 : Int32)] [])
    refine own_by (fun t_ k_ => XS.aloadN XT73.here hx rfl (hb hby at_277) rfl rfl  k_) ?_
    show own_Go p e below _ T73 (mkF m 278 #[oI i0, oR h0.size, oI (22 : Int32), oR w17, oI (0 : Int32)] [(.ref w17)])
    refine own_callV XT73 hx hZ hown (hw _ (List.mem_of_getElem? (i := 77) rfl)) (hw _ (List.mem_of_getElem? (i := 78) rfl)) (hw _ (List.mem_of_getElem? (i := 80) rfl)) (hw _ (List.mem_of_getElem? (i := 79) rfl)) (hw _ (List.mem_of_getElem? (i := 81) rfl)) (hw _ (List.mem_of_getElem? (i := 3) rfl)) (by decide) eT73 (b := w17) (E17.keep KT73) (argsL := []) (rest := []) (own_gn_met l Z a0 hw w17 w0 w1 w2 w14 w22 w23 w24 w25 w26 hT73 ⟨own_stak S0 KT73, own_stak S1 KT73, own_stak S2 KT73, own_stak S14 KT73, own_stak S22 KT73, own_stak S23 KT73, own_stak S24 KT73, own_stak S25 KT73, own_stak S26 KT73⟩) 0 (by decide) (by decide) (by rw [hml]; rfl) (lenOf pd_0 rfl) (Nat.le_of_eq rfl) (hb hby at_278) (by decide) (by decide) (st := [(.ref w17)]) rfl ?_
    intro T96 LT96 vT96 XT96 hQT96
    obtain ⟨rfl, eT96, rfl⟩ := hQT96
    show own_Go p e below _ T96 (mkF m 281 #[oI i0, oR h0.size, oI (22 : Int32), oR w17, oI (0 : Int32)] [(.int (own_gn w17 w0 w1 w2 w14 w22 w23 w24 w25 w26))])
    rw [show own_gn w17 w0 w1 w2 w14 w22 w23 w24 w25 w26 = (0 : Int32) by rw [own_gn, if_neg (F17.ne F0 (by decide)), if_neg (F17.ne F1 (by decide)), if_neg (F17.ne F2 (by decide)), if_neg (F17.ne F14 (by decide)), if_neg (F17.ne F22 (by decide)), if_neg (F17.ne F23 (by decide)), if_neg (F17.ne F24 (by decide)), if_neg (F17.ne F25 (by decide)), if_neg (F17.ne F26 (by decide))]]
    show own_Go p e below _ T96 (mkF m 281 #[oI i0, oR h0.size, oI (22 : Int32), oR w17, oI (0 : Int32)] [(.int (0 : Int32))])
    refine own_by (fun t_ k_ => XS.iload XT96.here hx rfl (hb hby at_281) rfl  k_) ?_
    show own_Go p e below _ T96 (mkF m 283 #[oI i0, oR h0.size, oI (22 : Int32), oR w17, oI (0 : Int32)] [(.int (0 : Int32)), (.int (0 : Int32))])
    refine own_by (fun t_ k_ => XS.icmpNo XT96.here hx rfl (hb hby at_283) rfl (XT.ii_ne_f (by decide)) k_) ?_
    show own_Go p e below _ T96 (mkF m 286 #[oI i0, oR h0.size, oI (22 : Int32), oR w17, oI (0 : Int32)] [])
    refine own_by (fun t_ k_ => XT.iconstV XT96.here hx rfl (1 : Int32) (hb hby at_286) (by decide) k_) ?_
    show own_Go p e below _ T96 (mkF m 287 #[oI i0, oR h0.size, oI (22 : Int32), oR w17, oI (0 : Int32)] [(.int (1 : Int32))])
    refine own_by (fun t_ k_ => XS.goto XT96.here hx rfl (pc0 := 287) (pc' := 291) rfl (hb hby at_287) (by decide) (by decide) k_) ?_
    show own_Go p e below _ T96 (mkF m 291 #[oI i0, oR h0.size, oI (22 : Int32), oR w17, oI (0 : Int32)] [(.int (1 : Int32))])
    exact own_retN XT96 hx hlk hret (by simp) (w := (1 : Int32)) (hb hby at_291) (by decide) (by decide) (by decide) (⟨rfl, own_app0 NT73⟩)
  · refine own_by (fun t_ k_ => XS.iloadN XT73.here hx rfl (hb hby at_252) rfl  k_) ?_
    show own_Go p e below _ T73 (mkF m 253 #[oI i0, oR h0.size, .unset, .unset, .unset] [(.int i0)])
    refine own_by (fun t_ k_ => XT73.ldcI hx hown (mvT hZ (hw _ (List.mem_of_getElem? (i := 76) rfl))) rfl (hb hby at_253) k_) ?_
    show own_Go p e below _ T73 (mkF m 255 #[oI i0, oR h0.size, .unset, .unset, .unset] [(.int (2147483647 : Int32)), (.int i0)])
    refine own_by (fun t_ k_ => XS.iand XT73.here hx rfl (hb hby at_255) rfl k_) ?_
    show own_Go p e below _ T73 (mkF m 256 #[oI i0, oR h0.size, .unset, .unset, .unset] [(.int (i0 &&& (2147483647 : Int32)))])
    refine own_by (fun t_ k_ => XT.bipushV XT73.here hx rfl (36 : Int32) (hb hby at_256) (by decide) k_) ?_
    show own_Go p e below _ T73 (mkF m 258 #[oI i0, oR h0.size, .unset, .unset, .unset] [(.int (36 : Int32)), (.int (i0 &&& (2147483647 : Int32)))])
    refine own_by (fun t_ k_ => iremM XT73 hx rfl (hb hby at_258) rfl (by decide) k_) ?_
    show own_Go p e below _ T73 (mkF m 259 #[oI i0, oR h0.size, .unset, .unset, .unset] [(.int ((i0 &&& (2147483647 : Int32)) % (36 : Int32)))])
    rw [hk]
    show own_Go p e below _ T73 (mkF m 259 #[oI i0, oR h0.size, .unset, .unset, .unset] [(.int (23 : Int32))])
    refine own_by (fun t_ k_ => XS.istoreN XT73.here hx rfl (hb hby at_259) rfl (l' := #[oI i0, oR h0.size, oI (23 : Int32), .unset, .unset]) rfl k_) ?_
    show own_Go p e below _ T73 (mkF m 260 #[oI i0, oR h0.size, oI (23 : Int32), .unset, .unset] [])
    refine own_by (fun t_ k_ => XS.aloadN XT73.here hx rfl (hb hby at_260) rfl rfl  k_) ?_
    show own_Go p e below _ T73 (mkF m 261 #[oI i0, oR h0.size, oI (23 : Int32), .unset, .unset] [(.ref h0.size)])
    refine own_by (fun t_ k_ => XS.iloadN XT73.here hx rfl (hb hby at_261) rfl  k_) ?_
    show own_Go p e below _ T73 (mkF m 262 #[oI i0, oR h0.size, oI (23 : Int32), .unset, .unset] [(.int (23 : Int32)), (.ref h0.size)])
    refine own_ldR XT73 hx hZ eT73 VT73 rfl 23 (by decide) (by decide) (v := (.ref w18)) rfl (hb hby at_262) ?_
    show own_Go p e below _ T73 (mkF m 263 #[oI i0, oR h0.size, oI (23 : Int32), .unset, .unset] [(.ref w18)])
    refine own_by (fun t_ k_ => XS.astoreN XT73.here hx rfl (hb hby at_263) rfl rfl (l' := #[oI i0, oR h0.size, oI (23 : Int32), oR w18, .unset]) rfl k_) ?_
    show own_Go p e below _ T73 (mkF m 264 #[oI i0, oR h0.size, oI (23 : Int32), oR w18, .unset] [])
    refine own_by (fun t_ k_ => XS.iloadN XT73.here hx rfl (hb hby at_264) rfl  k_) ?_
    show own_Go p e below _ T73 (mkF m 265 #[oI i0, oR h0.size, oI (23 : Int32), oR w18, .unset] [(.int (23 : Int32))])
    refine own_by (fun t_ k_ => XT.bipushV XT73.here hx rfl (9 : Int32) (hb hby at_265) (by decide) k_) ?_
    show own_Go p e below _ T73 (mkF m 267 #[oI i0, oR h0.size, oI (23 : Int32), oR w18, .unset] [(.int (9 : Int32)), (.int (23 : Int32))])
    refine own_by (fun t_ k_ => XS.icmpYes XT73.here hx rfl (pc0 := 267) (pc' := 274) rfl (hb hby at_267) rfl (XT.ii_ge_t (by decide)) (by decide) (by decide) k_) ?_
    show own_Go p e below _ T73 (mkF m 274 #[oI i0, oR h0.size, oI (23 : Int32), oR w18, .unset] [])
    refine own_by (fun t_ k_ => XT.iconstV XT73.here hx rfl (0 : Int32) (hb hby at_274) (by decide) k_) ?_
    show own_Go p e below _ T73 (mkF m 275 #[oI i0, oR h0.size, oI (23 : Int32), oR w18, .unset] [(.int (0 : Int32))])
    refine own_by (fun t_ k_ => XS.istore XT73.here hx rfl (hb hby at_275) rfl (l' := #[oI i0, oR h0.size, oI (23 : Int32), oR w18, oI (0 : Int32)]) rfl k_) ?_
    show own_Go p e below _ T73 (mkF m 277 #[oI i0, oR h0.size, oI (23 : Int32), oR w18, oI (0 : Int32)] [])
    refine own_by (fun t_ k_ => XS.aloadN XT73.here hx rfl (hb hby at_277) rfl rfl  k_) ?_
    show own_Go p e below _ T73 (mkF m 278 #[oI i0, oR h0.size, oI (23 : Int32), oR w18, oI (0 : Int32)] [(.ref w18)])
    refine own_callV XT73 hx hZ hown (hw _ (List.mem_of_getElem? (i := 77) rfl)) (hw _ (List.mem_of_getElem? (i := 78) rfl)) (hw _ (List.mem_of_getElem? (i := 80) rfl)) (hw _ (List.mem_of_getElem? (i := 79) rfl)) (hw _ (List.mem_of_getElem? (i := 81) rfl)) (hw _ (List.mem_of_getElem? (i := 3) rfl)) (by decide) eT73 (b := w18) (E18.keep KT73) (argsL := []) (rest := []) (own_gn_met l Z a0 hw w18 w0 w1 w2 w14 w22 w23 w24 w25 w26 hT73 ⟨own_stak S0 KT73, own_stak S1 KT73, own_stak S2 KT73, own_stak S14 KT73, own_stak S22 KT73, own_stak S23 KT73, own_stak S24 KT73, own_stak S25 KT73, own_stak S26 KT73⟩) 0 (by decide) (by decide) (by rw [hml]; rfl) (lenOf pd_0 rfl) (Nat.le_of_eq rfl) (hb hby at_278) (by decide) (by decide) (st := [(.ref w18)]) rfl ?_
    intro T97 LT97 vT97 XT97 hQT97
    obtain ⟨rfl, eT97, rfl⟩ := hQT97
    show own_Go p e below _ T97 (mkF m 281 #[oI i0, oR h0.size, oI (23 : Int32), oR w18, oI (0 : Int32)] [(.int (own_gn w18 w0 w1 w2 w14 w22 w23 w24 w25 w26))])
    rw [show own_gn w18 w0 w1 w2 w14 w22 w23 w24 w25 w26 = (0 : Int32) by rw [own_gn, if_neg (F18.ne F0 (by decide)), if_neg (F18.ne F1 (by decide)), if_neg (F18.ne F2 (by decide)), if_neg (F18.ne F14 (by decide)), if_neg (F18.ne F22 (by decide)), if_neg (F18.ne F23 (by decide)), if_neg (F18.ne F24 (by decide)), if_neg (F18.ne F25 (by decide)), if_neg (F18.ne F26 (by decide))]]
    show own_Go p e below _ T97 (mkF m 281 #[oI i0, oR h0.size, oI (23 : Int32), oR w18, oI (0 : Int32)] [(.int (0 : Int32))])
    refine own_by (fun t_ k_ => XS.iload XT97.here hx rfl (hb hby at_281) rfl  k_) ?_
    show own_Go p e below _ T97 (mkF m 283 #[oI i0, oR h0.size, oI (23 : Int32), oR w18, oI (0 : Int32)] [(.int (0 : Int32)), (.int (0 : Int32))])
    refine own_by (fun t_ k_ => XS.icmpNo XT97.here hx rfl (hb hby at_283) rfl (XT.ii_ne_f (by decide)) k_) ?_
    show own_Go p e below _ T97 (mkF m 286 #[oI i0, oR h0.size, oI (23 : Int32), oR w18, oI (0 : Int32)] [])
    refine own_by (fun t_ k_ => XT.iconstV XT97.here hx rfl (1 : Int32) (hb hby at_286) (by decide) k_) ?_
    show own_Go p e below _ T97 (mkF m 287 #[oI i0, oR h0.size, oI (23 : Int32), oR w18, oI (0 : Int32)] [(.int (1 : Int32))])
    refine own_by (fun t_ k_ => XS.goto XT97.here hx rfl (pc0 := 287) (pc' := 291) rfl (hb hby at_287) (by decide) (by decide) k_) ?_
    show own_Go p e below _ T97 (mkF m 291 #[oI i0, oR h0.size, oI (23 : Int32), oR w18, oI (0 : Int32)] [(.int (1 : Int32))])
    exact own_retN XT97 hx hlk hret (by simp) (w := (1 : Int32)) (hb hby at_291) (by decide) (by decide) (by decide) (⟨rfl, own_app0 NT73⟩)
  · refine own_by (fun t_ k_ => XS.iloadN XT73.here hx rfl (hb hby at_252) rfl  k_) ?_
    show own_Go p e below _ T73 (mkF m 253 #[oI i0, oR h0.size, .unset, .unset, .unset] [(.int i0)])
    refine own_by (fun t_ k_ => XT73.ldcI hx hown (mvT hZ (hw _ (List.mem_of_getElem? (i := 76) rfl))) rfl (hb hby at_253) k_) ?_
    show own_Go p e below _ T73 (mkF m 255 #[oI i0, oR h0.size, .unset, .unset, .unset] [(.int (2147483647 : Int32)), (.int i0)])
    refine own_by (fun t_ k_ => XS.iand XT73.here hx rfl (hb hby at_255) rfl k_) ?_
    show own_Go p e below _ T73 (mkF m 256 #[oI i0, oR h0.size, .unset, .unset, .unset] [(.int (i0 &&& (2147483647 : Int32)))])
    refine own_by (fun t_ k_ => XT.bipushV XT73.here hx rfl (36 : Int32) (hb hby at_256) (by decide) k_) ?_
    show own_Go p e below _ T73 (mkF m 258 #[oI i0, oR h0.size, .unset, .unset, .unset] [(.int (36 : Int32)), (.int (i0 &&& (2147483647 : Int32)))])
    refine own_by (fun t_ k_ => iremM XT73 hx rfl (hb hby at_258) rfl (by decide) k_) ?_
    show own_Go p e below _ T73 (mkF m 259 #[oI i0, oR h0.size, .unset, .unset, .unset] [(.int ((i0 &&& (2147483647 : Int32)) % (36 : Int32)))])
    rw [hk]
    show own_Go p e below _ T73 (mkF m 259 #[oI i0, oR h0.size, .unset, .unset, .unset] [(.int (24 : Int32))])
    refine own_by (fun t_ k_ => XS.istoreN XT73.here hx rfl (hb hby at_259) rfl (l' := #[oI i0, oR h0.size, oI (24 : Int32), .unset, .unset]) rfl k_) ?_
    show own_Go p e below _ T73 (mkF m 260 #[oI i0, oR h0.size, oI (24 : Int32), .unset, .unset] [])
    refine own_by (fun t_ k_ => XS.aloadN XT73.here hx rfl (hb hby at_260) rfl rfl  k_) ?_
    show own_Go p e below _ T73 (mkF m 261 #[oI i0, oR h0.size, oI (24 : Int32), .unset, .unset] [(.ref h0.size)])
    refine own_by (fun t_ k_ => XS.iloadN XT73.here hx rfl (hb hby at_261) rfl  k_) ?_
    show own_Go p e below _ T73 (mkF m 262 #[oI i0, oR h0.size, oI (24 : Int32), .unset, .unset] [(.int (24 : Int32)), (.ref h0.size)])
    refine own_ldR XT73 hx hZ eT73 VT73 rfl 24 (by decide) (by decide) (v := (.ref w19)) rfl (hb hby at_262) ?_
    show own_Go p e below _ T73 (mkF m 263 #[oI i0, oR h0.size, oI (24 : Int32), .unset, .unset] [(.ref w19)])
    refine own_by (fun t_ k_ => XS.astoreN XT73.here hx rfl (hb hby at_263) rfl rfl (l' := #[oI i0, oR h0.size, oI (24 : Int32), oR w19, .unset]) rfl k_) ?_
    show own_Go p e below _ T73 (mkF m 264 #[oI i0, oR h0.size, oI (24 : Int32), oR w19, .unset] [])
    refine own_by (fun t_ k_ => XS.iloadN XT73.here hx rfl (hb hby at_264) rfl  k_) ?_
    show own_Go p e below _ T73 (mkF m 265 #[oI i0, oR h0.size, oI (24 : Int32), oR w19, .unset] [(.int (24 : Int32))])
    refine own_by (fun t_ k_ => XT.bipushV XT73.here hx rfl (9 : Int32) (hb hby at_265) (by decide) k_) ?_
    show own_Go p e below _ T73 (mkF m 267 #[oI i0, oR h0.size, oI (24 : Int32), oR w19, .unset] [(.int (9 : Int32)), (.int (24 : Int32))])
    refine own_by (fun t_ k_ => XS.icmpYes XT73.here hx rfl (pc0 := 267) (pc' := 274) rfl (hb hby at_267) rfl (XT.ii_ge_t (by decide)) (by decide) (by decide) k_) ?_
    show own_Go p e below _ T73 (mkF m 274 #[oI i0, oR h0.size, oI (24 : Int32), oR w19, .unset] [])
    refine own_by (fun t_ k_ => XT.iconstV XT73.here hx rfl (0 : Int32) (hb hby at_274) (by decide) k_) ?_
    show own_Go p e below _ T73 (mkF m 275 #[oI i0, oR h0.size, oI (24 : Int32), oR w19, .unset] [(.int (0 : Int32))])
    refine own_by (fun t_ k_ => XS.istore XT73.here hx rfl (hb hby at_275) rfl (l' := #[oI i0, oR h0.size, oI (24 : Int32), oR w19, oI (0 : Int32)]) rfl k_) ?_
    show own_Go p e below _ T73 (mkF m 277 #[oI i0, oR h0.size, oI (24 : Int32), oR w19, oI (0 : Int32)] [])
    refine own_by (fun t_ k_ => XS.aloadN XT73.here hx rfl (hb hby at_277) rfl rfl  k_) ?_
    show own_Go p e below _ T73 (mkF m 278 #[oI i0, oR h0.size, oI (24 : Int32), oR w19, oI (0 : Int32)] [(.ref w19)])
    refine own_callV XT73 hx hZ hown (hw _ (List.mem_of_getElem? (i := 77) rfl)) (hw _ (List.mem_of_getElem? (i := 78) rfl)) (hw _ (List.mem_of_getElem? (i := 80) rfl)) (hw _ (List.mem_of_getElem? (i := 79) rfl)) (hw _ (List.mem_of_getElem? (i := 81) rfl)) (hw _ (List.mem_of_getElem? (i := 3) rfl)) (by decide) eT73 (b := w19) (E19.keep KT73) (argsL := []) (rest := []) (own_gn_met l Z a0 hw w19 w0 w1 w2 w14 w22 w23 w24 w25 w26 hT73 ⟨own_stak S0 KT73, own_stak S1 KT73, own_stak S2 KT73, own_stak S14 KT73, own_stak S22 KT73, own_stak S23 KT73, own_stak S24 KT73, own_stak S25 KT73, own_stak S26 KT73⟩) 0 (by decide) (by decide) (by rw [hml]; rfl) (lenOf pd_0 rfl) (Nat.le_of_eq rfl) (hb hby at_278) (by decide) (by decide) (st := [(.ref w19)]) rfl ?_
    intro T98 LT98 vT98 XT98 hQT98
    obtain ⟨rfl, eT98, rfl⟩ := hQT98
    show own_Go p e below _ T98 (mkF m 281 #[oI i0, oR h0.size, oI (24 : Int32), oR w19, oI (0 : Int32)] [(.int (own_gn w19 w0 w1 w2 w14 w22 w23 w24 w25 w26))])
    rw [show own_gn w19 w0 w1 w2 w14 w22 w23 w24 w25 w26 = (0 : Int32) by rw [own_gn, if_neg (F19.ne F0 (by decide)), if_neg (F19.ne F1 (by decide)), if_neg (F19.ne F2 (by decide)), if_neg (F19.ne F14 (by decide)), if_neg (F19.ne F22 (by decide)), if_neg (F19.ne F23 (by decide)), if_neg (F19.ne F24 (by decide)), if_neg (F19.ne F25 (by decide)), if_neg (F19.ne F26 (by decide))]]
    show own_Go p e below _ T98 (mkF m 281 #[oI i0, oR h0.size, oI (24 : Int32), oR w19, oI (0 : Int32)] [(.int (0 : Int32))])
    refine own_by (fun t_ k_ => XS.iload XT98.here hx rfl (hb hby at_281) rfl  k_) ?_
    show own_Go p e below _ T98 (mkF m 283 #[oI i0, oR h0.size, oI (24 : Int32), oR w19, oI (0 : Int32)] [(.int (0 : Int32)), (.int (0 : Int32))])
    refine own_by (fun t_ k_ => XS.icmpNo XT98.here hx rfl (hb hby at_283) rfl (XT.ii_ne_f (by decide)) k_) ?_
    show own_Go p e below _ T98 (mkF m 286 #[oI i0, oR h0.size, oI (24 : Int32), oR w19, oI (0 : Int32)] [])
    refine own_by (fun t_ k_ => XT.iconstV XT98.here hx rfl (1 : Int32) (hb hby at_286) (by decide) k_) ?_
    show own_Go p e below _ T98 (mkF m 287 #[oI i0, oR h0.size, oI (24 : Int32), oR w19, oI (0 : Int32)] [(.int (1 : Int32))])
    refine own_by (fun t_ k_ => XS.goto XT98.here hx rfl (pc0 := 287) (pc' := 291) rfl (hb hby at_287) (by decide) (by decide) k_) ?_
    show own_Go p e below _ T98 (mkF m 291 #[oI i0, oR h0.size, oI (24 : Int32), oR w19, oI (0 : Int32)] [(.int (1 : Int32))])
    exact own_retN XT98 hx hlk hret (by simp) (w := (1 : Int32)) (hb hby at_291) (by decide) (by decide) (by decide) (⟨rfl, own_app0 NT73⟩)
  · refine own_by (fun t_ k_ => XS.iloadN XT73.here hx rfl (hb hby at_252) rfl  k_) ?_
    show own_Go p e below _ T73 (mkF m 253 #[oI i0, oR h0.size, .unset, .unset, .unset] [(.int i0)])
    refine own_by (fun t_ k_ => XT73.ldcI hx hown (mvT hZ (hw _ (List.mem_of_getElem? (i := 76) rfl))) rfl (hb hby at_253) k_) ?_
    show own_Go p e below _ T73 (mkF m 255 #[oI i0, oR h0.size, .unset, .unset, .unset] [(.int (2147483647 : Int32)), (.int i0)])
    refine own_by (fun t_ k_ => XS.iand XT73.here hx rfl (hb hby at_255) rfl k_) ?_
    show own_Go p e below _ T73 (mkF m 256 #[oI i0, oR h0.size, .unset, .unset, .unset] [(.int (i0 &&& (2147483647 : Int32)))])
    refine own_by (fun t_ k_ => XT.bipushV XT73.here hx rfl (36 : Int32) (hb hby at_256) (by decide) k_) ?_
    show own_Go p e below _ T73 (mkF m 258 #[oI i0, oR h0.size, .unset, .unset, .unset] [(.int (36 : Int32)), (.int (i0 &&& (2147483647 : Int32)))])
    refine own_by (fun t_ k_ => iremM XT73 hx rfl (hb hby at_258) rfl (by decide) k_) ?_
    show own_Go p e below _ T73 (mkF m 259 #[oI i0, oR h0.size, .unset, .unset, .unset] [(.int ((i0 &&& (2147483647 : Int32)) % (36 : Int32)))])
    rw [hk]
    show own_Go p e below _ T73 (mkF m 259 #[oI i0, oR h0.size, .unset, .unset, .unset] [(.int (25 : Int32))])
    refine own_by (fun t_ k_ => XS.istoreN XT73.here hx rfl (hb hby at_259) rfl (l' := #[oI i0, oR h0.size, oI (25 : Int32), .unset, .unset]) rfl k_) ?_
    show own_Go p e below _ T73 (mkF m 260 #[oI i0, oR h0.size, oI (25 : Int32), .unset, .unset] [])
    refine own_by (fun t_ k_ => XS.aloadN XT73.here hx rfl (hb hby at_260) rfl rfl  k_) ?_
    show own_Go p e below _ T73 (mkF m 261 #[oI i0, oR h0.size, oI (25 : Int32), .unset, .unset] [(.ref h0.size)])
    refine own_by (fun t_ k_ => XS.iloadN XT73.here hx rfl (hb hby at_261) rfl  k_) ?_
    show own_Go p e below _ T73 (mkF m 262 #[oI i0, oR h0.size, oI (25 : Int32), .unset, .unset] [(.int (25 : Int32)), (.ref h0.size)])
    refine own_ldR XT73 hx hZ eT73 VT73 rfl 25 (by decide) (by decide) (v := (.ref w20)) rfl (hb hby at_262) ?_
    show own_Go p e below _ T73 (mkF m 263 #[oI i0, oR h0.size, oI (25 : Int32), .unset, .unset] [(.ref w20)])
    refine own_by (fun t_ k_ => XS.astoreN XT73.here hx rfl (hb hby at_263) rfl rfl (l' := #[oI i0, oR h0.size, oI (25 : Int32), oR w20, .unset]) rfl k_) ?_
    show own_Go p e below _ T73 (mkF m 264 #[oI i0, oR h0.size, oI (25 : Int32), oR w20, .unset] [])
    refine own_by (fun t_ k_ => XS.iloadN XT73.here hx rfl (hb hby at_264) rfl  k_) ?_
    show own_Go p e below _ T73 (mkF m 265 #[oI i0, oR h0.size, oI (25 : Int32), oR w20, .unset] [(.int (25 : Int32))])
    refine own_by (fun t_ k_ => XT.bipushV XT73.here hx rfl (9 : Int32) (hb hby at_265) (by decide) k_) ?_
    show own_Go p e below _ T73 (mkF m 267 #[oI i0, oR h0.size, oI (25 : Int32), oR w20, .unset] [(.int (9 : Int32)), (.int (25 : Int32))])
    refine own_by (fun t_ k_ => XS.icmpYes XT73.here hx rfl (pc0 := 267) (pc' := 274) rfl (hb hby at_267) rfl (XT.ii_ge_t (by decide)) (by decide) (by decide) k_) ?_
    show own_Go p e below _ T73 (mkF m 274 #[oI i0, oR h0.size, oI (25 : Int32), oR w20, .unset] [])
    refine own_by (fun t_ k_ => XT.iconstV XT73.here hx rfl (0 : Int32) (hb hby at_274) (by decide) k_) ?_
    show own_Go p e below _ T73 (mkF m 275 #[oI i0, oR h0.size, oI (25 : Int32), oR w20, .unset] [(.int (0 : Int32))])
    refine own_by (fun t_ k_ => XS.istore XT73.here hx rfl (hb hby at_275) rfl (l' := #[oI i0, oR h0.size, oI (25 : Int32), oR w20, oI (0 : Int32)]) rfl k_) ?_
    show own_Go p e below _ T73 (mkF m 277 #[oI i0, oR h0.size, oI (25 : Int32), oR w20, oI (0 : Int32)] [])
    refine own_by (fun t_ k_ => XS.aloadN XT73.here hx rfl (hb hby at_277) rfl rfl  k_) ?_
    show own_Go p e below _ T73 (mkF m 278 #[oI i0, oR h0.size, oI (25 : Int32), oR w20, oI (0 : Int32)] [(.ref w20)])
    refine own_callV XT73 hx hZ hown (hw _ (List.mem_of_getElem? (i := 77) rfl)) (hw _ (List.mem_of_getElem? (i := 78) rfl)) (hw _ (List.mem_of_getElem? (i := 80) rfl)) (hw _ (List.mem_of_getElem? (i := 79) rfl)) (hw _ (List.mem_of_getElem? (i := 81) rfl)) (hw _ (List.mem_of_getElem? (i := 3) rfl)) (by decide) eT73 (b := w20) (E20.keep KT73) (argsL := []) (rest := []) (own_gn_met l Z a0 hw w20 w0 w1 w2 w14 w22 w23 w24 w25 w26 hT73 ⟨own_stak S0 KT73, own_stak S1 KT73, own_stak S2 KT73, own_stak S14 KT73, own_stak S22 KT73, own_stak S23 KT73, own_stak S24 KT73, own_stak S25 KT73, own_stak S26 KT73⟩) 0 (by decide) (by decide) (by rw [hml]; rfl) (lenOf pd_0 rfl) (Nat.le_of_eq rfl) (hb hby at_278) (by decide) (by decide) (st := [(.ref w20)]) rfl ?_
    intro T99 LT99 vT99 XT99 hQT99
    obtain ⟨rfl, eT99, rfl⟩ := hQT99
    show own_Go p e below _ T99 (mkF m 281 #[oI i0, oR h0.size, oI (25 : Int32), oR w20, oI (0 : Int32)] [(.int (own_gn w20 w0 w1 w2 w14 w22 w23 w24 w25 w26))])
    rw [show own_gn w20 w0 w1 w2 w14 w22 w23 w24 w25 w26 = (0 : Int32) by rw [own_gn, if_neg (F20.ne F0 (by decide)), if_neg (F20.ne F1 (by decide)), if_neg (F20.ne F2 (by decide)), if_neg (F20.ne F14 (by decide)), if_neg (F20.ne F22 (by decide)), if_neg (F20.ne F23 (by decide)), if_neg (F20.ne F24 (by decide)), if_neg (F20.ne F25 (by decide)), if_neg (F20.ne F26 (by decide))]]
    show own_Go p e below _ T99 (mkF m 281 #[oI i0, oR h0.size, oI (25 : Int32), oR w20, oI (0 : Int32)] [(.int (0 : Int32))])
    refine own_by (fun t_ k_ => XS.iload XT99.here hx rfl (hb hby at_281) rfl  k_) ?_
    show own_Go p e below _ T99 (mkF m 283 #[oI i0, oR h0.size, oI (25 : Int32), oR w20, oI (0 : Int32)] [(.int (0 : Int32)), (.int (0 : Int32))])
    refine own_by (fun t_ k_ => XS.icmpNo XT99.here hx rfl (hb hby at_283) rfl (XT.ii_ne_f (by decide)) k_) ?_
    show own_Go p e below _ T99 (mkF m 286 #[oI i0, oR h0.size, oI (25 : Int32), oR w20, oI (0 : Int32)] [])
    refine own_by (fun t_ k_ => XT.iconstV XT99.here hx rfl (1 : Int32) (hb hby at_286) (by decide) k_) ?_
    show own_Go p e below _ T99 (mkF m 287 #[oI i0, oR h0.size, oI (25 : Int32), oR w20, oI (0 : Int32)] [(.int (1 : Int32))])
    refine own_by (fun t_ k_ => XS.goto XT99.here hx rfl (pc0 := 287) (pc' := 291) rfl (hb hby at_287) (by decide) (by decide) k_) ?_
    show own_Go p e below _ T99 (mkF m 291 #[oI i0, oR h0.size, oI (25 : Int32), oR w20, oI (0 : Int32)] [(.int (1 : Int32))])
    exact own_retN XT99 hx hlk hret (by simp) (w := (1 : Int32)) (hb hby at_291) (by decide) (by decide) (by decide) (⟨rfl, own_app0 NT73⟩)
  · refine own_by (fun t_ k_ => XS.iloadN XT73.here hx rfl (hb hby at_252) rfl  k_) ?_
    show own_Go p e below _ T73 (mkF m 253 #[oI i0, oR h0.size, .unset, .unset, .unset] [(.int i0)])
    refine own_by (fun t_ k_ => XT73.ldcI hx hown (mvT hZ (hw _ (List.mem_of_getElem? (i := 76) rfl))) rfl (hb hby at_253) k_) ?_
    show own_Go p e below _ T73 (mkF m 255 #[oI i0, oR h0.size, .unset, .unset, .unset] [(.int (2147483647 : Int32)), (.int i0)])
    refine own_by (fun t_ k_ => XS.iand XT73.here hx rfl (hb hby at_255) rfl k_) ?_
    show own_Go p e below _ T73 (mkF m 256 #[oI i0, oR h0.size, .unset, .unset, .unset] [(.int (i0 &&& (2147483647 : Int32)))])
    refine own_by (fun t_ k_ => XT.bipushV XT73.here hx rfl (36 : Int32) (hb hby at_256) (by decide) k_) ?_
    show own_Go p e below _ T73 (mkF m 258 #[oI i0, oR h0.size, .unset, .unset, .unset] [(.int (36 : Int32)), (.int (i0 &&& (2147483647 : Int32)))])
    refine own_by (fun t_ k_ => iremM XT73 hx rfl (hb hby at_258) rfl (by decide) k_) ?_
    show own_Go p e below _ T73 (mkF m 259 #[oI i0, oR h0.size, .unset, .unset, .unset] [(.int ((i0 &&& (2147483647 : Int32)) % (36 : Int32)))])
    rw [hk]
    show own_Go p e below _ T73 (mkF m 259 #[oI i0, oR h0.size, .unset, .unset, .unset] [(.int (26 : Int32))])
    refine own_by (fun t_ k_ => XS.istoreN XT73.here hx rfl (hb hby at_259) rfl (l' := #[oI i0, oR h0.size, oI (26 : Int32), .unset, .unset]) rfl k_) ?_
    show own_Go p e below _ T73 (mkF m 260 #[oI i0, oR h0.size, oI (26 : Int32), .unset, .unset] [])
    refine own_by (fun t_ k_ => XS.aloadN XT73.here hx rfl (hb hby at_260) rfl rfl  k_) ?_
    show own_Go p e below _ T73 (mkF m 261 #[oI i0, oR h0.size, oI (26 : Int32), .unset, .unset] [(.ref h0.size)])
    refine own_by (fun t_ k_ => XS.iloadN XT73.here hx rfl (hb hby at_261) rfl  k_) ?_
    show own_Go p e below _ T73 (mkF m 262 #[oI i0, oR h0.size, oI (26 : Int32), .unset, .unset] [(.int (26 : Int32)), (.ref h0.size)])
    refine own_ldR XT73 hx hZ eT73 VT73 rfl 26 (by decide) (by decide) (v := (.ref w21)) rfl (hb hby at_262) ?_
    show own_Go p e below _ T73 (mkF m 263 #[oI i0, oR h0.size, oI (26 : Int32), .unset, .unset] [(.ref w21)])
    refine own_by (fun t_ k_ => XS.astoreN XT73.here hx rfl (hb hby at_263) rfl rfl (l' := #[oI i0, oR h0.size, oI (26 : Int32), oR w21, .unset]) rfl k_) ?_
    show own_Go p e below _ T73 (mkF m 264 #[oI i0, oR h0.size, oI (26 : Int32), oR w21, .unset] [])
    refine own_by (fun t_ k_ => XS.iloadN XT73.here hx rfl (hb hby at_264) rfl  k_) ?_
    show own_Go p e below _ T73 (mkF m 265 #[oI i0, oR h0.size, oI (26 : Int32), oR w21, .unset] [(.int (26 : Int32))])
    refine own_by (fun t_ k_ => XT.bipushV XT73.here hx rfl (9 : Int32) (hb hby at_265) (by decide) k_) ?_
    show own_Go p e below _ T73 (mkF m 267 #[oI i0, oR h0.size, oI (26 : Int32), oR w21, .unset] [(.int (9 : Int32)), (.int (26 : Int32))])
    refine own_by (fun t_ k_ => XS.icmpYes XT73.here hx rfl (pc0 := 267) (pc' := 274) rfl (hb hby at_267) rfl (XT.ii_ge_t (by decide)) (by decide) (by decide) k_) ?_
    show own_Go p e below _ T73 (mkF m 274 #[oI i0, oR h0.size, oI (26 : Int32), oR w21, .unset] [])
    refine own_by (fun t_ k_ => XT.iconstV XT73.here hx rfl (0 : Int32) (hb hby at_274) (by decide) k_) ?_
    show own_Go p e below _ T73 (mkF m 275 #[oI i0, oR h0.size, oI (26 : Int32), oR w21, .unset] [(.int (0 : Int32))])
    refine own_by (fun t_ k_ => XS.istore XT73.here hx rfl (hb hby at_275) rfl (l' := #[oI i0, oR h0.size, oI (26 : Int32), oR w21, oI (0 : Int32)]) rfl k_) ?_
    show own_Go p e below _ T73 (mkF m 277 #[oI i0, oR h0.size, oI (26 : Int32), oR w21, oI (0 : Int32)] [])
    refine own_by (fun t_ k_ => XS.aloadN XT73.here hx rfl (hb hby at_277) rfl rfl  k_) ?_
    show own_Go p e below _ T73 (mkF m 278 #[oI i0, oR h0.size, oI (26 : Int32), oR w21, oI (0 : Int32)] [(.ref w21)])
    refine own_callV XT73 hx hZ hown (hw _ (List.mem_of_getElem? (i := 77) rfl)) (hw _ (List.mem_of_getElem? (i := 78) rfl)) (hw _ (List.mem_of_getElem? (i := 80) rfl)) (hw _ (List.mem_of_getElem? (i := 79) rfl)) (hw _ (List.mem_of_getElem? (i := 81) rfl)) (hw _ (List.mem_of_getElem? (i := 3) rfl)) (by decide) eT73 (b := w21) (E21.keep KT73) (argsL := []) (rest := []) (own_gn_met l Z a0 hw w21 w0 w1 w2 w14 w22 w23 w24 w25 w26 hT73 ⟨own_stak S0 KT73, own_stak S1 KT73, own_stak S2 KT73, own_stak S14 KT73, own_stak S22 KT73, own_stak S23 KT73, own_stak S24 KT73, own_stak S25 KT73, own_stak S26 KT73⟩) 0 (by decide) (by decide) (by rw [hml]; rfl) (lenOf pd_0 rfl) (Nat.le_of_eq rfl) (hb hby at_278) (by decide) (by decide) (st := [(.ref w21)]) rfl ?_
    intro T100 LT100 vT100 XT100 hQT100
    obtain ⟨rfl, eT100, rfl⟩ := hQT100
    show own_Go p e below _ T100 (mkF m 281 #[oI i0, oR h0.size, oI (26 : Int32), oR w21, oI (0 : Int32)] [(.int (own_gn w21 w0 w1 w2 w14 w22 w23 w24 w25 w26))])
    rw [show own_gn w21 w0 w1 w2 w14 w22 w23 w24 w25 w26 = (0 : Int32) by rw [own_gn, if_neg (F21.ne F0 (by decide)), if_neg (F21.ne F1 (by decide)), if_neg (F21.ne F2 (by decide)), if_neg (F21.ne F14 (by decide)), if_neg (F21.ne F22 (by decide)), if_neg (F21.ne F23 (by decide)), if_neg (F21.ne F24 (by decide)), if_neg (F21.ne F25 (by decide)), if_neg (F21.ne F26 (by decide))]]
    show own_Go p e below _ T100 (mkF m 281 #[oI i0, oR h0.size, oI (26 : Int32), oR w21, oI (0 : Int32)] [(.int (0 : Int32))])
    refine own_by (fun t_ k_ => XS.iload XT100.here hx rfl (hb hby at_281) rfl  k_) ?_
    show own_Go p e below _ T100 (mkF m 283 #[oI i0, oR h0.size, oI (26 : Int32), oR w21, oI (0 : Int32)] [(.int (0 : Int32)), (.int (0 : Int32))])
    refine own_by (fun t_ k_ => XS.icmpNo XT100.here hx rfl (hb hby at_283) rfl (XT.ii_ne_f (by decide)) k_) ?_
    show own_Go p e below _ T100 (mkF m 286 #[oI i0, oR h0.size, oI (26 : Int32), oR w21, oI (0 : Int32)] [])
    refine own_by (fun t_ k_ => XT.iconstV XT100.here hx rfl (1 : Int32) (hb hby at_286) (by decide) k_) ?_
    show own_Go p e below _ T100 (mkF m 287 #[oI i0, oR h0.size, oI (26 : Int32), oR w21, oI (0 : Int32)] [(.int (1 : Int32))])
    refine own_by (fun t_ k_ => XS.goto XT100.here hx rfl (pc0 := 287) (pc' := 291) rfl (hb hby at_287) (by decide) (by decide) k_) ?_
    show own_Go p e below _ T100 (mkF m 291 #[oI i0, oR h0.size, oI (26 : Int32), oR w21, oI (0 : Int32)] [(.int (1 : Int32))])
    exact own_retN XT100 hx hlk hret (by simp) (w := (1 : Int32)) (hb hby at_291) (by decide) (by decide) (by decide) (⟨rfl, own_app0 NT73⟩)
  · refine own_by (fun t_ k_ => XS.iloadN XT73.here hx rfl (hb hby at_252) rfl  k_) ?_
    show own_Go p e below _ T73 (mkF m 253 #[oI i0, oR h0.size, .unset, .unset, .unset] [(.int i0)])
    refine own_by (fun t_ k_ => XT73.ldcI hx hown (mvT hZ (hw _ (List.mem_of_getElem? (i := 76) rfl))) rfl (hb hby at_253) k_) ?_
    show own_Go p e below _ T73 (mkF m 255 #[oI i0, oR h0.size, .unset, .unset, .unset] [(.int (2147483647 : Int32)), (.int i0)])
    refine own_by (fun t_ k_ => XS.iand XT73.here hx rfl (hb hby at_255) rfl k_) ?_
    show own_Go p e below _ T73 (mkF m 256 #[oI i0, oR h0.size, .unset, .unset, .unset] [(.int (i0 &&& (2147483647 : Int32)))])
    refine own_by (fun t_ k_ => XT.bipushV XT73.here hx rfl (36 : Int32) (hb hby at_256) (by decide) k_) ?_
    show own_Go p e below _ T73 (mkF m 258 #[oI i0, oR h0.size, .unset, .unset, .unset] [(.int (36 : Int32)), (.int (i0 &&& (2147483647 : Int32)))])
    refine own_by (fun t_ k_ => iremM XT73 hx rfl (hb hby at_258) rfl (by decide) k_) ?_
    show own_Go p e below _ T73 (mkF m 259 #[oI i0, oR h0.size, .unset, .unset, .unset] [(.int ((i0 &&& (2147483647 : Int32)) % (36 : Int32)))])
    rw [hk]
    show own_Go p e below _ T73 (mkF m 259 #[oI i0, oR h0.size, .unset, .unset, .unset] [(.int (27 : Int32))])
    refine own_by (fun t_ k_ => XS.istoreN XT73.here hx rfl (hb hby at_259) rfl (l' := #[oI i0, oR h0.size, oI (27 : Int32), .unset, .unset]) rfl k_) ?_
    show own_Go p e below _ T73 (mkF m 260 #[oI i0, oR h0.size, oI (27 : Int32), .unset, .unset] [])
    refine own_by (fun t_ k_ => XS.aloadN XT73.here hx rfl (hb hby at_260) rfl rfl  k_) ?_
    show own_Go p e below _ T73 (mkF m 261 #[oI i0, oR h0.size, oI (27 : Int32), .unset, .unset] [(.ref h0.size)])
    refine own_by (fun t_ k_ => XS.iloadN XT73.here hx rfl (hb hby at_261) rfl  k_) ?_
    show own_Go p e below _ T73 (mkF m 262 #[oI i0, oR h0.size, oI (27 : Int32), .unset, .unset] [(.int (27 : Int32)), (.ref h0.size)])
    refine own_ldR XT73 hx hZ eT73 VT73 rfl 27 (by decide) (by decide) (v := (.ref w27)) rfl (hb hby at_262) ?_
    show own_Go p e below _ T73 (mkF m 263 #[oI i0, oR h0.size, oI (27 : Int32), .unset, .unset] [(.ref w27)])
    refine own_by (fun t_ k_ => XS.astoreN XT73.here hx rfl (hb hby at_263) rfl rfl (l' := #[oI i0, oR h0.size, oI (27 : Int32), oR w27, .unset]) rfl k_) ?_
    show own_Go p e below _ T73 (mkF m 264 #[oI i0, oR h0.size, oI (27 : Int32), oR w27, .unset] [])
    refine own_by (fun t_ k_ => XS.iloadN XT73.here hx rfl (hb hby at_264) rfl  k_) ?_
    show own_Go p e below _ T73 (mkF m 265 #[oI i0, oR h0.size, oI (27 : Int32), oR w27, .unset] [(.int (27 : Int32))])
    refine own_by (fun t_ k_ => XT.bipushV XT73.here hx rfl (9 : Int32) (hb hby at_265) (by decide) k_) ?_
    show own_Go p e below _ T73 (mkF m 267 #[oI i0, oR h0.size, oI (27 : Int32), oR w27, .unset] [(.int (9 : Int32)), (.int (27 : Int32))])
    refine own_by (fun t_ k_ => XS.icmpYes XT73.here hx rfl (pc0 := 267) (pc' := 274) rfl (hb hby at_267) rfl (XT.ii_ge_t (by decide)) (by decide) (by decide) k_) ?_
    show own_Go p e below _ T73 (mkF m 274 #[oI i0, oR h0.size, oI (27 : Int32), oR w27, .unset] [])
    refine own_by (fun t_ k_ => XT.iconstV XT73.here hx rfl (0 : Int32) (hb hby at_274) (by decide) k_) ?_
    show own_Go p e below _ T73 (mkF m 275 #[oI i0, oR h0.size, oI (27 : Int32), oR w27, .unset] [(.int (0 : Int32))])
    refine own_by (fun t_ k_ => XS.istore XT73.here hx rfl (hb hby at_275) rfl (l' := #[oI i0, oR h0.size, oI (27 : Int32), oR w27, oI (0 : Int32)]) rfl k_) ?_
    show own_Go p e below _ T73 (mkF m 277 #[oI i0, oR h0.size, oI (27 : Int32), oR w27, oI (0 : Int32)] [])
    refine own_by (fun t_ k_ => XS.aloadN XT73.here hx rfl (hb hby at_277) rfl rfl  k_) ?_
    show own_Go p e below _ T73 (mkF m 278 #[oI i0, oR h0.size, oI (27 : Int32), oR w27, oI (0 : Int32)] [(.ref w27)])
    refine own_callV XT73 hx hZ hown (hw _ (List.mem_of_getElem? (i := 77) rfl)) (hw _ (List.mem_of_getElem? (i := 78) rfl)) (hw _ (List.mem_of_getElem? (i := 80) rfl)) (hw _ (List.mem_of_getElem? (i := 79) rfl)) (hw _ (List.mem_of_getElem? (i := 81) rfl)) (hw _ (List.mem_of_getElem? (i := 3) rfl)) (by decide) eT73 (b := w27) (E27.keep KT73) (argsL := []) (rest := []) (own_gn_met l Z a0 hw w27 w0 w1 w2 w14 w22 w23 w24 w25 w26 hT73 ⟨own_stak S0 KT73, own_stak S1 KT73, own_stak S2 KT73, own_stak S14 KT73, own_stak S22 KT73, own_stak S23 KT73, own_stak S24 KT73, own_stak S25 KT73, own_stak S26 KT73⟩) 0 (by decide) (by decide) (by rw [hml]; rfl) (lenOf pd_0 rfl) (Nat.le_of_eq rfl) (hb hby at_278) (by decide) (by decide) (st := [(.ref w27)]) rfl ?_
    intro T101 LT101 vT101 XT101 hQT101
    obtain ⟨rfl, eT101, rfl⟩ := hQT101
    show own_Go p e below _ T101 (mkF m 281 #[oI i0, oR h0.size, oI (27 : Int32), oR w27, oI (0 : Int32)] [(.int (own_gn w27 w0 w1 w2 w14 w22 w23 w24 w25 w26))])
    rw [show own_gn w27 w0 w1 w2 w14 w22 w23 w24 w25 w26 = (0 : Int32) by rw [own_gn, if_neg (F27.ne F0 (by decide)), if_neg (F27.ne F1 (by decide)), if_neg (F27.ne F2 (by decide)), if_neg (F27.ne F14 (by decide)), if_neg (F27.ne F22 (by decide)), if_neg (F27.ne F23 (by decide)), if_neg (F27.ne F24 (by decide)), if_neg (F27.ne F25 (by decide)), if_neg (F27.ne F26 (by decide))]]
    show own_Go p e below _ T101 (mkF m 281 #[oI i0, oR h0.size, oI (27 : Int32), oR w27, oI (0 : Int32)] [(.int (0 : Int32))])
    refine own_by (fun t_ k_ => XS.iload XT101.here hx rfl (hb hby at_281) rfl  k_) ?_
    show own_Go p e below _ T101 (mkF m 283 #[oI i0, oR h0.size, oI (27 : Int32), oR w27, oI (0 : Int32)] [(.int (0 : Int32)), (.int (0 : Int32))])
    refine own_by (fun t_ k_ => XS.icmpNo XT101.here hx rfl (hb hby at_283) rfl (XT.ii_ne_f (by decide)) k_) ?_
    show own_Go p e below _ T101 (mkF m 286 #[oI i0, oR h0.size, oI (27 : Int32), oR w27, oI (0 : Int32)] [])
    refine own_by (fun t_ k_ => XT.iconstV XT101.here hx rfl (1 : Int32) (hb hby at_286) (by decide) k_) ?_
    show own_Go p e below _ T101 (mkF m 287 #[oI i0, oR h0.size, oI (27 : Int32), oR w27, oI (0 : Int32)] [(.int (1 : Int32))])
    refine own_by (fun t_ k_ => XS.goto XT101.here hx rfl (pc0 := 287) (pc' := 291) rfl (hb hby at_287) (by decide) (by decide) k_) ?_
    show own_Go p e below _ T101 (mkF m 291 #[oI i0, oR h0.size, oI (27 : Int32), oR w27, oI (0 : Int32)] [(.int (1 : Int32))])
    exact own_retN XT101 hx hlk hret (by simp) (w := (1 : Int32)) (hb hby at_291) (by decide) (by decide) (by decide) (⟨rfl, own_app0 NT73⟩)
  · refine own_by (fun t_ k_ => XS.iloadN XT73.here hx rfl (hb hby at_252) rfl  k_) ?_
    show own_Go p e below _ T73 (mkF m 253 #[oI i0, oR h0.size, .unset, .unset, .unset] [(.int i0)])
    refine own_by (fun t_ k_ => XT73.ldcI hx hown (mvT hZ (hw _ (List.mem_of_getElem? (i := 76) rfl))) rfl (hb hby at_253) k_) ?_
    show own_Go p e below _ T73 (mkF m 255 #[oI i0, oR h0.size, .unset, .unset, .unset] [(.int (2147483647 : Int32)), (.int i0)])
    refine own_by (fun t_ k_ => XS.iand XT73.here hx rfl (hb hby at_255) rfl k_) ?_
    show own_Go p e below _ T73 (mkF m 256 #[oI i0, oR h0.size, .unset, .unset, .unset] [(.int (i0 &&& (2147483647 : Int32)))])
    refine own_by (fun t_ k_ => XT.bipushV XT73.here hx rfl (36 : Int32) (hb hby at_256) (by decide) k_) ?_
    show own_Go p e below _ T73 (mkF m 258 #[oI i0, oR h0.size, .unset, .unset, .unset] [(.int (36 : Int32)), (.int (i0 &&& (2147483647 : Int32)))])
    refine own_by (fun t_ k_ => iremM XT73 hx rfl (hb hby at_258) rfl (by decide) k_) ?_
    show own_Go p e below _ T73 (mkF m 259 #[oI i0, oR h0.size, .unset, .unset, .unset] [(.int ((i0 &&& (2147483647 : Int32)) % (36 : Int32)))])
    rw [hk]
    show own_Go p e below _ T73 (mkF m 259 #[oI i0, oR h0.size, .unset, .unset, .unset] [(.int (28 : Int32))])
    refine own_by (fun t_ k_ => XS.istoreN XT73.here hx rfl (hb hby at_259) rfl (l' := #[oI i0, oR h0.size, oI (28 : Int32), .unset, .unset]) rfl k_) ?_
    show own_Go p e below _ T73 (mkF m 260 #[oI i0, oR h0.size, oI (28 : Int32), .unset, .unset] [])
    refine own_by (fun t_ k_ => XS.aloadN XT73.here hx rfl (hb hby at_260) rfl rfl  k_) ?_
    show own_Go p e below _ T73 (mkF m 261 #[oI i0, oR h0.size, oI (28 : Int32), .unset, .unset] [(.ref h0.size)])
    refine own_by (fun t_ k_ => XS.iloadN XT73.here hx rfl (hb hby at_261) rfl  k_) ?_
    show own_Go p e below _ T73 (mkF m 262 #[oI i0, oR h0.size, oI (28 : Int32), .unset, .unset] [(.int (28 : Int32)), (.ref h0.size)])
    refine own_ldR XT73 hx hZ eT73 VT73 rfl 28 (by decide) (by decide) (v := (.ref w28)) rfl (hb hby at_262) ?_
    show own_Go p e below _ T73 (mkF m 263 #[oI i0, oR h0.size, oI (28 : Int32), .unset, .unset] [(.ref w28)])
    refine own_by (fun t_ k_ => XS.astoreN XT73.here hx rfl (hb hby at_263) rfl rfl (l' := #[oI i0, oR h0.size, oI (28 : Int32), oR w28, .unset]) rfl k_) ?_
    show own_Go p e below _ T73 (mkF m 264 #[oI i0, oR h0.size, oI (28 : Int32), oR w28, .unset] [])
    refine own_by (fun t_ k_ => XS.iloadN XT73.here hx rfl (hb hby at_264) rfl  k_) ?_
    show own_Go p e below _ T73 (mkF m 265 #[oI i0, oR h0.size, oI (28 : Int32), oR w28, .unset] [(.int (28 : Int32))])
    refine own_by (fun t_ k_ => XT.bipushV XT73.here hx rfl (9 : Int32) (hb hby at_265) (by decide) k_) ?_
    show own_Go p e below _ T73 (mkF m 267 #[oI i0, oR h0.size, oI (28 : Int32), oR w28, .unset] [(.int (9 : Int32)), (.int (28 : Int32))])
    refine own_by (fun t_ k_ => XS.icmpYes XT73.here hx rfl (pc0 := 267) (pc' := 274) rfl (hb hby at_267) rfl (XT.ii_ge_t (by decide)) (by decide) (by decide) k_) ?_
    show own_Go p e below _ T73 (mkF m 274 #[oI i0, oR h0.size, oI (28 : Int32), oR w28, .unset] [])
    refine own_by (fun t_ k_ => XT.iconstV XT73.here hx rfl (0 : Int32) (hb hby at_274) (by decide) k_) ?_
    show own_Go p e below _ T73 (mkF m 275 #[oI i0, oR h0.size, oI (28 : Int32), oR w28, .unset] [(.int (0 : Int32))])
    refine own_by (fun t_ k_ => XS.istore XT73.here hx rfl (hb hby at_275) rfl (l' := #[oI i0, oR h0.size, oI (28 : Int32), oR w28, oI (0 : Int32)]) rfl k_) ?_
    show own_Go p e below _ T73 (mkF m 277 #[oI i0, oR h0.size, oI (28 : Int32), oR w28, oI (0 : Int32)] [])
    refine own_by (fun t_ k_ => XS.aloadN XT73.here hx rfl (hb hby at_277) rfl rfl  k_) ?_
    show own_Go p e below _ T73 (mkF m 278 #[oI i0, oR h0.size, oI (28 : Int32), oR w28, oI (0 : Int32)] [(.ref w28)])
    refine own_callV XT73 hx hZ hown (hw _ (List.mem_of_getElem? (i := 77) rfl)) (hw _ (List.mem_of_getElem? (i := 78) rfl)) (hw _ (List.mem_of_getElem? (i := 80) rfl)) (hw _ (List.mem_of_getElem? (i := 79) rfl)) (hw _ (List.mem_of_getElem? (i := 81) rfl)) (hw _ (List.mem_of_getElem? (i := 3) rfl)) (by decide) eT73 (b := w28) (E28.keep KT73) (argsL := []) (rest := []) (own_gn_met l Z a0 hw w28 w0 w1 w2 w14 w22 w23 w24 w25 w26 hT73 ⟨own_stak S0 KT73, own_stak S1 KT73, own_stak S2 KT73, own_stak S14 KT73, own_stak S22 KT73, own_stak S23 KT73, own_stak S24 KT73, own_stak S25 KT73, own_stak S26 KT73⟩) 0 (by decide) (by decide) (by rw [hml]; rfl) (lenOf pd_0 rfl) (Nat.le_of_eq rfl) (hb hby at_278) (by decide) (by decide) (st := [(.ref w28)]) rfl ?_
    intro T102 LT102 vT102 XT102 hQT102
    obtain ⟨rfl, eT102, rfl⟩ := hQT102
    show own_Go p e below _ T102 (mkF m 281 #[oI i0, oR h0.size, oI (28 : Int32), oR w28, oI (0 : Int32)] [(.int (own_gn w28 w0 w1 w2 w14 w22 w23 w24 w25 w26))])
    rw [show own_gn w28 w0 w1 w2 w14 w22 w23 w24 w25 w26 = (0 : Int32) by rw [own_gn, if_neg (F28.ne F0 (by decide)), if_neg (F28.ne F1 (by decide)), if_neg (F28.ne F2 (by decide)), if_neg (F28.ne F14 (by decide)), if_neg (F28.ne F22 (by decide)), if_neg (F28.ne F23 (by decide)), if_neg (F28.ne F24 (by decide)), if_neg (F28.ne F25 (by decide)), if_neg (F28.ne F26 (by decide))]]
    show own_Go p e below _ T102 (mkF m 281 #[oI i0, oR h0.size, oI (28 : Int32), oR w28, oI (0 : Int32)] [(.int (0 : Int32))])
    refine own_by (fun t_ k_ => XS.iload XT102.here hx rfl (hb hby at_281) rfl  k_) ?_
    show own_Go p e below _ T102 (mkF m 283 #[oI i0, oR h0.size, oI (28 : Int32), oR w28, oI (0 : Int32)] [(.int (0 : Int32)), (.int (0 : Int32))])
    refine own_by (fun t_ k_ => XS.icmpNo XT102.here hx rfl (hb hby at_283) rfl (XT.ii_ne_f (by decide)) k_) ?_
    show own_Go p e below _ T102 (mkF m 286 #[oI i0, oR h0.size, oI (28 : Int32), oR w28, oI (0 : Int32)] [])
    refine own_by (fun t_ k_ => XT.iconstV XT102.here hx rfl (1 : Int32) (hb hby at_286) (by decide) k_) ?_
    show own_Go p e below _ T102 (mkF m 287 #[oI i0, oR h0.size, oI (28 : Int32), oR w28, oI (0 : Int32)] [(.int (1 : Int32))])
    refine own_by (fun t_ k_ => XS.goto XT102.here hx rfl (pc0 := 287) (pc' := 291) rfl (hb hby at_287) (by decide) (by decide) k_) ?_
    show own_Go p e below _ T102 (mkF m 291 #[oI i0, oR h0.size, oI (28 : Int32), oR w28, oI (0 : Int32)] [(.int (1 : Int32))])
    exact own_retN XT102 hx hlk hret (by simp) (w := (1 : Int32)) (hb hby at_291) (by decide) (by decide) (by decide) (⟨rfl, own_app0 NT73⟩)
  · refine own_by (fun t_ k_ => XS.iloadN XT73.here hx rfl (hb hby at_252) rfl  k_) ?_
    show own_Go p e below _ T73 (mkF m 253 #[oI i0, oR h0.size, .unset, .unset, .unset] [(.int i0)])
    refine own_by (fun t_ k_ => XT73.ldcI hx hown (mvT hZ (hw _ (List.mem_of_getElem? (i := 76) rfl))) rfl (hb hby at_253) k_) ?_
    show own_Go p e below _ T73 (mkF m 255 #[oI i0, oR h0.size, .unset, .unset, .unset] [(.int (2147483647 : Int32)), (.int i0)])
    refine own_by (fun t_ k_ => XS.iand XT73.here hx rfl (hb hby at_255) rfl k_) ?_
    show own_Go p e below _ T73 (mkF m 256 #[oI i0, oR h0.size, .unset, .unset, .unset] [(.int (i0 &&& (2147483647 : Int32)))])
    refine own_by (fun t_ k_ => XT.bipushV XT73.here hx rfl (36 : Int32) (hb hby at_256) (by decide) k_) ?_
    show own_Go p e below _ T73 (mkF m 258 #[oI i0, oR h0.size, .unset, .unset, .unset] [(.int (36 : Int32)), (.int (i0 &&& (2147483647 : Int32)))])
    refine own_by (fun t_ k_ => iremM XT73 hx rfl (hb hby at_258) rfl (by decide) k_) ?_
    show own_Go p e below _ T73 (mkF m 259 #[oI i0, oR h0.size, .unset, .unset, .unset] [(.int ((i0 &&& (2147483647 : Int32)) % (36 : Int32)))])
    rw [hk]
    show own_Go p e below _ T73 (mkF m 259 #[oI i0, oR h0.size, .unset, .unset, .unset] [(.int (29 : Int32))])
    refine own_by (fun t_ k_ => XS.istoreN XT73.here hx rfl (hb hby at_259) rfl (l' := #[oI i0, oR h0.size, oI (29 : Int32), .unset, .unset]) rfl k_) ?_
    show own_Go p e below _ T73 (mkF m 260 #[oI i0, oR h0.size, oI (29 : Int32), .unset, .unset] [])
    refine own_by (fun t_ k_ => XS.aloadN XT73.here hx rfl (hb hby at_260) rfl rfl  k_) ?_
    show own_Go p e below _ T73 (mkF m 261 #[oI i0, oR h0.size, oI (29 : Int32), .unset, .unset] [(.ref h0.size)])
    refine own_by (fun t_ k_ => XS.iloadN XT73.here hx rfl (hb hby at_261) rfl  k_) ?_
    show own_Go p e below _ T73 (mkF m 262 #[oI i0, oR h0.size, oI (29 : Int32), .unset, .unset] [(.int (29 : Int32)), (.ref h0.size)])
    refine own_ldR XT73 hx hZ eT73 VT73 rfl 29 (by decide) (by decide) (v := (.ref w29)) rfl (hb hby at_262) ?_
    show own_Go p e below _ T73 (mkF m 263 #[oI i0, oR h0.size, oI (29 : Int32), .unset, .unset] [(.ref w29)])
    refine own_by (fun t_ k_ => XS.astoreN XT73.here hx rfl (hb hby at_263) rfl rfl (l' := #[oI i0, oR h0.size, oI (29 : Int32), oR w29, .unset]) rfl k_) ?_
    show own_Go p e below _ T73 (mkF m 264 #[oI i0, oR h0.size, oI (29 : Int32), oR w29, .unset] [])
    refine own_by (fun t_ k_ => XS.iloadN XT73.here hx rfl (hb hby at_264) rfl  k_) ?_
    show own_Go p e below _ T73 (mkF m 265 #[oI i0, oR h0.size, oI (29 : Int32), oR w29, .unset] [(.int (29 : Int32))])
    refine own_by (fun t_ k_ => XT.bipushV XT73.here hx rfl (9 : Int32) (hb hby at_265) (by decide) k_) ?_
    show own_Go p e below _ T73 (mkF m 267 #[oI i0, oR h0.size, oI (29 : Int32), oR w29, .unset] [(.int (9 : Int32)), (.int (29 : Int32))])
    refine own_by (fun t_ k_ => XS.icmpYes XT73.here hx rfl (pc0 := 267) (pc' := 274) rfl (hb hby at_267) rfl (XT.ii_ge_t (by decide)) (by decide) (by decide) k_) ?_
    show own_Go p e below _ T73 (mkF m 274 #[oI i0, oR h0.size, oI (29 : Int32), oR w29, .unset] [])
    refine own_by (fun t_ k_ => XT.iconstV XT73.here hx rfl (0 : Int32) (hb hby at_274) (by decide) k_) ?_
    show own_Go p e below _ T73 (mkF m 275 #[oI i0, oR h0.size, oI (29 : Int32), oR w29, .unset] [(.int (0 : Int32))])
    refine own_by (fun t_ k_ => XS.istore XT73.here hx rfl (hb hby at_275) rfl (l' := #[oI i0, oR h0.size, oI (29 : Int32), oR w29, oI (0 : Int32)]) rfl k_) ?_
    show own_Go p e below _ T73 (mkF m 277 #[oI i0, oR h0.size, oI (29 : Int32), oR w29, oI (0 : Int32)] [])
    refine own_by (fun t_ k_ => XS.aloadN XT73.here hx rfl (hb hby at_277) rfl rfl  k_) ?_
    show own_Go p e below _ T73 (mkF m 278 #[oI i0, oR h0.size, oI (29 : Int32), oR w29, oI (0 : Int32)] [(.ref w29)])
    refine own_callV XT73 hx hZ hown (hw _ (List.mem_of_getElem? (i := 77) rfl)) (hw _ (List.mem_of_getElem? (i := 78) rfl)) (hw _ (List.mem_of_getElem? (i := 80) rfl)) (hw _ (List.mem_of_getElem? (i := 79) rfl)) (hw _ (List.mem_of_getElem? (i := 81) rfl)) (hw _ (List.mem_of_getElem? (i := 3) rfl)) (by decide) eT73 (b := w29) (E29.keep KT73) (argsL := []) (rest := []) (own_gn_met l Z a0 hw w29 w0 w1 w2 w14 w22 w23 w24 w25 w26 hT73 ⟨own_stak S0 KT73, own_stak S1 KT73, own_stak S2 KT73, own_stak S14 KT73, own_stak S22 KT73, own_stak S23 KT73, own_stak S24 KT73, own_stak S25 KT73, own_stak S26 KT73⟩) 0 (by decide) (by decide) (by rw [hml]; rfl) (lenOf pd_0 rfl) (Nat.le_of_eq rfl) (hb hby at_278) (by decide) (by decide) (st := [(.ref w29)]) rfl ?_
    intro T103 LT103 vT103 XT103 hQT103
    obtain ⟨rfl, eT103, rfl⟩ := hQT103
    show own_Go p e below _ T103 (mkF m 281 #[oI i0, oR h0.size, oI (29 : Int32), oR w29, oI (0 : Int32)] [(.int (own_gn w29 w0 w1 w2 w14 w22 w23 w24 w25 w26))])
    rw [show own_gn w29 w0 w1 w2 w14 w22 w23 w24 w25 w26 = (0 : Int32) by rw [own_gn, if_neg (F29.ne F0 (by decide)), if_neg (F29.ne F1 (by decide)), if_neg (F29.ne F2 (by decide)), if_neg (F29.ne F14 (by decide)), if_neg (F29.ne F22 (by decide)), if_neg (F29.ne F23 (by decide)), if_neg (F29.ne F24 (by decide)), if_neg (F29.ne F25 (by decide)), if_neg (F29.ne F26 (by decide))]]
    show own_Go p e below _ T103 (mkF m 281 #[oI i0, oR h0.size, oI (29 : Int32), oR w29, oI (0 : Int32)] [(.int (0 : Int32))])
    refine own_by (fun t_ k_ => XS.iload XT103.here hx rfl (hb hby at_281) rfl  k_) ?_
    show own_Go p e below _ T103 (mkF m 283 #[oI i0, oR h0.size, oI (29 : Int32), oR w29, oI (0 : Int32)] [(.int (0 : Int32)), (.int (0 : Int32))])
    refine own_by (fun t_ k_ => XS.icmpNo XT103.here hx rfl (hb hby at_283) rfl (XT.ii_ne_f (by decide)) k_) ?_
    show own_Go p e below _ T103 (mkF m 286 #[oI i0, oR h0.size, oI (29 : Int32), oR w29, oI (0 : Int32)] [])
    refine own_by (fun t_ k_ => XT.iconstV XT103.here hx rfl (1 : Int32) (hb hby at_286) (by decide) k_) ?_
    show own_Go p e below _ T103 (mkF m 287 #[oI i0, oR h0.size, oI (29 : Int32), oR w29, oI (0 : Int32)] [(.int (1 : Int32))])
    refine own_by (fun t_ k_ => XS.goto XT103.here hx rfl (pc0 := 287) (pc' := 291) rfl (hb hby at_287) (by decide) (by decide) k_) ?_
    show own_Go p e below _ T103 (mkF m 291 #[oI i0, oR h0.size, oI (29 : Int32), oR w29, oI (0 : Int32)] [(.int (1 : Int32))])
    exact own_retN XT103 hx hlk hret (by simp) (w := (1 : Int32)) (hb hby at_291) (by decide) (by decide) (by decide) (⟨rfl, own_app0 NT73⟩)
  · refine own_by (fun t_ k_ => XS.iloadN XT73.here hx rfl (hb hby at_252) rfl  k_) ?_
    show own_Go p e below _ T73 (mkF m 253 #[oI i0, oR h0.size, .unset, .unset, .unset] [(.int i0)])
    refine own_by (fun t_ k_ => XT73.ldcI hx hown (mvT hZ (hw _ (List.mem_of_getElem? (i := 76) rfl))) rfl (hb hby at_253) k_) ?_
    show own_Go p e below _ T73 (mkF m 255 #[oI i0, oR h0.size, .unset, .unset, .unset] [(.int (2147483647 : Int32)), (.int i0)])
    refine own_by (fun t_ k_ => XS.iand XT73.here hx rfl (hb hby at_255) rfl k_) ?_
    show own_Go p e below _ T73 (mkF m 256 #[oI i0, oR h0.size, .unset, .unset, .unset] [(.int (i0 &&& (2147483647 : Int32)))])
    refine own_by (fun t_ k_ => XT.bipushV XT73.here hx rfl (36 : Int32) (hb hby at_256) (by decide) k_) ?_
    show own_Go p e below _ T73 (mkF m 258 #[oI i0, oR h0.size, .unset, .unset, .unset] [(.int (36 : Int32)), (.int (i0 &&& (2147483647 : Int32)))])
    refine own_by (fun t_ k_ => iremM XT73 hx rfl (hb hby at_258) rfl (by decide) k_) ?_
    show own_Go p e below _ T73 (mkF m 259 #[oI i0, oR h0.size, .unset, .unset, .unset] [(.int ((i0 &&& (2147483647 : Int32)) % (36 : Int32)))])
    rw [hk]
    show own_Go p e below _ T73 (mkF m 259 #[oI i0, oR h0.size, .unset, .unset, .unset] [(.int (30 : Int32))])
    refine own_by (fun t_ k_ => XS.istoreN XT73.here hx rfl (hb hby at_259) rfl (l' := #[oI i0, oR h0.size, oI (30 : Int32), .unset, .unset]) rfl k_) ?_
    show own_Go p e below _ T73 (mkF m 260 #[oI i0, oR h0.size, oI (30 : Int32), .unset, .unset] [])
    refine own_by (fun t_ k_ => XS.aloadN XT73.here hx rfl (hb hby at_260) rfl rfl  k_) ?_
    show own_Go p e below _ T73 (mkF m 261 #[oI i0, oR h0.size, oI (30 : Int32), .unset, .unset] [(.ref h0.size)])
    refine own_by (fun t_ k_ => XS.iloadN XT73.here hx rfl (hb hby at_261) rfl  k_) ?_
    show own_Go p e below _ T73 (mkF m 262 #[oI i0, oR h0.size, oI (30 : Int32), .unset, .unset] [(.int (30 : Int32)), (.ref h0.size)])
    refine own_ldR XT73 hx hZ eT73 VT73 rfl 30 (by decide) (by decide) (v := (.ref w30)) rfl (hb hby at_262) ?_
    show own_Go p e below _ T73 (mkF m 263 #[oI i0, oR h0.size, oI (30 : Int32), .unset, .unset] [(.ref w30)])
    refine own_by (fun t_ k_ => XS.astoreN XT73.here hx rfl (hb hby at_263) rfl rfl (l' := #[oI i0, oR h0.size, oI (30 : Int32), oR w30, .unset]) rfl k_) ?_
    show own_Go p e below _ T73 (mkF m 264 #[oI i0, oR h0.size, oI (30 : Int32), oR w30, .unset] [])
    refine own_by (fun t_ k_ => XS.iloadN XT73.here hx rfl (hb hby at_264) rfl  k_) ?_
    show own_Go p e below _ T73 (mkF m 265 #[oI i0, oR h0.size, oI (30 : Int32), oR w30, .unset] [(.int (30 : Int32))])
    refine own_by (fun t_ k_ => XT.bipushV XT73.here hx rfl (9 : Int32) (hb hby at_265) (by decide) k_) ?_
    show own_Go p e below _ T73 (mkF m 267 #[oI i0, oR h0.size, oI (30 : Int32), oR w30, .unset] [(.int (9 : Int32)), (.int (30 : Int32))])
    refine own_by (fun t_ k_ => XS.icmpYes XT73.here hx rfl (pc0 := 267) (pc' := 274) rfl (hb hby at_267) rfl (XT.ii_ge_t (by decide)) (by decide) (by decide) k_) ?_
    show own_Go p e below _ T73 (mkF m 274 #[oI i0, oR h0.size, oI (30 : Int32), oR w30, .unset] [])
    refine own_by (fun t_ k_ => XT.iconstV XT73.here hx rfl (0 : Int32) (hb hby at_274) (by decide) k_) ?_
    show own_Go p e below _ T73 (mkF m 275 #[oI i0, oR h0.size, oI (30 : Int32), oR w30, .unset] [(.int (0 : Int32))])
    refine own_by (fun t_ k_ => XS.istore XT73.here hx rfl (hb hby at_275) rfl (l' := #[oI i0, oR h0.size, oI (30 : Int32), oR w30, oI (0 : Int32)]) rfl k_) ?_
    show own_Go p e below _ T73 (mkF m 277 #[oI i0, oR h0.size, oI (30 : Int32), oR w30, oI (0 : Int32)] [])
    refine own_by (fun t_ k_ => XS.aloadN XT73.here hx rfl (hb hby at_277) rfl rfl  k_) ?_
    show own_Go p e below _ T73 (mkF m 278 #[oI i0, oR h0.size, oI (30 : Int32), oR w30, oI (0 : Int32)] [(.ref w30)])
    refine own_callV XT73 hx hZ hown (hw _ (List.mem_of_getElem? (i := 77) rfl)) (hw _ (List.mem_of_getElem? (i := 78) rfl)) (hw _ (List.mem_of_getElem? (i := 80) rfl)) (hw _ (List.mem_of_getElem? (i := 79) rfl)) (hw _ (List.mem_of_getElem? (i := 81) rfl)) (hw _ (List.mem_of_getElem? (i := 3) rfl)) (by decide) eT73 (b := w30) (E30.keep KT73) (argsL := []) (rest := []) (own_gn_met l Z a0 hw w30 w0 w1 w2 w14 w22 w23 w24 w25 w26 hT73 ⟨own_stak S0 KT73, own_stak S1 KT73, own_stak S2 KT73, own_stak S14 KT73, own_stak S22 KT73, own_stak S23 KT73, own_stak S24 KT73, own_stak S25 KT73, own_stak S26 KT73⟩) 0 (by decide) (by decide) (by rw [hml]; rfl) (lenOf pd_0 rfl) (Nat.le_of_eq rfl) (hb hby at_278) (by decide) (by decide) (st := [(.ref w30)]) rfl ?_
    intro T104 LT104 vT104 XT104 hQT104
    obtain ⟨rfl, eT104, rfl⟩ := hQT104
    show own_Go p e below _ T104 (mkF m 281 #[oI i0, oR h0.size, oI (30 : Int32), oR w30, oI (0 : Int32)] [(.int (own_gn w30 w0 w1 w2 w14 w22 w23 w24 w25 w26))])
    rw [show own_gn w30 w0 w1 w2 w14 w22 w23 w24 w25 w26 = (0 : Int32) by rw [own_gn, if_neg (F30.ne F0 (by decide)), if_neg (F30.ne F1 (by decide)), if_neg (F30.ne F2 (by decide)), if_neg (F30.ne F14 (by decide)), if_neg (F30.ne F22 (by decide)), if_neg (F30.ne F23 (by decide)), if_neg (F30.ne F24 (by decide)), if_neg (F30.ne F25 (by decide)), if_neg (F30.ne F26 (by decide))]]
    show own_Go p e below _ T104 (mkF m 281 #[oI i0, oR h0.size, oI (30 : Int32), oR w30, oI (0 : Int32)] [(.int (0 : Int32))])
    refine own_by (fun t_ k_ => XS.iload XT104.here hx rfl (hb hby at_281) rfl  k_) ?_
    show own_Go p e below _ T104 (mkF m 283 #[oI i0, oR h0.size, oI (30 : Int32), oR w30, oI (0 : Int32)] [(.int (0 : Int32)), (.int (0 : Int32))])
    refine own_by (fun t_ k_ => XS.icmpNo XT104.here hx rfl (hb hby at_283) rfl (XT.ii_ne_f (by decide)) k_) ?_
    show own_Go p e below _ T104 (mkF m 286 #[oI i0, oR h0.size, oI (30 : Int32), oR w30, oI (0 : Int32)] [])
    refine own_by (fun t_ k_ => XT.iconstV XT104.here hx rfl (1 : Int32) (hb hby at_286) (by decide) k_) ?_
    show own_Go p e below _ T104 (mkF m 287 #[oI i0, oR h0.size, oI (30 : Int32), oR w30, oI (0 : Int32)] [(.int (1 : Int32))])
    refine own_by (fun t_ k_ => XS.goto XT104.here hx rfl (pc0 := 287) (pc' := 291) rfl (hb hby at_287) (by decide) (by decide) k_) ?_
    show own_Go p e below _ T104 (mkF m 291 #[oI i0, oR h0.size, oI (30 : Int32), oR w30, oI (0 : Int32)] [(.int (1 : Int32))])
    exact own_retN XT104 hx hlk hret (by simp) (w := (1 : Int32)) (hb hby at_291) (by decide) (by decide) (by decide) (⟨rfl, own_app0 NT73⟩)
  · refine own_by (fun t_ k_ => XS.iloadN XT73.here hx rfl (hb hby at_252) rfl  k_) ?_
    show own_Go p e below _ T73 (mkF m 253 #[oI i0, oR h0.size, .unset, .unset, .unset] [(.int i0)])
    refine own_by (fun t_ k_ => XT73.ldcI hx hown (mvT hZ (hw _ (List.mem_of_getElem? (i := 76) rfl))) rfl (hb hby at_253) k_) ?_
    show own_Go p e below _ T73 (mkF m 255 #[oI i0, oR h0.size, .unset, .unset, .unset] [(.int (2147483647 : Int32)), (.int i0)])
    refine own_by (fun t_ k_ => XS.iand XT73.here hx rfl (hb hby at_255) rfl k_) ?_
    show own_Go p e below _ T73 (mkF m 256 #[oI i0, oR h0.size, .unset, .unset, .unset] [(.int (i0 &&& (2147483647 : Int32)))])
    refine own_by (fun t_ k_ => XT.bipushV XT73.here hx rfl (36 : Int32) (hb hby at_256) (by decide) k_) ?_
    show own_Go p e below _ T73 (mkF m 258 #[oI i0, oR h0.size, .unset, .unset, .unset] [(.int (36 : Int32)), (.int (i0 &&& (2147483647 : Int32)))])
    refine own_by (fun t_ k_ => iremM XT73 hx rfl (hb hby at_258) rfl (by decide) k_) ?_
    show own_Go p e below _ T73 (mkF m 259 #[oI i0, oR h0.size, .unset, .unset, .unset] [(.int ((i0 &&& (2147483647 : Int32)) % (36 : Int32)))])
    rw [hk]
    show own_Go p e below _ T73 (mkF m 259 #[oI i0, oR h0.size, .unset, .unset, .unset] [(.int (31 : Int32))])
    refine own_by (fun t_ k_ => XS.istoreN XT73.here hx rfl (hb hby at_259) rfl (l' := #[oI i0, oR h0.size, oI (31 : Int32), .unset, .unset]) rfl k_) ?_
    show own_Go p e below _ T73 (mkF m 260 #[oI i0, oR h0.size, oI (31 : Int32), .unset, .unset] [])
    refine own_by (fun t_ k_ => XS.aloadN XT73.here hx rfl (hb hby at_260) rfl rfl  k_) ?_
    show own_Go p e below _ T73 (mkF m 261 #[oI i0, oR h0.size, oI (31 : Int32), .unset, .unset] [(.ref h0.size)])
    refine own_by (fun t_ k_ => XS.iloadN XT73.here hx rfl (hb hby at_261) rfl  k_) ?_
    show own_Go p e below _ T73 (mkF m 262 #[oI i0, oR h0.size, oI (31 : Int32), .unset, .unset] [(.int (31 : Int32)), (.ref h0.size)])
    refine own_ldR XT73 hx hZ eT73 VT73 rfl 31 (by decide) (by decide) (v := (.ref w31)) rfl (hb hby at_262) ?_
    show own_Go p e below _ T73 (mkF m 263 #[oI i0, oR h0.size, oI (31 : Int32), .unset, .unset] [(.ref w31)])
    refine own_by (fun t_ k_ => XS.astoreN XT73.here hx rfl (hb hby at_263) rfl rfl (l' := #[oI i0, oR h0.size, oI (31 : Int32), oR w31, .unset]) rfl k_) ?_
    show own_Go p e below _ T73 (mkF m 264 #[oI i0, oR h0.size, oI (31 : Int32), oR w31, .unset] [])
    refine own_by (fun t_ k_ => XS.iloadN XT73.here hx rfl (hb hby at_264) rfl  k_) ?_
    show own_Go p e below _ T73 (mkF m 265 #[oI i0, oR h0.size, oI (31 : Int32), oR w31, .unset] [(.int (31 : Int32))])
    refine own_by (fun t_ k_ => XT.bipushV XT73.here hx rfl (9 : Int32) (hb hby at_265) (by decide) k_) ?_
    show own_Go p e below _ T73 (mkF m 267 #[oI i0, oR h0.size, oI (31 : Int32), oR w31, .unset] [(.int (9 : Int32)), (.int (31 : Int32))])
    refine own_by (fun t_ k_ => XS.icmpYes XT73.here hx rfl (pc0 := 267) (pc' := 274) rfl (hb hby at_267) rfl (XT.ii_ge_t (by decide)) (by decide) (by decide) k_) ?_
    show own_Go p e below _ T73 (mkF m 274 #[oI i0, oR h0.size, oI (31 : Int32), oR w31, .unset] [])
    refine own_by (fun t_ k_ => XT.iconstV XT73.here hx rfl (0 : Int32) (hb hby at_274) (by decide) k_) ?_
    show own_Go p e below _ T73 (mkF m 275 #[oI i0, oR h0.size, oI (31 : Int32), oR w31, .unset] [(.int (0 : Int32))])
    refine own_by (fun t_ k_ => XS.istore XT73.here hx rfl (hb hby at_275) rfl (l' := #[oI i0, oR h0.size, oI (31 : Int32), oR w31, oI (0 : Int32)]) rfl k_) ?_
    show own_Go p e below _ T73 (mkF m 277 #[oI i0, oR h0.size, oI (31 : Int32), oR w31, oI (0 : Int32)] [])
    refine own_by (fun t_ k_ => XS.aloadN XT73.here hx rfl (hb hby at_277) rfl rfl  k_) ?_
    show own_Go p e below _ T73 (mkF m 278 #[oI i0, oR h0.size, oI (31 : Int32), oR w31, oI (0 : Int32)] [(.ref w31)])
    refine own_callV XT73 hx hZ hown (hw _ (List.mem_of_getElem? (i := 77) rfl)) (hw _ (List.mem_of_getElem? (i := 78) rfl)) (hw _ (List.mem_of_getElem? (i := 80) rfl)) (hw _ (List.mem_of_getElem? (i := 79) rfl)) (hw _ (List.mem_of_getElem? (i := 81) rfl)) (hw _ (List.mem_of_getElem? (i := 3) rfl)) (by decide) eT73 (b := w31) (E31.keep KT73) (argsL := []) (rest := []) (own_gn_met l Z a0 hw w31 w0 w1 w2 w14 w22 w23 w24 w25 w26 hT73 ⟨own_stak S0 KT73, own_stak S1 KT73, own_stak S2 KT73, own_stak S14 KT73, own_stak S22 KT73, own_stak S23 KT73, own_stak S24 KT73, own_stak S25 KT73, own_stak S26 KT73⟩) 0 (by decide) (by decide) (by rw [hml]; rfl) (lenOf pd_0 rfl) (Nat.le_of_eq rfl) (hb hby at_278) (by decide) (by decide) (st := [(.ref w31)]) rfl ?_
    intro T105 LT105 vT105 XT105 hQT105
    obtain ⟨rfl, eT105, rfl⟩ := hQT105
    show own_Go p e below _ T105 (mkF m 281 #[oI i0, oR h0.size, oI (31 : Int32), oR w31, oI (0 : Int32)] [(.int (own_gn w31 w0 w1 w2 w14 w22 w23 w24 w25 w26))])
    rw [show own_gn w31 w0 w1 w2 w14 w22 w23 w24 w25 w26 = (0 : Int32) by rw [own_gn, if_neg (F31.ne F0 (by decide)), if_neg (F31.ne F1 (by decide)), if_neg (F31.ne F2 (by decide)), if_neg (F31.ne F14 (by decide)), if_neg (F31.ne F22 (by decide)), if_neg (F31.ne F23 (by decide)), if_neg (F31.ne F24 (by decide)), if_neg (F31.ne F25 (by decide)), if_neg (F31.ne F26 (by decide))]]
    show own_Go p e below _ T105 (mkF m 281 #[oI i0, oR h0.size, oI (31 : Int32), oR w31, oI (0 : Int32)] [(.int (0 : Int32))])
    refine own_by (fun t_ k_ => XS.iload XT105.here hx rfl (hb hby at_281) rfl  k_) ?_
    show own_Go p e below _ T105 (mkF m 283 #[oI i0, oR h0.size, oI (31 : Int32), oR w31, oI (0 : Int32)] [(.int (0 : Int32)), (.int (0 : Int32))])
    refine own_by (fun t_ k_ => XS.icmpNo XT105.here hx rfl (hb hby at_283) rfl (XT.ii_ne_f (by decide)) k_) ?_
    show own_Go p e below _ T105 (mkF m 286 #[oI i0, oR h0.size, oI (31 : Int32), oR w31, oI (0 : Int32)] [])
    refine own_by (fun t_ k_ => XT.iconstV XT105.here hx rfl (1 : Int32) (hb hby at_286) (by decide) k_) ?_
    show own_Go p e below _ T105 (mkF m 287 #[oI i0, oR h0.size, oI (31 : Int32), oR w31, oI (0 : Int32)] [(.int (1 : Int32))])
    refine own_by (fun t_ k_ => XS.goto XT105.here hx rfl (pc0 := 287) (pc' := 291) rfl (hb hby at_287) (by decide) (by decide) k_) ?_
    show own_Go p e below _ T105 (mkF m 291 #[oI i0, oR h0.size, oI (31 : Int32), oR w31, oI (0 : Int32)] [(.int (1 : Int32))])
    exact own_retN XT105 hx hlk hret (by simp) (w := (1 : Int32)) (hb hby at_291) (by decide) (by decide) (by decide) (⟨rfl, own_app0 NT73⟩)
  · refine own_by (fun t_ k_ => XS.iloadN XT73.here hx rfl (hb hby at_252) rfl  k_) ?_
    show own_Go p e below _ T73 (mkF m 253 #[oI i0, oR h0.size, .unset, .unset, .unset] [(.int i0)])
    refine own_by (fun t_ k_ => XT73.ldcI hx hown (mvT hZ (hw _ (List.mem_of_getElem? (i := 76) rfl))) rfl (hb hby at_253) k_) ?_
    show own_Go p e below _ T73 (mkF m 255 #[oI i0, oR h0.size, .unset, .unset, .unset] [(.int (2147483647 : Int32)), (.int i0)])
    refine own_by (fun t_ k_ => XS.iand XT73.here hx rfl (hb hby at_255) rfl k_) ?_
    show own_Go p e below _ T73 (mkF m 256 #[oI i0, oR h0.size, .unset, .unset, .unset] [(.int (i0 &&& (2147483647 : Int32)))])
    refine own_by (fun t_ k_ => XT.bipushV XT73.here hx rfl (36 : Int32) (hb hby at_256) (by decide) k_) ?_
    show own_Go p e below _ T73 (mkF m 258 #[oI i0, oR h0.size, .unset, .unset, .unset] [(.int (36 : Int32)), (.int (i0 &&& (2147483647 : Int32)))])
    refine own_by (fun t_ k_ => iremM XT73 hx rfl (hb hby at_258) rfl (by decide) k_) ?_
    show own_Go p e below _ T73 (mkF m 259 #[oI i0, oR h0.size, .unset, .unset, .unset] [(.int ((i0 &&& (2147483647 : Int32)) % (36 : Int32)))])
    rw [hk]
    show own_Go p e below _ T73 (mkF m 259 #[oI i0, oR h0.size, .unset, .unset, .unset] [(.int (32 : Int32))])
    refine own_by (fun t_ k_ => XS.istoreN XT73.here hx rfl (hb hby at_259) rfl (l' := #[oI i0, oR h0.size, oI (32 : Int32), .unset, .unset]) rfl k_) ?_
    show own_Go p e below _ T73 (mkF m 260 #[oI i0, oR h0.size, oI (32 : Int32), .unset, .unset] [])
    refine own_by (fun t_ k_ => XS.aloadN XT73.here hx rfl (hb hby at_260) rfl rfl  k_) ?_
    show own_Go p e below _ T73 (mkF m 261 #[oI i0, oR h0.size, oI (32 : Int32), .unset, .unset] [(.ref h0.size)])
    refine own_by (fun t_ k_ => XS.iloadN XT73.here hx rfl (hb hby at_261) rfl  k_) ?_
    show own_Go p e below _ T73 (mkF m 262 #[oI i0, oR h0.size, oI (32 : Int32), .unset, .unset] [(.int (32 : Int32)), (.ref h0.size)])
    refine own_ldR XT73 hx hZ eT73 VT73 rfl 32 (by decide) (by decide) (v := (.ref w32)) rfl (hb hby at_262) ?_
    show own_Go p e below _ T73 (mkF m 263 #[oI i0, oR h0.size, oI (32 : Int32), .unset, .unset] [(.ref w32)])
    refine own_by (fun t_ k_ => XS.astoreN XT73.here hx rfl (hb hby at_263) rfl rfl (l' := #[oI i0, oR h0.size, oI (32 : Int32), oR w32, .unset]) rfl k_) ?_
    show own_Go p e below _ T73 (mkF m 264 #[oI i0, oR h0.size, oI (32 : Int32), oR w32, .unset] [])
    refine own_by (fun t_ k_ => XS.iloadN XT73.here hx rfl (hb hby at_264) rfl  k_) ?_
    show own_Go p e below _ T73 (mkF m 265 #[oI i0, oR h0.size, oI (32 : Int32), oR w32, .unset] [(.int (32 : Int32))])
    refine own_by (fun t_ k_ => XT.bipushV XT73.here hx rfl (9 : Int32) (hb hby at_265) (by decide) k_) ?_
    show own_Go p e below _ T73 (mkF m 267 #[oI i0, oR h0.size, oI (32 : Int32), oR w32, .unset] [(.int (9 : Int32)), (.int (32 : Int32))])
    refine own_by (fun t_ k_ => XS.icmpYes XT73.here hx rfl (pc0 := 267) (pc' := 274) rfl (hb hby at_267) rfl (XT.ii_ge_t (by decide)) (by decide) (by decide) k_) ?_
    show own_Go p e below _ T73 (mkF m 274 #[oI i0, oR h0.size, oI (32 : Int32), oR w32, .unset] [])
    refine own_by (fun t_ k_ => XT.iconstV XT73.here hx rfl (0 : Int32) (hb hby at_274) (by decide) k_) ?_
    show own_Go p e below _ T73 (mkF m 275 #[oI i0, oR h0.size, oI (32 : Int32), oR w32, .unset] [(.int (0 : Int32))])
    refine own_by (fun t_ k_ => XS.istore XT73.here hx rfl (hb hby at_275) rfl (l' := #[oI i0, oR h0.size, oI (32 : Int32), oR w32, oI (0 : Int32)]) rfl k_) ?_
    show own_Go p e below _ T73 (mkF m 277 #[oI i0, oR h0.size, oI (32 : Int32), oR w32, oI (0 : Int32)] [])
    refine own_by (fun t_ k_ => XS.aloadN XT73.here hx rfl (hb hby at_277) rfl rfl  k_) ?_
    show own_Go p e below _ T73 (mkF m 278 #[oI i0, oR h0.size, oI (32 : Int32), oR w32, oI (0 : Int32)] [(.ref w32)])
    refine own_callV XT73 hx hZ hown (hw _ (List.mem_of_getElem? (i := 77) rfl)) (hw _ (List.mem_of_getElem? (i := 78) rfl)) (hw _ (List.mem_of_getElem? (i := 80) rfl)) (hw _ (List.mem_of_getElem? (i := 79) rfl)) (hw _ (List.mem_of_getElem? (i := 81) rfl)) (hw _ (List.mem_of_getElem? (i := 3) rfl)) (by decide) eT73 (b := w32) (E32.keep KT73) (argsL := []) (rest := []) (own_gn_met l Z a0 hw w32 w0 w1 w2 w14 w22 w23 w24 w25 w26 hT73 ⟨own_stak S0 KT73, own_stak S1 KT73, own_stak S2 KT73, own_stak S14 KT73, own_stak S22 KT73, own_stak S23 KT73, own_stak S24 KT73, own_stak S25 KT73, own_stak S26 KT73⟩) 0 (by decide) (by decide) (by rw [hml]; rfl) (lenOf pd_0 rfl) (Nat.le_of_eq rfl) (hb hby at_278) (by decide) (by decide) (st := [(.ref w32)]) rfl ?_
    intro T106 LT106 vT106 XT106 hQT106
    obtain ⟨rfl, eT106, rfl⟩ := hQT106
    show own_Go p e below _ T106 (mkF m 281 #[oI i0, oR h0.size, oI (32 : Int32), oR w32, oI (0 : Int32)] [(.int (own_gn w32 w0 w1 w2 w14 w22 w23 w24 w25 w26))])
    rw [show own_gn w32 w0 w1 w2 w14 w22 w23 w24 w25 w26 = (0 : Int32) by rw [own_gn, if_neg (F32.ne F0 (by decide)), if_neg (F32.ne F1 (by decide)), if_neg (F32.ne F2 (by decide)), if_neg (F32.ne F14 (by decide)), if_neg (F32.ne F22 (by decide)), if_neg (F32.ne F23 (by decide)), if_neg (F32.ne F24 (by decide)), if_neg (F32.ne F25 (by decide)), if_neg (F32.ne F26 (by decide))]]
    show own_Go p e below _ T106 (mkF m 281 #[oI i0, oR h0.size, oI (32 : Int32), oR w32, oI (0 : Int32)] [(.int (0 : Int32))])
    refine own_by (fun t_ k_ => XS.iload XT106.here hx rfl (hb hby at_281) rfl  k_) ?_
    show own_Go p e below _ T106 (mkF m 283 #[oI i0, oR h0.size, oI (32 : Int32), oR w32, oI (0 : Int32)] [(.int (0 : Int32)), (.int (0 : Int32))])
    refine own_by (fun t_ k_ => XS.icmpNo XT106.here hx rfl (hb hby at_283) rfl (XT.ii_ne_f (by decide)) k_) ?_
    show own_Go p e below _ T106 (mkF m 286 #[oI i0, oR h0.size, oI (32 : Int32), oR w32, oI (0 : Int32)] [])
    refine own_by (fun t_ k_ => XT.iconstV XT106.here hx rfl (1 : Int32) (hb hby at_286) (by decide) k_) ?_
    show own_Go p e below _ T106 (mkF m 287 #[oI i0, oR h0.size, oI (32 : Int32), oR w32, oI (0 : Int32)] [(.int (1 : Int32))])
    refine own_by (fun t_ k_ => XS.goto XT106.here hx rfl (pc0 := 287) (pc' := 291) rfl (hb hby at_287) (by decide) (by decide) k_) ?_
    show own_Go p e below _ T106 (mkF m 291 #[oI i0, oR h0.size, oI (32 : Int32), oR w32, oI (0 : Int32)] [(.int (1 : Int32))])
    exact own_retN XT106 hx hlk hret (by simp) (w := (1 : Int32)) (hb hby at_291) (by decide) (by decide) (by decide) (⟨rfl, own_app0 NT73⟩)
  · refine own_by (fun t_ k_ => XS.iloadN XT73.here hx rfl (hb hby at_252) rfl  k_) ?_
    show own_Go p e below _ T73 (mkF m 253 #[oI i0, oR h0.size, .unset, .unset, .unset] [(.int i0)])
    refine own_by (fun t_ k_ => XT73.ldcI hx hown (mvT hZ (hw _ (List.mem_of_getElem? (i := 76) rfl))) rfl (hb hby at_253) k_) ?_
    show own_Go p e below _ T73 (mkF m 255 #[oI i0, oR h0.size, .unset, .unset, .unset] [(.int (2147483647 : Int32)), (.int i0)])
    refine own_by (fun t_ k_ => XS.iand XT73.here hx rfl (hb hby at_255) rfl k_) ?_
    show own_Go p e below _ T73 (mkF m 256 #[oI i0, oR h0.size, .unset, .unset, .unset] [(.int (i0 &&& (2147483647 : Int32)))])
    refine own_by (fun t_ k_ => XT.bipushV XT73.here hx rfl (36 : Int32) (hb hby at_256) (by decide) k_) ?_
    show own_Go p e below _ T73 (mkF m 258 #[oI i0, oR h0.size, .unset, .unset, .unset] [(.int (36 : Int32)), (.int (i0 &&& (2147483647 : Int32)))])
    refine own_by (fun t_ k_ => iremM XT73 hx rfl (hb hby at_258) rfl (by decide) k_) ?_
    show own_Go p e below _ T73 (mkF m 259 #[oI i0, oR h0.size, .unset, .unset, .unset] [(.int ((i0 &&& (2147483647 : Int32)) % (36 : Int32)))])
    rw [hk]
    show own_Go p e below _ T73 (mkF m 259 #[oI i0, oR h0.size, .unset, .unset, .unset] [(.int (33 : Int32))])
    refine own_by (fun t_ k_ => XS.istoreN XT73.here hx rfl (hb hby at_259) rfl (l' := #[oI i0, oR h0.size, oI (33 : Int32), .unset, .unset]) rfl k_) ?_
    show own_Go p e below _ T73 (mkF m 260 #[oI i0, oR h0.size, oI (33 : Int32), .unset, .unset] [])
    refine own_by (fun t_ k_ => XS.aloadN XT73.here hx rfl (hb hby at_260) rfl rfl  k_) ?_
    show own_Go p e below _ T73 (mkF m 261 #[oI i0, oR h0.size, oI (33 : Int32), .unset, .unset] [(.ref h0.size)])
    refine own_by (fun t_ k_ => XS.iloadN XT73.here hx rfl (hb hby at_261) rfl  k_) ?_
    show own_Go p e below _ T73 (mkF m 262 #[oI i0, oR h0.size, oI (33 : Int32), .unset, .unset] [(.int (33 : Int32)), (.ref h0.size)])
    refine own_ldR XT73 hx hZ eT73 VT73 rfl 33 (by decide) (by decide) (v := (.ref w33)) rfl (hb hby at_262) ?_
    show own_Go p e below _ T73 (mkF m 263 #[oI i0, oR h0.size, oI (33 : Int32), .unset, .unset] [(.ref w33)])
    refine own_by (fun t_ k_ => XS.astoreN XT73.here hx rfl (hb hby at_263) rfl rfl (l' := #[oI i0, oR h0.size, oI (33 : Int32), oR w33, .unset]) rfl k_) ?_
    show own_Go p e below _ T73 (mkF m 264 #[oI i0, oR h0.size, oI (33 : Int32), oR w33, .unset] [])
    refine own_by (fun t_ k_ => XS.iloadN XT73.here hx rfl (hb hby at_264) rfl  k_) ?_
    show own_Go p e below _ T73 (mkF m 265 #[oI i0, oR h0.size, oI (33 : Int32), oR w33, .unset] [(.int (33 : Int32))])
    refine own_by (fun t_ k_ => XT.bipushV XT73.here hx rfl (9 : Int32) (hb hby at_265) (by decide) k_) ?_
    show own_Go p e below _ T73 (mkF m 267 #[oI i0, oR h0.size, oI (33 : Int32), oR w33, .unset] [(.int (9 : Int32)), (.int (33 : Int32))])
    refine own_by (fun t_ k_ => XS.icmpYes XT73.here hx rfl (pc0 := 267) (pc' := 274) rfl (hb hby at_267) rfl (XT.ii_ge_t (by decide)) (by decide) (by decide) k_) ?_
    show own_Go p e below _ T73 (mkF m 274 #[oI i0, oR h0.size, oI (33 : Int32), oR w33, .unset] [])
    refine own_by (fun t_ k_ => XT.iconstV XT73.here hx rfl (0 : Int32) (hb hby at_274) (by decide) k_) ?_
    show own_Go p e below _ T73 (mkF m 275 #[oI i0, oR h0.size, oI (33 : Int32), oR w33, .unset] [(.int (0 : Int32))])
    refine own_by (fun t_ k_ => XS.istore XT73.here hx rfl (hb hby at_275) rfl (l' := #[oI i0, oR h0.size, oI (33 : Int32), oR w33, oI (0 : Int32)]) rfl k_) ?_
    show own_Go p e below _ T73 (mkF m 277 #[oI i0, oR h0.size, oI (33 : Int32), oR w33, oI (0 : Int32)] [])
    refine own_by (fun t_ k_ => XS.aloadN XT73.here hx rfl (hb hby at_277) rfl rfl  k_) ?_
    show own_Go p e below _ T73 (mkF m 278 #[oI i0, oR h0.size, oI (33 : Int32), oR w33, oI (0 : Int32)] [(.ref w33)])
    refine own_callV XT73 hx hZ hown (hw _ (List.mem_of_getElem? (i := 77) rfl)) (hw _ (List.mem_of_getElem? (i := 78) rfl)) (hw _ (List.mem_of_getElem? (i := 80) rfl)) (hw _ (List.mem_of_getElem? (i := 79) rfl)) (hw _ (List.mem_of_getElem? (i := 81) rfl)) (hw _ (List.mem_of_getElem? (i := 3) rfl)) (by decide) eT73 (b := w33) (E33.keep KT73) (argsL := []) (rest := []) (own_gn_met l Z a0 hw w33 w0 w1 w2 w14 w22 w23 w24 w25 w26 hT73 ⟨own_stak S0 KT73, own_stak S1 KT73, own_stak S2 KT73, own_stak S14 KT73, own_stak S22 KT73, own_stak S23 KT73, own_stak S24 KT73, own_stak S25 KT73, own_stak S26 KT73⟩) 0 (by decide) (by decide) (by rw [hml]; rfl) (lenOf pd_0 rfl) (Nat.le_of_eq rfl) (hb hby at_278) (by decide) (by decide) (st := [(.ref w33)]) rfl ?_
    intro T107 LT107 vT107 XT107 hQT107
    obtain ⟨rfl, eT107, rfl⟩ := hQT107
    show own_Go p e below _ T107 (mkF m 281 #[oI i0, oR h0.size, oI (33 : Int32), oR w33, oI (0 : Int32)] [(.int (own_gn w33 w0 w1 w2 w14 w22 w23 w24 w25 w26))])
    rw [show own_gn w33 w0 w1 w2 w14 w22 w23 w24 w25 w26 = (0 : Int32) by rw [own_gn, if_neg (F33.ne F0 (by decide)), if_neg (F33.ne F1 (by decide)), if_neg (F33.ne F2 (by decide)), if_neg (F33.ne F14 (by decide)), if_neg (F33.ne F22 (by decide)), if_neg (F33.ne F23 (by decide)), if_neg (F33.ne F24 (by decide)), if_neg (F33.ne F25 (by decide)), if_neg (F33.ne F26 (by decide))]]
    show own_Go p e below _ T107 (mkF m 281 #[oI i0, oR h0.size, oI (33 : Int32), oR w33, oI (0 : Int32)] [(.int (0 : Int32))])
    refine own_by (fun t_ k_ => XS.iload XT107.here hx rfl (hb hby at_281) rfl  k_) ?_
    show own_Go p e below _ T107 (mkF m 283 #[oI i0, oR h0.size, oI (33 : Int32), oR w33, oI (0 : Int32)] [(.int (0 : Int32)), (.int (0 : Int32))])
    refine own_by (fun t_ k_ => XS.icmpNo XT107.here hx rfl (hb hby at_283) rfl (XT.ii_ne_f (by decide)) k_) ?_
    show own_Go p e below _ T107 (mkF m 286 #[oI i0, oR h0.size, oI (33 : Int32), oR w33, oI (0 : Int32)] [])
    refine own_by (fun t_ k_ => XT.iconstV XT107.here hx rfl (1 : Int32) (hb hby at_286) (by decide) k_) ?_
    show own_Go p e below _ T107 (mkF m 287 #[oI i0, oR h0.size, oI (33 : Int32), oR w33, oI (0 : Int32)] [(.int (1 : Int32))])
    refine own_by (fun t_ k_ => XS.goto XT107.here hx rfl (pc0 := 287) (pc' := 291) rfl (hb hby at_287) (by decide) (by decide) k_) ?_
    show own_Go p e below _ T107 (mkF m 291 #[oI i0, oR h0.size, oI (33 : Int32), oR w33, oI (0 : Int32)] [(.int (1 : Int32))])
    exact own_retN XT107 hx hlk hret (by simp) (w := (1 : Int32)) (hb hby at_291) (by decide) (by decide) (by decide) (⟨rfl, own_app0 NT73⟩)
  · refine own_by (fun t_ k_ => XS.iloadN XT73.here hx rfl (hb hby at_252) rfl  k_) ?_
    show own_Go p e below _ T73 (mkF m 253 #[oI i0, oR h0.size, .unset, .unset, .unset] [(.int i0)])
    refine own_by (fun t_ k_ => XT73.ldcI hx hown (mvT hZ (hw _ (List.mem_of_getElem? (i := 76) rfl))) rfl (hb hby at_253) k_) ?_
    show own_Go p e below _ T73 (mkF m 255 #[oI i0, oR h0.size, .unset, .unset, .unset] [(.int (2147483647 : Int32)), (.int i0)])
    refine own_by (fun t_ k_ => XS.iand XT73.here hx rfl (hb hby at_255) rfl k_) ?_
    show own_Go p e below _ T73 (mkF m 256 #[oI i0, oR h0.size, .unset, .unset, .unset] [(.int (i0 &&& (2147483647 : Int32)))])
    refine own_by (fun t_ k_ => XT.bipushV XT73.here hx rfl (36 : Int32) (hb hby at_256) (by decide) k_) ?_
    show own_Go p e below _ T73 (mkF m 258 #[oI i0, oR h0.size, .unset, .unset, .unset] [(.int (36 : Int32)), (.int (i0 &&& (2147483647 : Int32)))])
    refine own_by (fun t_ k_ => iremM XT73 hx rfl (hb hby at_258) rfl (by decide) k_) ?_
    show own_Go p e below _ T73 (mkF m 259 #[oI i0, oR h0.size, .unset, .unset, .unset] [(.int ((i0 &&& (2147483647 : Int32)) % (36 : Int32)))])
    rw [hk]
    show own_Go p e below _ T73 (mkF m 259 #[oI i0, oR h0.size, .unset, .unset, .unset] [(.int (34 : Int32))])
    refine own_by (fun t_ k_ => XS.istoreN XT73.here hx rfl (hb hby at_259) rfl (l' := #[oI i0, oR h0.size, oI (34 : Int32), .unset, .unset]) rfl k_) ?_
    show own_Go p e below _ T73 (mkF m 260 #[oI i0, oR h0.size, oI (34 : Int32), .unset, .unset] [])
    refine own_by (fun t_ k_ => XS.aloadN XT73.here hx rfl (hb hby at_260) rfl rfl  k_) ?_
    show own_Go p e below _ T73 (mkF m 261 #[oI i0, oR h0.size, oI (34 : Int32), .unset, .unset] [(.ref h0.size)])
    refine own_by (fun t_ k_ => XS.iloadN XT73.here hx rfl (hb hby at_261) rfl  k_) ?_
    show own_Go p e below _ T73 (mkF m 262 #[oI i0, oR h0.size, oI (34 : Int32), .unset, .unset] [(.int (34 : Int32)), (.ref h0.size)])
    refine own_ldR XT73 hx hZ eT73 VT73 rfl 34 (by decide) (by decide) (v := (.ref w34)) rfl (hb hby at_262) ?_
    show own_Go p e below _ T73 (mkF m 263 #[oI i0, oR h0.size, oI (34 : Int32), .unset, .unset] [(.ref w34)])
    refine own_by (fun t_ k_ => XS.astoreN XT73.here hx rfl (hb hby at_263) rfl rfl (l' := #[oI i0, oR h0.size, oI (34 : Int32), oR w34, .unset]) rfl k_) ?_
    show own_Go p e below _ T73 (mkF m 264 #[oI i0, oR h0.size, oI (34 : Int32), oR w34, .unset] [])
    refine own_by (fun t_ k_ => XS.iloadN XT73.here hx rfl (hb hby at_264) rfl  k_) ?_
    show own_Go p e below _ T73 (mkF m 265 #[oI i0, oR h0.size, oI (34 : Int32), oR w34, .unset] [(.int (34 : Int32))])
    refine own_by (fun t_ k_ => XT.bipushV XT73.here hx rfl (9 : Int32) (hb hby at_265) (by decide) k_) ?_
    show own_Go p e below _ T73 (mkF m 267 #[oI i0, oR h0.size, oI (34 : Int32), oR w34, .unset] [(.int (9 : Int32)), (.int (34 : Int32))])
    refine own_by (fun t_ k_ => XS.icmpYes XT73.here hx rfl (pc0 := 267) (pc' := 274) rfl (hb hby at_267) rfl (XT.ii_ge_t (by decide)) (by decide) (by decide) k_) ?_
    show own_Go p e below _ T73 (mkF m 274 #[oI i0, oR h0.size, oI (34 : Int32), oR w34, .unset] [])
    refine own_by (fun t_ k_ => XT.iconstV XT73.here hx rfl (0 : Int32) (hb hby at_274) (by decide) k_) ?_
    show own_Go p e below _ T73 (mkF m 275 #[oI i0, oR h0.size, oI (34 : Int32), oR w34, .unset] [(.int (0 : Int32))])
    refine own_by (fun t_ k_ => XS.istore XT73.here hx rfl (hb hby at_275) rfl (l' := #[oI i0, oR h0.size, oI (34 : Int32), oR w34, oI (0 : Int32)]) rfl k_) ?_
    show own_Go p e below _ T73 (mkF m 277 #[oI i0, oR h0.size, oI (34 : Int32), oR w34, oI (0 : Int32)] [])
    refine own_by (fun t_ k_ => XS.aloadN XT73.here hx rfl (hb hby at_277) rfl rfl  k_) ?_
    show own_Go p e below _ T73 (mkF m 278 #[oI i0, oR h0.size, oI (34 : Int32), oR w34, oI (0 : Int32)] [(.ref w34)])
    refine own_callV XT73 hx hZ hown (hw _ (List.mem_of_getElem? (i := 77) rfl)) (hw _ (List.mem_of_getElem? (i := 78) rfl)) (hw _ (List.mem_of_getElem? (i := 80) rfl)) (hw _ (List.mem_of_getElem? (i := 79) rfl)) (hw _ (List.mem_of_getElem? (i := 81) rfl)) (hw _ (List.mem_of_getElem? (i := 3) rfl)) (by decide) eT73 (b := w34) (E34.keep KT73) (argsL := []) (rest := []) (own_gn_met l Z a0 hw w34 w0 w1 w2 w14 w22 w23 w24 w25 w26 hT73 ⟨own_stak S0 KT73, own_stak S1 KT73, own_stak S2 KT73, own_stak S14 KT73, own_stak S22 KT73, own_stak S23 KT73, own_stak S24 KT73, own_stak S25 KT73, own_stak S26 KT73⟩) 0 (by decide) (by decide) (by rw [hml]; rfl) (lenOf pd_0 rfl) (Nat.le_of_eq rfl) (hb hby at_278) (by decide) (by decide) (st := [(.ref w34)]) rfl ?_
    intro T108 LT108 vT108 XT108 hQT108
    obtain ⟨rfl, eT108, rfl⟩ := hQT108
    show own_Go p e below _ T108 (mkF m 281 #[oI i0, oR h0.size, oI (34 : Int32), oR w34, oI (0 : Int32)] [(.int (own_gn w34 w0 w1 w2 w14 w22 w23 w24 w25 w26))])
    rw [show own_gn w34 w0 w1 w2 w14 w22 w23 w24 w25 w26 = (0 : Int32) by rw [own_gn, if_neg (F34.ne F0 (by decide)), if_neg (F34.ne F1 (by decide)), if_neg (F34.ne F2 (by decide)), if_neg (F34.ne F14 (by decide)), if_neg (F34.ne F22 (by decide)), if_neg (F34.ne F23 (by decide)), if_neg (F34.ne F24 (by decide)), if_neg (F34.ne F25 (by decide)), if_neg (F34.ne F26 (by decide))]]
    show own_Go p e below _ T108 (mkF m 281 #[oI i0, oR h0.size, oI (34 : Int32), oR w34, oI (0 : Int32)] [(.int (0 : Int32))])
    refine own_by (fun t_ k_ => XS.iload XT108.here hx rfl (hb hby at_281) rfl  k_) ?_
    show own_Go p e below _ T108 (mkF m 283 #[oI i0, oR h0.size, oI (34 : Int32), oR w34, oI (0 : Int32)] [(.int (0 : Int32)), (.int (0 : Int32))])
    refine own_by (fun t_ k_ => XS.icmpNo XT108.here hx rfl (hb hby at_283) rfl (XT.ii_ne_f (by decide)) k_) ?_
    show own_Go p e below _ T108 (mkF m 286 #[oI i0, oR h0.size, oI (34 : Int32), oR w34, oI (0 : Int32)] [])
    refine own_by (fun t_ k_ => XT.iconstV XT108.here hx rfl (1 : Int32) (hb hby at_286) (by decide) k_) ?_
    show own_Go p e below _ T108 (mkF m 287 #[oI i0, oR h0.size, oI (34 : Int32), oR w34, oI (0 : Int32)] [(.int (1 : Int32))])
    refine own_by (fun t_ k_ => XS.goto XT108.here hx rfl (pc0 := 287) (pc' := 291) rfl (hb hby at_287) (by decide) (by decide) k_) ?_
    show own_Go p e below _ T108 (mkF m 291 #[oI i0, oR h0.size, oI (34 : Int32), oR w34, oI (0 : Int32)] [(.int (1 : Int32))])
    exact own_retN XT108 hx hlk hret (by simp) (w := (1 : Int32)) (hb hby at_291) (by decide) (by decide) (by decide) (⟨rfl, own_app0 NT73⟩)
  · refine own_by (fun t_ k_ => XS.iloadN XT73.here hx rfl (hb hby at_252) rfl  k_) ?_
    show own_Go p e below _ T73 (mkF m 253 #[oI i0, oR h0.size, .unset, .unset, .unset] [(.int i0)])
    refine own_by (fun t_ k_ => XT73.ldcI hx hown (mvT hZ (hw _ (List.mem_of_getElem? (i := 76) rfl))) rfl (hb hby at_253) k_) ?_
    show own_Go p e below _ T73 (mkF m 255 #[oI i0, oR h0.size, .unset, .unset, .unset] [(.int (2147483647 : Int32)), (.int i0)])
    refine own_by (fun t_ k_ => XS.iand XT73.here hx rfl (hb hby at_255) rfl k_) ?_
    show own_Go p e below _ T73 (mkF m 256 #[oI i0, oR h0.size, .unset, .unset, .unset] [(.int (i0 &&& (2147483647 : Int32)))])
    refine own_by (fun t_ k_ => XT.bipushV XT73.here hx rfl (36 : Int32) (hb hby at_256) (by decide) k_) ?_
    show own_Go p e below _ T73 (mkF m 258 #[oI i0, oR h0.size, .unset, .unset, .unset] [(.int (36 : Int32)), (.int (i0 &&& (2147483647 : Int32)))])
    refine own_by (fun t_ k_ => iremM XT73 hx rfl (hb hby at_258) rfl (by decide) k_) ?_
    show own_Go p e below _ T73 (mkF m 259 #[oI i0, oR h0.size, .unset, .unset, .unset] [(.int ((i0 &&& (2147483647 : Int32)) % (36 : Int32)))])
    rw [hk]
    show own_Go p e below _ T73 (mkF m 259 #[oI i0, oR h0.size, .unset, .unset, .unset] [(.int (35 : Int32))])
    refine own_by (fun t_ k_ => XS.istoreN XT73.here hx rfl (hb hby at_259) rfl (l' := #[oI i0, oR h0.size, oI (35 : Int32), .unset, .unset]) rfl k_) ?_
    show own_Go p e below _ T73 (mkF m 260 #[oI i0, oR h0.size, oI (35 : Int32), .unset, .unset] [])
    refine own_by (fun t_ k_ => XS.aloadN XT73.here hx rfl (hb hby at_260) rfl rfl  k_) ?_
    show own_Go p e below _ T73 (mkF m 261 #[oI i0, oR h0.size, oI (35 : Int32), .unset, .unset] [(.ref h0.size)])
    refine own_by (fun t_ k_ => XS.iloadN XT73.here hx rfl (hb hby at_261) rfl  k_) ?_
    show own_Go p e below _ T73 (mkF m 262 #[oI i0, oR h0.size, oI (35 : Int32), .unset, .unset] [(.int (35 : Int32)), (.ref h0.size)])
    refine own_ldR XT73 hx hZ eT73 VT73 rfl 35 (by decide) (by decide) (v := (.ref w35)) rfl (hb hby at_262) ?_
    show own_Go p e below _ T73 (mkF m 263 #[oI i0, oR h0.size, oI (35 : Int32), .unset, .unset] [(.ref w35)])
    refine own_by (fun t_ k_ => XS.astoreN XT73.here hx rfl (hb hby at_263) rfl rfl (l' := #[oI i0, oR h0.size, oI (35 : Int32), oR w35, .unset]) rfl k_) ?_
    show own_Go p e below _ T73 (mkF m 264 #[oI i0, oR h0.size, oI (35 : Int32), oR w35, .unset] [])
    refine own_by (fun t_ k_ => XS.iloadN XT73.here hx rfl (hb hby at_264) rfl  k_) ?_
    show own_Go p e below _ T73 (mkF m 265 #[oI i0, oR h0.size, oI (35 : Int32), oR w35, .unset] [(.int (35 : Int32))])
    refine own_by (fun t_ k_ => XT.bipushV XT73.here hx rfl (9 : Int32) (hb hby at_265) (by decide) k_) ?_
    show own_Go p e below _ T73 (mkF m 267 #[oI i0, oR h0.size, oI (35 : Int32), oR w35, .unset] [(.int (9 : Int32)), (.int (35 : Int32))])
    refine own_by (fun t_ k_ => XS.icmpYes XT73.here hx rfl (pc0 := 267) (pc' := 274) rfl (hb hby at_267) rfl (XT.ii_ge_t (by decide)) (by decide) (by decide) k_) ?_
    show own_Go p e below _ T73 (mkF m 274 #[oI i0, oR h0.size, oI (35 : Int32), oR w35, .unset] [])
    refine own_by (fun t_ k_ => XT.iconstV XT73.here hx rfl (0 : Int32) (hb hby at_274) (by decide) k_) ?_
    show own_Go p e below _ T73 (mkF m 275 #[oI i0, oR h0.size, oI (35 : Int32), oR w35, .unset] [(.int (0 : Int32))])
    refine own_by (fun t_ k_ => XS.istore XT73.here hx rfl (hb hby at_275) rfl (l' := #[oI i0, oR h0.size, oI (35 : Int32), oR w35, oI (0 : Int32)]) rfl k_) ?_
    show own_Go p e below _ T73 (mkF m 277 #[oI i0, oR h0.size, oI (35 : Int32), oR w35, oI (0 : Int32)] [])
    refine own_by (fun t_ k_ => XS.aloadN XT73.here hx rfl (hb hby at_277) rfl rfl  k_) ?_
    show own_Go p e below _ T73 (mkF m 278 #[oI i0, oR h0.size, oI (35 : Int32), oR w35, oI (0 : Int32)] [(.ref w35)])
    refine own_callV XT73 hx hZ hown (hw _ (List.mem_of_getElem? (i := 77) rfl)) (hw _ (List.mem_of_getElem? (i := 78) rfl)) (hw _ (List.mem_of_getElem? (i := 80) rfl)) (hw _ (List.mem_of_getElem? (i := 79) rfl)) (hw _ (List.mem_of_getElem? (i := 81) rfl)) (hw _ (List.mem_of_getElem? (i := 3) rfl)) (by decide) eT73 (b := w35) (E35.keep KT73) (argsL := []) (rest := []) (own_gn_met l Z a0 hw w35 w0 w1 w2 w14 w22 w23 w24 w25 w26 hT73 ⟨own_stak S0 KT73, own_stak S1 KT73, own_stak S2 KT73, own_stak S14 KT73, own_stak S22 KT73, own_stak S23 KT73, own_stak S24 KT73, own_stak S25 KT73, own_stak S26 KT73⟩) 0 (by decide) (by decide) (by rw [hml]; rfl) (lenOf pd_0 rfl) (Nat.le_of_eq rfl) (hb hby at_278) (by decide) (by decide) (st := [(.ref w35)]) rfl ?_
    intro T109 LT109 vT109 XT109 hQT109
    obtain ⟨rfl, eT109, rfl⟩ := hQT109
    show own_Go p e below _ T109 (mkF m 281 #[oI i0, oR h0.size, oI (35 : Int32), oR w35, oI (0 : Int32)] [(.int (own_gn w35 w0 w1 w2 w14 w22 w23 w24 w25 w26))])
    rw [show own_gn w35 w0 w1 w2 w14 w22 w23 w24 w25 w26 = (0 : Int32) by rw [own_gn, if_neg (F35.ne F0 (by decide)), if_neg (F35.ne F1 (by decide)), if_neg (F35.ne F2 (by decide)), if_neg (F35.ne F14 (by decide)), if_neg (F35.ne F22 (by decide)), if_neg (F35.ne F23 (by decide)), if_neg (F35.ne F24 (by decide)), if_neg (F35.ne F25 (by decide)), if_neg (F35.ne F26 (by decide))]]
    show own_Go p e below _ T109 (mkF m 281 #[oI i0, oR h0.size, oI (35 : Int32), oR w35, oI (0 : Int32)] [(.int (0 : Int32))])
    refine own_by (fun t_ k_ => XS.iload XT109.here hx rfl (hb hby at_281) rfl  k_) ?_
    show own_Go p e below _ T109 (mkF m 283 #[oI i0, oR h0.size, oI (35 : Int32), oR w35, oI (0 : Int32)] [(.int (0 : Int32)), (.int (0 : Int32))])
    refine own_by (fun t_ k_ => XS.icmpNo XT109.here hx rfl (hb hby at_283) rfl (XT.ii_ne_f (by decide)) k_) ?_
    show own_Go p e below _ T109 (mkF m 286 #[oI i0, oR h0.size, oI (35 : Int32), oR w35, oI (0 : Int32)] [])
    refine own_by (fun t_ k_ => XT.iconstV XT109.here hx rfl (1 : Int32) (hb hby at_286) (by decide) k_) ?_
    show own_Go p e below _ T109 (mkF m 287 #[oI i0, oR h0.size, oI (35 : Int32), oR w35, oI (0 : Int32)] [(.int (1 : Int32))])
    refine own_by (fun t_ k_ => XS.goto XT109.here hx rfl (pc0 := 287) (pc' := 291) rfl (hb hby at_287) (by decide) (by decide) k_) ?_
    show own_Go p e below _ T109 (mkF m 291 #[oI i0, oR h0.size, oI (35 : Int32), oR w35, oI (0 : Int32)] [(.int (1 : Int32))])
    exact own_retN XT109 hx hlk hret (by simp) (w := (1 : Int32)) (hb hby at_291) (by decide) (by decide) (by decide) (⟨rfl, own_app0 NT73⟩)
set_option maxRecDepth 65536 in
set_option maxHeartbeats 40000000 in
theorem comes_1 {Post : Tables → Env → Array Value → State → Outcome → State → Prop} (hpost : ∀ tb e args s v u, (limb_1_1.after args s (.returned v) u = true ∧ limb_1_2.after args s (.returned v) u = true ∧ True) → FrameEnd s (.returned v) u (Jvm.fieldLocs frame_1_writes args s ++ Jvm.arrayLocs frame_1_arrays args s ++ Jvm.staticLocs frame_1_statics s) 16 192 → Post tb e args s (.returned v) u) :
    ArmFor flags0 classFile x code maxLocals ret World_1 tables_1 room_1 Calls_1 rest_1 Pre_1 Post := by
  intro l hfl _ _ p e ha hc hk s m args below hf hA hF happ hP
  obtain ⟨hcalls, hrest, hpre⟩ := hP
  obtain ⟨-, -, -, hnamed, -, -, -, hat⟩ := (Spec.applies_iff hf).mp happ
  obtain ⟨hg, hn⟩ := and_e (Cond.before_iff.mp (show (Jvm.Cond.and given_1 narrow_1).before args s = true from hpre))
  obtain ⟨g0, rg0⟩ := and_e hg
  have g1 := rg0
  obtain ⟨w0, rfl⟩ : ∃ w0 : Value, args = #[w0] := by
    have hs : args.size = 1 := by simpa [Cond.value] using g0
    obtain ⟨L⟩ := args
    match L, hs with
    | [w0], _ => exact ⟨w0, rfl⟩
  have hw := fun d (hd : d ∈ tables_1) => atoms_spec (ws := Jvm.Cond.code x code maxLocals ret :: tables_1) hat d (List.mem_cons_of_mem _ hd)
  obtain ⟨i0, ei0⟩ := is_v g1
  obtain rfl : w0 = (.int i0) := Option.some.inj ei0
  obtain ⟨n0, rn0⟩ := and_e hn
  obtain ⟨n1, rn1⟩ := and_e rn0
  obtain ⟨n2, rn2⟩ := and_e rn1
  obtain ⟨n3, rn3⟩ := and_e rn2
  obtain ⟨n4, rn4⟩ := and_e rn3
  obtain ⟨n5, rn5⟩ := and_e rn4
  obtain ⟨n6, rn6⟩ := and_e rn5
  obtain ⟨n7, rn7⟩ := and_e rn6
  obtain ⟨n8, rn8⟩ := and_e rn7
  obtain ⟨n9, rn9⟩ := and_e rn8
  obtain ⟨n10, rn10⟩ := and_e rn9
  obtain ⟨n11, rn11⟩ := and_e rn10
  obtain ⟨n12, rn12⟩ := and_e rn11
  obtain ⟨n13, rn13⟩ := and_e rn12
  obtain ⟨n14, rn14⟩ := and_e rn13
  obtain ⟨n15, rn15⟩ := and_e rn14
  obtain ⟨n16, rn16⟩ := and_e rn15
  obtain ⟨n17, rn17⟩ := and_e rn16
  obtain ⟨n18, rn18⟩ := and_e rn17
  obtain ⟨n19, rn19⟩ := and_e rn18
  obtain ⟨n20, rn20⟩ := and_e rn19
  obtain ⟨n21, rn21⟩ := and_e rn20
  obtain ⟨n22, rn22⟩ := and_e rn21
  obtain ⟨n23, rn23⟩ := and_e rn22
  obtain ⟨n24, rn24⟩ := and_e rn23
  obtain ⟨n25, rn25⟩ := and_e rn24
  obtain ⟨n26, rn26⟩ := and_e rn25
  obtain ⟨n27, rn27⟩ := and_e rn26
  obtain ⟨n28, rn28⟩ := and_e rn27
  obtain ⟨n29, rn29⟩ := and_e rn28
  obtain ⟨n30, rn30⟩ := and_e rn29
  obtain ⟨n31, rn31⟩ := and_e rn30
  obtain ⟨n32, rn32⟩ := and_e rn31
  obtain ⟨n33, rn33⟩ := and_e rn32
  obtain ⟨n34, rn34⟩ := and_e rn33
  obtain ⟨n35, rn35⟩ := and_e rn34
  obtain ⟨n36, rn36⟩ := and_e rn35
  obtain ⟨n37, rn37⟩ := and_e rn36
  obtain ⟨n38, rn38⟩ := and_e rn37
  obtain ⟨n39, rn39⟩ := and_e rn38
  obtain ⟨n40, rn40⟩ := and_e rn39
  obtain ⟨n41, rn41⟩ := and_e rn40
  obtain ⟨n42, rn42⟩ := and_e rn41
  obtain ⟨n43, rn43⟩ := and_e rn42
  obtain ⟨n44, rn44⟩ := and_e rn43
  obtain ⟨n45, rn45⟩ := and_e rn44
  obtain ⟨n46, rn46⟩ := and_e rn45
  obtain ⟨n47, rn47⟩ := and_e rn46
  obtain ⟨n48, rn48⟩ := and_e rn47
  obtain ⟨n49, rn49⟩ := and_e rn48
  obtain ⟨n50, rn50⟩ := and_e rn49
  obtain ⟨n51, rn51⟩ := and_e rn50
  obtain ⟨n52, rn52⟩ := and_e rn51
  obtain ⟨n53, rn53⟩ := and_e rn52
  obtain ⟨n54, rn54⟩ := and_e rn53
  obtain ⟨n55, rn55⟩ := and_e rn54
  obtain ⟨n56, rn56⟩ := and_e rn55
  obtain ⟨n57, rn57⟩ := and_e rn56
  obtain ⟨n58, rn58⟩ := and_e rn57
  obtain ⟨n59, rn59⟩ := and_e rn58
  obtain ⟨n60, rn60⟩ := and_e rn59
  obtain ⟨n61, rn61⟩ := and_e rn60
  obtain ⟨n62, rn62⟩ := and_e rn61
  obtain ⟨n63, rn63⟩ := and_e rn62
  obtain ⟨n64, rn64⟩ := and_e rn63
  obtain ⟨n65, rn65⟩ := and_e rn64
  obtain ⟨n66, rn66⟩ := and_e rn65
  obtain ⟨n67, rn67⟩ := and_e rn66
  obtain ⟨n68, rn68⟩ := and_e rn67
  obtain ⟨n69, rn69⟩ := and_e rn68
  obtain ⟨n70, rn70⟩ := and_e rn69
  have n71 := rn70
  obtain ⟨u0, v0⟩ := exa_v n0
  have S0 := Sta.start v0 (Or.inr ⟨(hw _ (List.mem_of_getElem? (i := 3) rfl)), (hw _ (List.mem_of_getElem? (i := 4) rfl))⟩)
  have E0 := Exa.start v0 n0
  have F0 := Fld.start ((fld_at v0).symm.trans (own_eqi n37))
  obtain ⟨u1, v1⟩ := exa_v n1
  have S1 := Sta.start v1 (Or.inr ⟨(hw _ (List.mem_of_getElem? (i := 3) rfl)), (hw _ (List.mem_of_getElem? (i := 7) rfl))⟩)
  have E1 := Exa.start v1 n1
  have F1 := Fld.start ((fld_at v1).symm.trans (own_eqi n38))
  obtain ⟨u2, v2⟩ := exa_v n2
  have S2 := Sta.start v2 (Or.inr ⟨(hw _ (List.mem_of_getElem? (i := 3) rfl)), (hw _ (List.mem_of_getElem? (i := 9) rfl))⟩)
  have E2 := Exa.start v2 n2
  have F2 := Fld.start ((fld_at v2).symm.trans (own_eqi n39))
  obtain ⟨u3, v3⟩ := exa_v n9
  have S3 := Sta.start v3 (Or.inr ⟨(hw _ (List.mem_of_getElem? (i := 3) rfl)), (hw _ (List.mem_of_getElem? (i := 23) rfl))⟩)
  have E3 := Exa.start v3 n9
  have F3 := Fld.start ((fld_at v3).symm.trans (own_eqi n62))
  obtain ⟨u4, v4⟩ := exa_v n10
  have S4 := Sta.start v4 (Or.inr ⟨(hw _ (List.mem_of_getElem? (i := 3) rfl)), (hw _ (List.mem_of_getElem? (i := 25) rfl))⟩)
  have E4 := Exa.start v4 n10
  have F4 := Fld.start ((fld_at v4).symm.trans (own_eqi n50))
  obtain ⟨u5, v5⟩ := exa_v n11
  have S5 := Sta.start v5 (Or.inr ⟨(hw _ (List.mem_of_getElem? (i := 3) rfl)), (hw _ (List.mem_of_getElem? (i := 27) rfl))⟩)
  have E5 := Exa.start v5 n11
  have F5 := Fld.start ((fld_at v5).symm.trans (own_eqi n46))
  obtain ⟨u6, v6⟩ := exa_v n12
  have S6 := Sta.start v6 (Or.inr ⟨(hw _ (List.mem_of_getElem? (i := 3) rfl)), (hw _ (List.mem_of_getElem? (i := 29) rfl))⟩)
  have E6 := Exa.start v6 n12
  have F6 := Fld.start ((fld_at v6).symm.trans (own_eqi n47))
  obtain ⟨u7, v7⟩ := exa_v n13
  have S7 := Sta.start v7 (Or.inr ⟨(hw _ (List.mem_of_getElem? (i := 3) rfl)), (hw _ (List.mem_of_getElem? (i := 31) rfl))⟩)
  have E7 := Exa.start v7 n13
  have F7 := Fld.start ((fld_at v7).symm.trans (own_eqi n63))
  obtain ⟨u8, v8⟩ := exa_v n14
  have S8 := Sta.start v8 (Or.inr ⟨(hw _ (List.mem_of_getElem? (i := 3) rfl)), (hw _ (List.mem_of_getElem? (i := 33) rfl))⟩)
  have E8 := Exa.start v8 n14
  have F8 := Fld.start ((fld_at v8).symm.trans (own_eqi n60))
  obtain ⟨u9, v9⟩ := exa_v n15
  have S9 := Sta.start v9 (Or.inr ⟨(hw _ (List.mem_of_getElem? (i := 3) rfl)), (hw _ (List.mem_of_getElem? (i := 35) rfl))⟩)
  have E9 := Exa.start v9 n15
  have F9 := Fld.start ((fld_at v9).symm.trans (own_eqi n54))
  obtain ⟨u10, v10⟩ := exa_v n16
  have S10 := Sta.start v10 (Or.inr ⟨(hw _ (List.mem_of_getElem? (i := 3) rfl)), (hw _ (List.mem_of_getElem? (i := 37) rfl))⟩)
  have E10 := Exa.start v10 n16
  have F10 := Fld.start ((fld_at v10).symm.trans (own_eqi n52))
  obtain ⟨u11, v11⟩ := exa_v n17
  have S11 := Sta.start v11 (Or.inr ⟨(hw _ (List.mem_of_getElem? (i := 3) rfl)), (hw _ (List.mem_of_getElem? (i := 39) rfl))⟩)
  have E11 := Exa.start v11 n17
  have F11 := Fld.start ((fld_at v11).symm.trans (own_eqi n58))
  obtain ⟨u12, v12⟩ := exa_v n18
  have S12 := Sta.start v12 (Or.inr ⟨(hw _ (List.mem_of_getElem? (i := 3) rfl)), (hw _ (List.mem_of_getElem? (i := 41) rfl))⟩)
  have E12 := Exa.start v12 n18
  have F12 := Fld.start ((fld_at v12).symm.trans (own_eqi n65))
  obtain ⟨u13, v13⟩ := exa_v n19
  have S13 := Sta.start v13 (Or.inr ⟨(hw _ (List.mem_of_getElem? (i := 3) rfl)), (hw _ (List.mem_of_getElem? (i := 43) rfl))⟩)
  have E13 := Exa.start v13 n19
  have F13 := Fld.start ((fld_at v13).symm.trans (own_eqi n40))
  obtain ⟨u14, v14⟩ := exa_v n3
  have S14 := Sta.start v14 (Or.inr ⟨(hw _ (List.mem_of_getElem? (i := 3) rfl)), (hw _ (List.mem_of_getElem? (i := 11) rfl))⟩)
  have E14 := Exa.start v14 n3
  have F14 := Fld.start ((fld_at v14).symm.trans (own_eqi n36))
  obtain ⟨u15, v15⟩ := exa_v n20
  have S15 := Sta.start v15 (Or.inr ⟨(hw _ (List.mem_of_getElem? (i := 3) rfl)), (hw _ (List.mem_of_getElem? (i := 45) rfl))⟩)
  have E15 := Exa.start v15 n20
  have F15 := Fld.start ((fld_at v15).symm.trans (own_eqi n53))
  obtain ⟨u16, v16⟩ := exa_v n21
  have S16 := Sta.start v16 (Or.inr ⟨(hw _ (List.mem_of_getElem? (i := 3) rfl)), (hw _ (List.mem_of_getElem? (i := 47) rfl))⟩)
  have E16 := Exa.start v16 n21
  have F16 := Fld.start ((fld_at v16).symm.trans (own_eqi n61))
  obtain ⟨u17, v17⟩ := exa_v n22
  have S17 := Sta.start v17 (Or.inr ⟨(hw _ (List.mem_of_getElem? (i := 3) rfl)), (hw _ (List.mem_of_getElem? (i := 49) rfl))⟩)
  have E17 := Exa.start v17 n22
  have F17 := Fld.start ((fld_at v17).symm.trans (own_eqi n64))
  obtain ⟨u18, v18⟩ := exa_v n23
  have S18 := Sta.start v18 (Or.inr ⟨(hw _ (List.mem_of_getElem? (i := 3) rfl)), (hw _ (List.mem_of_getElem? (i := 51) rfl))⟩)
  have E18 := Exa.start v18 n23
  have F18 := Fld.start ((fld_at v18).symm.trans (own_eqi n69))
  obtain ⟨u19, v19⟩ := exa_v n24
  have S19 := Sta.start v19 (Or.inr ⟨(hw _ (List.mem_of_getElem? (i := 3) rfl)), (hw _ (List.mem_of_getElem? (i := 53) rfl))⟩)
  have E19 := Exa.start v19 n24
  have F19 := Fld.start ((fld_at v19).symm.trans (own_eqi n56))
  obtain ⟨u20, v20⟩ := exa_v n25
  have S20 := Sta.start v20 (Or.inr ⟨(hw _ (List.mem_of_getElem? (i := 3) rfl)), (hw _ (List.mem_of_getElem? (i := 55) rfl))⟩)
  have E20 := Exa.start v20 n25
  have F20 := Fld.start ((fld_at v20).symm.trans (own_eqi n68))
  obtain ⟨u21, v21⟩ := exa_v n26
  have S21 := Sta.start v21 (Or.inr ⟨(hw _ (List.mem_of_getElem? (i := 3) rfl)), (hw _ (List.mem_of_getElem? (i := 57) rfl))⟩)
  have E21 := Exa.start v21 n26
  have F21 := Fld.start ((fld_at v21).symm.trans (own_eqi n55))
  obtain ⟨u22, v22⟩ := exa_v n4
  have S22 := Sta.start v22 (Or.inr ⟨(hw _ (List.mem_of_getElem? (i := 3) rfl)), (hw _ (List.mem_of_getElem? (i := 13) rfl))⟩)
  have E22 := Exa.start v22 n4
  have F22 := Fld.start ((fld_at v22).symm.trans (own_eqi n41))
  obtain ⟨u23, v23⟩ := exa_v n5
  have S23 := Sta.start v23 (Or.inr ⟨(hw _ (List.mem_of_getElem? (i := 3) rfl)), (hw _ (List.mem_of_getElem? (i := 15) rfl))⟩)
  have E23 := Exa.start v23 n5
  have F23 := Fld.start ((fld_at v23).symm.trans (own_eqi n42))
  obtain ⟨u24, v24⟩ := exa_v n6
  have S24 := Sta.start v24 (Or.inr ⟨(hw _ (List.mem_of_getElem? (i := 3) rfl)), (hw _ (List.mem_of_getElem? (i := 17) rfl))⟩)
  have E24 := Exa.start v24 n6
  have F24 := Fld.start ((fld_at v24).symm.trans (own_eqi n43))
  obtain ⟨u25, v25⟩ := exa_v n7
  have S25 := Sta.start v25 (Or.inr ⟨(hw _ (List.mem_of_getElem? (i := 3) rfl)), (hw _ (List.mem_of_getElem? (i := 19) rfl))⟩)
  have E25 := Exa.start v25 n7
  have F25 := Fld.start ((fld_at v25).symm.trans (own_eqi n44))
  obtain ⟨u26, v26⟩ := exa_v n8
  have S26 := Sta.start v26 (Or.inr ⟨(hw _ (List.mem_of_getElem? (i := 3) rfl)), (hw _ (List.mem_of_getElem? (i := 21) rfl))⟩)
  have E26 := Exa.start v26 n8
  have F26 := Fld.start ((fld_at v26).symm.trans (own_eqi n45))
  obtain ⟨u27, v27⟩ := exa_v n27
  have S27 := Sta.start v27 (Or.inr ⟨(hw _ (List.mem_of_getElem? (i := 3) rfl)), (hw _ (List.mem_of_getElem? (i := 59) rfl))⟩)
  have E27 := Exa.start v27 n27
  have F27 := Fld.start ((fld_at v27).symm.trans (own_eqi n67))
  obtain ⟨u28, v28⟩ := exa_v n28
  have S28 := Sta.start v28 (Or.inr ⟨(hw _ (List.mem_of_getElem? (i := 3) rfl)), (hw _ (List.mem_of_getElem? (i := 61) rfl))⟩)
  have E28 := Exa.start v28 n28
  have F28 := Fld.start ((fld_at v28).symm.trans (own_eqi n57))
  obtain ⟨u29, v29⟩ := exa_v n29
  have S29 := Sta.start v29 (Or.inr ⟨(hw _ (List.mem_of_getElem? (i := 3) rfl)), (hw _ (List.mem_of_getElem? (i := 63) rfl))⟩)
  have E29 := Exa.start v29 n29
  have F29 := Fld.start ((fld_at v29).symm.trans (own_eqi n70))
  obtain ⟨u30, v30⟩ := exa_v n30
  have S30 := Sta.start v30 (Or.inr ⟨(hw _ (List.mem_of_getElem? (i := 3) rfl)), (hw _ (List.mem_of_getElem? (i := 65) rfl))⟩)
  have E30 := Exa.start v30 n30
  have F30 := Fld.start ((fld_at v30).symm.trans (own_eqi n66))
  obtain ⟨u31, v31⟩ := exa_v n31
  have S31 := Sta.start v31 (Or.inr ⟨(hw _ (List.mem_of_getElem? (i := 3) rfl)), (hw _ (List.mem_of_getElem? (i := 67) rfl))⟩)
  have E31 := Exa.start v31 n31
  have F31 := Fld.start ((fld_at v31).symm.trans (own_eqi n51))
  obtain ⟨u32, v32⟩ := exa_v n32
  have S32 := Sta.start v32 (Or.inr ⟨(hw _ (List.mem_of_getElem? (i := 3) rfl)), (hw _ (List.mem_of_getElem? (i := 69) rfl))⟩)
  have E32 := Exa.start v32 n32
  have F32 := Fld.start ((fld_at v32).symm.trans (own_eqi n59))
  obtain ⟨u33, v33⟩ := exa_v n33
  have S33 := Sta.start v33 (Or.inr ⟨(hw _ (List.mem_of_getElem? (i := 3) rfl)), (hw _ (List.mem_of_getElem? (i := 71) rfl))⟩)
  have E33 := Exa.start v33 n33
  have F33 := Fld.start ((fld_at v33).symm.trans (own_eqi n49))
  obtain ⟨u34, v34⟩ := exa_v n34
  have S34 := Sta.start v34 (Or.inr ⟨(hw _ (List.mem_of_getElem? (i := 3) rfl)), (hw _ (List.mem_of_getElem? (i := 73) rfl))⟩)
  have E34 := Exa.start v34 n34
  have F34 := Fld.start ((fld_at v34).symm.trans (own_eqi n48))
  obtain ⟨u35, v35⟩ := exa_v n35
  have S35 := Sta.start v35 (Or.inr ⟨(hw _ (List.mem_of_getElem? (i := 3) rfl)), (hw _ (List.mem_of_getElem? (i := 75) rfl))⟩)
  have E35 := Exa.start v35 n35
  have F35 := Fld.start ((fld_at v35).symm.trans (own_eqi n71))
  obtain ⟨n, o, h1, h2, h3, _, L, rfl, ⟨rfl, N⟩, hq⟩ := own_law l s _ hw i0 u0 u1 u2 u3 u4 u5 u6 u7 u8 u9 u10 u11 u12 u13 u14 u15 u16 u17 u18 u19 u20 u21 u22 u23 u24 u25 u26 u27 u28 u29 u30 u31 u32 u33 u34 u35 s.heap S0 S1 S2 S3 S4 S5 S6 S7 S8 S9 S10 S11 S12 S13 S14 S15 S16 S17 S18 S19 S20 S21 S22 S23 S24 S25 S26 S27 S28 S29 S30 S31 S32 S33 S34 S35 E0 E1 E2 E3 E4 E5 E6 E7 E8 E9 E10 E11 E12 E13 E14 E15 E16 E17 E18 E19 E20 E21 E22 E23 E24 E25 E26 E27 E28 E29 E30 E31 E32 E33 E34 E35 F0 F1 F2 F3 F4 F5 F6 F7 F8 F9 F10 F11 F12 F13 F14 F15 F16 F17 F18 F19 F20 F21 F22 F23 F24 F25 F26 F27 F28 F29 F30 F31 F32 F33 F34 F35 p e ha hc hk s m _ below hf ((Spec.applies_iff_loose hf).mp happ).1 ⟨rfl, State.Warmed39.refl s, rfl⟩ trivial
  refine ⟨n, _, h1, h2, h3, hpost _ _ _ _ _ _ ⟨Cond.after_iff.mpr rfl, Cond.after_iff.mpr (eq_i res_at (Term.int_eval (1)) rfl), trivial⟩ ⟨hq.1, hq.2.1, (hq.2.2.sift fun y hy => Or.inr (N y hy)).mono (by decide) (by decide)⟩⟩
theorem main_1_1 : Claimed_1_1 := comes_1 fun _ _ _ _ _ _ h hF => ⟨h.1, hF⟩
theorem main_1_2 : Claimed_1_2 := comes_1 fun _ _ _ _ _ _ h hF => ⟨h.2.1, hF⟩
end Jvm.Pilot.@@N@@
namespace Jvm.Pilot.@@N@@
open Jvm Jvm.ClassFile Sem Op Lib Jvm.Free Jvm.Stand Jvm.Pilot.@@N@@.Jvm.D
/-! MADE BY PROGRAM (witnessworld.py) out of the Statement's table words and the real class files: 13 classes; the members and pool entries that the words name. The judged class is class 1, her method 1. -/
namespace start1
open Jvm.ClassFile
def u (s : String) : CpInfo := .utf8 (stringToUtf16 s)
/-- a pool by its gaps: so many unusable entries, then the entry; so many at the end -/
def gap : Nat → List CpInfo → List CpInfo
  | 0, r => r
  | n + 1, r => .unusable :: gap n r
def poolList (es : List (Nat × CpInfo)) (last : Nat) : List CpInfo := es.foldr (fun e r => gap e.1 (e.2 :: r)) (gap last [])
def pool (es : List (Nat × CpInfo)) (last : Nat) : Array CpInfo := ⟨poolList es last⟩
def fileOf (pool : Array CpInfo) (this : Nat) (attrs : Array Attribute := #[]) (ms : Array MethodInfo := #[]) (fl : Nat := 33) (sup : Nat := 0) (ifs : Array Nat := #[]) (fds : Array FieldInfo := #[]) : ClassFile where
  minorVersion := 0
  majorVersion := 65
  constantPool := pool
  accessFlags := fl
  thisClass := this
  superClass := sup
  interfaces := ifs
  fields := fds
  methods := ms
  attributes := attrs
def plain (name : String) (sup : Option ClassId) : Class where
  name := name
  kind := .ordinary
  loader := none
  accessFlags := 33
  super := sup
  interfaces := #[]
  cf := none
  fields := #[]
  methods := #[]
  instanceTypes := #[]
  staticTypes := #[]
  resolved := #[]
  callSites := []
  init := .initialized
  statics := none
  mirror := none

def pool0 : Array CpInfo := pool [(5, u "<init>"), (0, u "()V"), (1, .class_ 10), (1, u "java/lang/Object")] 113

def k0m0 : Method := { name := "<init>", desc := "()V", sig := { parameters := [], returnType := none }, accessFlags := 1, code := none }
/-- java/lang/Object -/
def k0 : Class := { plain "java/lang/Object" none with
  accessFlags := 33
  interfaces := #[]
  cf := some (fileOf pool0 8 #[] #[{ accessFlags := 1, nameIndex := 5, descriptorIndex := 6, attributes := #[] }] 33 0 #[] #[])
  fields := #[]
  methods := #[k0m0]
  instanceTypes := #[]
  staticTypes := #[]
  resolved := Array.replicate 124 none
  statics := none }

def pool1 : Array CpInfo := pool [(2, .class_ 4), (1, u "java/lang/Object"), (0, u "<init>"), (0, u "()V"), (0, .class_ 8), (0, u "com/example/focus_crawl/focuscrawl/crawl/page/XPathFunction"), (0, .fieldref 7 10), (0, .nameAndType 11 12), (0, u "LAST"), (0, u "Lcom/example/focus_crawl/focuscrawl/crawl/page/XPathFunction;"), (0, .fieldref 7 14), (0, .nameAndType 15 12), (0, u "POSITION"), (0, .fieldref 7 17), (0, .nameAndType 18 12), (0, u "COUNT"), (0, .fieldref 7 20), (0, .nameAndType 21 12), (0, u "STRING_LENGTH"), (0, .fieldref 7 23), (0, .nameAndType 24 12), (0, u "NUMBER"), (0, .fieldref 7 26), (0, .nameAndType 27 12), (0, u "SUM"), (0, .fieldref 7 29), (0, .nameAndType 30 12), (0, u "FLOOR"), (0, .fieldref 7 32), (0, .nameAndType 33 12), (0, u "CEILING"), (0, .fieldref 7 35), (0, .nameAndType 36 12), (0, u "ROUND"), (0, .fieldref 7 38), (0, .nameAndType 39 12), (0, u "ID"), (0, .fieldref 7 41), (0, .nameAndType 42 12), (0, u "LOCAL_NAME"), (0, .fieldref 7 44), (0, .nameAndType 45 12), (0, u "NAMESPACE_URI"), (0, .fieldref 7 47), (0, .nameAndType 48 12), (0, u "NAME"), (0, .fieldref 7 50), (0, .nameAndType 51 12), (0, u "STRING"), (0, .fieldref 7 53), (0, .nameAndType 54 12), (0, u "CONCAT"), (0, .fieldref 7 56), (0, .nameAndType 57 12), (0, u "STARTS_WITH"), (0, .fieldref 7 59), (0, .nameAndType 60 12), (0, u "CONTAINS"), (0, .fieldref 7 62), (0, .nameAndType 63 12), (0, u "SUBSTRING_BEFORE"), (0, .fieldref 7 65), (0, .nameAndType 66 12), (0, u "SUBSTRING_AFTER"), (0, .fieldref 7 68), (0, .nameAndType 69 12), (0, u "SUBSTRING"), (0, .fieldref 7 71), (0, .nameAndType 72 12), (0, u "NORMALIZE_SPACE"), (0, .fieldref 7 74), (0, .nameAndType 75 12), (0, u "TRANSLATE"), (0, .fieldref 7 77), (0, .nameAndType 78 12), (0, u "BOOLEAN"), (0, .fieldref 7 80), (0, .nameAndType 81 12), (0, u "NOT"), (0, .fieldref 7 83), (0, .nameAndType 84 12), (0, u "TRUE"), (0, .fieldref 7 86), (0, .nameAndType 87 12), (0, u "FALSE"), (0, .fieldref 7 89), (0, .nameAndType 90 12), (0, u "LANG"), (0, .fieldref 7 92), (0, .nameAndType 93 12), (0, u "CURRENT"), (0, .fieldref 7 95), (0, .nameAndType 96 12), (0, u "GENERATE_ID"), (0, .fieldref 7 98), (0, .nameAndType 99 12), (0, u "SYSTEM_PROPERTY"), (0, .fieldref 7 101), (0, .nameAndType 102 12), (0, u "FUNCTION_AVAILABLE"), (0, .fieldref 7 104), (0, .nameAndType 105 12), (0, u "ELEMENT_AVAILABLE"), (0, .fieldref 7 107), (0, .nameAndType 108 12), (0, u "UNPARSED_ENTITY_URI"), (0, .fieldref 7 110), (0, .nameAndType 111 12), (0, u "DOCUMENT_LOCATION"), (0, .fieldref 7 113), (0, .nameAndType 114 12), (0, u "KEY"), (0, .fieldref 7 116), (0, .nameAndType 117 12), (0, u "HERE"), (0, .integer 2147483647), (0, .methodref 7 120), (0, .nameAndType 121 122), (0, u "givesNumber"), (0, u "()Z"), (0, .class_ 124), (0, u "com/example/focus_crawl/focuscrawl/crawl/page/XPathFunctionGivesNumberPinLaw"), (2, u "law"), (0, u "(I)Z")] 5

def k1m0 : Method := { name := "<init>", desc := "()V", sig := { parameters := [], returnType := none }, accessFlags := 2, code := none }
def k1c1 : Code := { maxStack := 4, maxLocals := 5, code := code, exceptionTable := #[], attributes := #[] }
def k1m1 : Method := { name := "law", desc := "(I)Z", sig := { parameters := [.int], returnType := some .boolean }, accessFlags := 9, code := some k1c1 }
/-- com/example/focus_crawl/focuscrawl/crawl/page/XPathFunctionGivesNumberPinLaw -/
def k1 : Class := { plain "com/example/focus_crawl/focuscrawl/crawl/page/XPathFunctionGivesNumberPinLaw" (some 0) with
  accessFlags := 49
  interfaces := #[]
  cf := some (fileOf pool1 123 #[] #[{ accessFlags := 2, nameIndex := 5, descriptorIndex := 6, attributes := #[] }, { accessFlags := 9, nameIndex := 127, descriptorIndex := 128, attributes := #[] }] 49 2 #[] #[])
  fields := #[]
  methods := #[k1m0, k1m1]
  instanceTypes := #[]
  staticTypes := #[]
  resolved := Array.replicate 134 none
  statics := none }

def pool2 : Array CpInfo := pool [(1, .class_ 2), (0, u "java/lang/constant/Constable"), (0, .class_ 4), (0, u "java/lang/Object")] 6

/-- java/lang/constant/Constable -/
def k2 : Class := { plain "java/lang/constant/Constable" (some 0) with
  accessFlags := 1537
  interfaces := #[]
  cf := some (fileOf pool2 1 #[] #[] 1537 3 #[] #[])
  fields := #[]
  methods := #[]
  instanceTypes := #[]
  staticTypes := #[]
  resolved := Array.replicate 11 none
  statics := none }

def pool3 : Array CpInfo := pool [(1, .class_ 2), (0, u "java/lang/Comparable"), (0, .class_ 4), (0, u "java/lang/Object")] 7

/-- java/lang/Comparable -/
def k3 : Class := { plain "java/lang/Comparable" (some 0) with
  accessFlags := 1537
  interfaces := #[]
  cf := some (fileOf pool3 1 #[] #[] 1537 3 #[] #[])
  fields := #[]
  methods := #[]
  instanceTypes := #[]
  staticTypes := #[]
  resolved := Array.replicate 12 none
  statics := none }

def pool4 : Array CpInfo := pool [(1, .class_ 2), (0, u "java/io/Serializable"), (0, .class_ 4), (0, u "java/lang/Object")] 2

/-- java/io/Serializable -/
def k4 : Class := { plain "java/io/Serializable" (some 0) with
  accessFlags := 1537
  interfaces := #[]
  cf := some (fileOf pool4 1 #[] #[] 1537 3 #[] #[])
  fields := #[]
  methods := #[]
  instanceTypes := #[]
  staticTypes := #[]
  resolved := Array.replicate 7 none
  statics := none }

def pool5 : Array CpInfo := pool [(2, .class_ 4), (1, u "java/lang/Enum"), (0, u "name"), (0, u "Ljava/lang/String;"), (2, u "ordinal"), (0, u "I"), (1, .class_ 14), (1, u "java/lang/Object"), (4, u "hash"), (86, .class_ 108), (1, u "java/lang/Enum$EnumDesc"), (2, .class_ 112), (0, u "java/lang/constant/Constable"), (0, .class_ 114), (0, u "java/lang/Comparable"), (0, .class_ 116), (0, u "java/io/Serializable")] 87

/-- java/lang/Enum -/
def k5 : Class := { plain "java/lang/Enum" (some 0) with
  accessFlags := 1057
  interfaces := #[2, 3, 4]
  cf := some (fileOf pool5 2 #[.nestMembers #[106]] #[] 1057 12 #[111, 113, 115] #[{ accessFlags := 18, nameIndex := 5, descriptorIndex := 6, attributes := #[] }, { accessFlags := 18, nameIndex := 9, descriptorIndex := 10, attributes := #[] }, { accessFlags := 2, nameIndex := 19, descriptorIndex := 10, attributes := #[] }])
  fields := #[{ name := "name", type := (.object "java/lang/String"), accessFlags := 18, slot := 0, constantValue := 0 }, { name := "ordinal", type := .int, accessFlags := 18, slot := 1, constantValue := 0 }, { name := "hash", type := .int, accessFlags := 2, slot := 2, constantValue := 0 }]
  methods := #[]
  instanceTypes := #[(.object "java/lang/String"), .int, .int]
  staticTypes := #[]
  resolved := Array.replicate 204 none
  statics := none }

def pool6 : Array CpInfo := pool [(1, .class_ 2), (0, u "com/example/focus_crawl/focuscrawl/crawl/page/XPathFunction"), (0, .fieldref 1 4), (0, .nameAndType 5 6), (0, u "LAST"), (0, u "Lcom/example/focus_crawl/focuscrawl/crawl/page/XPathFunction;"), (0, .fieldref 1 8), (0, .nameAndType 9 6), (0, u "POSITION"), (0, .fieldref 1 11), (0, .nameAndType 12 6), (0, u "COUNT"), (2, u "ID"), (2, u "LOCAL_NAME"), (2, u "NAMESPACE_URI"), (2, u "NAME"), (2, u "STRING"), (2, u "CONCAT"), (2, u "STARTS_WITH"), (2, u "CONTAINS"), (2, u "SUBSTRING_BEFORE"), (2, u "SUBSTRING_AFTER"), (2, u "SUBSTRING"), (0, .fieldref 1 47), (0, .nameAndType 48 6), (0, u "STRING_LENGTH"), (2, u "NORMALIZE_SPACE"), (2, u "TRANSLATE"), (2, u "BOOLEAN"), (2, u "NOT"), (2, u "TRUE"), (2, u "FALSE"), (2, u "LANG"), (0, .fieldref 1 71), (0, .nameAndType 72 6), (0, u "NUMBER"), (0, .fieldref 1 74), (0, .nameAndType 75 6), (0, u "SUM"), (0, .fieldref 1 77), (0, .nameAndType 78 6), (0, u "FLOOR"), (0, .fieldref 1 80), (0, .nameAndType 81 6), (0, u "CEILING"), (0, .fieldref 1 83), (0, .nameAndType 84 6), (0, u "ROUND"), (2, u "CURRENT"), (2, u "GENERATE_ID"), (2, u "SYSTEM_PROPERTY"), (2, u "FUNCTION_AVAILABLE"), (2, u "ELEMENT_AVAILABLE"), (2, u "UNPARSED_ENTITY_URI"), (2, u "DOCUMENT_LOCATION"), (2, u "KEY"), (2, u "HERE"), (2, u "$VALUES"), (0, u "[Lcom/example/focus_crawl/focuscrawl/crawl/page/XPathFunction;"), (6, .class_ 124), (1, u "java/lang/Enum"), (8, u "name"), (0, u "Ljava/lang/String;"), (2, u "minArguments"), (0, u "I"), (2, u "maxArguments"), (2, u "BY_NAME"), (0, u "Ljava/util/Map;"), (9, u "()Z"), (355, u "givesNumber")] 47

def k6c0 : Code := { maxStack := 2, maxLocals := 1, code := prog_49_method_9_code, exceptionTable := #[], attributes := #[] }
def k6m0 : Method := { name := "givesNumber", desc := "()Z", sig := { parameters := [], returnType := some .boolean }, accessFlags := 0, code := some k6c0 }
/-- com/example/focus_crawl/focuscrawl/crawl/page/XPathFunction -/
def k6 : Class := { plain "com/example/focus_crawl/focuscrawl/crawl/page/XPathFunction" (some 5) with
  accessFlags := 16432
  interfaces := #[]
  cf := some (fileOf pool6 1 #[] #[{ accessFlags := 0, nameIndex := 511, descriptorIndex := 155, attributes := #[] }] 16432 122 #[] #[{ accessFlags := 16409, nameIndex := 5, descriptorIndex := 6, attributes := #[] }, { accessFlags := 16409, nameIndex := 9, descriptorIndex := 6, attributes := #[] }, { accessFlags := 16409, nameIndex := 12, descriptorIndex := 6, attributes := #[] }, { accessFlags := 16409, nameIndex := 15, descriptorIndex := 6, attributes := #[] }, { accessFlags := 16409, nameIndex := 18, descriptorIndex := 6, attributes := #[] }, { accessFlags := 16409, nameIndex := 21, descriptorIndex := 6, attributes := #[] }, { accessFlags := 16409, nameIndex := 24, descriptorIndex := 6, attributes := #[] }, { accessFlags := 16409, nameIndex := 27, descriptorIndex := 6, attributes := #[] }, { accessFlags := 16409, nameIndex := 30, descriptorIndex := 6, attributes := #[] }, { accessFlags := 16409, nameIndex := 33, descriptorIndex := 6, attributes := #[] }, { accessFlags := 16409, nameIndex := 36, descriptorIndex := 6, attributes := #[] }, { accessFlags := 16409, nameIndex := 39, descriptorIndex := 6, attributes := #[] }, { accessFlags := 16409, nameIndex := 42, descriptorIndex := 6, attributes := #[] }, { accessFlags := 16409, nameIndex := 45, descriptorIndex := 6, attributes := #[] }, { accessFlags := 16409, nameIndex := 48, descriptorIndex := 6, attributes := #[] }, { accessFlags := 16409, nameIndex := 51, descriptorIndex := 6, attributes := #[] }, { accessFlags := 16409, nameIndex := 54, descriptorIndex := 6, attributes := #[] }, { accessFlags := 16409, nameIndex := 57, descriptorIndex := 6, attributes := #[] }, { accessFlags := 16409, nameIndex := 60, descriptorIndex := 6, attributes := #[] }, { accessFlags := 16409, nameIndex := 63, descriptorIndex := 6, attributes := #[] }, { accessFlags := 16409, nameIndex := 66, descriptorIndex := 6, attributes := #[] }, { accessFlags := 16409, nameIndex := 69, descriptorIndex := 6, attributes := #[] }, { accessFlags := 16409, nameIndex := 72, descriptorIndex := 6, attributes := #[] }, { accessFlags := 16409, nameIndex := 75, descriptorIndex := 6, attributes := #[] }, { accessFlags := 16409, nameIndex := 78, descriptorIndex := 6, attributes := #[] }, { accessFlags := 16409, nameIndex := 81, descriptorIndex := 6, attributes := #[] }, { accessFlags := 16409, nameIndex := 84, descriptorIndex := 6, attributes := #[] }, { accessFlags := 16409, nameIndex := 87, descriptorIndex := 6, attributes := #[] }, { accessFlags := 16409, nameIndex := 90, descriptorIndex := 6, attributes := #[] }, { accessFlags := 16409, nameIndex := 93, descriptorIndex := 6, attributes := #[] }, { accessFlags := 16409, nameIndex := 96, descriptorIndex := 6, attributes := #[] }, { accessFlags := 16409, nameIndex := 99, descriptorIndex := 6, attributes := #[] }, { accessFlags := 16409, nameIndex := 102, descriptorIndex := 6, attributes := #[] }, { accessFlags := 16409, nameIndex := 105, descriptorIndex := 6, attributes := #[] }, { accessFlags := 16409, nameIndex := 108, descriptorIndex := 6, attributes := #[] }, { accessFlags := 16409, nameIndex := 111, descriptorIndex := 6, attributes := #[] }, { accessFlags := 26, nameIndex := 144, descriptorIndex := 145, attributes := #[] }, { accessFlags := 18, nameIndex := 133, descriptorIndex := 134, attributes := #[] }, { accessFlags := 18, nameIndex := 137, descriptorIndex := 138, attributes := #[] }, { accessFlags := 18, nameIndex := 141, descriptorIndex := 138, attributes := #[] }, { accessFlags := 4122, nameIndex := 114, descriptorIndex := 115, attributes := #[] }])
  fields := #[{ name := "LAST", type := (.object "com/example/focus_crawl/focuscrawl/crawl/page/XPathFunction"), accessFlags := 16409, slot := 0, constantValue := 0 }, { name := "POSITION", type := (.object "com/example/focus_crawl/focuscrawl/crawl/page/XPathFunction"), accessFlags := 16409, slot := 1, constantValue := 0 }, { name := "COUNT", type := (.object "com/example/focus_crawl/focuscrawl/crawl/page/XPathFunction"), accessFlags := 16409, slot := 2, constantValue := 0 }, { name := "ID", type := (.object "com/example/focus_crawl/focuscrawl/crawl/page/XPathFunction"), accessFlags := 16409, slot := 3, constantValue := 0 }, { name := "LOCAL_NAME", type := (.object "com/example/focus_crawl/focuscrawl/crawl/page/XPathFunction"), accessFlags := 16409, slot := 4, constantValue := 0 }, { name := "NAMESPACE_URI", type := (.object "com/example/focus_crawl/focuscrawl/crawl/page/XPathFunction"), accessFlags := 16409, slot := 5, constantValue := 0 }, { name := "NAME", type := (.object "com/example/focus_crawl/focuscrawl/crawl/page/XPathFunction"), accessFlags := 16409, slot := 6, constantValue := 0 }, { name := "STRING", type := (.object "com/example/focus_crawl/focuscrawl/crawl/page/XPathFunction"), accessFlags := 16409, slot := 7, constantValue := 0 }, { name := "CONCAT", type := (.object "com/example/focus_crawl/focuscrawl/crawl/page/XPathFunction"), accessFlags := 16409, slot := 8, constantValue := 0 }, { name := "STARTS_WITH", type := (.object "com/example/focus_crawl/focuscrawl/crawl/page/XPathFunction"), accessFlags := 16409, slot := 9, constantValue := 0 }, { name := "CONTAINS", type := (.object "com/example/focus_crawl/focuscrawl/crawl/page/XPathFunction"), accessFlags := 16409, slot := 10, constantValue := 0 }, { name := "SUBSTRING_BEFORE", type := (.object "com/example/focus_crawl/focuscrawl/crawl/page/XPathFunction"), accessFlags := 16409, slot := 11, constantValue := 0 }, { name := "SUBSTRING_AFTER", type := (.object "com/example/focus_crawl/focuscrawl/crawl/page/XPathFunction"), accessFlags := 16409, slot := 12, constantValue := 0 }, { name := "SUBSTRING", type := (.object "com/example/focus_crawl/focuscrawl/crawl/page/XPathFunction"), accessFlags := 16409, slot := 13, constantValue := 0 }, { name := "STRING_LENGTH", type := (.object "com/example/focus_crawl/focuscrawl/crawl/page/XPathFunction"), accessFlags := 16409, slot := 14, constantValue := 0 }, { name := "NORMALIZE_SPACE", type := (.object "com/example/focus_crawl/focuscrawl/crawl/page/XPathFunction"), accessFlags := 16409, slot := 15, constantValue := 0 }, { name := "TRANSLATE", type := (.object "com/example/focus_crawl/focuscrawl/crawl/page/XPathFunction"), accessFlags := 16409, slot := 16, constantValue := 0 }, { name := "BOOLEAN", type := (.object "com/example/focus_crawl/focuscrawl/crawl/page/XPathFunction"), accessFlags := 16409, slot := 17, constantValue := 0 }, { name := "NOT", type := (.object "com/example/focus_crawl/focuscrawl/crawl/page/XPathFunction"), accessFlags := 16409, slot := 18, constantValue := 0 }, { name := "TRUE", type := (.object "com/example/focus_crawl/focuscrawl/crawl/page/XPathFunction"), accessFlags := 16409, slot := 19, constantValue := 0 }, { name := "FALSE", type := (.object "com/example/focus_crawl/focuscrawl/crawl/page/XPathFunction"), accessFlags := 16409, slot := 20, constantValue := 0 }, { name := "LANG", type := (.object "com/example/focus_crawl/focuscrawl/crawl/page/XPathFunction"), accessFlags := 16409, slot := 21, constantValue := 0 }, { name := "NUMBER", type := (.object "com/example/focus_crawl/focuscrawl/crawl/page/XPathFunction"), accessFlags := 16409, slot := 22, constantValue := 0 }, { name := "SUM", type := (.object "com/example/focus_crawl/focuscrawl/crawl/page/XPathFunction"), accessFlags := 16409, slot := 23, constantValue := 0 }, { name := "FLOOR", type := (.object "com/example/focus_crawl/focuscrawl/crawl/page/XPathFunction"), accessFlags := 16409, slot := 24, constantValue := 0 }, { name := "CEILING", type := (.object "com/example/focus_crawl/focuscrawl/crawl/page/XPathFunction"), accessFlags := 16409, slot := 25, constantValue := 0 }, { name := "ROUND", type := (.object "com/example/focus_crawl/focuscrawl/crawl/page/XPathFunction"), accessFlags := 16409, slot := 26, constantValue := 0 }, { name := "CURRENT", type := (.object "com/example/focus_crawl/focuscrawl/crawl/page/XPathFunction"), accessFlags := 16409, slot := 27, constantValue := 0 }, { name := "GENERATE_ID", type := (.object "com/example/focus_crawl/focuscrawl/crawl/page/XPathFunction"), accessFlags := 16409, slot := 28, constantValue := 0 }, { name := "SYSTEM_PROPERTY", type := (.object "com/example/focus_crawl/focuscrawl/crawl/page/XPathFunction"), accessFlags := 16409, slot := 29, constantValue := 0 }, { name := "FUNCTION_AVAILABLE", type := (.object "com/example/focus_crawl/focuscrawl/crawl/page/XPathFunction"), accessFlags := 16409, slot := 30, constantValue := 0 }, { name := "ELEMENT_AVAILABLE", type := (.object "com/example/focus_crawl/focuscrawl/crawl/page/XPathFunction"), accessFlags := 16409, slot := 31, constantValue := 0 }, { name := "UNPARSED_ENTITY_URI", type := (.object "com/example/focus_crawl/focuscrawl/crawl/page/XPathFunction"), accessFlags := 16409, slot := 32, constantValue := 0 }, { name := "DOCUMENT_LOCATION", type := (.object "com/example/focus_crawl/focuscrawl/crawl/page/XPathFunction"), accessFlags := 16409, slot := 33, constantValue := 0 }, { name := "KEY", type := (.object "com/example/focus_crawl/focuscrawl/crawl/page/XPathFunction"), accessFlags := 16409, slot := 34, constantValue := 0 }, { name := "HERE", type := (.object "com/example/focus_crawl/focuscrawl/crawl/page/XPathFunction"), accessFlags := 16409, slot := 35, constantValue := 0 }, { name := "BY_NAME", type := (.object "java/util/Map"), accessFlags := 26, slot := 36, constantValue := 0 }, { name := "name", type := (.object "java/lang/String"), accessFlags := 18, slot := 3, constantValue := 0 }, { name := "minArguments", type := .int, accessFlags := 18, slot := 4, constantValue := 0 }, { name := "maxArguments", type := .int, accessFlags := 18, slot := 5, constantValue := 0 }, { name := "$VALUES", type := (.array (.object "com/example/focus_crawl/focuscrawl/crawl/page/XPathFunction")), accessFlags := 4122, slot := 37, constantValue := 0 }]
  methods := #[k6m0]
  instanceTypes := #[(.object "java/lang/String"), .int, .int, (.object "java/lang/String"), .int, .int]
  staticTypes := #[(.object "com/example/focus_crawl/focuscrawl/crawl/page/XPathFunction"), (.object "com/example/focus_crawl/focuscrawl/crawl/page/XPathFunction"), (.object "com/example/focus_crawl/focuscrawl/crawl/page/XPathFunction"), (.object "com/example/focus_crawl/focuscrawl/crawl/page/XPathFunction"), (.object "com/example/focus_crawl/focuscrawl/crawl/page/XPathFunction"), (.object "com/example/focus_crawl/focuscrawl/crawl/page/XPathFunction"), (.object "com/example/focus_crawl/focuscrawl/crawl/page/XPathFunction"), (.object "com/example/focus_crawl/focuscrawl/crawl/page/XPathFunction"), (.object "com/example/focus_crawl/focuscrawl/crawl/page/XPathFunction"), (.object "com/example/focus_crawl/focuscrawl/crawl/page/XPathFunction"), (.object "com/example/focus_crawl/focuscrawl/crawl/page/XPathFunction"), (.object "com/example/focus_crawl/focuscrawl/crawl/page/XPathFunction"), (.object "com/example/focus_crawl/focuscrawl/crawl/page/XPathFunction"), (.object "com/example/focus_crawl/focuscrawl/crawl/page/XPathFunction"), (.object "com/example/focus_crawl/focuscrawl/crawl/page/XPathFunction"), (.object "com/example/focus_crawl/focuscrawl/crawl/page/XPathFunction"), (.object "com/example/focus_crawl/focuscrawl/crawl/page/XPathFunction"), (.object "com/example/focus_crawl/focuscrawl/crawl/page/XPathFunction"), (.object "com/example/focus_crawl/focuscrawl/crawl/page/XPathFunction"), (.object "com/example/focus_crawl/focuscrawl/crawl/page/XPathFunction"), (.object "com/example/focus_crawl/focuscrawl/crawl/page/XPathFunction"), (.object "com/example/focus_crawl/focuscrawl/crawl/page/XPathFunction"), (.object "com/example/focus_crawl/focuscrawl/crawl/page/XPathFunction"), (.object "com/example/focus_crawl/focuscrawl/crawl/page/XPathFunction"), (.object "com/example/focus_crawl/focuscrawl/crawl/page/XPathFunction"), (.object "com/example/focus_crawl/focuscrawl/crawl/page/XPathFunction"), (.object "com/example/focus_crawl/focuscrawl/crawl/page/XPathFunction"), (.object "com/example/focus_crawl/focuscrawl/crawl/page/XPathFunction"), (.object "com/example/focus_crawl/focuscrawl/crawl/page/XPathFunction"), (.object "com/example/focus_crawl/focuscrawl/crawl/page/XPathFunction"), (.object "com/example/focus_crawl/focuscrawl/crawl/page/XPathFunction"), (.object "com/example/focus_crawl/focuscrawl/crawl/page/XPathFunction"), (.object "com/example/focus_crawl/focuscrawl/crawl/page/XPathFunction"), (.object "com/example/focus_crawl/focuscrawl/crawl/page/XPathFunction"), (.object "com/example/focus_crawl/focuscrawl/crawl/page/XPathFunction"), (.object "com/example/focus_crawl/focuscrawl/crawl/page/XPathFunction"), (.object "java/util/Map"), (.array (.object "com/example/focus_crawl/focuscrawl/crawl/page/XPathFunction"))]
  resolved := Array.replicate 559 none
  statics := some 0 }

def pool7 : Array CpInfo := pool [(1, u "java/lang/Cloneable"), (0, .class_ 1), (0, u "java/lang/Object"), (0, .class_ 3)] 3

/-- java/lang/Cloneable -/
def k7 : Class := { plain "java/lang/Cloneable" (some 0) with
  accessFlags := 1537
  interfaces := #[]
  cf := some (fileOf pool7 2 #[] #[] 1537 4 #[] #[])
  fields := #[]
  methods := #[]
  instanceTypes := #[]
  staticTypes := #[]
  resolved := Array.replicate 8 none
  statics := none }

/-- the primitive byte -/
def k8 : Class := { plain "byte" none with kind := .primitive 'B', accessFlags := 0x411 }
/-- [B -/
def k9 : Class := { plain "[B" (some 0) with kind := .array 8 .byte, interfaces := #[7, 4], accessFlags := 1041 }

/-- the primitive int -/
def k10 : Class := { plain "int" none with kind := .primitive 'I', accessFlags := 0x411 }
/-- [I -/
def k11 : Class := { plain "[I" (some 0) with kind := .array 10 .int, interfaces := #[7, 4], accessFlags := 1041 }

/-- [Lcom/example/focus_crawl/focuscrawl/crawl/page/XPathFunction; -/
def k12 : Class := { plain "[Lcom/example/focus_crawl/focuscrawl/crawl/page/XPathFunction;" (some 0) with kind := .array 6 (.object "com/example/focus_crawl/focuscrawl/crawl/page/XPathFunction"), interfaces := #[7, 4], accessFlags := 1041 }

def heap : Heap := #[{ cls := 6, slots := #[.ref 1, .ref 2, .ref 3, .ref 4, .ref 5, .ref 6, .ref 7, .ref 8, .ref 9, .ref 10, .ref 11, .ref 12, .ref 13, .ref 14, .ref 15, .ref 16, .ref 17, .ref 18, .ref 19, .ref 20, .ref 21, .ref 22, .ref 23, .ref 24, .ref 25, .ref 26, .ref 27, .ref 28, .ref 29, .ref 30, .ref 31, .ref 32, .ref 33, .ref 34, .ref 35, .ref 36, .null, .null], vm := .statics 6 },
  { cls := 6, slots := #[.null, .int 0, .int 0, .null, .int 0, .int 0], vm := .none },
  { cls := 6, slots := #[.null, .int 1, .int 0, .null, .int 0, .int 0], vm := .none },
  { cls := 6, slots := #[.null, .int 2, .int 0, .null, .int 0, .int 0], vm := .none },
  { cls := 6, slots := #[.null, .int 3, .int 0, .null, .int 0, .int 0], vm := .none },
  { cls := 6, slots := #[.null, .int 4, .int 0, .null, .int 0, .int 0], vm := .none },
  { cls := 6, slots := #[.null, .int 5, .int 0, .null, .int 0, .int 0], vm := .none },
  { cls := 6, slots := #[.null, .int 6, .int 0, .null, .int 0, .int 0], vm := .none },
  { cls := 6, slots := #[.null, .int 7, .int 0, .null, .int 0, .int 0], vm := .none },
  { cls := 6, slots := #[.null, .int 8, .int 0, .null, .int 0, .int 0], vm := .none },
  { cls := 6, slots := #[.null, .int 9, .int 0, .null, .int 0, .int 0], vm := .none },
  { cls := 6, slots := #[.null, .int 10, .int 0, .null, .int 0, .int 0], vm := .none },
  { cls := 6, slots := #[.null, .int 11, .int 0, .null, .int 0, .int 0], vm := .none },
  { cls := 6, slots := #[.null, .int 12, .int 0, .null, .int 0, .int 0], vm := .none },
  { cls := 6, slots := #[.null, .int 13, .int 0, .null, .int 0, .int 0], vm := .none },
  { cls := 6, slots := #[.null, .int 14, .int 0, .null, .int 0, .int 0], vm := .none },
  { cls := 6, slots := #[.null, .int 15, .int 0, .null, .int 0, .int 0], vm := .none },
  { cls := 6, slots := #[.null, .int 16, .int 0, .null, .int 0, .int 0], vm := .none },
  { cls := 6, slots := #[.null, .int 17, .int 0, .null, .int 0, .int 0], vm := .none },
  { cls := 6, slots := #[.null, .int 18, .int 0, .null, .int 0, .int 0], vm := .none },
  { cls := 6, slots := #[.null, .int 19, .int 0, .null, .int 0, .int 0], vm := .none },
  { cls := 6, slots := #[.null, .int 20, .int 0, .null, .int 0, .int 0], vm := .none },
  { cls := 6, slots := #[.null, .int 21, .int 0, .null, .int 0, .int 0], vm := .none },
  { cls := 6, slots := #[.null, .int 22, .int 0, .null, .int 0, .int 0], vm := .none },
  { cls := 6, slots := #[.null, .int 23, .int 0, .null, .int 0, .int 0], vm := .none },
  { cls := 6, slots := #[.null, .int 24, .int 0, .null, .int 0, .int 0], vm := .none },
  { cls := 6, slots := #[.null, .int 25, .int 0, .null, .int 0, .int 0], vm := .none },
  { cls := 6, slots := #[.null, .int 26, .int 0, .null, .int 0, .int 0], vm := .none },
  { cls := 6, slots := #[.null, .int 27, .int 0, .null, .int 0, .int 0], vm := .none },
  { cls := 6, slots := #[.null, .int 28, .int 0, .null, .int 0, .int 0], vm := .none },
  { cls := 6, slots := #[.null, .int 29, .int 0, .null, .int 0, .int 0], vm := .none },
  { cls := 6, slots := #[.null, .int 30, .int 0, .null, .int 0, .int 0], vm := .none },
  { cls := 6, slots := #[.null, .int 31, .int 0, .null, .int 0, .int 0], vm := .none },
  { cls := 6, slots := #[.null, .int 32, .int 0, .null, .int 0, .int 0], vm := .none },
  { cls := 6, slots := #[.null, .int 33, .int 0, .null, .int 0, .int 0], vm := .none },
  { cls := 6, slots := #[.null, .int 34, .int 0, .null, .int 0, .int 0], vm := .none },
  { cls := 6, slots := #[.null, .int 35, .int 0, .null, .int 0, .int 0], vm := .none }]
def classes : Array Class := #[k0, k1, k2, k3, k4, k5, k6, k7, k8, k9, k10, k11, k12]
def interned : List (Array UInt16 × Addr) := []
def slotsUsed : Nat := 254
def theMethod : MethodId := ⟨1, 1⟩
def args0 : Array Value := #[.int 5]
def aboutOver (below : List Frame) : State where
  vm := { classes := classes, interned := interned.toArray }
  heap := heap
  slotsUsed := slotsUsed
  threads := #[{ frames := .invoking theMethod args0 :: below }]
def below0 : List Frame := [.native { method := ⟨0, 0⟩, args := #[] }]
def about1 : State := aboutOver below0
def p0 : Program := .bare "" "" ""
def e0 : Env := launch0.env 0 0 0
theorem w_frames : about1.frames = Frame.invoking theMethod args0 :: below0 := rfl
set_option maxRecDepth 65536 in
theorem w_args : argsFit about1.vm theMethod args0 = true := by decide +kernel
set_option maxRecDepth 65536 in
theorem w_heap : heapFits about1 = true := by decide +kernel
set_option maxRecDepth 65536 in
theorem w_runnable : about1.curStatus? = some .runnable := by decide +kernel
set_option maxRecDepth 65536 in
theorem w_alone : about1.alone = true := by decide +kernel
set_option maxRecDepth 65536 in
theorem w_named : about1.methodNamed? x = some theMethod := by decide +kernel
set_option maxRecDepth 65536 in
theorem w_hears : about1.hears theMethod below0 = true := by decide +kernel
set_option maxRecDepth 65536 in
theorem w_ripe : about1.ripe theMethod args0 below0 = true := by decide +kernel
theorem w_running : about1.status = .running := rfl
set_option maxRecDepth 65536 in
theorem w_room : about1.hasRoom e0.platform room_1 = true :=
  launch0.hasRoom_least _ room_1 (by decide +kernel) (by decide +kernel) (by decide +kernel) (by decide +kernel) (by decide +kernel) (by decide +kernel)
theorem allAtoms_all (ts : List Jvm.Cond) (a : Array Jvm.Value) (st : Jvm.State) : (allAtoms ts).before a st = ts.all (fun c => c.before a st) := by
  induction ts with
  | nil => rfl
  | cons c t ih =>
    show (Jvm.Cond.and c (allAtoms t)).before a st = _
    rw [Jvm.Cond.before_and, ih, List.all_cons]
def words1 : List Jvm.Cond := Jvm.Cond.code x code maxLocals ret :: tables_1
/-- a 'code' word, met by the world's own term for the bytes: nothing is compared byte by byte -/
theorem code_word {y : MethodName} {bytes : ByteArray} {mx : Nat} {rt : Option FieldType} {a : Array Value} {s : State} {m : MethodId} {meth : Method} {c : Code} (h1 : s.methodNamed? y = some m) (h2 : s.vm.method? m = some meth) (h3 : meth.code = some c) (h4 : c.code = bytes)
    (h5 : (c.maxLocals == mx && c.exceptionTable.isEmpty && decide (c.maxStack ≤ mostOperands) && decide (meth.sig.returnType = rt) && !meth.locks && decide (parseMethodDescriptor y.desc = some meth.sig)) = true) : (Jvm.Cond.code y bytes mx rt).before a s = true := by
  simp only [Bool.and_eq_true, beq_iff_eq, Bool.not_eq_true', decide_eq_true_eq] at h5
  obtain ⟨⟨⟨⟨⟨g1, g2⟩, g3⟩, g4⟩, g5⟩, g6⟩ := h5
  simp [Cond.before, Cond.holds, Cond.value, h1, h2, h3, h4, g1, g2, g3, g4, g5, g6]
def isCode : Jvm.Cond → Bool
  | .code _ _ _ _ => true
  | _ => false
theorem all_split {L : List Jvm.Cond} {P : Jvm.Cond → Bool} (h1 : L.all (fun c => isCode c || P c) = true) (h2 : ∀ c ∈ L.filter isCode, P c = true) : L.all P = true := by
  refine List.all_eq_true.mpr fun c hc => ?_
  have h := List.all_eq_true.mp h1 c hc
  rcases Bool.eq_false_or_eq_true (isCode c) with hi | hi
  · exact h2 c (List.mem_filter.mpr ⟨hc, hi⟩)
  · simpa [hi] using h
set_option maxRecDepth 65536 in
theorem w_c0 : (Jvm.Cond.code x code maxLocals ret).before args0 about1 = true := code_word (m := ⟨1, 1⟩) (meth := k1m1) (c := k1c1) (by decide +kernel) rfl rfl rfl (by decide +kernel)
set_option maxRecDepth 65536 in
theorem w_c1 : (Jvm.Cond.code ({ cls := "com/example/focus_crawl/focuscrawl/crawl/page/XPathFunction", name := "givesNumber", desc := "()Z" } : Jvm.MethodName) prog_49_method_9_code (1 : Nat) (Option.some Jvm.ClassFile.FieldType.boolean)).before args0 about1 = true := code_word (m := ⟨6, 0⟩) (meth := k6m0) (c := k6c0) (by decide +kernel) rfl rfl rfl (by decide +kernel)
def codes1 : List Jvm.Cond := [Jvm.Cond.code x code maxLocals ret, Jvm.Cond.code ({ cls := "com/example/focus_crawl/focuscrawl/crawl/page/XPathFunction", name := "givesNumber", desc := "()Z" } : Jvm.MethodName) prog_49_method_9_code (1 : Nat) (Option.some Jvm.ClassFile.FieldType.boolean)]
set_option maxRecDepth 65536 in
theorem codes_eq : words1.filter isCode = codes1 := rfl
theorem w_codes : ∀ c ∈ words1.filter isCode, c.before args0 about1 = true := by
  rw [codes_eq]
  intro c hc
  simp only [codes1, List.mem_cons, List.not_mem_nil, or_false] at hc
  rcases hc with rfl | rfl
  · exact w_c0
  · exact w_c1
set_option maxRecDepth 65536 in
theorem w_t1 : (words1.take 24).all (fun c => isCode c || c.before args0 about1) = true := by decide +kernel
set_option maxRecDepth 65536 in
theorem w_t2 : ((words1.drop 24).take 24).all (fun c => isCode c || c.before args0 about1) = true := by decide +kernel
set_option maxRecDepth 65536 in
theorem w_t3 : (((words1.drop 24).drop 24).take 24).all (fun c => isCode c || c.before args0 about1) = true := by decide +kernel
set_option maxRecDepth 65536 in
theorem w_t4 : (((words1.drop 24).drop 24).drop 24).all (fun c => isCode c || c.before args0 about1) = true := by decide +kernel
theorem w_tables : (allAtoms (Jvm.Cond.code x code maxLocals ret :: tables_1)).before args0 about1 = true := by
  rw [allAtoms_all]
  show words1.all (fun c => c.before args0 about1) = true
  refine all_split ?_ w_codes
  rw [← List.take_append_drop 24 words1, List.all_append, w_t1, ← List.take_append_drop 24 (words1.drop 24), List.all_append, w_t2, ← List.take_append_drop 24 ((words1.drop 24).drop 24), List.all_append, w_t3, w_t4]
  rfl
set_option maxRecDepth 65536 in
theorem w_case : (Jvm.Cond.and given_1 narrow_1).before args0 about1 = true := by decide +kernel
theorem w_applies : (headSpec (Jvm.Cond.code x code maxLocals ret :: tables_1) room_1).applies x e0.platform about1 = true :=
  (Spec.applies_iff w_frames).mpr ⟨w_running, w_runnable, w_alone, w_named, w_hears, w_ripe, w_room, w_tables⟩
theorem atStart : AtStart classFile x code maxLocals ret World_1 tables_1 room_1 Calls_1 rest_1 Pre_1 launch0 p0 e0 about1 theMethod args0 below0 :=
  ⟨lists_1, trivial, launch0.admits_env _ _ _, launch0.least_env, fairChoices_fair.cas, fairChoices_fair.clock, w_frames, w_args, w_heap, w_applies, trivial, trivial, w_case⟩
end start1
theorem witness_1 : WitnessClaimed_1 := ⟨start1.p0, start1.e0, start1.about1, start1.theMethod, start1.args0, start1.below0, start1.atStart⟩
end Jvm.Pilot.@@N@@
