import JvmDerived
import JvmDerived.Pilot.@@N@@Statement
import JvmDerived.Pilot.@@N@@Code
set_option linter.unusedVariables false
set_option linter.unusedSimpArgs false
namespace Jvm.Pilot.@@N@@
open Jvm Jvm.ClassFile Sem Op Lib Jvm.Free Jvm.Stand Jvm.LawKit Jvm.RoadKit Bundle Jvm.Pilot.@@N@@.Jvm.D
abbrev oI (x : Int32) : Slot := .val (.int x)
abbrev oR (x : Addr) : Slot := .val (.ref x)
abbrev oD (x : UInt64) : Slot := .val (.double x)
abbrev oF (x : UInt32) : Slot := .val (.float x)
abbrev oJ (x : Int64) : Slot := .val (.long x)
section Own
variable {p : Program} {l : Launch} {e : Env} {R : Room} {s : State} {m : MethodId} {args : Array Value} {below : List Frame} {meth : Method} {c : Code} {T T' : State} {locs : List Loc} {cells slots : Nat} {Z : State} {a0 : Array Value} {h h0 : Heap} {K : State → Outcome → Prop} {Q : Option Value → Heap → List Loc → Prop}
/-- from the frame g over the state T the run comes to an end that K takes -/
def own_Go (p : Program) (e : Env) (below : List Frame) (K : State → Outcome → Prop) (T : State) (g : JFrame) : Prop :=
  ∃ s₂ o, Steps p.tables e below (T.setTop g) s₂ ∧ s₂.status = .running ∧ Ended s₂ below o ∧ K s₂ o
theorem own_by {g g' : JFrame} (h : ∀ t, Steps p.tables e below (T'.setTop g') t → Steps p.tables e below (T.setTop g) t) (k : own_Go p e below K T' g') : own_Go p e below K T g := by
  obtain ⟨s2, o, h1, h2⟩ := k
  exact ⟨s2, o, h _ h1, h2⟩
def own_K (s : State) (k n : Nat) (Q : Option Value → Heap → List Loc → Prop) (t : State) (o : Outcome) : Prop := ∃ v L, o = .returned v ∧ Q v t.heap L ∧ FrameEnd s o t L k n
def own_Met (l : Launch) (y : MethodName) (bytes : ByteArray) (mx : Nat) (ret : Option FieldType) (ws : List Jvm.Cond) (rm : Room) (Z : State) (as' : Array Value) (h0 : Heap) (Q : Option Value → Heap → List Loc → Prop) : Prop :=
  MetFree l y (head1 (Jvm.Cond.code y bytes mx ret :: ws) rm) (fun a U => a = as' ∧ Z.Warmed39 U.vm ∧ U.heap = h0) (fun _ _ _ _ _ => True) (fun _ U o U' => ∃ v L, o = .returned v ∧ Q v U'.heap L ∧ FrameEnd U o U' L rm.cells rm.slots)
theorem own_enter {y : MethodName} {bytes : ByteArray} {mx : Nat} {ret : Option FieldType} {ws : List Jvm.Cond} {rm : Room} {as' : Array Value} (hn : plainName y.cls = true)
    (body : ∀ (p : Program) (e : Env) (s : State) (m : MethodId) (below : List Frame) (meth : Method) (c : Code) (T0 : State), p.tables.exec = Jvm.exec → c.code = bytes → c.maxLocals = mx → meth.sig.returnType = ret → meth.locks = false → s.vm.findClass y.cls = some m.cls → meth.name = y.name → Z.Warmed39 s.vm →
      Stand p l e rm s m as' below meth c T0 [] 0 0 → T0.heap = h0 → own_Go p e below (own_K s rm.cells rm.slots Q) T0 (entryFrame m as' mx)) : own_Met l y bytes mx ret ws rm Z as' h0 Q := by
  refine MetFree.of_bodySF (plainFor_of_name hn) hisR ?_
  intro p e s m args below meth c s₁ Bd hml hP hK
  obtain ⟨rfl, hZ, hh⟩ := hP
  obtain ⟨s2, o, h1, h2, h3, h4⟩ := body p e s m below meth c s₁ Bd.exec Bd.bytes hml Bd.returns Bd.notSynchronized (findClass_of_methodNamed Bd.named) (name_of_methodNamed Bd.named Bd.method).1 hZ (Stand.of_body Bd) (by rw [← hh, Bd.state]; rfl)
  exact ⟨s2, o, h1, h2, h3, h4⟩
theorem own_at {g g' : JFrame} (q : g = g') (k : own_Go p e below K T g') : own_Go p e below K T g := q ▸ k
theorem own_leave (X : Stand p l e R s m args below meth c T locs cells slots) (hlk : meth.locks = false) {v : Option Value} {k n : Nat} (hv : meth.sig.returnType = none → v = none) {g : JFrame}
    (step : ∀ fs, (∀ (f : JFrame) (acts : List Action), f.method = m → f.locked = none → f.entered = [] → (doReturn e (T.setTop f) acts v).1 = T.setFrames fs) → Steps p.tables e below (T.setTop g) (T.setFrames fs)) (hk : cells ≤ k) (hn : slots ≤ n) (hQ : Q v T.heap locs) : own_Go p e below (own_K s k n Q) T g := by
  obtain ⟨fs, hr, hrun, hended, hW, hsame⟩ := X.leave (v := v) hv hlk
  exact ⟨_, _, step fs hr, hrun, hended, v, locs, rfl, hQ, ⟨_, rfl⟩, hW, hsame.mono hk hn⟩
theorem own_retI (X : Stand p l e R s m args below meth c T locs cells slots) (hx : p.tables.exec = Jvm.exec) (hlk : meth.locks = false) (hret : meth.sig.returnType = some .int) {pc : Nat} {Ls : Array Slot} {z : Int32} {rest : List Value} {k n : Nat} (hd : decode c.code pc = .ok (.ireturn, 1)) (hk : cells ≤ k) (hn : slots ≤ n) (hQ : Q (some (.int z)) T.heap locs) :
    own_Go p e below (own_K s k n Q) T (mkF m pc Ls (.int z :: rest)) := by
  refine own_leave X hlk (v := some (.int z)) (fun h => by rw [hret] at h; cases h) (fun fs hl => ?_) hk hn hQ
  have hm' : T.vm.method? m = some meth := X.method'
  have hn : narrow .int (.int z) = .int z := rfl
  show Steps p.tables e below (T.setTop { method := m, pc := pc, locals := Ls, stack := _ :: rest, locked := none }) _
  jvm_step X.here [X.here.top, hx, hd, hm', hret, hn]
  first | (intro acts; rw [hl _ acts rfl rfl rfl]) | rw [hl _ _ rfl rfl rfl]
  exact Steps.refl _
theorem own_retN (X : Stand p l e R s m args below meth c T locs cells slots) (hx : p.tables.exec = Jvm.exec) (hlk : meth.locks = false) {t : FieldType} (hret : meth.sig.returnType = some t) (ht : t = .boolean ∨ t = .byte ∨ t = .char ∨ t = .short) {pc : Nat} {Ls : Array Slot} {z w : Int32} {rest : List Value} {k n : Nat} (hd : decode c.code pc = .ok (.ireturn, 1)) (hw : nar t z = w) (hk : cells ≤ k) (hn : slots ≤ n) (hQ : Q (some (.int w)) T.heap locs) :
    own_Go p e below (own_K s k n Q) T (mkF m pc Ls (.int z :: rest)) := by
  subst hw
  exact own_leave X hlk (v := some (.int (nar t z))) (fun h => by rw [hret] at h; cases h) (fun fs hl => retN X hx hret ht hd hl) hk hn hQ
theorem own_retA (X : Stand p l e R s m args below meth c T locs cells slots) (hx : p.tables.exec = Jvm.exec) (hlk : meth.locks = false) {t : FieldType} (hret : meth.sig.returnType = some t) (ht : t.isReference = true) {pc : Nat} {Ls : Array Slot} {v : Value} (hv : v.isRef = true) {rest : List Value} {k n : Nat} (hd : decode c.code pc = .ok (.areturn, 1)) (hk : cells ≤ k) (hn : slots ≤ n) (hQ : Q (some v) T.heap locs) :
    own_Go p e below (own_K s k n Q) T (mkF m pc Ls (v :: rest)) :=
  own_leave X hlk (v := some v) (fun h => by rw [hret] at h; cases h) (fun fs hl => retOut X hx hret (by cases t <;> first | (cases ht; done) | (rcases ref_cases hv with rfl | ⟨a, rfl⟩ <;> rfl)) (Or.inr (Or.inr (Or.inr (Or.inr ⟨rfl, ht, hv⟩)))) hd hl) hk hn hQ
theorem own_retV (X : Stand p l e R s m args below meth c T locs cells slots) (hx : p.tables.exec = Jvm.exec) (hlk : meth.locks = false) (hret : meth.sig.returnType = none) {pc : Nat} {Ls : Array Slot} {k n : Nat} (hd : decode c.code pc = .ok (.return_, 1)) (hk : cells ≤ k) (hn : slots ≤ n) (hQ : Q none T.heap locs) :
    own_Go p e below (own_K s k n Q) T (mkF m pc Ls []) :=
  own_leave X hlk (v := none) (fun _ => rfl) (fun fs hl => X.returnOut hx hret hd hl) hk hn hQ
theorem own_callS (X : Stand p l e R s m args below meth c T locs cells slots) (hx : p.tables.exec = Jvm.exec) (hZ : Z.Warmed39 s.vm) {own : String} {index : Nat} {y : MethodName} {bytes : ByteArray} {mx : Nat} {ret : Option FieldType} {rm : Room} (hown : s.vm.findClass own = some m.cls) (w1 : (Jvm.Cond.methodLink own index y).before a0 Z = true) (w2 : (Jvm.Cond.static y).before a0 Z = true) (w3 : (Jvm.Cond.initialized y.cls).before a0 Z = true) (w4 : (Jvm.Cond.code y bytes mx ret).before a0 Z = true)
    (hy : y.cls ≠ "java/lang/invoke/MethodHandle" ∧ y.cls ≠ "java/lang/invoke/VarHandle") (eT : T.heap = h) {argsL rest : List Value} (M : own_Met l y bytes mx ret [] rm Z argsL.toArray h Q) (W : Nat) (hf : rm.frames + 1 ≤ R.frames) (hl : W + (mx + 11) + rm.locals ≤ R.locals) {pc : Nat} {Ls : Array Slot} (hsize : Ls.size = c.maxLocals)
    (hlen : ∀ sig, parseMethodDescriptor y.desc = some sig → argsL.length = sig.parameters.length) (hW : (rest.map fun v => v.category).sum ≤ W) (hd : decode c.code pc = .ok (.invokestatic index, 3)) (hc : cells + rm.cells ≤ R.cells) (hs : slots + rm.slots ≤ R.slots) {st : List Value} (hst : st = argsL.reverse ++ rest)
    (k : ∀ (T' : State) (L : List Loc) (v : Option Value), Stand p l e R s m args below meth c T' (locs ++ L) (cells + rm.cells) (slots + rm.slots) → Q v T'.heap L → own_Go p e below K T' (mkF m (pc + 3) Ls (v.toList ++ rest))) : own_Go p e below K T (mkF m pc Ls st) := by
  obtain ⟨v, _, ⟨T1, L1, k1, n1⟩, -, X1, ⟨Lc, hQ, l1, y1, z1⟩, stp⟩ := Jvm.LawKit.callS X hx hown (mvT hZ w1) (mvT hZ w2) (mvT hZ w3) (mvT hZ w4) hy (backOf (W := W) M hZ w4 w3 hf hl) (g := mkF m pc Ls st) rfl hsize (argsL := argsL) (rest := rest) hlen hst (by show 2 * 0 + _ ≤ _; omega) hd (fun _ _ => ⟨rfl, eT, hc, hs⟩)
  dsimp only [Pt.U, Pt.locs, Pt.cells, Pt.slots] at X1 l1 y1 z1 stp hQ
  subst l1 y1 z1
  exact own_by stp (k T1 Lc v X1 hQ)
theorem own_callV (X : Stand p l e R s m args below meth c T locs cells slots) (hx : p.tables.exec = Jvm.exec) (hZ : Z.Warmed39 s.vm) {own C : String} {index : Nat} {y : MethodName} {bytes : ByteArray} {mx : Nat} {ret : Option FieldType} {rm : Room} (hown : s.vm.findClass own = some m.cls) (w1 : (Jvm.Cond.methodLink own index y).before a0 Z = true) (w2 : (Jvm.Cond.declares y).before a0 Z = true) (w3 : (Jvm.Cond.selects C y y).before a0 Z = true) (w4 : (Jvm.Cond.instanceMethod y).before a0 Z = true) (w5 : (Jvm.Cond.code y bytes mx ret).before a0 Z = true) (w6 : (Jvm.Cond.initialized y.cls).before a0 Z = true)
    (hy : y.cls ≠ "java/lang/invoke/MethodHandle" ∧ y.cls ≠ "java/lang/invoke/VarHandle") (eT : T.heap = h) {b : Addr} (E : Exa Z h b C) {argsL rest : List Value} (M : own_Met l y bytes mx ret [] rm Z (.ref b :: argsL).toArray h Q) (W : Nat) (hf : rm.frames + 1 ≤ R.frames) (hl : W + (mx + 11) + rm.locals ≤ R.locals) {pc : Nat} {Ls : Array Slot} (hsize : Ls.size = c.maxLocals)
    (hlen : ∀ sig, parseMethodDescriptor y.desc = some sig → argsL.length = sig.parameters.length) (hW : (rest.map fun v => v.category).sum ≤ W) (hd : decode c.code pc = .ok (.invokevirtual index, 3)) (hc : cells + rm.cells ≤ R.cells) (hs : slots + rm.slots ≤ R.slots) {st : List Value} (hst : st = argsL.reverse ++ .ref b :: rest)
    (k : ∀ (T' : State) (L : List Loc) (v : Option Value), Stand p l e R s m args below meth c T' (locs ++ L) (cells + rm.cells) (slots + rm.slots) → Q v T'.heap L → own_Go p e below K T' (mkF m (pc + 3) Ls (v.toList ++ rest))) : own_Go p e below K T (mkF m pc Ls st) := by
  obtain ⟨cq, kq, qa, qb, qc⟩ := isOf (T := T) hZ eT E
  obtain ⟨v, _, ⟨T1, L1, k1, n1⟩, -, X1, ⟨Lc, hQ, l1, y1, z1⟩, stp⟩ := X.virtualBack hx hown (mvT hZ w1) (mvT hZ w2) (notFace_of_selects (args := #[]) (mvT hZ w3)) (mvT hZ w3) (mvT hZ w4) hy (backOf (W := W) M hZ w5 w6 hf hl) qa qc (g := mkF m pc Ls st) rfl hsize (Steps.refl _) (argsL := argsL) (rest := rest) hlen hst (by show 2 * 0 + _ ≤ _; omega) hd (fun _ _ => ⟨rfl, eT, hc, hs⟩)
  dsimp only [Pt.U, Pt.locs, Pt.cells, Pt.slots] at X1 l1 y1 z1 stp hQ
  subst l1 y1 z1
  exact own_by (fun t q => stp.trans q) (k T1 Lc v X1 hQ)
theorem own_callN (X : Stand p l e R s m args below meth c T locs cells slots) (hx : p.tables.exec = Jvm.exec) (hZ : Z.Warmed39 s.vm) {own : String} {index : Nat} {y : MethodName} {bytes : ByteArray} {mx : Nat} {rm : Room} (hy1 : y.name = "<init>") (hown : s.vm.findClass own = some m.cls) (w1 : (Jvm.Cond.methodLink own index y).before a0 Z = true) (w2 : (Jvm.Cond.instanceMethod y).before a0 Z = true) (w3 : (Jvm.Cond.code y bytes mx none).before a0 Z = true) (w4 : (Jvm.Cond.initialized y.cls).before a0 Z = true)
    (hy : y.cls ≠ "java/lang/invoke/MethodHandle" ∧ y.cls ≠ "java/lang/invoke/VarHandle") (eT : T.heap = h) {b : Addr} {argsL rest : List Value} (M : own_Met l y bytes mx none [] rm Z (.ref b :: argsL).toArray h Q) (W : Nat) (hf : rm.frames + 1 ≤ R.frames) (hl : W + (mx + 11) + rm.locals ≤ R.locals) {pc : Nat} {Ls : Array Slot} (hsize : Ls.size = c.maxLocals)
    (hlen : ∀ sig, parseMethodDescriptor y.desc = some sig → argsL.length = sig.parameters.length) (hW : (rest.map fun v => v.category).sum ≤ W) (hd : decode c.code pc = .ok (.invokespecial index, 3)) (hc : cells + rm.cells ≤ R.cells) (hs : slots + rm.slots ≤ R.slots) {st : List Value} (hst : st = argsL.reverse ++ .ref b :: rest)
    (k : ∀ (T' : State) (L : List Loc) (v : Option Value), Stand p l e R s m args below meth c T' (locs ++ L) (cells + rm.cells) (slots + rm.slots) → Q v T'.heap L → own_Go p e below K T' (mkF m (pc + 3) Ls (v.toList ++ rest))) : own_Go p e below K T (mkF m pc Ls st) := by
  obtain ⟨v, _, ⟨T1, L1, k1, n1⟩, -, X1, ⟨Lc, hQ, l1, y1, z1⟩, stp⟩ := X.specialBack hx hy1 hown (mvT hZ w1) (mvT hZ w2) (mvT hZ w3) hy (backOf (W := W) M hZ w3 w4 hf hl) (g := mkF m pc Ls st) rfl hsize (Steps.refl _) (a := b) (argsL := argsL) (rest := rest) hlen hst (by show 2 * 0 + _ ≤ _; omega) hd (fun _ _ => ⟨rfl, eT, hc, hs⟩)
  dsimp only [Pt.U, Pt.locs, Pt.cells, Pt.slots] at X1 l1 y1 z1 stp hQ
  subst l1 y1 z1
  exact own_by (fun t q => stp.trans q) (k T1 Lc v X1 hQ)
end Own
def own_S (Z : State) (h : Heap) (w2 w3 w4 w5 w6 w7 : Addr) : Prop := Sta Z h "com/example/focus_crawl/focuscrawl/crawl/page/XPathExpr$Operator" "EQUAL" "Lcom/example/focus_crawl/focuscrawl/crawl/page/XPathExpr$Operator;" (.ref w2) ∧ Sta Z h "com/example/focus_crawl/focuscrawl/crawl/page/XPathExpr$Operator" "NOT_EQUAL" "Lcom/example/focus_crawl/focuscrawl/crawl/page/XPathExpr$Operator;" (.ref w3) ∧ Sta Z h "com/example/focus_crawl/focuscrawl/crawl/page/XPathExpr$Operator" "LESS" "Lcom/example/focus_crawl/focuscrawl/crawl/page/XPathExpr$Operator;" (.ref w4) ∧ Sta Z h "com/example/focus_crawl/focuscrawl/crawl/page/XPathExpr$Operator" "LESS_OR_EQUAL" "Lcom/example/focus_crawl/focuscrawl/crawl/page/XPathExpr$Operator;" (.ref w5) ∧ Sta Z h "com/example/focus_crawl/focuscrawl/crawl/page/XPathExpr$Operator" "GREATER" "Lcom/example/focus_crawl/focuscrawl/crawl/page/XPathExpr$Operator;" (.ref w6) ∧ Sta Z h "com/example/focus_crawl/focuscrawl/crawl/page/XPathExpr$Operator" "GREATER_OR_EQUAL" "Lcom/example/focus_crawl/focuscrawl/crawl/page/XPathExpr$Operator;" (.ref w7)
theorem own_eqi {args : Array Value} {s : State} {t : Term} {k : Int32} (h : (Jvm.Cond.eq t (.int k)).value args s none s [] = some true) : t.eval args s none [] s = some (.int k) := by
  have hk : (Term.int k).eval args s none [] s = some (.int k) := Term.int_eval k
  cases ht : t.eval args s none [] s with
  | none => simp [Cond.value, ht] at h
  | some y => cases y <;> simp [Cond.value, ht, hk] at h ⊢; exact h
def own_c3 (x y : Int32) : Int32 := if x < y then (-1 : Int32) else if x = y then (0 : Int32) else (1 : Int32)
theorem own_dcmp_i (x y : Int32) (o : CmpOp) : cmpValue (FP.dcmp (FP.i2d x) (FP.i2d y)) o = own_c3 x y := by
  have h : FP.dcmp (FP.i2d x) (FP.i2d y) = some (compare x.toInt y.toInt) := FP.Core.dcmp_int (FP.Core.i2d_int x) (FP.Core.i2d_int y)
  rw [h]
  unfold own_c3
  by_cases h1 : x < y
  · rw [if_pos h1]
    have h2 : compare x.toInt y.toInt = .lt := by rw [Int32.lt_iff_toInt_lt] at h1; simp [compare, compareOfLessAndEq, h1]
    rw [h2]; rfl
  · rw [if_neg h1]
    by_cases h3 : x = y
    · rw [if_pos h3]; subst h3
      have h2 : compare x.toInt x.toInt = .eq := by simp [compare, compareOfLessAndEq]
      rw [h2]; rfl
    · rw [if_neg h3]
      have h4 : ¬ x.toInt < y.toInt := by rw [Int32.lt_iff_toInt_lt] at h1; exact h1
      have h5 : ¬ x.toInt = y.toInt := fun q => h3 (Int32.toInt_inj.mp q)
      have h2 : compare x.toInt y.toInt = .gt := by simp [compare, compareOfLessAndEq, h4, h5]
      rw [h2]; rfl
theorem own_rem6 (x : Int32) : ((x &&& (2147483647 : Int32)) % (6 : Int32)) = (0 : Int32) ∨ ((x &&& (2147483647 : Int32)) % (6 : Int32)) = (1 : Int32) ∨ ((x &&& (2147483647 : Int32)) % (6 : Int32)) = (2 : Int32) ∨ ((x &&& (2147483647 : Int32)) % (6 : Int32)) = (3 : Int32) ∨ ((x &&& (2147483647 : Int32)) % (6 : Int32)) = (4 : Int32) ∨ ((x &&& (2147483647 : Int32)) % (6 : Int32)) = (5 : Int32) := by
  have h := c_mask x (2147483647 : Int32) 31 (by decide) (by decide)
  have h1 := (c_irem (x &&& (2147483647 : Int32)) (6 : Int32) 6 (by decide)).1 (by omega)
  have h2 : ((x &&& (2147483647 : Int32)) % (6 : Int32)).toInt = 0 ∨ ((x &&& (2147483647 : Int32)) % (6 : Int32)).toInt = 1 ∨ ((x &&& (2147483647 : Int32)) % (6 : Int32)).toInt = 2 ∨ ((x &&& (2147483647 : Int32)) % (6 : Int32)).toInt = 3 ∨ ((x &&& (2147483647 : Int32)) % (6 : Int32)).toInt = 4 ∨ ((x &&& (2147483647 : Int32)) % (6 : Int32)).toInt = 5 := by omega
  rcases h2 with q | q | q | q | q | q
  · exact Or.inl (Int32.toInt_inj.mp (q.trans (by decide)))
  · exact Or.inr (Or.inl (Int32.toInt_inj.mp (q.trans (by decide))))
  · exact Or.inr (Or.inr (Or.inl (Int32.toInt_inj.mp (q.trans (by decide)))))
  · exact Or.inr (Or.inr (Or.inr (Or.inl (Int32.toInt_inj.mp (q.trans (by decide))))))
  · exact Or.inr (Or.inr (Or.inr (Or.inr (Or.inl (Int32.toInt_inj.mp (q.trans (by decide)))))))
  · exact Or.inr (Or.inr (Or.inr (Or.inr (Or.inr ((Int32.toInt_inj.mp (q.trans (by decide))))))))
def own_op (k : Int32) (w2 w3 w4 w5 w6 w7 : Addr) : Addr := (if k = (0 : Int32) then w2 else (if k = (1 : Int32) then w3 else (if k = (2 : Int32) then w4 else (if k = (3 : Int32) then w5 else (if k = (4 : Int32) then w6 else w7)))))
theorem pn_0 : plainName "com/example/focus_crawl/focuscrawl/crawl/page/XPathExprHoldsPinLaw" = true := by first | (simp [plainName, overriddenIn]; done) | decide +kernel
theorem d1_0 : decode method_2_code 0 = .ok (.iload_n 0, 1) := by decide +kernel
theorem d1_1 : decode method_2_code 1 = .ok (.ifCond .ne 10, 3) := by decide +kernel
theorem d1_4 : decode method_2_code 4 = .ok (.getstatic 7, 3) := by decide +kernel
theorem d1_7 : decode method_2_code 7 = .ok (.astore_n 1, 1) := by decide +kernel
theorem d1_8 : decode method_2_code 8 = .ok (.goto 55, 3) := by decide +kernel
theorem d1_63 : decode method_2_code 63 = .ok (.aload_n 1, 1) := by decide +kernel
theorem d1_64 : decode method_2_code 64 = .ok (.areturn, 1) := by decide +kernel
theorem d1_11 : decode method_2_code 11 = .ok (.iload_n 0, 1) := by decide +kernel
theorem d1_12 : decode method_2_code 12 = .ok (.iconst 1, 1) := by decide +kernel
theorem d1_13 : decode method_2_code 13 = .ok (.if_icmp .ne 10, 3) := by decide +kernel
theorem d1_16 : decode method_2_code 16 = .ok (.getstatic 13, 3) := by decide +kernel
theorem d1_19 : decode method_2_code 19 = .ok (.astore_n 1, 1) := by decide +kernel
theorem d1_20 : decode method_2_code 20 = .ok (.goto 43, 3) := by decide +kernel
theorem d1_23 : decode method_2_code 23 = .ok (.iload_n 0, 1) := by decide +kernel
theorem d1_24 : decode method_2_code 24 = .ok (.iconst 2, 1) := by decide +kernel
theorem d1_25 : decode method_2_code 25 = .ok (.if_icmp .ne 10, 3) := by decide +kernel
theorem d1_28 : decode method_2_code 28 = .ok (.getstatic 16, 3) := by decide +kernel
theorem d1_31 : decode method_2_code 31 = .ok (.astore_n 1, 1) := by decide +kernel
theorem d1_32 : decode method_2_code 32 = .ok (.goto 31, 3) := by decide +kernel
theorem d1_35 : decode method_2_code 35 = .ok (.iload_n 0, 1) := by decide +kernel
theorem d1_36 : decode method_2_code 36 = .ok (.iconst 3, 1) := by decide +kernel
theorem d1_37 : decode method_2_code 37 = .ok (.if_icmp .ne 10, 3) := by decide +kernel
theorem d1_40 : decode method_2_code 40 = .ok (.getstatic 19, 3) := by decide +kernel
theorem d1_43 : decode method_2_code 43 = .ok (.astore_n 1, 1) := by decide +kernel
theorem d1_44 : decode method_2_code 44 = .ok (.goto 19, 3) := by decide +kernel
theorem d1_47 : decode method_2_code 47 = .ok (.iload_n 0, 1) := by decide +kernel
theorem d1_48 : decode method_2_code 48 = .ok (.iconst 4, 1) := by decide +kernel
theorem d1_49 : decode method_2_code 49 = .ok (.if_icmp .ne 10, 3) := by decide +kernel
theorem d1_52 : decode method_2_code 52 = .ok (.getstatic 22, 3) := by decide +kernel
theorem d1_55 : decode method_2_code 55 = .ok (.astore_n 1, 1) := by decide +kernel
theorem d1_56 : decode method_2_code 56 = .ok (.goto 7, 3) := by decide +kernel
theorem d1_59 : decode method_2_code 59 = .ok (.getstatic 25, 3) := by decide +kernel
theorem d1_62 : decode method_2_code 62 = .ok (.astore_n 1, 1) := by decide +kernel
set_option maxRecDepth 65536 in
set_option maxHeartbeats 40000000 in
theorem own_op_met (l : Launch) (Z : State) (a0 : Array Value) (hw : ∀ d ∈ tables_1, d.before a0 Z = true) (k : Int32) (w2 w3 w4 w5 w6 w7 : Addr) (h0 : Heap) (S : own_S Z h0 w2 w3 w4 w5 w6 w7) :
    own_Met l (⟨"com/example/focus_crawl/focuscrawl/crawl/page/XPathExprHoldsPinLaw", "operator", "(I)Lcom/example/focus_crawl/focuscrawl/crawl/page/XPathExpr$Operator;"⟩ : MethodName) method_2_code 2 (some (.object "com/example/focus_crawl/focuscrawl/crawl/page/XPathExpr$Operator")) [] ({ frames := 0, cells := 0, slots := 0, locals := 0 } : Room) Z #[(.int k)] h0 (fun v h L => v = some (.ref (own_op k w2 w3 w4 w5 w6 w7)) ∧ h = h0 ∧ L = []) := by
  obtain ⟨S2, S3, S4, S5, S6, S7⟩ := S
  refine own_enter pn_0 ?_
  intro p e s m below meth c T0 hx hby hml hret hlk hown hnm hZ X0 e0
  refine own_at (g' := (mkF m 0 #[oI k, .unset] [])) (by first | rfl | (simp [entryFrame, mkF, argsToLocals, Value.category]; done)) ?_
  show own_Go p e below _ T0 (mkF m 0 #[oI k, .unset] [])
  refine own_by (fun t_ k_ => XS.iloadN X0.here hx rfl (hb hby d1_0) rfl  k_) ?_
  show own_Go p e below _ T0 (mkF m 1 #[oI k, .unset] [(.int k)])
  by_cases c1_0 : k = (0 : Int32)
  · refine own_by (fun t_ k_ => XS.ifNo X0.here hx rfl (hb hby d1_1) rfl (XT.i0_ne_f c1_0) k_) ?_
    show own_Go p e below _ T0 (mkF m 4 #[oI k, .unset] [])
    obtain ⟨T2, XT2, eT2, stT2⟩ := getS2 X0 hx hZ hown (host := "") (Or.inl (hw _ (List.mem_of_getElem? (i := 5) rfl))) Via.refl e0 S2 (g := (mkF m 4 #[oI k, .unset] [])) rfl (hb hby d1_4)
    refine own_by stT2 ?_
    show own_Go p e below _ T2 (mkF m 7 #[oI k, .unset] [(.ref w2)])
    refine own_by (fun t_ k_ => XS.astoreN XT2.here hx rfl (hb hby d1_7) rfl rfl (l' := #[oI k, oR w2]) rfl k_) ?_
    show own_Go p e below _ T2 (mkF m 8 #[oI k, oR w2] [])
    refine own_by (fun t_ k_ => XS.goto XT2.here hx rfl (pc0 := 8) (pc' := 63) rfl (hb hby d1_8) (by decide) (by decide) k_) ?_
    show own_Go p e below _ T2 (mkF m 63 #[oI k, oR w2] [])
    refine own_by (fun t_ k_ => XS.aloadN XT2.here hx rfl (hb hby d1_63) rfl rfl  k_) ?_
    show own_Go p e below _ T2 (mkF m 64 #[oI k, oR w2] [(.ref w2)])
    exact own_retA XT2 hx hlk hret rfl rfl (hb hby d1_64) (by decide) (by decide) (⟨by rw [own_op, if_pos c1_0], eT2, rfl⟩)
  · refine own_by (fun t_ k_ => XS.ifYes X0.here hx rfl (pc0 := 1) (pc' := 11) rfl (hb hby d1_1) rfl (XT.i0_ne_t c1_0) (by decide) (by decide) k_) ?_
    show own_Go p e below _ T0 (mkF m 11 #[oI k, .unset] [])
    refine own_by (fun t_ k_ => XS.iloadN X0.here hx rfl (hb hby d1_11) rfl  k_) ?_
    show own_Go p e below _ T0 (mkF m 12 #[oI k, .unset] [(.int k)])
    refine own_by (fun t_ k_ => XT.iconstV X0.here hx rfl (1 : Int32) (hb hby d1_12) (by decide) k_) ?_
    show own_Go p e below _ T0 (mkF m 13 #[oI k, .unset] [(.int (1 : Int32)), (.int k)])
    by_cases c13_2 : k = (1 : Int32)
    · refine own_by (fun t_ k_ => XS.icmpNo X0.here hx rfl (hb hby d1_13) rfl (XT.ii_ne_f c13_2) k_) ?_
      show own_Go p e below _ T0 (mkF m 16 #[oI k, .unset] [])
      obtain ⟨T4, XT4, eT4, stT4⟩ := getS2 X0 hx hZ hown (host := "") (Or.inl (hw _ (List.mem_of_getElem? (i := 14) rfl))) Via.refl e0 S3 (g := (mkF m 16 #[oI k, .unset] [])) rfl (hb hby d1_16)
      refine own_by stT4 ?_
      show own_Go p e below _ T4 (mkF m 19 #[oI k, .unset] [(.ref w3)])
      refine own_by (fun t_ k_ => XS.astoreN XT4.here hx rfl (hb hby d1_19) rfl rfl (l' := #[oI k, oR w3]) rfl k_) ?_
      show own_Go p e below _ T4 (mkF m 20 #[oI k, oR w3] [])
      refine own_by (fun t_ k_ => XS.goto XT4.here hx rfl (pc0 := 20) (pc' := 63) rfl (hb hby d1_20) (by decide) (by decide) k_) ?_
      show own_Go p e below _ T4 (mkF m 63 #[oI k, oR w3] [])
      refine own_by (fun t_ k_ => XS.aloadN XT4.here hx rfl (hb hby d1_63) rfl rfl  k_) ?_
      show own_Go p e below _ T4 (mkF m 64 #[oI k, oR w3] [(.ref w3)])
      exact own_retA XT4 hx hlk hret rfl rfl (hb hby d1_64) (by decide) (by decide) (⟨by rw [own_op, if_neg c1_0, if_pos c13_2], eT4, rfl⟩)
    · refine own_by (fun t_ k_ => XS.icmpYes X0.here hx rfl (pc0 := 13) (pc' := 23) rfl (hb hby d1_13) rfl (XT.ii_ne_t c13_2) (by decide) (by decide) k_) ?_
      show own_Go p e below _ T0 (mkF m 23 #[oI k, .unset] [])
      refine own_by (fun t_ k_ => XS.iloadN X0.here hx rfl (hb hby d1_23) rfl  k_) ?_
      show own_Go p e below _ T0 (mkF m 24 #[oI k, .unset] [(.int k)])
      refine own_by (fun t_ k_ => XT.iconstV X0.here hx rfl (2 : Int32) (hb hby d1_24) (by decide) k_) ?_
      show own_Go p e below _ T0 (mkF m 25 #[oI k, .unset] [(.int (2 : Int32)), (.int k)])
      by_cases c25_4 : k = (2 : Int32)
      · refine own_by (fun t_ k_ => XS.icmpNo X0.here hx rfl (hb hby d1_25) rfl (XT.ii_ne_f c25_4) k_) ?_
        show own_Go p e below _ T0 (mkF m 28 #[oI k, .unset] [])
        obtain ⟨T6, XT6, eT6, stT6⟩ := getS2 X0 hx hZ hown (host := "") (Or.inl (hw _ (List.mem_of_getElem? (i := 17) rfl))) Via.refl e0 S4 (g := (mkF m 28 #[oI k, .unset] [])) rfl (hb hby d1_28)
        refine own_by stT6 ?_
        show own_Go p e below _ T6 (mkF m 31 #[oI k, .unset] [(.ref w4)])
        refine own_by (fun t_ k_ => XS.astoreN XT6.here hx rfl (hb hby d1_31) rfl rfl (l' := #[oI k, oR w4]) rfl k_) ?_
        show own_Go p e below _ T6 (mkF m 32 #[oI k, oR w4] [])
        refine own_by (fun t_ k_ => XS.goto XT6.here hx rfl (pc0 := 32) (pc' := 63) rfl (hb hby d1_32) (by decide) (by decide) k_) ?_
        show own_Go p e below _ T6 (mkF m 63 #[oI k, oR w4] [])
        refine own_by (fun t_ k_ => XS.aloadN XT6.here hx rfl (hb hby d1_63) rfl rfl  k_) ?_
        show own_Go p e below _ T6 (mkF m 64 #[oI k, oR w4] [(.ref w4)])
        exact own_retA XT6 hx hlk hret rfl rfl (hb hby d1_64) (by decide) (by decide) (⟨by rw [own_op, if_neg c1_0, if_neg c13_2, if_pos c25_4], eT6, rfl⟩)
      · refine own_by (fun t_ k_ => XS.icmpYes X0.here hx rfl (pc0 := 25) (pc' := 35) rfl (hb hby d1_25) rfl (XT.ii_ne_t c25_4) (by decide) (by decide) k_) ?_
        show own_Go p e below _ T0 (mkF m 35 #[oI k, .unset] [])
        refine own_by (fun t_ k_ => XS.iloadN X0.here hx rfl (hb hby d1_35) rfl  k_) ?_
        show own_Go p e below _ T0 (mkF m 36 #[oI k, .unset] [(.int k)])
        refine own_by (fun t_ k_ => XT.iconstV X0.here hx rfl (3 : Int32) (hb hby d1_36) (by decide) k_) ?_
        show own_Go p e below _ T0 (mkF m 37 #[oI k, .unset] [(.int (3 : Int32)), (.int k)])
        by_cases c37_6 : k = (3 : Int32)
        · refine own_by (fun t_ k_ => XS.icmpNo X0.here hx rfl (hb hby d1_37) rfl (XT.ii_ne_f c37_6) k_) ?_
          show own_Go p e below _ T0 (mkF m 40 #[oI k, .unset] [])
          obtain ⟨T8, XT8, eT8, stT8⟩ := getS2 X0 hx hZ hown (host := "") (Or.inl (hw _ (List.mem_of_getElem? (i := 26) rfl))) Via.refl e0 S5 (g := (mkF m 40 #[oI k, .unset] [])) rfl (hb hby d1_40)
          refine own_by stT8 ?_
          show own_Go p e below _ T8 (mkF m 43 #[oI k, .unset] [(.ref w5)])
          refine own_by (fun t_ k_ => XS.astoreN XT8.here hx rfl (hb hby d1_43) rfl rfl (l' := #[oI k, oR w5]) rfl k_) ?_
          show own_Go p e below _ T8 (mkF m 44 #[oI k, oR w5] [])
          refine own_by (fun t_ k_ => XS.goto XT8.here hx rfl (pc0 := 44) (pc' := 63) rfl (hb hby d1_44) (by decide) (by decide) k_) ?_
          show own_Go p e below _ T8 (mkF m 63 #[oI k, oR w5] [])
          refine own_by (fun t_ k_ => XS.aloadN XT8.here hx rfl (hb hby d1_63) rfl rfl  k_) ?_
          show own_Go p e below _ T8 (mkF m 64 #[oI k, oR w5] [(.ref w5)])
          exact own_retA XT8 hx hlk hret rfl rfl (hb hby d1_64) (by decide) (by decide) (⟨by rw [own_op, if_neg c1_0, if_neg c13_2, if_neg c25_4, if_pos c37_6], eT8, rfl⟩)
        · refine own_by (fun t_ k_ => XS.icmpYes X0.here hx rfl (pc0 := 37) (pc' := 47) rfl (hb hby d1_37) rfl (XT.ii_ne_t c37_6) (by decide) (by decide) k_) ?_
          show own_Go p e below _ T0 (mkF m 47 #[oI k, .unset] [])
          refine own_by (fun t_ k_ => XS.iloadN X0.here hx rfl (hb hby d1_47) rfl  k_) ?_
          show own_Go p e below _ T0 (mkF m 48 #[oI k, .unset] [(.int k)])
          refine own_by (fun t_ k_ => XT.iconstV X0.here hx rfl (4 : Int32) (hb hby d1_48) (by decide) k_) ?_
          show own_Go p e below _ T0 (mkF m 49 #[oI k, .unset] [(.int (4 : Int32)), (.int k)])
          by_cases c49_8 : k = (4 : Int32)
          · refine own_by (fun t_ k_ => XS.icmpNo X0.here hx rfl (hb hby d1_49) rfl (XT.ii_ne_f c49_8) k_) ?_
            show own_Go p e below _ T0 (mkF m 52 #[oI k, .unset] [])
            obtain ⟨T10, XT10, eT10, stT10⟩ := getS2 X0 hx hZ hown (host := "") (Or.inl (hw _ (List.mem_of_getElem? (i := 27) rfl))) Via.refl e0 S6 (g := (mkF m 52 #[oI k, .unset] [])) rfl (hb hby d1_52)
            refine own_by stT10 ?_
            show own_Go p e below _ T10 (mkF m 55 #[oI k, .unset] [(.ref w6)])
            refine own_by (fun t_ k_ => XS.astoreN XT10.here hx rfl (hb hby d1_55) rfl rfl (l' := #[oI k, oR w6]) rfl k_) ?_
            show own_Go p e below _ T10 (mkF m 56 #[oI k, oR w6] [])
            refine own_by (fun t_ k_ => XS.goto XT10.here hx rfl (pc0 := 56) (pc' := 63) rfl (hb hby d1_56) (by decide) (by decide) k_) ?_
            show own_Go p e below _ T10 (mkF m 63 #[oI k, oR w6] [])
            refine own_by (fun t_ k_ => XS.aloadN XT10.here hx rfl (hb hby d1_63) rfl rfl  k_) ?_
            show own_Go p e below _ T10 (mkF m 64 #[oI k, oR w6] [(.ref w6)])
            exact own_retA XT10 hx hlk hret rfl rfl (hb hby d1_64) (by decide) (by decide) (⟨by rw [own_op, if_neg c1_0, if_neg c13_2, if_neg c25_4, if_neg c37_6, if_pos c49_8], eT10, rfl⟩)
          · refine own_by (fun t_ k_ => XS.icmpYes X0.here hx rfl (pc0 := 49) (pc' := 59) rfl (hb hby d1_49) rfl (XT.ii_ne_t c49_8) (by decide) (by decide) k_) ?_
            show own_Go p e below _ T0 (mkF m 59 #[oI k, .unset] [])
            obtain ⟨T11, XT11, eT11, stT11⟩ := getS2 X0 hx hZ hown (host := "") (Or.inl (hw _ (List.mem_of_getElem? (i := 20) rfl))) Via.refl e0 S7 (g := (mkF m 59 #[oI k, .unset] [])) rfl (hb hby d1_59)
            refine own_by stT11 ?_
            show own_Go p e below _ T11 (mkF m 62 #[oI k, .unset] [(.ref w7)])
            refine own_by (fun t_ k_ => XS.astoreN XT11.here hx rfl (hb hby d1_62) rfl rfl (l' := #[oI k, oR w7]) rfl k_) ?_
            show own_Go p e below _ T11 (mkF m 63 #[oI k, oR w7] [])
            refine own_by (fun t_ k_ => XS.aloadN XT11.here hx rfl (hb hby d1_63) rfl rfl  k_) ?_
            show own_Go p e below _ T11 (mkF m 64 #[oI k, oR w7] [(.ref w7)])
            exact own_retA XT11 hx hlk hret rfl rfl (hb hby d1_64) (by decide) (by decide) (⟨by rw [own_op, if_neg c1_0, if_neg c13_2, if_neg c25_4, if_neg c37_6, if_neg c49_8], eT11, rfl⟩)
def own_holds (a : Addr) (x : Int32) (y : Int32) (w2 w3 w4 w5 w6 w7 : Addr) : Int32 := (if a = w2 then (if (own_c3 x y) = (0 : Int32) then (1 : Int32) else (0 : Int32)) else (if a = w3 then (if (own_c3 x y) = (0 : Int32) then (0 : Int32) else (1 : Int32)) else (if a = w4 then (if (own_c3 x y) < (0 : Int32) then (1 : Int32) else (0 : Int32)) else (if a = w5 then (if (0 : Int32) < (own_c3 x y) then (0 : Int32) else (1 : Int32)) else (if a = w6 then (if (0 : Int32) < (own_c3 x y) then (1 : Int32) else (0 : Int32)) else (if (own_c3 x y) < (0 : Int32) then (0 : Int32) else (1 : Int32)))))))
theorem pn_1 : plainName "com/example/focus_crawl/focuscrawl/crawl/page/XPathExpr$Operator" = true := by first | (simp [plainName, overriddenIn]; done) | decide +kernel
theorem d2_0 : decode prog_45_method_10_code 0 = .ok (.aload_n 0, 1) := by decide +kernel
theorem d2_1 : decode prog_45_method_10_code 1 = .ok (.getstatic 10, 3) := by decide +kernel
theorem d2_4 : decode prog_45_method_10_code 4 = .ok (.if_acmp .ne 19, 3) := by decide +kernel
theorem d2_7 : decode prog_45_method_10_code 7 = .ok (.dload_n 1, 1) := by decide +kernel
theorem d2_8 : decode prog_45_method_10_code 8 = .ok (.dload_n 3, 1) := by decide +kernel
theorem d2_9 : decode prog_45_method_10_code 9 = .ok (.dcmp .l, 1) := by decide +kernel
theorem d2_10 : decode prog_45_method_10_code 10 = .ok (.ifCond .ne 7, 3) := by decide +kernel
theorem d2_13 : decode prog_45_method_10_code 13 = .ok (.iconst 1, 1) := by decide +kernel
theorem d2_14 : decode prog_45_method_10_code 14 = .ok (.goto 4, 3) := by decide +kernel
theorem d2_18 : decode prog_45_method_10_code 18 = .ok (.istore 5, 2) := by decide +kernel
theorem d2_20 : decode prog_45_method_10_code 20 = .ok (.goto 108, 3) := by decide +kernel
theorem d2_128 : decode prog_45_method_10_code 128 = .ok (.iload 5, 2) := by decide +kernel
theorem d2_130 : decode prog_45_method_10_code 130 = .ok (.ireturn, 1) := by decide +kernel
theorem d2_17 : decode prog_45_method_10_code 17 = .ok (.iconst 0, 1) := by decide +kernel
theorem d2_23 : decode prog_45_method_10_code 23 = .ok (.aload_n 0, 1) := by decide +kernel
theorem d2_24 : decode prog_45_method_10_code 24 = .ok (.getstatic 13, 3) := by decide +kernel
theorem d2_27 : decode prog_45_method_10_code 27 = .ok (.if_acmp .ne 19, 3) := by decide +kernel
theorem d2_30 : decode prog_45_method_10_code 30 = .ok (.dload_n 1, 1) := by decide +kernel
theorem d2_31 : decode prog_45_method_10_code 31 = .ok (.dload_n 3, 1) := by decide +kernel
theorem d2_32 : decode prog_45_method_10_code 32 = .ok (.dcmp .l, 1) := by decide +kernel
theorem d2_33 : decode prog_45_method_10_code 33 = .ok (.ifCond .eq 7, 3) := by decide +kernel
theorem d2_40 : decode prog_45_method_10_code 40 = .ok (.iconst 0, 1) := by decide +kernel
theorem d2_41 : decode prog_45_method_10_code 41 = .ok (.istore 5, 2) := by decide +kernel
theorem d2_43 : decode prog_45_method_10_code 43 = .ok (.goto 85, 3) := by decide +kernel
theorem d2_36 : decode prog_45_method_10_code 36 = .ok (.iconst 1, 1) := by decide +kernel
theorem d2_37 : decode prog_45_method_10_code 37 = .ok (.goto 4, 3) := by decide +kernel
theorem d2_46 : decode prog_45_method_10_code 46 = .ok (.aload_n 0, 1) := by decide +kernel
theorem d2_47 : decode prog_45_method_10_code 47 = .ok (.getstatic 16, 3) := by decide +kernel
theorem d2_50 : decode prog_45_method_10_code 50 = .ok (.if_acmp .ne 19, 3) := by decide +kernel
theorem d2_53 : decode prog_45_method_10_code 53 = .ok (.dload_n 1, 1) := by decide +kernel
theorem d2_54 : decode prog_45_method_10_code 54 = .ok (.dload_n 3, 1) := by decide +kernel
theorem d2_55 : decode prog_45_method_10_code 55 = .ok (.dcmp .g, 1) := by decide +kernel
theorem d2_56 : decode prog_45_method_10_code 56 = .ok (.ifCond .ge 7, 3) := by decide +kernel
theorem d2_59 : decode prog_45_method_10_code 59 = .ok (.iconst 1, 1) := by decide +kernel
theorem d2_60 : decode prog_45_method_10_code 60 = .ok (.goto 4, 3) := by decide +kernel
theorem d2_64 : decode prog_45_method_10_code 64 = .ok (.istore 5, 2) := by decide +kernel
theorem d2_66 : decode prog_45_method_10_code 66 = .ok (.goto 62, 3) := by decide +kernel
theorem d2_63 : decode prog_45_method_10_code 63 = .ok (.iconst 0, 1) := by decide +kernel
theorem d2_69 : decode prog_45_method_10_code 69 = .ok (.aload_n 0, 1) := by decide +kernel
theorem d2_70 : decode prog_45_method_10_code 70 = .ok (.getstatic 19, 3) := by decide +kernel
theorem d2_73 : decode prog_45_method_10_code 73 = .ok (.if_acmp .ne 19, 3) := by decide +kernel
theorem d2_76 : decode prog_45_method_10_code 76 = .ok (.dload_n 1, 1) := by decide +kernel
theorem d2_77 : decode prog_45_method_10_code 77 = .ok (.dload_n 3, 1) := by decide +kernel
theorem d2_78 : decode prog_45_method_10_code 78 = .ok (.dcmp .g, 1) := by decide +kernel
theorem d2_79 : decode prog_45_method_10_code 79 = .ok (.ifCond .gt 7, 3) := by decide +kernel
theorem d2_86 : decode prog_45_method_10_code 86 = .ok (.iconst 0, 1) := by decide +kernel
theorem d2_87 : decode prog_45_method_10_code 87 = .ok (.istore 5, 2) := by decide +kernel
theorem d2_89 : decode prog_45_method_10_code 89 = .ok (.goto 39, 3) := by decide +kernel
theorem d2_82 : decode prog_45_method_10_code 82 = .ok (.iconst 1, 1) := by decide +kernel
theorem d2_83 : decode prog_45_method_10_code 83 = .ok (.goto 4, 3) := by decide +kernel
theorem d2_92 : decode prog_45_method_10_code 92 = .ok (.aload_n 0, 1) := by decide +kernel
theorem d2_93 : decode prog_45_method_10_code 93 = .ok (.getstatic 22, 3) := by decide +kernel
theorem d2_96 : decode prog_45_method_10_code 96 = .ok (.if_acmp .ne 19, 3) := by decide +kernel
theorem d2_99 : decode prog_45_method_10_code 99 = .ok (.dload_n 1, 1) := by decide +kernel
theorem d2_100 : decode prog_45_method_10_code 100 = .ok (.dload_n 3, 1) := by decide +kernel
theorem d2_101 : decode prog_45_method_10_code 101 = .ok (.dcmp .l, 1) := by decide +kernel
theorem d2_102 : decode prog_45_method_10_code 102 = .ok (.ifCond .le 7, 3) := by decide +kernel
theorem d2_105 : decode prog_45_method_10_code 105 = .ok (.iconst 1, 1) := by decide +kernel
theorem d2_106 : decode prog_45_method_10_code 106 = .ok (.goto 4, 3) := by decide +kernel
theorem d2_110 : decode prog_45_method_10_code 110 = .ok (.istore 5, 2) := by decide +kernel
theorem d2_112 : decode prog_45_method_10_code 112 = .ok (.goto 16, 3) := by decide +kernel
theorem d2_109 : decode prog_45_method_10_code 109 = .ok (.iconst 0, 1) := by decide +kernel
theorem d2_115 : decode prog_45_method_10_code 115 = .ok (.dload_n 1, 1) := by decide +kernel
theorem d2_116 : decode prog_45_method_10_code 116 = .ok (.dload_n 3, 1) := by decide +kernel
theorem d2_117 : decode prog_45_method_10_code 117 = .ok (.dcmp .l, 1) := by decide +kernel
theorem d2_118 : decode prog_45_method_10_code 118 = .ok (.ifCond .lt 7, 3) := by decide +kernel
theorem d2_125 : decode prog_45_method_10_code 125 = .ok (.iconst 0, 1) := by decide +kernel
theorem d2_126 : decode prog_45_method_10_code 126 = .ok (.istore 5, 2) := by decide +kernel
theorem d2_121 : decode prog_45_method_10_code 121 = .ok (.iconst 1, 1) := by decide +kernel
theorem d2_122 : decode prog_45_method_10_code 122 = .ok (.goto 4, 3) := by decide +kernel
set_option maxRecDepth 65536 in
set_option maxHeartbeats 40000000 in
theorem own_holds_met (l : Launch) (Z : State) (a0 : Array Value) (hw : ∀ d ∈ tables_1, d.before a0 Z = true) (a : Addr) (x : Int32) (y : Int32) (w2 w3 w4 w5 w6 w7 : Addr) (h0 : Heap) (S : own_S Z h0 w2 w3 w4 w5 w6 w7) :
    own_Met l (⟨"com/example/focus_crawl/focuscrawl/crawl/page/XPathExpr$Operator", "holds", "(DD)Z"⟩ : MethodName) prog_45_method_10_code 6 (some .boolean) [] ({ frames := 0, cells := 0, slots := 0, locals := 0 } : Room) Z #[(.ref a), (.double (FP.i2d x)), (.double (FP.i2d y))] h0 (fun v h L => v = some (.int (own_holds a x y w2 w3 w4 w5 w6 w7)) ∧ h = h0 ∧ L = []) := by
  obtain ⟨S2, S3, S4, S5, S6, S7⟩ := S
  refine own_enter pn_1 ?_
  intro p e s m below meth c T0 hx hby hml hret hlk hown hnm hZ X0 e0
  refine own_at (g' := (mkF m 0 #[oR a, oD (FP.i2d x), .second, oD (FP.i2d y), .second, .unset] [])) (by first | rfl | (simp [entryFrame, mkF, argsToLocals, Value.category]; done)) ?_
  show own_Go p e below _ T0 (mkF m 0 #[oR a, oD (FP.i2d x), .second, oD (FP.i2d y), .second, .unset] [])
  refine own_by (fun t_ k_ => XS.aloadN X0.here hx rfl (hb hby d2_0) rfl rfl  k_) ?_
  show own_Go p e below _ T0 (mkF m 1 #[oR a, oD (FP.i2d x), .second, oD (FP.i2d y), .second, .unset] [(.ref a)])
  obtain ⟨T1, XT1, eT1, stT1⟩ := getS2 X0 hx hZ hown (host := "") (Or.inl (hw _ (List.mem_of_getElem? (i := 13) rfl))) Via.refl e0 S2 (g := (mkF m 1 #[oR a, oD (FP.i2d x), .second, oD (FP.i2d y), .second, .unset] [(.ref a)])) rfl (hb hby d2_1)
  refine own_by stT1 ?_
  show own_Go p e below _ T1 (mkF m 4 #[oR a, oD (FP.i2d x), .second, oD (FP.i2d y), .second, .unset] [(.ref w2), (.ref a)])
  by_cases c4_1 : a = w2
  · refine own_by (fun t_ k_ => Jvm.RoadKit.acmp (g := (mkF m 4 #[oR a, oD (FP.i2d x), .second, oD (FP.i2d y), .second, .unset] [(.ref w2), (.ref a)])) XT1 hx rfl rfl rfl (pc0 := 4) (pc' := 7) (same := true) rfl (hb hby d2_4) rfl (decide_eq_true (congrArg Value.ref (c4_1))) (by decide) (by decide) k_) ?_
    show own_Go p e below _ T1 (mkF m 7 #[oR a, oD (FP.i2d x), .second, oD (FP.i2d y), .second, .unset] [])
    refine own_by (fun t_ k_ => XS.dloadN XT1.here hx rfl (hb hby d2_7) rfl  k_) ?_
    show own_Go p e below _ T1 (mkF m 8 #[oR a, oD (FP.i2d x), .second, oD (FP.i2d y), .second, .unset] [(.double (FP.i2d x))])
    refine own_by (fun t_ k_ => XS.dloadN XT1.here hx rfl (hb hby d2_8) rfl  k_) ?_
    show own_Go p e below _ T1 (mkF m 9 #[oR a, oD (FP.i2d x), .second, oD (FP.i2d y), .second, .unset] [(.double (FP.i2d y)), (.double (FP.i2d x))])
    refine own_by (fun t_ k_ => XS.dcmpS XT1.here hx rfl (hb hby d2_9) rfl (own_dcmp_i x y .l) k_) ?_
    show own_Go p e below _ T1 (mkF m 10 #[oR a, oD (FP.i2d x), .second, oD (FP.i2d y), .second, .unset] [(.int (own_c3 x y))])
    by_cases c10_2 : (own_c3 x y) = (0 : Int32)
    · refine own_by (fun t_ k_ => XS.ifNo XT1.here hx rfl (hb hby d2_10) rfl (XT.i0_ne_f c10_2) k_) ?_
      show own_Go p e below _ T1 (mkF m 13 #[oR a, oD (FP.i2d x), .second, oD (FP.i2d y), .second, .unset] [])
      refine own_by (fun t_ k_ => XT.iconstV XT1.here hx rfl (1 : Int32) (hb hby d2_13) (by decide) k_) ?_
      show own_Go p e below _ T1 (mkF m 14 #[oR a, oD (FP.i2d x), .second, oD (FP.i2d y), .second, .unset] [(.int (1 : Int32))])
      refine own_by (fun t_ k_ => XS.goto XT1.here hx rfl (pc0 := 14) (pc' := 18) rfl (hb hby d2_14) (by decide) (by decide) k_) ?_
      show own_Go p e below _ T1 (mkF m 18 #[oR a, oD (FP.i2d x), .second, oD (FP.i2d y), .second, .unset] [(.int (1 : Int32))])
      refine own_by (fun t_ k_ => XS.istore XT1.here hx rfl (hb hby d2_18) rfl (l' := #[oR a, oD (FP.i2d x), .second, oD (FP.i2d y), .second, oI (1 : Int32)]) rfl k_) ?_
      show own_Go p e below _ T1 (mkF m 20 #[oR a, oD (FP.i2d x), .second, oD (FP.i2d y), .second, oI (1 : Int32)] [])
      refine own_by (fun t_ k_ => XS.goto XT1.here hx rfl (pc0 := 20) (pc' := 128) rfl (hb hby d2_20) (by decide) (by decide) k_) ?_
      show own_Go p e below _ T1 (mkF m 128 #[oR a, oD (FP.i2d x), .second, oD (FP.i2d y), .second, oI (1 : Int32)] [])
      refine own_by (fun t_ k_ => XS.iload XT1.here hx rfl (hb hby d2_128) rfl  k_) ?_
      show own_Go p e below _ T1 (mkF m 130 #[oR a, oD (FP.i2d x), .second, oD (FP.i2d y), .second, oI (1 : Int32)] [(.int (1 : Int32))])
      exact own_retN XT1 hx hlk hret (by simp) (w := (1 : Int32)) (hb hby d2_130) (by decide) (by decide) (by decide) (⟨by rw [own_holds, if_pos c4_1, if_pos c10_2], eT1, rfl⟩)
    · refine own_by (fun t_ k_ => XS.ifYes XT1.here hx rfl (pc0 := 10) (pc' := 17) rfl (hb hby d2_10) rfl (XT.i0_ne_t c10_2) (by decide) (by decide) k_) ?_
      show own_Go p e below _ T1 (mkF m 17 #[oR a, oD (FP.i2d x), .second, oD (FP.i2d y), .second, .unset] [])
      refine own_by (fun t_ k_ => XT.iconstV XT1.here hx rfl (0 : Int32) (hb hby d2_17) (by decide) k_) ?_
      show own_Go p e below _ T1 (mkF m 18 #[oR a, oD (FP.i2d x), .second, oD (FP.i2d y), .second, .unset] [(.int (0 : Int32))])
      refine own_by (fun t_ k_ => XS.istore XT1.here hx rfl (hb hby d2_18) rfl (l' := #[oR a, oD (FP.i2d x), .second, oD (FP.i2d y), .second, oI (0 : Int32)]) rfl k_) ?_
      show own_Go p e below _ T1 (mkF m 20 #[oR a, oD (FP.i2d x), .second, oD (FP.i2d y), .second, oI (0 : Int32)] [])
      refine own_by (fun t_ k_ => XS.goto XT1.here hx rfl (pc0 := 20) (pc' := 128) rfl (hb hby d2_20) (by decide) (by decide) k_) ?_
      show own_Go p e below _ T1 (mkF m 128 #[oR a, oD (FP.i2d x), .second, oD (FP.i2d y), .second, oI (0 : Int32)] [])
      refine own_by (fun t_ k_ => XS.iload XT1.here hx rfl (hb hby d2_128) rfl  k_) ?_
      show own_Go p e below _ T1 (mkF m 130 #[oR a, oD (FP.i2d x), .second, oD (FP.i2d y), .second, oI (0 : Int32)] [(.int (0 : Int32))])
      exact own_retN XT1 hx hlk hret (by simp) (w := (0 : Int32)) (hb hby d2_130) (by decide) (by decide) (by decide) (⟨by rw [own_holds, if_pos c4_1, if_neg c10_2], eT1, rfl⟩)
  · refine own_by (fun t_ k_ => Jvm.RoadKit.acmp (g := (mkF m 4 #[oR a, oD (FP.i2d x), .second, oD (FP.i2d y), .second, .unset] [(.ref w2), (.ref a)])) XT1 hx rfl rfl rfl (pc0 := 4) (pc' := 23) (same := false) rfl (hb hby d2_4) rfl (decide_eq_false fun q => (c4_1) (Value.ref.inj q)) (by decide) (by decide) k_) ?_
    show own_Go p e below _ T1 (mkF m 23 #[oR a, oD (FP.i2d x), .second, oD (FP.i2d y), .second, .unset] [])
    refine own_by (fun t_ k_ => XS.aloadN XT1.here hx rfl (hb hby d2_23) rfl rfl  k_) ?_
    show own_Go p e below _ T1 (mkF m 24 #[oR a, oD (FP.i2d x), .second, oD (FP.i2d y), .second, .unset] [(.ref a)])
    obtain ⟨T4, XT4, eT4, stT4⟩ := getS2 XT1 hx hZ hown (host := "") (Or.inl (hw _ (List.mem_of_getElem? (i := 16) rfl))) Via.refl eT1 S3 (g := (mkF m 24 #[oR a, oD (FP.i2d x), .second, oD (FP.i2d y), .second, .unset] [(.ref a)])) rfl (hb hby d2_24)
    refine own_by stT4 ?_
    show own_Go p e below _ T4 (mkF m 27 #[oR a, oD (FP.i2d x), .second, oD (FP.i2d y), .second, .unset] [(.ref w3), (.ref a)])
    by_cases c27_4 : a = w3
    · refine own_by (fun t_ k_ => Jvm.RoadKit.acmp (g := (mkF m 27 #[oR a, oD (FP.i2d x), .second, oD (FP.i2d y), .second, .unset] [(.ref w3), (.ref a)])) XT4 hx rfl rfl rfl (pc0 := 27) (pc' := 30) (same := true) rfl (hb hby d2_27) rfl (decide_eq_true (congrArg Value.ref (c27_4))) (by decide) (by decide) k_) ?_
      show own_Go p e below _ T4 (mkF m 30 #[oR a, oD (FP.i2d x), .second, oD (FP.i2d y), .second, .unset] [])
      refine own_by (fun t_ k_ => XS.dloadN XT4.here hx rfl (hb hby d2_30) rfl  k_) ?_
      show own_Go p e below _ T4 (mkF m 31 #[oR a, oD (FP.i2d x), .second, oD (FP.i2d y), .second, .unset] [(.double (FP.i2d x))])
      refine own_by (fun t_ k_ => XS.dloadN XT4.here hx rfl (hb hby d2_31) rfl  k_) ?_
      show own_Go p e below _ T4 (mkF m 32 #[oR a, oD (FP.i2d x), .second, oD (FP.i2d y), .second, .unset] [(.double (FP.i2d y)), (.double (FP.i2d x))])
      refine own_by (fun t_ k_ => XS.dcmpS XT4.here hx rfl (hb hby d2_32) rfl (own_dcmp_i x y .l) k_) ?_
      show own_Go p e below _ T4 (mkF m 33 #[oR a, oD (FP.i2d x), .second, oD (FP.i2d y), .second, .unset] [(.int (own_c3 x y))])
      by_cases c33_5 : (own_c3 x y) = (0 : Int32)
      · refine own_by (fun t_ k_ => XS.ifYes XT4.here hx rfl (pc0 := 33) (pc' := 40) rfl (hb hby d2_33) rfl (XT.i0_eq_t c33_5) (by decide) (by decide) k_) ?_
        show own_Go p e below _ T4 (mkF m 40 #[oR a, oD (FP.i2d x), .second, oD (FP.i2d y), .second, .unset] [])
        refine own_by (fun t_ k_ => XT.iconstV XT4.here hx rfl (0 : Int32) (hb hby d2_40) (by decide) k_) ?_
        show own_Go p e below _ T4 (mkF m 41 #[oR a, oD (FP.i2d x), .second, oD (FP.i2d y), .second, .unset] [(.int (0 : Int32))])
        refine own_by (fun t_ k_ => XS.istore XT4.here hx rfl (hb hby d2_41) rfl (l' := #[oR a, oD (FP.i2d x), .second, oD (FP.i2d y), .second, oI (0 : Int32)]) rfl k_) ?_
        show own_Go p e below _ T4 (mkF m 43 #[oR a, oD (FP.i2d x), .second, oD (FP.i2d y), .second, oI (0 : Int32)] [])
        refine own_by (fun t_ k_ => XS.goto XT4.here hx rfl (pc0 := 43) (pc' := 128) rfl (hb hby d2_43) (by decide) (by decide) k_) ?_
        show own_Go p e below _ T4 (mkF m 128 #[oR a, oD (FP.i2d x), .second, oD (FP.i2d y), .second, oI (0 : Int32)] [])
        refine own_by (fun t_ k_ => XS.iload XT4.here hx rfl (hb hby d2_128) rfl  k_) ?_
        show own_Go p e below _ T4 (mkF m 130 #[oR a, oD (FP.i2d x), .second, oD (FP.i2d y), .second, oI (0 : Int32)] [(.int (0 : Int32))])
        exact own_retN XT4 hx hlk hret (by simp) (w := (0 : Int32)) (hb hby d2_130) (by decide) (by decide) (by decide) (⟨by rw [own_holds, if_neg c4_1, if_pos c27_4, if_pos c33_5], eT4, rfl⟩)
      · refine own_by (fun t_ k_ => XS.ifNo XT4.here hx rfl (hb hby d2_33) rfl (XT.i0_eq_f c33_5) k_) ?_
        show own_Go p e below _ T4 (mkF m 36 #[oR a, oD (FP.i2d x), .second, oD (FP.i2d y), .second, .unset] [])
        refine own_by (fun t_ k_ => XT.iconstV XT4.here hx rfl (1 : Int32) (hb hby d2_36) (by decide) k_) ?_
        show own_Go p e below _ T4 (mkF m 37 #[oR a, oD (FP.i2d x), .second, oD (FP.i2d y), .second, .unset] [(.int (1 : Int32))])
        refine own_by (fun t_ k_ => XS.goto XT4.here hx rfl (pc0 := 37) (pc' := 41) rfl (hb hby d2_37) (by decide) (by decide) k_) ?_
        show own_Go p e below _ T4 (mkF m 41 #[oR a, oD (FP.i2d x), .second, oD (FP.i2d y), .second, .unset] [(.int (1 : Int32))])
        refine own_by (fun t_ k_ => XS.istore XT4.here hx rfl (hb hby d2_41) rfl (l' := #[oR a, oD (FP.i2d x), .second, oD (FP.i2d y), .second, oI (1 : Int32)]) rfl k_) ?_
        show own_Go p e below _ T4 (mkF m 43 #[oR a, oD (FP.i2d x), .second, oD (FP.i2d y), .second, oI (1 : Int32)] [])
        refine own_by (fun t_ k_ => XS.goto XT4.here hx rfl (pc0 := 43) (pc' := 128) rfl (hb hby d2_43) (by decide) (by decide) k_) ?_
        show own_Go p e below _ T4 (mkF m 128 #[oR a, oD (FP.i2d x), .second, oD (FP.i2d y), .second, oI (1 : Int32)] [])
        refine own_by (fun t_ k_ => XS.iload XT4.here hx rfl (hb hby d2_128) rfl  k_) ?_
        show own_Go p e below _ T4 (mkF m 130 #[oR a, oD (FP.i2d x), .second, oD (FP.i2d y), .second, oI (1 : Int32)] [(.int (1 : Int32))])
        exact own_retN XT4 hx hlk hret (by simp) (w := (1 : Int32)) (hb hby d2_130) (by decide) (by decide) (by decide) (⟨by rw [own_holds, if_neg c4_1, if_pos c27_4, if_neg c33_5], eT4, rfl⟩)
    · refine own_by (fun t_ k_ => Jvm.RoadKit.acmp (g := (mkF m 27 #[oR a, oD (FP.i2d x), .second, oD (FP.i2d y), .second, .unset] [(.ref w3), (.ref a)])) XT4 hx rfl rfl rfl (pc0 := 27) (pc' := 46) (same := false) rfl (hb hby d2_27) rfl (decide_eq_false fun q => (c27_4) (Value.ref.inj q)) (by decide) (by decide) k_) ?_
      show own_Go p e below _ T4 (mkF m 46 #[oR a, oD (FP.i2d x), .second, oD (FP.i2d y), .second, .unset] [])
      refine own_by (fun t_ k_ => XS.aloadN XT4.here hx rfl (hb hby d2_46) rfl rfl  k_) ?_
      show own_Go p e below _ T4 (mkF m 47 #[oR a, oD (FP.i2d x), .second, oD (FP.i2d y), .second, .unset] [(.ref a)])
      obtain ⟨T7, XT7, eT7, stT7⟩ := getS2 XT4 hx hZ hown (host := "") (Or.inl (hw _ (List.mem_of_getElem? (i := 19) rfl))) Via.refl eT4 S4 (g := (mkF m 47 #[oR a, oD (FP.i2d x), .second, oD (FP.i2d y), .second, .unset] [(.ref a)])) rfl (hb hby d2_47)
      refine own_by stT7 ?_
      show own_Go p e below _ T7 (mkF m 50 #[oR a, oD (FP.i2d x), .second, oD (FP.i2d y), .second, .unset] [(.ref w4), (.ref a)])
      by_cases c50_7 : a = w4
      · refine own_by (fun t_ k_ => Jvm.RoadKit.acmp (g := (mkF m 50 #[oR a, oD (FP.i2d x), .second, oD (FP.i2d y), .second, .unset] [(.ref w4), (.ref a)])) XT7 hx rfl rfl rfl (pc0 := 50) (pc' := 53) (same := true) rfl (hb hby d2_50) rfl (decide_eq_true (congrArg Value.ref (c50_7))) (by decide) (by decide) k_) ?_
        show own_Go p e below _ T7 (mkF m 53 #[oR a, oD (FP.i2d x), .second, oD (FP.i2d y), .second, .unset] [])
        refine own_by (fun t_ k_ => XS.dloadN XT7.here hx rfl (hb hby d2_53) rfl  k_) ?_
        show own_Go p e below _ T7 (mkF m 54 #[oR a, oD (FP.i2d x), .second, oD (FP.i2d y), .second, .unset] [(.double (FP.i2d x))])
        refine own_by (fun t_ k_ => XS.dloadN XT7.here hx rfl (hb hby d2_54) rfl  k_) ?_
        show own_Go p e below _ T7 (mkF m 55 #[oR a, oD (FP.i2d x), .second, oD (FP.i2d y), .second, .unset] [(.double (FP.i2d y)), (.double (FP.i2d x))])
        refine own_by (fun t_ k_ => XS.dcmpS XT7.here hx rfl (hb hby d2_55) rfl (own_dcmp_i x y .g) k_) ?_
        show own_Go p e below _ T7 (mkF m 56 #[oR a, oD (FP.i2d x), .second, oD (FP.i2d y), .second, .unset] [(.int (own_c3 x y))])
        by_cases c56_8 : (own_c3 x y) < (0 : Int32)
        · refine own_by (fun t_ k_ => XS.ifNo XT7.here hx rfl (hb hby d2_56) rfl (XT.i0_ge_f c56_8) k_) ?_
          show own_Go p e below _ T7 (mkF m 59 #[oR a, oD (FP.i2d x), .second, oD (FP.i2d y), .second, .unset] [])
          refine own_by (fun t_ k_ => XT.iconstV XT7.here hx rfl (1 : Int32) (hb hby d2_59) (by decide) k_) ?_
          show own_Go p e below _ T7 (mkF m 60 #[oR a, oD (FP.i2d x), .second, oD (FP.i2d y), .second, .unset] [(.int (1 : Int32))])
          refine own_by (fun t_ k_ => XS.goto XT7.here hx rfl (pc0 := 60) (pc' := 64) rfl (hb hby d2_60) (by decide) (by decide) k_) ?_
          show own_Go p e below _ T7 (mkF m 64 #[oR a, oD (FP.i2d x), .second, oD (FP.i2d y), .second, .unset] [(.int (1 : Int32))])
          refine own_by (fun t_ k_ => XS.istore XT7.here hx rfl (hb hby d2_64) rfl (l' := #[oR a, oD (FP.i2d x), .second, oD (FP.i2d y), .second, oI (1 : Int32)]) rfl k_) ?_
          show own_Go p e below _ T7 (mkF m 66 #[oR a, oD (FP.i2d x), .second, oD (FP.i2d y), .second, oI (1 : Int32)] [])
          refine own_by (fun t_ k_ => XS.goto XT7.here hx rfl (pc0 := 66) (pc' := 128) rfl (hb hby d2_66) (by decide) (by decide) k_) ?_
          show own_Go p e below _ T7 (mkF m 128 #[oR a, oD (FP.i2d x), .second, oD (FP.i2d y), .second, oI (1 : Int32)] [])
          refine own_by (fun t_ k_ => XS.iload XT7.here hx rfl (hb hby d2_128) rfl  k_) ?_
          show own_Go p e below _ T7 (mkF m 130 #[oR a, oD (FP.i2d x), .second, oD (FP.i2d y), .second, oI (1 : Int32)] [(.int (1 : Int32))])
          exact own_retN XT7 hx hlk hret (by simp) (w := (1 : Int32)) (hb hby d2_130) (by decide) (by decide) (by decide) (⟨by rw [own_holds, if_neg c4_1, if_neg c27_4, if_pos c50_7, if_pos c56_8], eT7, rfl⟩)
        · refine own_by (fun t_ k_ => XS.ifYes XT7.here hx rfl (pc0 := 56) (pc' := 63) rfl (hb hby d2_56) rfl (XT.i0_ge_t c56_8) (by decide) (by decide) k_) ?_
          show own_Go p e below _ T7 (mkF m 63 #[oR a, oD (FP.i2d x), .second, oD (FP.i2d y), .second, .unset] [])
          refine own_by (fun t_ k_ => XT.iconstV XT7.here hx rfl (0 : Int32) (hb hby d2_63) (by decide) k_) ?_
          show own_Go p e below _ T7 (mkF m 64 #[oR a, oD (FP.i2d x), .second, oD (FP.i2d y), .second, .unset] [(.int (0 : Int32))])
          refine own_by (fun t_ k_ => XS.istore XT7.here hx rfl (hb hby d2_64) rfl (l' := #[oR a, oD (FP.i2d x), .second, oD (FP.i2d y), .second, oI (0 : Int32)]) rfl k_) ?_
          show own_Go p e below _ T7 (mkF m 66 #[oR a, oD (FP.i2d x), .second, oD (FP.i2d y), .second, oI (0 : Int32)] [])
          refine own_by (fun t_ k_ => XS.goto XT7.here hx rfl (pc0 := 66) (pc' := 128) rfl (hb hby d2_66) (by decide) (by decide) k_) ?_
          show own_Go p e below _ T7 (mkF m 128 #[oR a, oD (FP.i2d x), .second, oD (FP.i2d y), .second, oI (0 : Int32)] [])
          refine own_by (fun t_ k_ => XS.iload XT7.here hx rfl (hb hby d2_128) rfl  k_) ?_
          show own_Go p e below _ T7 (mkF m 130 #[oR a, oD (FP.i2d x), .second, oD (FP.i2d y), .second, oI (0 : Int32)] [(.int (0 : Int32))])
          exact own_retN XT7 hx hlk hret (by simp) (w := (0 : Int32)) (hb hby d2_130) (by decide) (by decide) (by decide) (⟨by rw [own_holds, if_neg c4_1, if_neg c27_4, if_pos c50_7, if_neg c56_8], eT7, rfl⟩)
      · refine own_by (fun t_ k_ => Jvm.RoadKit.acmp (g := (mkF m 50 #[oR a, oD (FP.i2d x), .second, oD (FP.i2d y), .second, .unset] [(.ref w4), (.ref a)])) XT7 hx rfl rfl rfl (pc0 := 50) (pc' := 69) (same := false) rfl (hb hby d2_50) rfl (decide_eq_false fun q => (c50_7) (Value.ref.inj q)) (by decide) (by decide) k_) ?_
        show own_Go p e below _ T7 (mkF m 69 #[oR a, oD (FP.i2d x), .second, oD (FP.i2d y), .second, .unset] [])
        refine own_by (fun t_ k_ => XS.aloadN XT7.here hx rfl (hb hby d2_69) rfl rfl  k_) ?_
        show own_Go p e below _ T7 (mkF m 70 #[oR a, oD (FP.i2d x), .second, oD (FP.i2d y), .second, .unset] [(.ref a)])
        obtain ⟨T10, XT10, eT10, stT10⟩ := getS2 XT7 hx hZ hown (host := "") (Or.inl (hw _ (List.mem_of_getElem? (i := 22) rfl))) Via.refl eT7 S5 (g := (mkF m 70 #[oR a, oD (FP.i2d x), .second, oD (FP.i2d y), .second, .unset] [(.ref a)])) rfl (hb hby d2_70)
        refine own_by stT10 ?_
        show own_Go p e below _ T10 (mkF m 73 #[oR a, oD (FP.i2d x), .second, oD (FP.i2d y), .second, .unset] [(.ref w5), (.ref a)])
        by_cases c73_10 : a = w5
        · refine own_by (fun t_ k_ => Jvm.RoadKit.acmp (g := (mkF m 73 #[oR a, oD (FP.i2d x), .second, oD (FP.i2d y), .second, .unset] [(.ref w5), (.ref a)])) XT10 hx rfl rfl rfl (pc0 := 73) (pc' := 76) (same := true) rfl (hb hby d2_73) rfl (decide_eq_true (congrArg Value.ref (c73_10))) (by decide) (by decide) k_) ?_
          show own_Go p e below _ T10 (mkF m 76 #[oR a, oD (FP.i2d x), .second, oD (FP.i2d y), .second, .unset] [])
          refine own_by (fun t_ k_ => XS.dloadN XT10.here hx rfl (hb hby d2_76) rfl  k_) ?_
          show own_Go p e below _ T10 (mkF m 77 #[oR a, oD (FP.i2d x), .second, oD (FP.i2d y), .second, .unset] [(.double (FP.i2d x))])
          refine own_by (fun t_ k_ => XS.dloadN XT10.here hx rfl (hb hby d2_77) rfl  k_) ?_
          show own_Go p e below _ T10 (mkF m 78 #[oR a, oD (FP.i2d x), .second, oD (FP.i2d y), .second, .unset] [(.double (FP.i2d y)), (.double (FP.i2d x))])
          refine own_by (fun t_ k_ => XS.dcmpS XT10.here hx rfl (hb hby d2_78) rfl (own_dcmp_i x y .g) k_) ?_
          show own_Go p e below _ T10 (mkF m 79 #[oR a, oD (FP.i2d x), .second, oD (FP.i2d y), .second, .unset] [(.int (own_c3 x y))])
          by_cases c79_11 : (0 : Int32) < (own_c3 x y)
          · refine own_by (fun t_ k_ => XS.ifYes XT10.here hx rfl (pc0 := 79) (pc' := 86) rfl (hb hby d2_79) rfl (XT.i0_gt_t c79_11) (by decide) (by decide) k_) ?_
            show own_Go p e below _ T10 (mkF m 86 #[oR a, oD (FP.i2d x), .second, oD (FP.i2d y), .second, .unset] [])
            refine own_by (fun t_ k_ => XT.iconstV XT10.here hx rfl (0 : Int32) (hb hby d2_86) (by decide) k_) ?_
            show own_Go p e below _ T10 (mkF m 87 #[oR a, oD (FP.i2d x), .second, oD (FP.i2d y), .second, .unset] [(.int (0 : Int32))])
            refine own_by (fun t_ k_ => XS.istore XT10.here hx rfl (hb hby d2_87) rfl (l' := #[oR a, oD (FP.i2d x), .second, oD (FP.i2d y), .second, oI (0 : Int32)]) rfl k_) ?_
            show own_Go p e below _ T10 (mkF m 89 #[oR a, oD (FP.i2d x), .second, oD (FP.i2d y), .second, oI (0 : Int32)] [])
            refine own_by (fun t_ k_ => XS.goto XT10.here hx rfl (pc0 := 89) (pc' := 128) rfl (hb hby d2_89) (by decide) (by decide) k_) ?_
            show own_Go p e below _ T10 (mkF m 128 #[oR a, oD (FP.i2d x), .second, oD (FP.i2d y), .second, oI (0 : Int32)] [])
            refine own_by (fun t_ k_ => XS.iload XT10.here hx rfl (hb hby d2_128) rfl  k_) ?_
            show own_Go p e below _ T10 (mkF m 130 #[oR a, oD (FP.i2d x), .second, oD (FP.i2d y), .second, oI (0 : Int32)] [(.int (0 : Int32))])
            exact own_retN XT10 hx hlk hret (by simp) (w := (0 : Int32)) (hb hby d2_130) (by decide) (by decide) (by decide) (⟨by rw [own_holds, if_neg c4_1, if_neg c27_4, if_neg c50_7, if_pos c73_10, if_pos c79_11], eT10, rfl⟩)
          · refine own_by (fun t_ k_ => XS.ifNo XT10.here hx rfl (hb hby d2_79) rfl (XT.i0_gt_f c79_11) k_) ?_
            show own_Go p e below _ T10 (mkF m 82 #[oR a, oD (FP.i2d x), .second, oD (FP.i2d y), .second, .unset] [])
            refine own_by (fun t_ k_ => XT.iconstV XT10.here hx rfl (1 : Int32) (hb hby d2_82) (by decide) k_) ?_
            show own_Go p e below _ T10 (mkF m 83 #[oR a, oD (FP.i2d x), .second, oD (FP.i2d y), .second, .unset] [(.int (1 : Int32))])
            refine own_by (fun t_ k_ => XS.goto XT10.here hx rfl (pc0 := 83) (pc' := 87) rfl (hb hby d2_83) (by decide) (by decide) k_) ?_
            show own_Go p e below _ T10 (mkF m 87 #[oR a, oD (FP.i2d x), .second, oD (FP.i2d y), .second, .unset] [(.int (1 : Int32))])
            refine own_by (fun t_ k_ => XS.istore XT10.here hx rfl (hb hby d2_87) rfl (l' := #[oR a, oD (FP.i2d x), .second, oD (FP.i2d y), .second, oI (1 : Int32)]) rfl k_) ?_
            show own_Go p e below _ T10 (mkF m 89 #[oR a, oD (FP.i2d x), .second, oD (FP.i2d y), .second, oI (1 : Int32)] [])
            refine own_by (fun t_ k_ => XS.goto XT10.here hx rfl (pc0 := 89) (pc' := 128) rfl (hb hby d2_89) (by decide) (by decide) k_) ?_
            show own_Go p e below _ T10 (mkF m 128 #[oR a, oD (FP.i2d x), .second, oD (FP.i2d y), .second, oI (1 : Int32)] [])
            refine own_by (fun t_ k_ => XS.iload XT10.here hx rfl (hb hby d2_128) rfl  k_) ?_
            show own_Go p e below _ T10 (mkF m 130 #[oR a, oD (FP.i2d x), .second, oD (FP.i2d y), .second, oI (1 : Int32)] [(.int (1 : Int32))])
            exact own_retN XT10 hx hlk hret (by simp) (w := (1 : Int32)) (hb hby d2_130) (by decide) (by decide) (by decide) (⟨by rw [own_holds, if_neg c4_1, if_neg c27_4, if_neg c50_7, if_pos c73_10, if_neg c79_11], eT10, rfl⟩)
        · refine own_by (fun t_ k_ => Jvm.RoadKit.acmp (g := (mkF m 73 #[oR a, oD (FP.i2d x), .second, oD (FP.i2d y), .second, .unset] [(.ref w5), (.ref a)])) XT10 hx rfl rfl rfl (pc0 := 73) (pc' := 92) (same := false) rfl (hb hby d2_73) rfl (decide_eq_false fun q => (c73_10) (Value.ref.inj q)) (by decide) (by decide) k_) ?_
          show own_Go p e below _ T10 (mkF m 92 #[oR a, oD (FP.i2d x), .second, oD (FP.i2d y), .second, .unset] [])
          refine own_by (fun t_ k_ => XS.aloadN XT10.here hx rfl (hb hby d2_92) rfl rfl  k_) ?_
          show own_Go p e below _ T10 (mkF m 93 #[oR a, oD (FP.i2d x), .second, oD (FP.i2d y), .second, .unset] [(.ref a)])
          obtain ⟨T13, XT13, eT13, stT13⟩ := getS2 XT10 hx hZ hown (host := "") (Or.inl (hw _ (List.mem_of_getElem? (i := 24) rfl))) Via.refl eT10 S6 (g := (mkF m 93 #[oR a, oD (FP.i2d x), .second, oD (FP.i2d y), .second, .unset] [(.ref a)])) rfl (hb hby d2_93)
          refine own_by stT13 ?_
          show own_Go p e below _ T13 (mkF m 96 #[oR a, oD (FP.i2d x), .second, oD (FP.i2d y), .second, .unset] [(.ref w6), (.ref a)])
          by_cases c96_13 : a = w6
          · refine own_by (fun t_ k_ => Jvm.RoadKit.acmp (g := (mkF m 96 #[oR a, oD (FP.i2d x), .second, oD (FP.i2d y), .second, .unset] [(.ref w6), (.ref a)])) XT13 hx rfl rfl rfl (pc0 := 96) (pc' := 99) (same := true) rfl (hb hby d2_96) rfl (decide_eq_true (congrArg Value.ref (c96_13))) (by decide) (by decide) k_) ?_
            show own_Go p e below _ T13 (mkF m 99 #[oR a, oD (FP.i2d x), .second, oD (FP.i2d y), .second, .unset] [])
            refine own_by (fun t_ k_ => XS.dloadN XT13.here hx rfl (hb hby d2_99) rfl  k_) ?_
            show own_Go p e below _ T13 (mkF m 100 #[oR a, oD (FP.i2d x), .second, oD (FP.i2d y), .second, .unset] [(.double (FP.i2d x))])
            refine own_by (fun t_ k_ => XS.dloadN XT13.here hx rfl (hb hby d2_100) rfl  k_) ?_
            show own_Go p e below _ T13 (mkF m 101 #[oR a, oD (FP.i2d x), .second, oD (FP.i2d y), .second, .unset] [(.double (FP.i2d y)), (.double (FP.i2d x))])
            refine own_by (fun t_ k_ => XS.dcmpS XT13.here hx rfl (hb hby d2_101) rfl (own_dcmp_i x y .l) k_) ?_
            show own_Go p e below _ T13 (mkF m 102 #[oR a, oD (FP.i2d x), .second, oD (FP.i2d y), .second, .unset] [(.int (own_c3 x y))])
            by_cases c102_14 : (0 : Int32) < (own_c3 x y)
            · refine own_by (fun t_ k_ => XS.ifNo XT13.here hx rfl (hb hby d2_102) rfl (XT.i0_le_f c102_14) k_) ?_
              show own_Go p e below _ T13 (mkF m 105 #[oR a, oD (FP.i2d x), .second, oD (FP.i2d y), .second, .unset] [])
              refine own_by (fun t_ k_ => XT.iconstV XT13.here hx rfl (1 : Int32) (hb hby d2_105) (by decide) k_) ?_
              show own_Go p e below _ T13 (mkF m 106 #[oR a, oD (FP.i2d x), .second, oD (FP.i2d y), .second, .unset] [(.int (1 : Int32))])
              refine own_by (fun t_ k_ => XS.goto XT13.here hx rfl (pc0 := 106) (pc' := 110) rfl (hb hby d2_106) (by decide) (by decide) k_) ?_
              show own_Go p e below _ T13 (mkF m 110 #[oR a, oD (FP.i2d x), .second, oD (FP.i2d y), .second, .unset] [(.int (1 : Int32))])
              refine own_by (fun t_ k_ => XS.istore XT13.here hx rfl (hb hby d2_110) rfl (l' := #[oR a, oD (FP.i2d x), .second, oD (FP.i2d y), .second, oI (1 : Int32)]) rfl k_) ?_
              show own_Go p e below _ T13 (mkF m 112 #[oR a, oD (FP.i2d x), .second, oD (FP.i2d y), .second, oI (1 : Int32)] [])
              refine own_by (fun t_ k_ => XS.goto XT13.here hx rfl (pc0 := 112) (pc' := 128) rfl (hb hby d2_112) (by decide) (by decide) k_) ?_
              show own_Go p e below _ T13 (mkF m 128 #[oR a, oD (FP.i2d x), .second, oD (FP.i2d y), .second, oI (1 : Int32)] [])
              refine own_by (fun t_ k_ => XS.iload XT13.here hx rfl (hb hby d2_128) rfl  k_) ?_
              show own_Go p e below _ T13 (mkF m 130 #[oR a, oD (FP.i2d x), .second, oD (FP.i2d y), .second, oI (1 : Int32)] [(.int (1 : Int32))])
              exact own_retN XT13 hx hlk hret (by simp) (w := (1 : Int32)) (hb hby d2_130) (by decide) (by decide) (by decide) (⟨by rw [own_holds, if_neg c4_1, if_neg c27_4, if_neg c50_7, if_neg c73_10, if_pos c96_13, if_pos c102_14], eT13, rfl⟩)
            · refine own_by (fun t_ k_ => XS.ifYes XT13.here hx rfl (pc0 := 102) (pc' := 109) rfl (hb hby d2_102) rfl (XT.i0_le_t c102_14) (by decide) (by decide) k_) ?_
              show own_Go p e below _ T13 (mkF m 109 #[oR a, oD (FP.i2d x), .second, oD (FP.i2d y), .second, .unset] [])
              refine own_by (fun t_ k_ => XT.iconstV XT13.here hx rfl (0 : Int32) (hb hby d2_109) (by decide) k_) ?_
              show own_Go p e below _ T13 (mkF m 110 #[oR a, oD (FP.i2d x), .second, oD (FP.i2d y), .second, .unset] [(.int (0 : Int32))])
              refine own_by (fun t_ k_ => XS.istore XT13.here hx rfl (hb hby d2_110) rfl (l' := #[oR a, oD (FP.i2d x), .second, oD (FP.i2d y), .second, oI (0 : Int32)]) rfl k_) ?_
              show own_Go p e below _ T13 (mkF m 112 #[oR a, oD (FP.i2d x), .second, oD (FP.i2d y), .second, oI (0 : Int32)] [])
              refine own_by (fun t_ k_ => XS.goto XT13.here hx rfl (pc0 := 112) (pc' := 128) rfl (hb hby d2_112) (by decide) (by decide) k_) ?_
              show own_Go p e below _ T13 (mkF m 128 #[oR a, oD (FP.i2d x), .second, oD (FP.i2d y), .second, oI (0 : Int32)] [])
              refine own_by (fun t_ k_ => XS.iload XT13.here hx rfl (hb hby d2_128) rfl  k_) ?_
              show own_Go p e below _ T13 (mkF m 130 #[oR a, oD (FP.i2d x), .second, oD (FP.i2d y), .second, oI (0 : Int32)] [(.int (0 : Int32))])
              exact own_retN XT13 hx hlk hret (by simp) (w := (0 : Int32)) (hb hby d2_130) (by decide) (by decide) (by decide) (⟨by rw [own_holds, if_neg c4_1, if_neg c27_4, if_neg c50_7, if_neg c73_10, if_pos c96_13, if_neg c102_14], eT13, rfl⟩)
          · refine own_by (fun t_ k_ => Jvm.RoadKit.acmp (g := (mkF m 96 #[oR a, oD (FP.i2d x), .second, oD (FP.i2d y), .second, .unset] [(.ref w6), (.ref a)])) XT13 hx rfl rfl rfl (pc0 := 96) (pc' := 115) (same := false) rfl (hb hby d2_96) rfl (decide_eq_false fun q => (c96_13) (Value.ref.inj q)) (by decide) (by decide) k_) ?_
            show own_Go p e below _ T13 (mkF m 115 #[oR a, oD (FP.i2d x), .second, oD (FP.i2d y), .second, .unset] [])
            refine own_by (fun t_ k_ => XS.dloadN XT13.here hx rfl (hb hby d2_115) rfl  k_) ?_
            show own_Go p e below _ T13 (mkF m 116 #[oR a, oD (FP.i2d x), .second, oD (FP.i2d y), .second, .unset] [(.double (FP.i2d x))])
            refine own_by (fun t_ k_ => XS.dloadN XT13.here hx rfl (hb hby d2_116) rfl  k_) ?_
            show own_Go p e below _ T13 (mkF m 117 #[oR a, oD (FP.i2d x), .second, oD (FP.i2d y), .second, .unset] [(.double (FP.i2d y)), (.double (FP.i2d x))])
            refine own_by (fun t_ k_ => XS.dcmpS XT13.here hx rfl (hb hby d2_117) rfl (own_dcmp_i x y .l) k_) ?_
            show own_Go p e below _ T13 (mkF m 118 #[oR a, oD (FP.i2d x), .second, oD (FP.i2d y), .second, .unset] [(.int (own_c3 x y))])
            by_cases c118_15 : (own_c3 x y) < (0 : Int32)
            · refine own_by (fun t_ k_ => XS.ifYes XT13.here hx rfl (pc0 := 118) (pc' := 125) rfl (hb hby d2_118) rfl (XT.i0_lt_t c118_15) (by decide) (by decide) k_) ?_
              show own_Go p e below _ T13 (mkF m 125 #[oR a, oD (FP.i2d x), .second, oD (FP.i2d y), .second, .unset] [])
              refine own_by (fun t_ k_ => XT.iconstV XT13.here hx rfl (0 : Int32) (hb hby d2_125) (by decide) k_) ?_
              show own_Go p e below _ T13 (mkF m 126 #[oR a, oD (FP.i2d x), .second, oD (FP.i2d y), .second, .unset] [(.int (0 : Int32))])
              refine own_by (fun t_ k_ => XS.istore XT13.here hx rfl (hb hby d2_126) rfl (l' := #[oR a, oD (FP.i2d x), .second, oD (FP.i2d y), .second, oI (0 : Int32)]) rfl k_) ?_
              show own_Go p e below _ T13 (mkF m 128 #[oR a, oD (FP.i2d x), .second, oD (FP.i2d y), .second, oI (0 : Int32)] [])
              refine own_by (fun t_ k_ => XS.iload XT13.here hx rfl (hb hby d2_128) rfl  k_) ?_
              show own_Go p e below _ T13 (mkF m 130 #[oR a, oD (FP.i2d x), .second, oD (FP.i2d y), .second, oI (0 : Int32)] [(.int (0 : Int32))])
              exact own_retN XT13 hx hlk hret (by simp) (w := (0 : Int32)) (hb hby d2_130) (by decide) (by decide) (by decide) (⟨by rw [own_holds, if_neg c4_1, if_neg c27_4, if_neg c50_7, if_neg c73_10, if_neg c96_13, if_pos c118_15], eT13, rfl⟩)
            · refine own_by (fun t_ k_ => XS.ifNo XT13.here hx rfl (hb hby d2_118) rfl (XT.i0_lt_f c118_15) k_) ?_
              show own_Go p e below _ T13 (mkF m 121 #[oR a, oD (FP.i2d x), .second, oD (FP.i2d y), .second, .unset] [])
              refine own_by (fun t_ k_ => XT.iconstV XT13.here hx rfl (1 : Int32) (hb hby d2_121) (by decide) k_) ?_
              show own_Go p e below _ T13 (mkF m 122 #[oR a, oD (FP.i2d x), .second, oD (FP.i2d y), .second, .unset] [(.int (1 : Int32))])
              refine own_by (fun t_ k_ => XS.goto XT13.here hx rfl (pc0 := 122) (pc' := 126) rfl (hb hby d2_122) (by decide) (by decide) k_) ?_
              show own_Go p e below _ T13 (mkF m 126 #[oR a, oD (FP.i2d x), .second, oD (FP.i2d y), .second, .unset] [(.int (1 : Int32))])
              refine own_by (fun t_ k_ => XS.istore XT13.here hx rfl (hb hby d2_126) rfl (l' := #[oR a, oD (FP.i2d x), .second, oD (FP.i2d y), .second, oI (1 : Int32)]) rfl k_) ?_
              show own_Go p e below _ T13 (mkF m 128 #[oR a, oD (FP.i2d x), .second, oD (FP.i2d y), .second, oI (1 : Int32)] [])
              refine own_by (fun t_ k_ => XS.iload XT13.here hx rfl (hb hby d2_128) rfl  k_) ?_
              show own_Go p e below _ T13 (mkF m 130 #[oR a, oD (FP.i2d x), .second, oD (FP.i2d y), .second, oI (1 : Int32)] [(.int (1 : Int32))])
              exact own_retN XT13 hx hlk hret (by simp) (w := (1 : Int32)) (hb hby d2_130) (by decide) (by decide) (by decide) (⟨by rw [own_holds, if_neg c4_1, if_neg c27_4, if_neg c50_7, if_neg c73_10, if_neg c96_13, if_neg c118_15], eT13, rfl⟩)
theorem pd_0 : parseMethodDescriptor "(I)Lcom/example/focus_crawl/focuscrawl/crawl/page/XPathExpr$Operator;" = some ⟨[.int], some (.object "com/example/focus_crawl/focuscrawl/crawl/page/XPathExpr$Operator")⟩ := by decide +kernel
theorem pd_1 : parseMethodDescriptor "(DD)Z" = some ⟨[.double, .double], some .boolean⟩ := by decide +kernel
set_option maxRecDepth 65536 in
set_option maxHeartbeats 40000000 in
theorem own_law (l : Launch) (Z : State) (a0 : Array Value) (hw : ∀ d ∈ tables_1, d.before a0 Z = true) (i0 i1 i2 : Int32) (w2 w3 w4 w5 w6 w7 : Addr) (h0 : Heap) (S : own_S Z h0 w2 w3 w4 w5 w6 w7) (E2 : Exa Z h0 w2 "com/example/focus_crawl/focuscrawl/crawl/page/XPathExpr$Operator") (E3 : Exa Z h0 w3 "com/example/focus_crawl/focuscrawl/crawl/page/XPathExpr$Operator") (E4 : Exa Z h0 w4 "com/example/focus_crawl/focuscrawl/crawl/page/XPathExpr$Operator") (E5 : Exa Z h0 w5 "com/example/focus_crawl/focuscrawl/crawl/page/XPathExpr$Operator") (E6 : Exa Z h0 w6 "com/example/focus_crawl/focuscrawl/crawl/page/XPathExpr$Operator") (E7 : Exa Z h0 w7 "com/example/focus_crawl/focuscrawl/crawl/page/XPathExpr$Operator") (F2 : Fld Z h0 w2 "java/lang/Enum" "ordinal" "I" (.int (2 : Int32))) (F3 : Fld Z h0 w3 "java/lang/Enum" "ordinal" "I" (.int (3 : Int32))) (F4 : Fld Z h0 w4 "java/lang/Enum" "ordinal" "I" (.int (4 : Int32))) (F5 : Fld Z h0 w5 "java/lang/Enum" "ordinal" "I" (.int (5 : Int32))) (F6 : Fld Z h0 w6 "java/lang/Enum" "ordinal" "I" (.int (6 : Int32))) (F7 : Fld Z h0 w7 "java/lang/Enum" "ordinal" "I" (.int (7 : Int32))) :
    own_Met l x code maxLocals ret tables_1 room_1 Z #[(.int i0), (.int i1), (.int i2)] h0 (fun v h L => v = some (.int (1 : Int32)) ∧ h = h0 ∧ L = []) := by
  refine own_enter pn_0 ?_
  intro p e s m below meth c T0 hx hby hml hret hlk hown hnm hZ X0 e0
  refine own_at (g' := (mkF m 0 #[oI i0, oI i1, oI i2, .unset, .unset, .unset, .unset, .unset, .unset, .unset, .unset, .unset] [])) (by first | rfl | (simp [entryFrame, mkF, argsToLocals, Value.category, maxLocals]; done)) ?_
  show own_Go p e below _ T0 (mkF m 0 #[oI i0, oI i1, oI i2, .unset, .unset, .unset, .unset, .unset, .unset, .unset, .unset, .unset] [])
  rcases own_rem6 i0 with hk | hk | hk | hk | hk | hk
  · refine own_by (fun t_ k_ => XS.iloadN X0.here hx rfl (hb hby at_0) rfl  k_) ?_
    show own_Go p e below _ T0 (mkF m 1 #[oI i0, oI i1, oI i2, .unset, .unset, .unset, .unset, .unset, .unset, .unset, .unset, .unset] [(.int i0)])
    refine own_by (fun t_ k_ => X0.ldcI hx hown (mvT hZ (hw _ (List.mem_of_getElem? (i := 0) rfl))) rfl (hb hby at_1) k_) ?_
    show own_Go p e below _ T0 (mkF m 3 #[oI i0, oI i1, oI i2, .unset, .unset, .unset, .unset, .unset, .unset, .unset, .unset, .unset] [(.int (2147483647 : Int32)), (.int i0)])
    refine own_by (fun t_ k_ => XS.iand X0.here hx rfl (hb hby at_3) rfl k_) ?_
    show own_Go p e below _ T0 (mkF m 4 #[oI i0, oI i1, oI i2, .unset, .unset, .unset, .unset, .unset, .unset, .unset, .unset, .unset] [(.int (i0 &&& (2147483647 : Int32)))])
    refine own_by (fun t_ k_ => XT.bipushV X0.here hx rfl (6 : Int32) (hb hby at_4) (by decide) k_) ?_
    show own_Go p e below _ T0 (mkF m 6 #[oI i0, oI i1, oI i2, .unset, .unset, .unset, .unset, .unset, .unset, .unset, .unset, .unset] [(.int (6 : Int32)), (.int (i0 &&& (2147483647 : Int32)))])
    refine own_by (fun t_ k_ => iremM X0 hx rfl (hb hby at_6) rfl (by decide) k_) ?_
    show own_Go p e below _ T0 (mkF m 7 #[oI i0, oI i1, oI i2, .unset, .unset, .unset, .unset, .unset, .unset, .unset, .unset, .unset] [(.int ((i0 &&& (2147483647 : Int32)) % (6 : Int32)))])
    rw [hk]
    show own_Go p e below _ T0 (mkF m 7 #[oI i0, oI i1, oI i2, .unset, .unset, .unset, .unset, .unset, .unset, .unset, .unset, .unset] [(.int (0 : Int32))])
    refine own_by (fun t_ k_ => XS.istoreN X0.here hx rfl (hb hby at_7) rfl (l' := #[oI i0, oI i1, oI i2, oI (0 : Int32), .unset, .unset, .unset, .unset, .unset, .unset, .unset, .unset]) rfl k_) ?_
    show own_Go p e below _ T0 (mkF m 8 #[oI i0, oI i1, oI i2, oI (0 : Int32), .unset, .unset, .unset, .unset, .unset, .unset, .unset, .unset] [])
    refine own_by (fun t_ k_ => XS.iloadN X0.here hx rfl (hb hby at_8) rfl  k_) ?_
    show own_Go p e below _ T0 (mkF m 9 #[oI i0, oI i1, oI i2, oI (0 : Int32), .unset, .unset, .unset, .unset, .unset, .unset, .unset, .unset] [(.int i0)])
    refine own_by (fun t_ k_ => XT.bipushV X0.here hx rfl (8 : Int32) (hb hby at_9) (by decide) k_) ?_
    show own_Go p e below _ T0 (mkF m 11 #[oI i0, oI i1, oI i2, oI (0 : Int32), .unset, .unset, .unset, .unset, .unset, .unset, .unset, .unset] [(.int (8 : Int32)), (.int i0)])
    refine own_by (fun t_ k_ => XT.iushr X0.here hx rfl (hb hby at_11) rfl k_) ?_
    show own_Go p e below _ T0 (mkF m 12 #[oI i0, oI i1, oI i2, oI (0 : Int32), .unset, .unset, .unset, .unset, .unset, .unset, .unset, .unset] [(.int ((i0.toUInt32 >>> ((8 : Int32) &&& 31).toUInt32).toInt32))])
    refine own_by (fun t_ k_ => XT.iconstV X0.here hx rfl (1 : Int32) (hb hby at_12) (by decide) k_) ?_
    show own_Go p e below _ T0 (mkF m 13 #[oI i0, oI i1, oI i2, oI (0 : Int32), .unset, .unset, .unset, .unset, .unset, .unset, .unset, .unset] [(.int (1 : Int32)), (.int ((i0.toUInt32 >>> ((8 : Int32) &&& 31).toUInt32).toInt32))])
    refine own_by (fun t_ k_ => XS.iand X0.here hx rfl (hb hby at_13) rfl k_) ?_
    show own_Go p e below _ T0 (mkF m 14 #[oI i0, oI i1, oI i2, oI (0 : Int32), .unset, .unset, .unset, .unset, .unset, .unset, .unset, .unset] [(.int (((i0.toUInt32 >>> ((8 : Int32) &&& 31).toUInt32).toInt32) &&& (1 : Int32)))])
    have J : ∀ z : Int32, own_Go p e below (own_K s room_1.cells room_1.slots (fun v h L => v = some (.int (1 : Int32)) ∧ h = h0 ∧ L = [])) T0 (mkF m 22 #[oI i0, oI i1, oI i2, oI (0 : Int32), .unset, .unset, .unset, .unset, .unset, .unset, .unset, .unset] [(.int z)]) := by
      intro z
      show own_Go p e below _ T0 (mkF m 22 #[oI i0, oI i1, oI i2, oI (0 : Int32), .unset, .unset, .unset, .unset, .unset, .unset, .unset, .unset] [(.int z)])
      refine own_by (fun t_ k_ => XS.istore X0.here hx rfl (hb hby at_22) rfl (l' := #[oI i0, oI i1, oI i2, oI (0 : Int32), oI z, .unset, .unset, .unset, .unset, .unset, .unset, .unset]) rfl k_) ?_
      show own_Go p e below _ T0 (mkF m 24 #[oI i0, oI i1, oI i2, oI (0 : Int32), oI z, .unset, .unset, .unset, .unset, .unset, .unset, .unset] [])
      refine own_by (fun t_ k_ => XS.iloadN X0.here hx rfl (hb hby at_24) rfl  k_) ?_
      show own_Go p e below _ T0 (mkF m 25 #[oI i0, oI i1, oI i2, oI (0 : Int32), oI z, .unset, .unset, .unset, .unset, .unset, .unset, .unset] [(.int (0 : Int32))])
      refine own_callS X0 hx hZ hown (hw _ (List.mem_of_getElem? (i := 1) rfl)) (hw _ (List.mem_of_getElem? (i := 2) rfl)) (hw _ (List.mem_of_getElem? (i := 3) rfl)) (hw _ (List.mem_of_getElem? (i := 4) rfl)) (by decide) e0 (argsL := [(.int (0 : Int32))]) (rest := []) (own_op_met l Z a0 hw (0 : Int32) w2 w3 w4 w5 w6 w7 h0 S) 0 (by decide) (by decide) (by rw [hml]; rfl) (lenOf pd_0 rfl) (Nat.le_of_eq rfl) (hb hby at_25) (by decide) (by decide) (st := [(.int (0 : Int32))]) rfl ?_
      intro T1 LT1 vT1 XT1 hQT1
      obtain ⟨rfl, eT1, rfl⟩ := hQT1
      show own_Go p e below _ T1 (mkF m 28 #[oI i0, oI i1, oI i2, oI (0 : Int32), oI z, .unset, .unset, .unset, .unset, .unset, .unset, .unset] [(.ref (own_op (0 : Int32) w2 w3 w4 w5 w6 w7))])
      rw [show own_op (0 : Int32) w2 w3 w4 w5 w6 w7 = w2 by rw [own_op, if_pos (by decide)]]
      show own_Go p e below _ T1 (mkF m 28 #[oI i0, oI i1, oI i2, oI (0 : Int32), oI z, .unset, .unset, .unset, .unset, .unset, .unset, .unset] [(.ref w2)])
      refine own_by (fun t_ k_ => XS.astore XT1.here hx rfl (hb hby at_28) rfl rfl (l' := #[oI i0, oI i1, oI i2, oI (0 : Int32), oI z, oR w2, .unset, .unset, .unset, .unset, .unset, .unset]) rfl k_) ?_
      show own_Go p e below _ T1 (mkF m 30 #[oI i0, oI i1, oI i2, oI (0 : Int32), oI z, oR w2, .unset, .unset, .unset, .unset, .unset, .unset] [])
      refine own_by (fun t_ k_ => XS.iloadN XT1.here hx rfl (hb hby at_30) rfl  k_) ?_
      show own_Go p e below _ T1 (mkF m 31 #[oI i0, oI i1, oI i2, oI (0 : Int32), oI z, oR w2, .unset, .unset, .unset, .unset, .unset, .unset] [(.int i1)])
      refine own_by (fun t_ k_ => XS.i2dS XT1.here hx rfl (hb hby at_31) rfl rfl k_) ?_
      show own_Go p e below _ T1 (mkF m 32 #[oI i0, oI i1, oI i2, oI (0 : Int32), oI z, oR w2, .unset, .unset, .unset, .unset, .unset, .unset] [(.double (FP.i2d i1))])
      refine own_by (fun t_ k_ => XS.dstore XT1.here hx rfl (hb hby at_32) rfl (l' := #[oI i0, oI i1, oI i2, oI (0 : Int32), oI z, oR w2, oD (FP.i2d i1), .second, .unset, .unset, .unset, .unset]) rfl k_) ?_
      show own_Go p e below _ T1 (mkF m 34 #[oI i0, oI i1, oI i2, oI (0 : Int32), oI z, oR w2, oD (FP.i2d i1), .second, .unset, .unset, .unset, .unset] [])
      refine own_by (fun t_ k_ => XS.iload XT1.here hx rfl (hb hby at_34) rfl  k_) ?_
      show own_Go p e below _ T1 (mkF m 36 #[oI i0, oI i1, oI i2, oI (0 : Int32), oI z, oR w2, oD (FP.i2d i1), .second, .unset, .unset, .unset, .unset] [(.int z)])
      refine own_by (fun t_ k_ => XS.i2dS XT1.here hx rfl (hb hby at_36) rfl rfl k_) ?_
      show own_Go p e below _ T1 (mkF m 37 #[oI i0, oI i1, oI i2, oI (0 : Int32), oI z, oR w2, oD (FP.i2d i1), .second, .unset, .unset, .unset, .unset] [(.double (FP.i2d z))])
      refine own_by (fun t_ k_ => XS.dstore XT1.here hx rfl (hb hby at_37) rfl (l' := #[oI i0, oI i1, oI i2, oI (0 : Int32), oI z, oR w2, oD (FP.i2d i1), .second, oD (FP.i2d z), .second, .unset, .unset]) rfl k_) ?_
      show own_Go p e below _ T1 (mkF m 39 #[oI i0, oI i1, oI i2, oI (0 : Int32), oI z, oR w2, oD (FP.i2d i1), .second, oD (FP.i2d z), .second, .unset, .unset] [])
      refine own_by (fun t_ k_ => XS.iloadN XT1.here hx rfl (hb hby at_39) rfl  k_) ?_
      show own_Go p e below _ T1 (mkF m 40 #[oI i0, oI i1, oI i2, oI (0 : Int32), oI z, oR w2, oD (FP.i2d i1), .second, oD (FP.i2d z), .second, .unset, .unset] [(.int i1)])
      refine own_by (fun t_ k_ => XS.iload XT1.here hx rfl (hb hby at_40) rfl  k_) ?_
      show own_Go p e below _ T1 (mkF m 42 #[oI i0, oI i1, oI i2, oI (0 : Int32), oI z, oR w2, oD (FP.i2d i1), .second, oD (FP.i2d z), .second, .unset, .unset] [(.int z), (.int i1)])
      by_cases c42_1 : i1 < z
      · refine own_by (fun t_ k_ => XS.icmpNo XT1.here hx rfl (hb hby at_42) rfl (XT.ii_ge_f c42_1) k_) ?_
        show own_Go p e below _ T1 (mkF m 45 #[oI i0, oI i1, oI i2, oI (0 : Int32), oI z, oR w2, oD (FP.i2d i1), .second, oD (FP.i2d z), .second, .unset, .unset] [])
        have hc : own_c3 i1 z = (-1 : Int32) := if_pos c42_1
        refine own_by (fun t_ k_ => XT.iconstV XT1.here hx rfl (-1 : Int32) (hb hby at_45) (by decide) k_) ?_
        show own_Go p e below _ T1 (mkF m 46 #[oI i0, oI i1, oI i2, oI (0 : Int32), oI z, oR w2, oD (FP.i2d i1), .second, oD (FP.i2d z), .second, .unset, .unset] [(.int (-1 : Int32))])
        refine own_by (fun t_ k_ => XS.istore XT1.here hx rfl (hb hby at_46) rfl (l' := #[oI i0, oI i1, oI i2, oI (0 : Int32), oI z, oR w2, oD (FP.i2d i1), .second, oD (FP.i2d z), .second, oI (-1 : Int32), .unset]) rfl k_) ?_
        show own_Go p e below _ T1 (mkF m 48 #[oI i0, oI i1, oI i2, oI (0 : Int32), oI z, oR w2, oD (FP.i2d i1), .second, oD (FP.i2d z), .second, oI (-1 : Int32), .unset] [])
        refine own_by (fun t_ k_ => XS.goto XT1.here hx rfl (pc0 := 48) (pc' := 66) rfl (hb hby at_48) (by decide) (by decide) k_) ?_
        show own_Go p e below _ T1 (mkF m 66 #[oI i0, oI i1, oI i2, oI (0 : Int32), oI z, oR w2, oD (FP.i2d i1), .second, oD (FP.i2d z), .second, oI (-1 : Int32), .unset] [])
        refine own_by (fun t_ k_ => XS.iloadN XT1.here hx rfl (hb hby at_66) rfl  k_) ?_
        show own_Go p e below _ T1 (mkF m 67 #[oI i0, oI i1, oI i2, oI (0 : Int32), oI z, oR w2, oD (FP.i2d i1), .second, oD (FP.i2d z), .second, oI (-1 : Int32), .unset] [(.int (0 : Int32))])
        refine own_by (fun t_ k_ => XS.ifNo XT1.here hx rfl (hb hby at_67) rfl (XT.i0_ne_f (by decide)) k_) ?_
        show own_Go p e below _ T1 (mkF m 70 #[oI i0, oI i1, oI i2, oI (0 : Int32), oI z, oR w2, oD (FP.i2d i1), .second, oD (FP.i2d z), .second, oI (-1 : Int32), .unset] [])
        refine own_by (fun t_ k_ => XS.iload XT1.here hx rfl (hb hby at_70) rfl  k_) ?_
        show own_Go p e below _ T1 (mkF m 72 #[oI i0, oI i1, oI i2, oI (0 : Int32), oI z, oR w2, oD (FP.i2d i1), .second, oD (FP.i2d z), .second, oI (-1 : Int32), .unset] [(.int (-1 : Int32))])
        refine own_by (fun t_ k_ => XS.ifYes XT1.here hx rfl (pc0 := 72) (pc' := 79) rfl (hb hby at_72) rfl (XT.i0_ne_t (by decide)) (by decide) (by decide) k_) ?_
        show own_Go p e below _ T1 (mkF m 79 #[oI i0, oI i1, oI i2, oI (0 : Int32), oI z, oR w2, oD (FP.i2d i1), .second, oD (FP.i2d z), .second, oI (-1 : Int32), .unset] [])
        refine own_by (fun t_ k_ => XT.iconstV XT1.here hx rfl (0 : Int32) (hb hby at_79) (by decide) k_) ?_
        show own_Go p e below _ T1 (mkF m 80 #[oI i0, oI i1, oI i2, oI (0 : Int32), oI z, oR w2, oD (FP.i2d i1), .second, oD (FP.i2d z), .second, oI (-1 : Int32), .unset] [(.int (0 : Int32))])
        refine own_by (fun t_ k_ => XS.istore XT1.here hx rfl (hb hby at_80) rfl (l' := #[oI i0, oI i1, oI i2, oI (0 : Int32), oI z, oR w2, oD (FP.i2d i1), .second, oD (FP.i2d z), .second, oI (-1 : Int32), oI (0 : Int32)]) rfl k_) ?_
        show own_Go p e below _ T1 (mkF m 82 #[oI i0, oI i1, oI i2, oI (0 : Int32), oI z, oR w2, oD (FP.i2d i1), .second, oD (FP.i2d z), .second, oI (-1 : Int32), oI (0 : Int32)] [])
        refine own_by (fun t_ k_ => XS.goto XT1.here hx rfl (pc0 := 82) (pc' := 177) rfl (hb hby at_82) (by decide) (by decide) k_) ?_
        show own_Go p e below _ T1 (mkF m 177 #[oI i0, oI i1, oI i2, oI (0 : Int32), oI z, oR w2, oD (FP.i2d i1), .second, oD (FP.i2d z), .second, oI (-1 : Int32), oI (0 : Int32)] [])
        refine own_by (fun t_ k_ => XS.aload XT1.here hx rfl (hb hby at_177) rfl rfl  k_) ?_
        show own_Go p e below _ T1 (mkF m 179 #[oI i0, oI i1, oI i2, oI (0 : Int32), oI z, oR w2, oD (FP.i2d i1), .second, oD (FP.i2d z), .second, oI (-1 : Int32), oI (0 : Int32)] [(.ref w2)])
        refine own_by (fun t_ k_ => XS.dload XT1.here hx rfl (hb hby at_179) rfl  k_) ?_
        show own_Go p e below _ T1 (mkF m 181 #[oI i0, oI i1, oI i2, oI (0 : Int32), oI z, oR w2, oD (FP.i2d i1), .second, oD (FP.i2d z), .second, oI (-1 : Int32), oI (0 : Int32)] [(.double (FP.i2d i1)), (.ref w2)])
        refine own_by (fun t_ k_ => XS.dload XT1.here hx rfl (hb hby at_181) rfl  k_) ?_
        show own_Go p e below _ T1 (mkF m 183 #[oI i0, oI i1, oI i2, oI (0 : Int32), oI z, oR w2, oD (FP.i2d i1), .second, oD (FP.i2d z), .second, oI (-1 : Int32), oI (0 : Int32)] [(.double (FP.i2d z)), (.double (FP.i2d i1)), (.ref w2)])
        refine own_callV XT1 hx hZ hown (hw _ (List.mem_of_getElem? (i := 8) rfl)) (hw _ (List.mem_of_getElem? (i := 9) rfl)) (hw _ (List.mem_of_getElem? (i := 11) rfl)) (hw _ (List.mem_of_getElem? (i := 10) rfl)) (hw _ (List.mem_of_getElem? (i := 12) rfl)) (hw _ (List.mem_of_getElem? (i := 6) rfl)) (by decide) eT1 (b := w2) E2 (argsL := [(.double (FP.i2d i1)), (.double (FP.i2d z))]) (rest := []) (own_holds_met l Z a0 hw w2 i1 z w2 w3 w4 w5 w6 w7 h0 S) 0 (by decide) (by decide) (by rw [hml]; rfl) (lenOf pd_1 rfl) (Nat.le_of_eq rfl) (hb hby at_183) (by decide) (by decide) (st := [(.double (FP.i2d z)), (.double (FP.i2d i1)), (.ref w2)]) rfl ?_
        intro T3 LT3 vT3 XT3 hQT3
        obtain ⟨rfl, eT3, rfl⟩ := hQT3
        show own_Go p e below _ T3 (mkF m 186 #[oI i0, oI i1, oI i2, oI (0 : Int32), oI z, oR w2, oD (FP.i2d i1), .second, oD (FP.i2d z), .second, oI (-1 : Int32), oI (0 : Int32)] [(.int (own_holds w2 i1 z w2 w3 w4 w5 w6 w7))])
        rw [show own_holds w2 i1 z w2 w3 w4 w5 w6 w7 = (0 : Int32) by rw [own_holds, if_pos rfl, if_neg (by rw [hc] <;> decide)]]
        show own_Go p e below _ T3 (mkF m 186 #[oI i0, oI i1, oI i2, oI (0 : Int32), oI z, oR w2, oD (FP.i2d i1), .second, oD (FP.i2d z), .second, oI (-1 : Int32), oI (0 : Int32)] [(.int (0 : Int32))])
        refine own_by (fun t_ k_ => XS.iload XT3.here hx rfl (hb hby at_186) rfl  k_) ?_
        show own_Go p e below _ T3 (mkF m 188 #[oI i0, oI i1, oI i2, oI (0 : Int32), oI z, oR w2, oD (FP.i2d i1), .second, oD (FP.i2d z), .second, oI (-1 : Int32), oI (0 : Int32)] [(.int (0 : Int32)), (.int (0 : Int32))])
        refine own_by (fun t_ k_ => XS.icmpNo XT3.here hx rfl (hb hby at_188) rfl (XT.ii_ne_f (by decide)) k_) ?_
        show own_Go p e below _ T3 (mkF m 191 #[oI i0, oI i1, oI i2, oI (0 : Int32), oI z, oR w2, oD (FP.i2d i1), .second, oD (FP.i2d z), .second, oI (-1 : Int32), oI (0 : Int32)] [])
        refine own_by (fun t_ k_ => XT.iconstV XT3.here hx rfl (1 : Int32) (hb hby at_191) (by decide) k_) ?_
        show own_Go p e below _ T3 (mkF m 192 #[oI i0, oI i1, oI i2, oI (0 : Int32), oI z, oR w2, oD (FP.i2d i1), .second, oD (FP.i2d z), .second, oI (-1 : Int32), oI (0 : Int32)] [(.int (1 : Int32))])
        refine own_by (fun t_ k_ => XS.goto XT3.here hx rfl (pc0 := 192) (pc' := 196) rfl (hb hby at_192) (by decide) (by decide) k_) ?_
        show own_Go p e below _ T3 (mkF m 196 #[oI i0, oI i1, oI i2, oI (0 : Int32), oI z, oR w2, oD (FP.i2d i1), .second, oD (FP.i2d z), .second, oI (-1 : Int32), oI (0 : Int32)] [(.int (1 : Int32))])
        exact own_retN XT3 hx hlk hret (by simp) (w := (1 : Int32)) (hb hby at_196) (by decide) (by decide) (by decide) (⟨rfl, eT3, rfl⟩)
      · refine own_by (fun t_ k_ => XS.icmpYes XT1.here hx rfl (pc0 := 42) (pc' := 51) rfl (hb hby at_42) rfl (XT.ii_ge_t c42_1) (by decide) (by decide) k_) ?_
        show own_Go p e below _ T1 (mkF m 51 #[oI i0, oI i1, oI i2, oI (0 : Int32), oI z, oR w2, oD (FP.i2d i1), .second, oD (FP.i2d z), .second, .unset, .unset] [])
        refine own_by (fun t_ k_ => XS.iloadN XT1.here hx rfl (hb hby at_51) rfl  k_) ?_
        show own_Go p e below _ T1 (mkF m 52 #[oI i0, oI i1, oI i2, oI (0 : Int32), oI z, oR w2, oD (FP.i2d i1), .second, oD (FP.i2d z), .second, .unset, .unset] [(.int i1)])
        refine own_by (fun t_ k_ => XS.iload XT1.here hx rfl (hb hby at_52) rfl  k_) ?_
        show own_Go p e below _ T1 (mkF m 54 #[oI i0, oI i1, oI i2, oI (0 : Int32), oI z, oR w2, oD (FP.i2d i1), .second, oD (FP.i2d z), .second, .unset, .unset] [(.int z), (.int i1)])
        by_cases c54_3 : i1 = z
        · refine own_by (fun t_ k_ => XS.icmpNo XT1.here hx rfl (hb hby at_54) rfl (XT.ii_ne_f c54_3) k_) ?_
          show own_Go p e below _ T1 (mkF m 57 #[oI i0, oI i1, oI i2, oI (0 : Int32), oI z, oR w2, oD (FP.i2d i1), .second, oD (FP.i2d z), .second, .unset, .unset] [])
          have hc : own_c3 i1 z = (0 : Int32) := by rw [own_c3, if_neg c42_1, if_pos c54_3]
          refine own_by (fun t_ k_ => XT.iconstV XT1.here hx rfl (0 : Int32) (hb hby at_57) (by decide) k_) ?_
          show own_Go p e below _ T1 (mkF m 58 #[oI i0, oI i1, oI i2, oI (0 : Int32), oI z, oR w2, oD (FP.i2d i1), .second, oD (FP.i2d z), .second, .unset, .unset] [(.int (0 : Int32))])
          refine own_by (fun t_ k_ => XS.istore XT1.here hx rfl (hb hby at_58) rfl (l' := #[oI i0, oI i1, oI i2, oI (0 : Int32), oI z, oR w2, oD (FP.i2d i1), .second, oD (FP.i2d z), .second, oI (0 : Int32), .unset]) rfl k_) ?_
          show own_Go p e below _ T1 (mkF m 60 #[oI i0, oI i1, oI i2, oI (0 : Int32), oI z, oR w2, oD (FP.i2d i1), .second, oD (FP.i2d z), .second, oI (0 : Int32), .unset] [])
          refine own_by (fun t_ k_ => XS.goto XT1.here hx rfl (pc0 := 60) (pc' := 66) rfl (hb hby at_60) (by decide) (by decide) k_) ?_
          show own_Go p e below _ T1 (mkF m 66 #[oI i0, oI i1, oI i2, oI (0 : Int32), oI z, oR w2, oD (FP.i2d i1), .second, oD (FP.i2d z), .second, oI (0 : Int32), .unset] [])
          refine own_by (fun t_ k_ => XS.iloadN XT1.here hx rfl (hb hby at_66) rfl  k_) ?_
          show own_Go p e below _ T1 (mkF m 67 #[oI i0, oI i1, oI i2, oI (0 : Int32), oI z, oR w2, oD (FP.i2d i1), .second, oD (FP.i2d z), .second, oI (0 : Int32), .unset] [(.int (0 : Int32))])
          refine own_by (fun t_ k_ => XS.ifNo XT1.here hx rfl (hb hby at_67) rfl (XT.i0_ne_f (by decide)) k_) ?_
          show own_Go p e below _ T1 (mkF m 70 #[oI i0, oI i1, oI i2, oI (0 : Int32), oI z, oR w2, oD (FP.i2d i1), .second, oD (FP.i2d z), .second, oI (0 : Int32), .unset] [])
          refine own_by (fun t_ k_ => XS.iload XT1.here hx rfl (hb hby at_70) rfl  k_) ?_
          show own_Go p e below _ T1 (mkF m 72 #[oI i0, oI i1, oI i2, oI (0 : Int32), oI z, oR w2, oD (FP.i2d i1), .second, oD (FP.i2d z), .second, oI (0 : Int32), .unset] [(.int (0 : Int32))])
          refine own_by (fun t_ k_ => XS.ifNo XT1.here hx rfl (hb hby at_72) rfl (XT.i0_ne_f (by decide)) k_) ?_
          show own_Go p e below _ T1 (mkF m 75 #[oI i0, oI i1, oI i2, oI (0 : Int32), oI z, oR w2, oD (FP.i2d i1), .second, oD (FP.i2d z), .second, oI (0 : Int32), .unset] [])
          refine own_by (fun t_ k_ => XT.iconstV XT1.here hx rfl (1 : Int32) (hb hby at_75) (by decide) k_) ?_
          show own_Go p e below _ T1 (mkF m 76 #[oI i0, oI i1, oI i2, oI (0 : Int32), oI z, oR w2, oD (FP.i2d i1), .second, oD (FP.i2d z), .second, oI (0 : Int32), .unset] [(.int (1 : Int32))])
          refine own_by (fun t_ k_ => XS.goto XT1.here hx rfl (pc0 := 76) (pc' := 80) rfl (hb hby at_76) (by decide) (by decide) k_) ?_
          show own_Go p e below _ T1 (mkF m 80 #[oI i0, oI i1, oI i2, oI (0 : Int32), oI z, oR w2, oD (FP.i2d i1), .second, oD (FP.i2d z), .second, oI (0 : Int32), .unset] [(.int (1 : Int32))])
          refine own_by (fun t_ k_ => XS.istore XT1.here hx rfl (hb hby at_80) rfl (l' := #[oI i0, oI i1, oI i2, oI (0 : Int32), oI z, oR w2, oD (FP.i2d i1), .second, oD (FP.i2d z), .second, oI (0 : Int32), oI (1 : Int32)]) rfl k_) ?_
          show own_Go p e below _ T1 (mkF m 82 #[oI i0, oI i1, oI i2, oI (0 : Int32), oI z, oR w2, oD (FP.i2d i1), .second, oD (FP.i2d z), .second, oI (0 : Int32), oI (1 : Int32)] [])
          refine own_by (fun t_ k_ => XS.goto XT1.here hx rfl (pc0 := 82) (pc' := 177) rfl (hb hby at_82) (by decide) (by decide) k_) ?_
          show own_Go p e below _ T1 (mkF m 177 #[oI i0, oI i1, oI i2, oI (0 : Int32), oI z, oR w2, oD (FP.i2d i1), .second, oD (FP.i2d z), .second, oI (0 : Int32), oI (1 : Int32)] [])
          refine own_by (fun t_ k_ => XS.aload XT1.here hx rfl (hb hby at_177) rfl rfl  k_) ?_
          show own_Go p e below _ T1 (mkF m 179 #[oI i0, oI i1, oI i2, oI (0 : Int32), oI z, oR w2, oD (FP.i2d i1), .second, oD (FP.i2d z), .second, oI (0 : Int32), oI (1 : Int32)] [(.ref w2)])
          refine own_by (fun t_ k_ => XS.dload XT1.here hx rfl (hb hby at_179) rfl  k_) ?_
          show own_Go p e below _ T1 (mkF m 181 #[oI i0, oI i1, oI i2, oI (0 : Int32), oI z, oR w2, oD (FP.i2d i1), .second, oD (FP.i2d z), .second, oI (0 : Int32), oI (1 : Int32)] [(.double (FP.i2d i1)), (.ref w2)])
          refine own_by (fun t_ k_ => XS.dload XT1.here hx rfl (hb hby at_181) rfl  k_) ?_
          show own_Go p e below _ T1 (mkF m 183 #[oI i0, oI i1, oI i2, oI (0 : Int32), oI z, oR w2, oD (FP.i2d i1), .second, oD (FP.i2d z), .second, oI (0 : Int32), oI (1 : Int32)] [(.double (FP.i2d z)), (.double (FP.i2d i1)), (.ref w2)])
          refine own_callV XT1 hx hZ hown (hw _ (List.mem_of_getElem? (i := 8) rfl)) (hw _ (List.mem_of_getElem? (i := 9) rfl)) (hw _ (List.mem_of_getElem? (i := 11) rfl)) (hw _ (List.mem_of_getElem? (i := 10) rfl)) (hw _ (List.mem_of_getElem? (i := 12) rfl)) (hw _ (List.mem_of_getElem? (i := 6) rfl)) (by decide) eT1 (b := w2) E2 (argsL := [(.double (FP.i2d i1)), (.double (FP.i2d z))]) (rest := []) (own_holds_met l Z a0 hw w2 i1 z w2 w3 w4 w5 w6 w7 h0 S) 0 (by decide) (by decide) (by rw [hml]; rfl) (lenOf pd_1 rfl) (Nat.le_of_eq rfl) (hb hby at_183) (by decide) (by decide) (st := [(.double (FP.i2d z)), (.double (FP.i2d i1)), (.ref w2)]) rfl ?_
          intro T5 LT5 vT5 XT5 hQT5
          obtain ⟨rfl, eT5, rfl⟩ := hQT5
          show own_Go p e below _ T5 (mkF m 186 #[oI i0, oI i1, oI i2, oI (0 : Int32), oI z, oR w2, oD (FP.i2d i1), .second, oD (FP.i2d z), .second, oI (0 : Int32), oI (1 : Int32)] [(.int (own_holds w2 i1 z w2 w3 w4 w5 w6 w7))])
          rw [show own_holds w2 i1 z w2 w3 w4 w5 w6 w7 = (1 : Int32) by rw [own_holds, if_pos rfl, if_pos (by rw [hc] <;> decide)]]
          show own_Go p e below _ T5 (mkF m 186 #[oI i0, oI i1, oI i2, oI (0 : Int32), oI z, oR w2, oD (FP.i2d i1), .second, oD (FP.i2d z), .second, oI (0 : Int32), oI (1 : Int32)] [(.int (1 : Int32))])
          refine own_by (fun t_ k_ => XS.iload XT5.here hx rfl (hb hby at_186) rfl  k_) ?_
          show own_Go p e below _ T5 (mkF m 188 #[oI i0, oI i1, oI i2, oI (0 : Int32), oI z, oR w2, oD (FP.i2d i1), .second, oD (FP.i2d z), .second, oI (0 : Int32), oI (1 : Int32)] [(.int (1 : Int32)), (.int (1 : Int32))])
          refine own_by (fun t_ k_ => XS.icmpNo XT5.here hx rfl (hb hby at_188) rfl (XT.ii_ne_f (by decide)) k_) ?_
          show own_Go p e below _ T5 (mkF m 191 #[oI i0, oI i1, oI i2, oI (0 : Int32), oI z, oR w2, oD (FP.i2d i1), .second, oD (FP.i2d z), .second, oI (0 : Int32), oI (1 : Int32)] [])
          refine own_by (fun t_ k_ => XT.iconstV XT5.here hx rfl (1 : Int32) (hb hby at_191) (by decide) k_) ?_
          show own_Go p e below _ T5 (mkF m 192 #[oI i0, oI i1, oI i2, oI (0 : Int32), oI z, oR w2, oD (FP.i2d i1), .second, oD (FP.i2d z), .second, oI (0 : Int32), oI (1 : Int32)] [(.int (1 : Int32))])
          refine own_by (fun t_ k_ => XS.goto XT5.here hx rfl (pc0 := 192) (pc' := 196) rfl (hb hby at_192) (by decide) (by decide) k_) ?_
          show own_Go p e below _ T5 (mkF m 196 #[oI i0, oI i1, oI i2, oI (0 : Int32), oI z, oR w2, oD (FP.i2d i1), .second, oD (FP.i2d z), .second, oI (0 : Int32), oI (1 : Int32)] [(.int (1 : Int32))])
          exact own_retN XT5 hx hlk hret (by simp) (w := (1 : Int32)) (hb hby at_196) (by decide) (by decide) (by decide) (⟨rfl, eT5, rfl⟩)
        · refine own_by (fun t_ k_ => XS.icmpYes XT1.here hx rfl (pc0 := 54) (pc' := 63) rfl (hb hby at_54) rfl (XT.ii_ne_t c54_3) (by decide) (by decide) k_) ?_
          show own_Go p e below _ T1 (mkF m 63 #[oI i0, oI i1, oI i2, oI (0 : Int32), oI z, oR w2, oD (FP.i2d i1), .second, oD (FP.i2d z), .second, .unset, .unset] [])
          have hc : own_c3 i1 z = (1 : Int32) := by rw [own_c3, if_neg c42_1, if_neg c54_3]
          refine own_by (fun t_ k_ => XT.iconstV XT1.here hx rfl (1 : Int32) (hb hby at_63) (by decide) k_) ?_
          show own_Go p e below _ T1 (mkF m 64 #[oI i0, oI i1, oI i2, oI (0 : Int32), oI z, oR w2, oD (FP.i2d i1), .second, oD (FP.i2d z), .second, .unset, .unset] [(.int (1 : Int32))])
          refine own_by (fun t_ k_ => XS.istore XT1.here hx rfl (hb hby at_64) rfl (l' := #[oI i0, oI i1, oI i2, oI (0 : Int32), oI z, oR w2, oD (FP.i2d i1), .second, oD (FP.i2d z), .second, oI (1 : Int32), .unset]) rfl k_) ?_
          show own_Go p e below _ T1 (mkF m 66 #[oI i0, oI i1, oI i2, oI (0 : Int32), oI z, oR w2, oD (FP.i2d i1), .second, oD (FP.i2d z), .second, oI (1 : Int32), .unset] [])
          refine own_by (fun t_ k_ => XS.iloadN XT1.here hx rfl (hb hby at_66) rfl  k_) ?_
          show own_Go p e below _ T1 (mkF m 67 #[oI i0, oI i1, oI i2, oI (0 : Int32), oI z, oR w2, oD (FP.i2d i1), .second, oD (FP.i2d z), .second, oI (1 : Int32), .unset] [(.int (0 : Int32))])
          refine own_by (fun t_ k_ => XS.ifNo XT1.here hx rfl (hb hby at_67) rfl (XT.i0_ne_f (by decide)) k_) ?_
          show own_Go p e below _ T1 (mkF m 70 #[oI i0, oI i1, oI i2, oI (0 : Int32), oI z, oR w2, oD (FP.i2d i1), .second, oD (FP.i2d z), .second, oI (1 : Int32), .unset] [])
          refine own_by (fun t_ k_ => XS.iload XT1.here hx rfl (hb hby at_70) rfl  k_) ?_
          show own_Go p e below _ T1 (mkF m 72 #[oI i0, oI i1, oI i2, oI (0 : Int32), oI z, oR w2, oD (FP.i2d i1), .second, oD (FP.i2d z), .second, oI (1 : Int32), .unset] [(.int (1 : Int32))])
          refine own_by (fun t_ k_ => XS.ifYes XT1.here hx rfl (pc0 := 72) (pc' := 79) rfl (hb hby at_72) rfl (XT.i0_ne_t (by decide)) (by decide) (by decide) k_) ?_
          show own_Go p e below _ T1 (mkF m 79 #[oI i0, oI i1, oI i2, oI (0 : Int32), oI z, oR w2, oD (FP.i2d i1), .second, oD (FP.i2d z), .second, oI (1 : Int32), .unset] [])
          refine own_by (fun t_ k_ => XT.iconstV XT1.here hx rfl (0 : Int32) (hb hby at_79) (by decide) k_) ?_
          show own_Go p e below _ T1 (mkF m 80 #[oI i0, oI i1, oI i2, oI (0 : Int32), oI z, oR w2, oD (FP.i2d i1), .second, oD (FP.i2d z), .second, oI (1 : Int32), .unset] [(.int (0 : Int32))])
          refine own_by (fun t_ k_ => XS.istore XT1.here hx rfl (hb hby at_80) rfl (l' := #[oI i0, oI i1, oI i2, oI (0 : Int32), oI z, oR w2, oD (FP.i2d i1), .second, oD (FP.i2d z), .second, oI (1 : Int32), oI (0 : Int32)]) rfl k_) ?_
          show own_Go p e below _ T1 (mkF m 82 #[oI i0, oI i1, oI i2, oI (0 : Int32), oI z, oR w2, oD (FP.i2d i1), .second, oD (FP.i2d z), .second, oI (1 : Int32), oI (0 : Int32)] [])
          refine own_by (fun t_ k_ => XS.goto XT1.here hx rfl (pc0 := 82) (pc' := 177) rfl (hb hby at_82) (by decide) (by decide) k_) ?_
          show own_Go p e below _ T1 (mkF m 177 #[oI i0, oI i1, oI i2, oI (0 : Int32), oI z, oR w2, oD (FP.i2d i1), .second, oD (FP.i2d z), .second, oI (1 : Int32), oI (0 : Int32)] [])
          refine own_by (fun t_ k_ => XS.aload XT1.here hx rfl (hb hby at_177) rfl rfl  k_) ?_
          show own_Go p e below _ T1 (mkF m 179 #[oI i0, oI i1, oI i2, oI (0 : Int32), oI z, oR w2, oD (FP.i2d i1), .second, oD (FP.i2d z), .second, oI (1 : Int32), oI (0 : Int32)] [(.ref w2)])
          refine own_by (fun t_ k_ => XS.dload XT1.here hx rfl (hb hby at_179) rfl  k_) ?_
          show own_Go p e below _ T1 (mkF m 181 #[oI i0, oI i1, oI i2, oI (0 : Int32), oI z, oR w2, oD (FP.i2d i1), .second, oD (FP.i2d z), .second, oI (1 : Int32), oI (0 : Int32)] [(.double (FP.i2d i1)), (.ref w2)])
          refine own_by (fun t_ k_ => XS.dload XT1.here hx rfl (hb hby at_181) rfl  k_) ?_
          show own_Go p e below _ T1 (mkF m 183 #[oI i0, oI i1, oI i2, oI (0 : Int32), oI z, oR w2, oD (FP.i2d i1), .second, oD (FP.i2d z), .second, oI (1 : Int32), oI (0 : Int32)] [(.double (FP.i2d z)), (.double (FP.i2d i1)), (.ref w2)])
          refine own_callV XT1 hx hZ hown (hw _ (List.mem_of_getElem? (i := 8) rfl)) (hw _ (List.mem_of_getElem? (i := 9) rfl)) (hw _ (List.mem_of_getElem? (i := 11) rfl)) (hw _ (List.mem_of_getElem? (i := 10) rfl)) (hw _ (List.mem_of_getElem? (i := 12) rfl)) (hw _ (List.mem_of_getElem? (i := 6) rfl)) (by decide) eT1 (b := w2) E2 (argsL := [(.double (FP.i2d i1)), (.double (FP.i2d z))]) (rest := []) (own_holds_met l Z a0 hw w2 i1 z w2 w3 w4 w5 w6 w7 h0 S) 0 (by decide) (by decide) (by rw [hml]; rfl) (lenOf pd_1 rfl) (Nat.le_of_eq rfl) (hb hby at_183) (by decide) (by decide) (st := [(.double (FP.i2d z)), (.double (FP.i2d i1)), (.ref w2)]) rfl ?_
          intro T6 LT6 vT6 XT6 hQT6
          obtain ⟨rfl, eT6, rfl⟩ := hQT6
          show own_Go p e below _ T6 (mkF m 186 #[oI i0, oI i1, oI i2, oI (0 : Int32), oI z, oR w2, oD (FP.i2d i1), .second, oD (FP.i2d z), .second, oI (1 : Int32), oI (0 : Int32)] [(.int (own_holds w2 i1 z w2 w3 w4 w5 w6 w7))])
          rw [show own_holds w2 i1 z w2 w3 w4 w5 w6 w7 = (0 : Int32) by rw [own_holds, if_pos rfl, if_neg (by rw [hc] <;> decide)]]
          show own_Go p e below _ T6 (mkF m 186 #[oI i0, oI i1, oI i2, oI (0 : Int32), oI z, oR w2, oD (FP.i2d i1), .second, oD (FP.i2d z), .second, oI (1 : Int32), oI (0 : Int32)] [(.int (0 : Int32))])
          refine own_by (fun t_ k_ => XS.iload XT6.here hx rfl (hb hby at_186) rfl  k_) ?_
          show own_Go p e below _ T6 (mkF m 188 #[oI i0, oI i1, oI i2, oI (0 : Int32), oI z, oR w2, oD (FP.i2d i1), .second, oD (FP.i2d z), .second, oI (1 : Int32), oI (0 : Int32)] [(.int (0 : Int32)), (.int (0 : Int32))])
          refine own_by (fun t_ k_ => XS.icmpNo XT6.here hx rfl (hb hby at_188) rfl (XT.ii_ne_f (by decide)) k_) ?_
          show own_Go p e below _ T6 (mkF m 191 #[oI i0, oI i1, oI i2, oI (0 : Int32), oI z, oR w2, oD (FP.i2d i1), .second, oD (FP.i2d z), .second, oI (1 : Int32), oI (0 : Int32)] [])
          refine own_by (fun t_ k_ => XT.iconstV XT6.here hx rfl (1 : Int32) (hb hby at_191) (by decide) k_) ?_
          show own_Go p e below _ T6 (mkF m 192 #[oI i0, oI i1, oI i2, oI (0 : Int32), oI z, oR w2, oD (FP.i2d i1), .second, oD (FP.i2d z), .second, oI (1 : Int32), oI (0 : Int32)] [(.int (1 : Int32))])
          refine own_by (fun t_ k_ => XS.goto XT6.here hx rfl (pc0 := 192) (pc' := 196) rfl (hb hby at_192) (by decide) (by decide) k_) ?_
          show own_Go p e below _ T6 (mkF m 196 #[oI i0, oI i1, oI i2, oI (0 : Int32), oI z, oR w2, oD (FP.i2d i1), .second, oD (FP.i2d z), .second, oI (1 : Int32), oI (0 : Int32)] [(.int (1 : Int32))])
          exact own_retN XT6 hx hlk hret (by simp) (w := (1 : Int32)) (hb hby at_196) (by decide) (by decide) (by decide) (⟨rfl, eT6, rfl⟩)
    by_cases c14_6 : (((i0.toUInt32 >>> ((8 : Int32) &&& 31).toUInt32).toInt32) &&& (1 : Int32)) = (0 : Int32)
    · refine own_by (fun t_ k_ => XS.ifYes X0.here hx rfl (pc0 := 14) (pc' := 21) rfl (hb hby at_14) rfl (XT.i0_eq_t c14_6) (by decide) (by decide) k_) ?_
      show own_Go p e below _ T0 (mkF m 21 #[oI i0, oI i1, oI i2, oI (0 : Int32), .unset, .unset, .unset, .unset, .unset, .unset, .unset, .unset] [])
      refine own_by (fun t_ k_ => XS.iloadN X0.here hx rfl (hb hby at_21) rfl  k_) ?_
      show own_Go p e below _ T0 (mkF m 22 #[oI i0, oI i1, oI i2, oI (0 : Int32), .unset, .unset, .unset, .unset, .unset, .unset, .unset, .unset] [(.int i2)])
      exact J _
    · refine own_by (fun t_ k_ => XS.ifNo X0.here hx rfl (hb hby at_14) rfl (XT.i0_eq_f c14_6) k_) ?_
      show own_Go p e below _ T0 (mkF m 17 #[oI i0, oI i1, oI i2, oI (0 : Int32), .unset, .unset, .unset, .unset, .unset, .unset, .unset, .unset] [])
      refine own_by (fun t_ k_ => XS.iloadN X0.here hx rfl (hb hby at_17) rfl  k_) ?_
      show own_Go p e below _ T0 (mkF m 18 #[oI i0, oI i1, oI i2, oI (0 : Int32), .unset, .unset, .unset, .unset, .unset, .unset, .unset, .unset] [(.int i1)])
      refine own_by (fun t_ k_ => XS.goto X0.here hx rfl (pc0 := 18) (pc' := 22) rfl (hb hby at_18) (by decide) (by decide) k_) ?_
      show own_Go p e below _ T0 (mkF m 22 #[oI i0, oI i1, oI i2, oI (0 : Int32), .unset, .unset, .unset, .unset, .unset, .unset, .unset, .unset] [(.int i1)])
      exact J _
  · refine own_by (fun t_ k_ => XS.iloadN X0.here hx rfl (hb hby at_0) rfl  k_) ?_
    show own_Go p e below _ T0 (mkF m 1 #[oI i0, oI i1, oI i2, .unset, .unset, .unset, .unset, .unset, .unset, .unset, .unset, .unset] [(.int i0)])
    refine own_by (fun t_ k_ => X0.ldcI hx hown (mvT hZ (hw _ (List.mem_of_getElem? (i := 0) rfl))) rfl (hb hby at_1) k_) ?_
    show own_Go p e below _ T0 (mkF m 3 #[oI i0, oI i1, oI i2, .unset, .unset, .unset, .unset, .unset, .unset, .unset, .unset, .unset] [(.int (2147483647 : Int32)), (.int i0)])
    refine own_by (fun t_ k_ => XS.iand X0.here hx rfl (hb hby at_3) rfl k_) ?_
    show own_Go p e below _ T0 (mkF m 4 #[oI i0, oI i1, oI i2, .unset, .unset, .unset, .unset, .unset, .unset, .unset, .unset, .unset] [(.int (i0 &&& (2147483647 : Int32)))])
    refine own_by (fun t_ k_ => XT.bipushV X0.here hx rfl (6 : Int32) (hb hby at_4) (by decide) k_) ?_
    show own_Go p e below _ T0 (mkF m 6 #[oI i0, oI i1, oI i2, .unset, .unset, .unset, .unset, .unset, .unset, .unset, .unset, .unset] [(.int (6 : Int32)), (.int (i0 &&& (2147483647 : Int32)))])
    refine own_by (fun t_ k_ => iremM X0 hx rfl (hb hby at_6) rfl (by decide) k_) ?_
    show own_Go p e below _ T0 (mkF m 7 #[oI i0, oI i1, oI i2, .unset, .unset, .unset, .unset, .unset, .unset, .unset, .unset, .unset] [(.int ((i0 &&& (2147483647 : Int32)) % (6 : Int32)))])
    rw [hk]
    show own_Go p e below _ T0 (mkF m 7 #[oI i0, oI i1, oI i2, .unset, .unset, .unset, .unset, .unset, .unset, .unset, .unset, .unset] [(.int (1 : Int32))])
    refine own_by (fun t_ k_ => XS.istoreN X0.here hx rfl (hb hby at_7) rfl (l' := #[oI i0, oI i1, oI i2, oI (1 : Int32), .unset, .unset, .unset, .unset, .unset, .unset, .unset, .unset]) rfl k_) ?_
    show own_Go p e below _ T0 (mkF m 8 #[oI i0, oI i1, oI i2, oI (1 : Int32), .unset, .unset, .unset, .unset, .unset, .unset, .unset, .unset] [])
    refine own_by (fun t_ k_ => XS.iloadN X0.here hx rfl (hb hby at_8) rfl  k_) ?_
    show own_Go p e below _ T0 (mkF m 9 #[oI i0, oI i1, oI i2, oI (1 : Int32), .unset, .unset, .unset, .unset, .unset, .unset, .unset, .unset] [(.int i0)])
    refine own_by (fun t_ k_ => XT.bipushV X0.here hx rfl (8 : Int32) (hb hby at_9) (by decide) k_) ?_
    show own_Go p e below _ T0 (mkF m 11 #[oI i0, oI i1, oI i2, oI (1 : Int32), .unset, .unset, .unset, .unset, .unset, .unset, .unset, .unset] [(.int (8 : Int32)), (.int i0)])
    refine own_by (fun t_ k_ => XT.iushr X0.here hx rfl (hb hby at_11) rfl k_) ?_
    show own_Go p e below _ T0 (mkF m 12 #[oI i0, oI i1, oI i2, oI (1 : Int32), .unset, .unset, .unset, .unset, .unset, .unset, .unset, .unset] [(.int ((i0.toUInt32 >>> ((8 : Int32) &&& 31).toUInt32).toInt32))])
    refine own_by (fun t_ k_ => XT.iconstV X0.here hx rfl (1 : Int32) (hb hby at_12) (by decide) k_) ?_
    show own_Go p e below _ T0 (mkF m 13 #[oI i0, oI i1, oI i2, oI (1 : Int32), .unset, .unset, .unset, .unset, .unset, .unset, .unset, .unset] [(.int (1 : Int32)), (.int ((i0.toUInt32 >>> ((8 : Int32) &&& 31).toUInt32).toInt32))])
    refine own_by (fun t_ k_ => XS.iand X0.here hx rfl (hb hby at_13) rfl k_) ?_
    show own_Go p e below _ T0 (mkF m 14 #[oI i0, oI i1, oI i2, oI (1 : Int32), .unset, .unset, .unset, .unset, .unset, .unset, .unset, .unset] [(.int (((i0.toUInt32 >>> ((8 : Int32) &&& 31).toUInt32).toInt32) &&& (1 : Int32)))])
    have J : ∀ z : Int32, own_Go p e below (own_K s room_1.cells room_1.slots (fun v h L => v = some (.int (1 : Int32)) ∧ h = h0 ∧ L = [])) T0 (mkF m 22 #[oI i0, oI i1, oI i2, oI (1 : Int32), .unset, .unset, .unset, .unset, .unset, .unset, .unset, .unset] [(.int z)]) := by
      intro z
      show own_Go p e below _ T0 (mkF m 22 #[oI i0, oI i1, oI i2, oI (1 : Int32), .unset, .unset, .unset, .unset, .unset, .unset, .unset, .unset] [(.int z)])
      refine own_by (fun t_ k_ => XS.istore X0.here hx rfl (hb hby at_22) rfl (l' := #[oI i0, oI i1, oI i2, oI (1 : Int32), oI z, .unset, .unset, .unset, .unset, .unset, .unset, .unset]) rfl k_) ?_
      show own_Go p e below _ T0 (mkF m 24 #[oI i0, oI i1, oI i2, oI (1 : Int32), oI z, .unset, .unset, .unset, .unset, .unset, .unset, .unset] [])
      refine own_by (fun t_ k_ => XS.iloadN X0.here hx rfl (hb hby at_24) rfl  k_) ?_
      show own_Go p e below _ T0 (mkF m 25 #[oI i0, oI i1, oI i2, oI (1 : Int32), oI z, .unset, .unset, .unset, .unset, .unset, .unset, .unset] [(.int (1 : Int32))])
      refine own_callS X0 hx hZ hown (hw _ (List.mem_of_getElem? (i := 1) rfl)) (hw _ (List.mem_of_getElem? (i := 2) rfl)) (hw _ (List.mem_of_getElem? (i := 3) rfl)) (hw _ (List.mem_of_getElem? (i := 4) rfl)) (by decide) e0 (argsL := [(.int (1 : Int32))]) (rest := []) (own_op_met l Z a0 hw (1 : Int32) w2 w3 w4 w5 w6 w7 h0 S) 0 (by decide) (by decide) (by rw [hml]; rfl) (lenOf pd_0 rfl) (Nat.le_of_eq rfl) (hb hby at_25) (by decide) (by decide) (st := [(.int (1 : Int32))]) rfl ?_
      intro T8 LT8 vT8 XT8 hQT8
      obtain ⟨rfl, eT8, rfl⟩ := hQT8
      show own_Go p e below _ T8 (mkF m 28 #[oI i0, oI i1, oI i2, oI (1 : Int32), oI z, .unset, .unset, .unset, .unset, .unset, .unset, .unset] [(.ref (own_op (1 : Int32) w2 w3 w4 w5 w6 w7))])
      rw [show own_op (1 : Int32) w2 w3 w4 w5 w6 w7 = w3 by rw [own_op, if_neg (by decide), if_pos (by decide)]]
      show own_Go p e below _ T8 (mkF m 28 #[oI i0, oI i1, oI i2, oI (1 : Int32), oI z, .unset, .unset, .unset, .unset, .unset, .unset, .unset] [(.ref w3)])
      refine own_by (fun t_ k_ => XS.astore XT8.here hx rfl (hb hby at_28) rfl rfl (l' := #[oI i0, oI i1, oI i2, oI (1 : Int32), oI z, oR w3, .unset, .unset, .unset, .unset, .unset, .unset]) rfl k_) ?_
      show own_Go p e below _ T8 (mkF m 30 #[oI i0, oI i1, oI i2, oI (1 : Int32), oI z, oR w3, .unset, .unset, .unset, .unset, .unset, .unset] [])
      refine own_by (fun t_ k_ => XS.iloadN XT8.here hx rfl (hb hby at_30) rfl  k_) ?_
      show own_Go p e below _ T8 (mkF m 31 #[oI i0, oI i1, oI i2, oI (1 : Int32), oI z, oR w3, .unset, .unset, .unset, .unset, .unset, .unset] [(.int i1)])
      refine own_by (fun t_ k_ => XS.i2dS XT8.here hx rfl (hb hby at_31) rfl rfl k_) ?_
      show own_Go p e below _ T8 (mkF m 32 #[oI i0, oI i1, oI i2, oI (1 : Int32), oI z, oR w3, .unset, .unset, .unset, .unset, .unset, .unset] [(.double (FP.i2d i1))])
      refine own_by (fun t_ k_ => XS.dstore XT8.here hx rfl (hb hby at_32) rfl (l' := #[oI i0, oI i1, oI i2, oI (1 : Int32), oI z, oR w3, oD (FP.i2d i1), .second, .unset, .unset, .unset, .unset]) rfl k_) ?_
      show own_Go p e below _ T8 (mkF m 34 #[oI i0, oI i1, oI i2, oI (1 : Int32), oI z, oR w3, oD (FP.i2d i1), .second, .unset, .unset, .unset, .unset] [])
      refine own_by (fun t_ k_ => XS.iload XT8.here hx rfl (hb hby at_34) rfl  k_) ?_
      show own_Go p e below _ T8 (mkF m 36 #[oI i0, oI i1, oI i2, oI (1 : Int32), oI z, oR w3, oD (FP.i2d i1), .second, .unset, .unset, .unset, .unset] [(.int z)])
      refine own_by (fun t_ k_ => XS.i2dS XT8.here hx rfl (hb hby at_36) rfl rfl k_) ?_
      show own_Go p e below _ T8 (mkF m 37 #[oI i0, oI i1, oI i2, oI (1 : Int32), oI z, oR w3, oD (FP.i2d i1), .second, .unset, .unset, .unset, .unset] [(.double (FP.i2d z))])
      refine own_by (fun t_ k_ => XS.dstore XT8.here hx rfl (hb hby at_37) rfl (l' := #[oI i0, oI i1, oI i2, oI (1 : Int32), oI z, oR w3, oD (FP.i2d i1), .second, oD (FP.i2d z), .second, .unset, .unset]) rfl k_) ?_
      show own_Go p e below _ T8 (mkF m 39 #[oI i0, oI i1, oI i2, oI (1 : Int32), oI z, oR w3, oD (FP.i2d i1), .second, oD (FP.i2d z), .second, .unset, .unset] [])
      refine own_by (fun t_ k_ => XS.iloadN XT8.here hx rfl (hb hby at_39) rfl  k_) ?_
      show own_Go p e below _ T8 (mkF m 40 #[oI i0, oI i1, oI i2, oI (1 : Int32), oI z, oR w3, oD (FP.i2d i1), .second, oD (FP.i2d z), .second, .unset, .unset] [(.int i1)])
      refine own_by (fun t_ k_ => XS.iload XT8.here hx rfl (hb hby at_40) rfl  k_) ?_
      show own_Go p e below _ T8 (mkF m 42 #[oI i0, oI i1, oI i2, oI (1 : Int32), oI z, oR w3, oD (FP.i2d i1), .second, oD (FP.i2d z), .second, .unset, .unset] [(.int z), (.int i1)])
      by_cases c42_8 : i1 < z
      · refine own_by (fun t_ k_ => XS.icmpNo XT8.here hx rfl (hb hby at_42) rfl (XT.ii_ge_f c42_8) k_) ?_
        show own_Go p e below _ T8 (mkF m 45 #[oI i0, oI i1, oI i2, oI (1 : Int32), oI z, oR w3, oD (FP.i2d i1), .second, oD (FP.i2d z), .second, .unset, .unset] [])
        have hc : own_c3 i1 z = (-1 : Int32) := if_pos c42_8
        refine own_by (fun t_ k_ => XT.iconstV XT8.here hx rfl (-1 : Int32) (hb hby at_45) (by decide) k_) ?_
        show own_Go p e below _ T8 (mkF m 46 #[oI i0, oI i1, oI i2, oI (1 : Int32), oI z, oR w3, oD (FP.i2d i1), .second, oD (FP.i2d z), .second, .unset, .unset] [(.int (-1 : Int32))])
        refine own_by (fun t_ k_ => XS.istore XT8.here hx rfl (hb hby at_46) rfl (l' := #[oI i0, oI i1, oI i2, oI (1 : Int32), oI z, oR w3, oD (FP.i2d i1), .second, oD (FP.i2d z), .second, oI (-1 : Int32), .unset]) rfl k_) ?_
        show own_Go p e below _ T8 (mkF m 48 #[oI i0, oI i1, oI i2, oI (1 : Int32), oI z, oR w3, oD (FP.i2d i1), .second, oD (FP.i2d z), .second, oI (-1 : Int32), .unset] [])
        refine own_by (fun t_ k_ => XS.goto XT8.here hx rfl (pc0 := 48) (pc' := 66) rfl (hb hby at_48) (by decide) (by decide) k_) ?_
        show own_Go p e below _ T8 (mkF m 66 #[oI i0, oI i1, oI i2, oI (1 : Int32), oI z, oR w3, oD (FP.i2d i1), .second, oD (FP.i2d z), .second, oI (-1 : Int32), .unset] [])
        refine own_by (fun t_ k_ => XS.iloadN XT8.here hx rfl (hb hby at_66) rfl  k_) ?_
        show own_Go p e below _ T8 (mkF m 67 #[oI i0, oI i1, oI i2, oI (1 : Int32), oI z, oR w3, oD (FP.i2d i1), .second, oD (FP.i2d z), .second, oI (-1 : Int32), .unset] [(.int (1 : Int32))])
        refine own_by (fun t_ k_ => XS.ifYes XT8.here hx rfl (pc0 := 67) (pc' := 85) rfl (hb hby at_67) rfl (XT.i0_ne_t (by decide)) (by decide) (by decide) k_) ?_
        show own_Go p e below _ T8 (mkF m 85 #[oI i0, oI i1, oI i2, oI (1 : Int32), oI z, oR w3, oD (FP.i2d i1), .second, oD (FP.i2d z), .second, oI (-1 : Int32), .unset] [])
        refine own_by (fun t_ k_ => XS.iloadN XT8.here hx rfl (hb hby at_85) rfl  k_) ?_
        show own_Go p e below _ T8 (mkF m 86 #[oI i0, oI i1, oI i2, oI (1 : Int32), oI z, oR w3, oD (FP.i2d i1), .second, oD (FP.i2d z), .second, oI (-1 : Int32), .unset] [(.int (1 : Int32))])
        refine own_by (fun t_ k_ => XT.iconstV XT8.here hx rfl (1 : Int32) (hb hby at_86) (by decide) k_) ?_
        show own_Go p e below _ T8 (mkF m 87 #[oI i0, oI i1, oI i2, oI (1 : Int32), oI z, oR w3, oD (FP.i2d i1), .second, oD (FP.i2d z), .second, oI (-1 : Int32), .unset] [(.int (1 : Int32)), (.int (1 : Int32))])
        refine own_by (fun t_ k_ => XS.icmpNo XT8.here hx rfl (hb hby at_87) rfl (XT.ii_ne_f (by decide)) k_) ?_
        show own_Go p e below _ T8 (mkF m 90 #[oI i0, oI i1, oI i2, oI (1 : Int32), oI z, oR w3, oD (FP.i2d i1), .second, oD (FP.i2d z), .second, oI (-1 : Int32), .unset] [])
        refine own_by (fun t_ k_ => XS.iload XT8.here hx rfl (hb hby at_90) rfl  k_) ?_
        show own_Go p e below _ T8 (mkF m 92 #[oI i0, oI i1, oI i2, oI (1 : Int32), oI z, oR w3, oD (FP.i2d i1), .second, oD (FP.i2d z), .second, oI (-1 : Int32), .unset] [(.int (-1 : Int32))])
        refine own_by (fun t_ k_ => XS.ifNo XT8.here hx rfl (hb hby at_92) rfl (XT.i0_eq_f (by decide)) k_) ?_
        show own_Go p e below _ T8 (mkF m 95 #[oI i0, oI i1, oI i2, oI (1 : Int32), oI z, oR w3, oD (FP.i2d i1), .second, oD (FP.i2d z), .second, oI (-1 : Int32), .unset] [])
        refine own_by (fun t_ k_ => XT.iconstV XT8.here hx rfl (1 : Int32) (hb hby at_95) (by decide) k_) ?_
        show own_Go p e below _ T8 (mkF m 96 #[oI i0, oI i1, oI i2, oI (1 : Int32), oI z, oR w3, oD (FP.i2d i1), .second, oD (FP.i2d z), .second, oI (-1 : Int32), .unset] [(.int (1 : Int32))])
        refine own_by (fun t_ k_ => XS.goto XT8.here hx rfl (pc0 := 96) (pc' := 100) rfl (hb hby at_96) (by decide) (by decide) k_) ?_
        show own_Go p e below _ T8 (mkF m 100 #[oI i0, oI i1, oI i2, oI (1 : Int32), oI z, oR w3, oD (FP.i2d i1), .second, oD (FP.i2d z), .second, oI (-1 : Int32), .unset] [(.int (1 : Int32))])
        refine own_by (fun t_ k_ => XS.istore XT8.here hx rfl (hb hby at_100) rfl (l' := #[oI i0, oI i1, oI i2, oI (1 : Int32), oI z, oR w3, oD (FP.i2d i1), .second, oD (FP.i2d z), .second, oI (-1 : Int32), oI (1 : Int32)]) rfl k_) ?_
        show own_Go p e below _ T8 (mkF m 102 #[oI i0, oI i1, oI i2, oI (1 : Int32), oI z, oR w3, oD (FP.i2d i1), .second, oD (FP.i2d z), .second, oI (-1 : Int32), oI (1 : Int32)] [])
        refine own_by (fun t_ k_ => XS.goto XT8.here hx rfl (pc0 := 102) (pc' := 177) rfl (hb hby at_102) (by decide) (by decide) k_) ?_
        show own_Go p e below _ T8 (mkF m 177 #[oI i0, oI i1, oI i2, oI (1 : Int32), oI z, oR w3, oD (FP.i2d i1), .second, oD (FP.i2d z), .second, oI (-1 : Int32), oI (1 : Int32)] [])
        refine own_by (fun t_ k_ => XS.aload XT8.here hx rfl (hb hby at_177) rfl rfl  k_) ?_
        show own_Go p e below _ T8 (mkF m 179 #[oI i0, oI i1, oI i2, oI (1 : Int32), oI z, oR w3, oD (FP.i2d i1), .second, oD (FP.i2d z), .second, oI (-1 : Int32), oI (1 : Int32)] [(.ref w3)])
        refine own_by (fun t_ k_ => XS.dload XT8.here hx rfl (hb hby at_179) rfl  k_) ?_
        show own_Go p e below _ T8 (mkF m 181 #[oI i0, oI i1, oI i2, oI (1 : Int32), oI z, oR w3, oD (FP.i2d i1), .second, oD (FP.i2d z), .second, oI (-1 : Int32), oI (1 : Int32)] [(.double (FP.i2d i1)), (.ref w3)])
        refine own_by (fun t_ k_ => XS.dload XT8.here hx rfl (hb hby at_181) rfl  k_) ?_
        show own_Go p e below _ T8 (mkF m 183 #[oI i0, oI i1, oI i2, oI (1 : Int32), oI z, oR w3, oD (FP.i2d i1), .second, oD (FP.i2d z), .second, oI (-1 : Int32), oI (1 : Int32)] [(.double (FP.i2d z)), (.double (FP.i2d i1)), (.ref w3)])
        refine own_callV XT8 hx hZ hown (hw _ (List.mem_of_getElem? (i := 8) rfl)) (hw _ (List.mem_of_getElem? (i := 9) rfl)) (hw _ (List.mem_of_getElem? (i := 11) rfl)) (hw _ (List.mem_of_getElem? (i := 10) rfl)) (hw _ (List.mem_of_getElem? (i := 12) rfl)) (hw _ (List.mem_of_getElem? (i := 6) rfl)) (by decide) eT8 (b := w3) E3 (argsL := [(.double (FP.i2d i1)), (.double (FP.i2d z))]) (rest := []) (own_holds_met l Z a0 hw w3 i1 z w2 w3 w4 w5 w6 w7 h0 S) 0 (by decide) (by decide) (by rw [hml]; rfl) (lenOf pd_1 rfl) (Nat.le_of_eq rfl) (hb hby at_183) (by decide) (by decide) (st := [(.double (FP.i2d z)), (.double (FP.i2d i1)), (.ref w3)]) rfl ?_
        intro T10 LT10 vT10 XT10 hQT10
        obtain ⟨rfl, eT10, rfl⟩ := hQT10
        show own_Go p e below _ T10 (mkF m 186 #[oI i0, oI i1, oI i2, oI (1 : Int32), oI z, oR w3, oD (FP.i2d i1), .second, oD (FP.i2d z), .second, oI (-1 : Int32), oI (1 : Int32)] [(.int (own_holds w3 i1 z w2 w3 w4 w5 w6 w7))])
        rw [show own_holds w3 i1 z w2 w3 w4 w5 w6 w7 = (1 : Int32) by rw [own_holds, if_neg (F3.ne F2 (by decide)), if_pos rfl, if_neg (by rw [hc] <;> decide)]]
        show own_Go p e below _ T10 (mkF m 186 #[oI i0, oI i1, oI i2, oI (1 : Int32), oI z, oR w3, oD (FP.i2d i1), .second, oD (FP.i2d z), .second, oI (-1 : Int32), oI (1 : Int32)] [(.int (1 : Int32))])
        refine own_by (fun t_ k_ => XS.iload XT10.here hx rfl (hb hby at_186) rfl  k_) ?_
        show own_Go p e below _ T10 (mkF m 188 #[oI i0, oI i1, oI i2, oI (1 : Int32), oI z, oR w3, oD (FP.i2d i1), .second, oD (FP.i2d z), .second, oI (-1 : Int32), oI (1 : Int32)] [(.int (1 : Int32)), (.int (1 : Int32))])
        refine own_by (fun t_ k_ => XS.icmpNo XT10.here hx rfl (hb hby at_188) rfl (XT.ii_ne_f (by decide)) k_) ?_
        show own_Go p e below _ T10 (mkF m 191 #[oI i0, oI i1, oI i2, oI (1 : Int32), oI z, oR w3, oD (FP.i2d i1), .second, oD (FP.i2d z), .second, oI (-1 : Int32), oI (1 : Int32)] [])
        refine own_by (fun t_ k_ => XT.iconstV XT10.here hx rfl (1 : Int32) (hb hby at_191) (by decide) k_) ?_
        show own_Go p e below _ T10 (mkF m 192 #[oI i0, oI i1, oI i2, oI (1 : Int32), oI z, oR w3, oD (FP.i2d i1), .second, oD (FP.i2d z), .second, oI (-1 : Int32), oI (1 : Int32)] [(.int (1 : Int32))])
        refine own_by (fun t_ k_ => XS.goto XT10.here hx rfl (pc0 := 192) (pc' := 196) rfl (hb hby at_192) (by decide) (by decide) k_) ?_
        show own_Go p e below _ T10 (mkF m 196 #[oI i0, oI i1, oI i2, oI (1 : Int32), oI z, oR w3, oD (FP.i2d i1), .second, oD (FP.i2d z), .second, oI (-1 : Int32), oI (1 : Int32)] [(.int (1 : Int32))])
        exact own_retN XT10 hx hlk hret (by simp) (w := (1 : Int32)) (hb hby at_196) (by decide) (by decide) (by decide) (⟨rfl, eT10, rfl⟩)
      · refine own_by (fun t_ k_ => XS.icmpYes XT8.here hx rfl (pc0 := 42) (pc' := 51) rfl (hb hby at_42) rfl (XT.ii_ge_t c42_8) (by decide) (by decide) k_) ?_
        show own_Go p e below _ T8 (mkF m 51 #[oI i0, oI i1, oI i2, oI (1 : Int32), oI z, oR w3, oD (FP.i2d i1), .second, oD (FP.i2d z), .second, .unset, .unset] [])
        refine own_by (fun t_ k_ => XS.iloadN XT8.here hx rfl (hb hby at_51) rfl  k_) ?_
        show own_Go p e below _ T8 (mkF m 52 #[oI i0, oI i1, oI i2, oI (1 : Int32), oI z, oR w3, oD (FP.i2d i1), .second, oD (FP.i2d z), .second, .unset, .unset] [(.int i1)])
        refine own_by (fun t_ k_ => XS.iload XT8.here hx rfl (hb hby at_52) rfl  k_) ?_
        show own_Go p e below _ T8 (mkF m 54 #[oI i0, oI i1, oI i2, oI (1 : Int32), oI z, oR w3, oD (FP.i2d i1), .second, oD (FP.i2d z), .second, .unset, .unset] [(.int z), (.int i1)])
        by_cases c54_10 : i1 = z
        · refine own_by (fun t_ k_ => XS.icmpNo XT8.here hx rfl (hb hby at_54) rfl (XT.ii_ne_f c54_10) k_) ?_
          show own_Go p e below _ T8 (mkF m 57 #[oI i0, oI i1, oI i2, oI (1 : Int32), oI z, oR w3, oD (FP.i2d i1), .second, oD (FP.i2d z), .second, .unset, .unset] [])
          have hc : own_c3 i1 z = (0 : Int32) := by rw [own_c3, if_neg c42_8, if_pos c54_10]
          refine own_by (fun t_ k_ => XT.iconstV XT8.here hx rfl (0 : Int32) (hb hby at_57) (by decide) k_) ?_
          show own_Go p e below _ T8 (mkF m 58 #[oI i0, oI i1, oI i2, oI (1 : Int32), oI z, oR w3, oD (FP.i2d i1), .second, oD (FP.i2d z), .second, .unset, .unset] [(.int (0 : Int32))])
          refine own_by (fun t_ k_ => XS.istore XT8.here hx rfl (hb hby at_58) rfl (l' := #[oI i0, oI i1, oI i2, oI (1 : Int32), oI z, oR w3, oD (FP.i2d i1), .second, oD (FP.i2d z), .second, oI (0 : Int32), .unset]) rfl k_) ?_
          show own_Go p e below _ T8 (mkF m 60 #[oI i0, oI i1, oI i2, oI (1 : Int32), oI z, oR w3, oD (FP.i2d i1), .second, oD (FP.i2d z), .second, oI (0 : Int32), .unset] [])
          refine own_by (fun t_ k_ => XS.goto XT8.here hx rfl (pc0 := 60) (pc' := 66) rfl (hb hby at_60) (by decide) (by decide) k_) ?_
          show own_Go p e below _ T8 (mkF m 66 #[oI i0, oI i1, oI i2, oI (1 : Int32), oI z, oR w3, oD (FP.i2d i1), .second, oD (FP.i2d z), .second, oI (0 : Int32), .unset] [])
          refine own_by (fun t_ k_ => XS.iloadN XT8.here hx rfl (hb hby at_66) rfl  k_) ?_
          show own_Go p e below _ T8 (mkF m 67 #[oI i0, oI i1, oI i2, oI (1 : Int32), oI z, oR w3, oD (FP.i2d i1), .second, oD (FP.i2d z), .second, oI (0 : Int32), .unset] [(.int (1 : Int32))])
          refine own_by (fun t_ k_ => XS.ifYes XT8.here hx rfl (pc0 := 67) (pc' := 85) rfl (hb hby at_67) rfl (XT.i0_ne_t (by decide)) (by decide) (by decide) k_) ?_
          show own_Go p e below _ T8 (mkF m 85 #[oI i0, oI i1, oI i2, oI (1 : Int32), oI z, oR w3, oD (FP.i2d i1), .second, oD (FP.i2d z), .second, oI (0 : Int32), .unset] [])
          refine own_by (fun t_ k_ => XS.iloadN XT8.here hx rfl (hb hby at_85) rfl  k_) ?_
          show own_Go p e below _ T8 (mkF m 86 #[oI i0, oI i1, oI i2, oI (1 : Int32), oI z, oR w3, oD (FP.i2d i1), .second, oD (FP.i2d z), .second, oI (0 : Int32), .unset] [(.int (1 : Int32))])
          refine own_by (fun t_ k_ => XT.iconstV XT8.here hx rfl (1 : Int32) (hb hby at_86) (by decide) k_) ?_
          show own_Go p e below _ T8 (mkF m 87 #[oI i0, oI i1, oI i2, oI (1 : Int32), oI z, oR w3, oD (FP.i2d i1), .second, oD (FP.i2d z), .second, oI (0 : Int32), .unset] [(.int (1 : Int32)), (.int (1 : Int32))])
          refine own_by (fun t_ k_ => XS.icmpNo XT8.here hx rfl (hb hby at_87) rfl (XT.ii_ne_f (by decide)) k_) ?_
          show own_Go p e below _ T8 (mkF m 90 #[oI i0, oI i1, oI i2, oI (1 : Int32), oI z, oR w3, oD (FP.i2d i1), .second, oD (FP.i2d z), .second, oI (0 : Int32), .unset] [])
          refine own_by (fun t_ k_ => XS.iload XT8.here hx rfl (hb hby at_90) rfl  k_) ?_
          show own_Go p e below _ T8 (mkF m 92 #[oI i0, oI i1, oI i2, oI (1 : Int32), oI z, oR w3, oD (FP.i2d i1), .second, oD (FP.i2d z), .second, oI (0 : Int32), .unset] [(.int (0 : Int32))])
          refine own_by (fun t_ k_ => XS.ifYes XT8.here hx rfl (pc0 := 92) (pc' := 99) rfl (hb hby at_92) rfl (XT.i0_eq_t (by decide)) (by decide) (by decide) k_) ?_
          show own_Go p e below _ T8 (mkF m 99 #[oI i0, oI i1, oI i2, oI (1 : Int32), oI z, oR w3, oD (FP.i2d i1), .second, oD (FP.i2d z), .second, oI (0 : Int32), .unset] [])
          refine own_by (fun t_ k_ => XT.iconstV XT8.here hx rfl (0 : Int32) (hb hby at_99) (by decide) k_) ?_
          show own_Go p e below _ T8 (mkF m 100 #[oI i0, oI i1, oI i2, oI (1 : Int32), oI z, oR w3, oD (FP.i2d i1), .second, oD (FP.i2d z), .second, oI (0 : Int32), .unset] [(.int (0 : Int32))])
          refine own_by (fun t_ k_ => XS.istore XT8.here hx rfl (hb hby at_100) rfl (l' := #[oI i0, oI i1, oI i2, oI (1 : Int32), oI z, oR w3, oD (FP.i2d i1), .second, oD (FP.i2d z), .second, oI (0 : Int32), oI (0 : Int32)]) rfl k_) ?_
          show own_Go p e below _ T8 (mkF m 102 #[oI i0, oI i1, oI i2, oI (1 : Int32), oI z, oR w3, oD (FP.i2d i1), .second, oD (FP.i2d z), .second, oI (0 : Int32), oI (0 : Int32)] [])
          refine own_by (fun t_ k_ => XS.goto XT8.here hx rfl (pc0 := 102) (pc' := 177) rfl (hb hby at_102) (by decide) (by decide) k_) ?_
          show own_Go p e below _ T8 (mkF m 177 #[oI i0, oI i1, oI i2, oI (1 : Int32), oI z, oR w3, oD (FP.i2d i1), .second, oD (FP.i2d z), .second, oI (0 : Int32), oI (0 : Int32)] [])
          refine own_by (fun t_ k_ => XS.aload XT8.here hx rfl (hb hby at_177) rfl rfl  k_) ?_
          show own_Go p e below _ T8 (mkF m 179 #[oI i0, oI i1, oI i2, oI (1 : Int32), oI z, oR w3, oD (FP.i2d i1), .second, oD (FP.i2d z), .second, oI (0 : Int32), oI (0 : Int32)] [(.ref w3)])
          refine own_by (fun t_ k_ => XS.dload XT8.here hx rfl (hb hby at_179) rfl  k_) ?_
          show own_Go p e below _ T8 (mkF m 181 #[oI i0, oI i1, oI i2, oI (1 : Int32), oI z, oR w3, oD (FP.i2d i1), .second, oD (FP.i2d z), .second, oI (0 : Int32), oI (0 : Int32)] [(.double (FP.i2d i1)), (.ref w3)])
          refine own_by (fun t_ k_ => XS.dload XT8.here hx rfl (hb hby at_181) rfl  k_) ?_
          show own_Go p e below _ T8 (mkF m 183 #[oI i0, oI i1, oI i2, oI (1 : Int32), oI z, oR w3, oD (FP.i2d i1), .second, oD (FP.i2d z), .second, oI (0 : Int32), oI (0 : Int32)] [(.double (FP.i2d z)), (.double (FP.i2d i1)), (.ref w3)])
          refine own_callV XT8 hx hZ hown (hw _ (List.mem_of_getElem? (i := 8) rfl)) (hw _ (List.mem_of_getElem? (i := 9) rfl)) (hw _ (List.mem_of_getElem? (i := 11) rfl)) (hw _ (List.mem_of_getElem? (i := 10) rfl)) (hw _ (List.mem_of_getElem? (i := 12) rfl)) (hw _ (List.mem_of_getElem? (i := 6) rfl)) (by decide) eT8 (b := w3) E3 (argsL := [(.double (FP.i2d i1)), (.double (FP.i2d z))]) (rest := []) (own_holds_met l Z a0 hw w3 i1 z w2 w3 w4 w5 w6 w7 h0 S) 0 (by decide) (by decide) (by rw [hml]; rfl) (lenOf pd_1 rfl) (Nat.le_of_eq rfl) (hb hby at_183) (by decide) (by decide) (st := [(.double (FP.i2d z)), (.double (FP.i2d i1)), (.ref w3)]) rfl ?_
          intro T12 LT12 vT12 XT12 hQT12
          obtain ⟨rfl, eT12, rfl⟩ := hQT12
          show own_Go p e below _ T12 (mkF m 186 #[oI i0, oI i1, oI i2, oI (1 : Int32), oI z, oR w3, oD (FP.i2d i1), .second, oD (FP.i2d z), .second, oI (0 : Int32), oI (0 : Int32)] [(.int (own_holds w3 i1 z w2 w3 w4 w5 w6 w7))])
          rw [show own_holds w3 i1 z w2 w3 w4 w5 w6 w7 = (0 : Int32) by rw [own_holds, if_neg (F3.ne F2 (by decide)), if_pos rfl, if_pos (by rw [hc] <;> decide)]]
          show own_Go p e below _ T12 (mkF m 186 #[oI i0, oI i1, oI i2, oI (1 : Int32), oI z, oR w3, oD (FP.i2d i1), .second, oD (FP.i2d z), .second, oI (0 : Int32), oI (0 : Int32)] [(.int (0 : Int32))])
          refine own_by (fun t_ k_ => XS.iload XT12.here hx rfl (hb hby at_186) rfl  k_) ?_
          show own_Go p e below _ T12 (mkF m 188 #[oI i0, oI i1, oI i2, oI (1 : Int32), oI z, oR w3, oD (FP.i2d i1), .second, oD (FP.i2d z), .second, oI (0 : Int32), oI (0 : Int32)] [(.int (0 : Int32)), (.int (0 : Int32))])
          refine own_by (fun t_ k_ => XS.icmpNo XT12.here hx rfl (hb hby at_188) rfl (XT.ii_ne_f (by decide)) k_) ?_
          show own_Go p e below _ T12 (mkF m 191 #[oI i0, oI i1, oI i2, oI (1 : Int32), oI z, oR w3, oD (FP.i2d i1), .second, oD (FP.i2d z), .second, oI (0 : Int32), oI (0 : Int32)] [])
          refine own_by (fun t_ k_ => XT.iconstV XT12.here hx rfl (1 : Int32) (hb hby at_191) (by decide) k_) ?_
          show own_Go p e below _ T12 (mkF m 192 #[oI i0, oI i1, oI i2, oI (1 : Int32), oI z, oR w3, oD (FP.i2d i1), .second, oD (FP.i2d z), .second, oI (0 : Int32), oI (0 : Int32)] [(.int (1 : Int32))])
          refine own_by (fun t_ k_ => XS.goto XT12.here hx rfl (pc0 := 192) (pc' := 196) rfl (hb hby at_192) (by decide) (by decide) k_) ?_
          show own_Go p e below _ T12 (mkF m 196 #[oI i0, oI i1, oI i2, oI (1 : Int32), oI z, oR w3, oD (FP.i2d i1), .second, oD (FP.i2d z), .second, oI (0 : Int32), oI (0 : Int32)] [(.int (1 : Int32))])
          exact own_retN XT12 hx hlk hret (by simp) (w := (1 : Int32)) (hb hby at_196) (by decide) (by decide) (by decide) (⟨rfl, eT12, rfl⟩)
        · refine own_by (fun t_ k_ => XS.icmpYes XT8.here hx rfl (pc0 := 54) (pc' := 63) rfl (hb hby at_54) rfl (XT.ii_ne_t c54_10) (by decide) (by decide) k_) ?_
          show own_Go p e below _ T8 (mkF m 63 #[oI i0, oI i1, oI i2, oI (1 : Int32), oI z, oR w3, oD (FP.i2d i1), .second, oD (FP.i2d z), .second, .unset, .unset] [])
          have hc : own_c3 i1 z = (1 : Int32) := by rw [own_c3, if_neg c42_8, if_neg c54_10]
          refine own_by (fun t_ k_ => XT.iconstV XT8.here hx rfl (1 : Int32) (hb hby at_63) (by decide) k_) ?_
          show own_Go p e below _ T8 (mkF m 64 #[oI i0, oI i1, oI i2, oI (1 : Int32), oI z, oR w3, oD (FP.i2d i1), .second, oD (FP.i2d z), .second, .unset, .unset] [(.int (1 : Int32))])
          refine own_by (fun t_ k_ => XS.istore XT8.here hx rfl (hb hby at_64) rfl (l' := #[oI i0, oI i1, oI i2, oI (1 : Int32), oI z, oR w3, oD (FP.i2d i1), .second, oD (FP.i2d z), .second, oI (1 : Int32), .unset]) rfl k_) ?_
          show own_Go p e below _ T8 (mkF m 66 #[oI i0, oI i1, oI i2, oI (1 : Int32), oI z, oR w3, oD (FP.i2d i1), .second, oD (FP.i2d z), .second, oI (1 : Int32), .unset] [])
          refine own_by (fun t_ k_ => XS.iloadN XT8.here hx rfl (hb hby at_66) rfl  k_) ?_
          show own_Go p e below _ T8 (mkF m 67 #[oI i0, oI i1, oI i2, oI (1 : Int32), oI z, oR w3, oD (FP.i2d i1), .second, oD (FP.i2d z), .second, oI (1 : Int32), .unset] [(.int (1 : Int32))])
          refine own_by (fun t_ k_ => XS.ifYes XT8.here hx rfl (pc0 := 67) (pc' := 85) rfl (hb hby at_67) rfl (XT.i0_ne_t (by decide)) (by decide) (by decide) k_) ?_
          show own_Go p e below _ T8 (mkF m 85 #[oI i0, oI i1, oI i2, oI (1 : Int32), oI z, oR w3, oD (FP.i2d i1), .second, oD (FP.i2d z), .second, oI (1 : Int32), .unset] [])
          refine own_by (fun t_ k_ => XS.iloadN XT8.here hx rfl (hb hby at_85) rfl  k_) ?_
          show own_Go p e below _ T8 (mkF m 86 #[oI i0, oI i1, oI i2, oI (1 : Int32), oI z, oR w3, oD (FP.i2d i1), .second, oD (FP.i2d z), .second, oI (1 : Int32), .unset] [(.int (1 : Int32))])
          refine own_by (fun t_ k_ => XT.iconstV XT8.here hx rfl (1 : Int32) (hb hby at_86) (by decide) k_) ?_
          show own_Go p e below _ T8 (mkF m 87 #[oI i0, oI i1, oI i2, oI (1 : Int32), oI z, oR w3, oD (FP.i2d i1), .second, oD (FP.i2d z), .second, oI (1 : Int32), .unset] [(.int (1 : Int32)), (.int (1 : Int32))])
          refine own_by (fun t_ k_ => XS.icmpNo XT8.here hx rfl (hb hby at_87) rfl (XT.ii_ne_f (by decide)) k_) ?_
          show own_Go p e below _ T8 (mkF m 90 #[oI i0, oI i1, oI i2, oI (1 : Int32), oI z, oR w3, oD (FP.i2d i1), .second, oD (FP.i2d z), .second, oI (1 : Int32), .unset] [])
          refine own_by (fun t_ k_ => XS.iload XT8.here hx rfl (hb hby at_90) rfl  k_) ?_
          show own_Go p e below _ T8 (mkF m 92 #[oI i0, oI i1, oI i2, oI (1 : Int32), oI z, oR w3, oD (FP.i2d i1), .second, oD (FP.i2d z), .second, oI (1 : Int32), .unset] [(.int (1 : Int32))])
          refine own_by (fun t_ k_ => XS.ifNo XT8.here hx rfl (hb hby at_92) rfl (XT.i0_eq_f (by decide)) k_) ?_
          show own_Go p e below _ T8 (mkF m 95 #[oI i0, oI i1, oI i2, oI (1 : Int32), oI z, oR w3, oD (FP.i2d i1), .second, oD (FP.i2d z), .second, oI (1 : Int32), .unset] [])
          refine own_by (fun t_ k_ => XT.iconstV XT8.here hx rfl (1 : Int32) (hb hby at_95) (by decide) k_) ?_
          show own_Go p e below _ T8 (mkF m 96 #[oI i0, oI i1, oI i2, oI (1 : Int32), oI z, oR w3, oD (FP.i2d i1), .second, oD (FP.i2d z), .second, oI (1 : Int32), .unset] [(.int (1 : Int32))])
          refine own_by (fun t_ k_ => XS.goto XT8.here hx rfl (pc0 := 96) (pc' := 100) rfl (hb hby at_96) (by decide) (by decide) k_) ?_
          show own_Go p e below _ T8 (mkF m 100 #[oI i0, oI i1, oI i2, oI (1 : Int32), oI z, oR w3, oD (FP.i2d i1), .second, oD (FP.i2d z), .second, oI (1 : Int32), .unset] [(.int (1 : Int32))])
          refine own_by (fun t_ k_ => XS.istore XT8.here hx rfl (hb hby at_100) rfl (l' := #[oI i0, oI i1, oI i2, oI (1 : Int32), oI z, oR w3, oD (FP.i2d i1), .second, oD (FP.i2d z), .second, oI (1 : Int32), oI (1 : Int32)]) rfl k_) ?_
          show own_Go p e below _ T8 (mkF m 102 #[oI i0, oI i1, oI i2, oI (1 : Int32), oI z, oR w3, oD (FP.i2d i1), .second, oD (FP.i2d z), .second, oI (1 : Int32), oI (1 : Int32)] [])
          refine own_by (fun t_ k_ => XS.goto XT8.here hx rfl (pc0 := 102) (pc' := 177) rfl (hb hby at_102) (by decide) (by decide) k_) ?_
          show own_Go p e below _ T8 (mkF m 177 #[oI i0, oI i1, oI i2, oI (1 : Int32), oI z, oR w3, oD (FP.i2d i1), .second, oD (FP.i2d z), .second, oI (1 : Int32), oI (1 : Int32)] [])
          refine own_by (fun t_ k_ => XS.aload XT8.here hx rfl (hb hby at_177) rfl rfl  k_) ?_
          show own_Go p e below _ T8 (mkF m 179 #[oI i0, oI i1, oI i2, oI (1 : Int32), oI z, oR w3, oD (FP.i2d i1), .second, oD (FP.i2d z), .second, oI (1 : Int32), oI (1 : Int32)] [(.ref w3)])
          refine own_by (fun t_ k_ => XS.dload XT8.here hx rfl (hb hby at_179) rfl  k_) ?_
          show own_Go p e below _ T8 (mkF m 181 #[oI i0, oI i1, oI i2, oI (1 : Int32), oI z, oR w3, oD (FP.i2d i1), .second, oD (FP.i2d z), .second, oI (1 : Int32), oI (1 : Int32)] [(.double (FP.i2d i1)), (.ref w3)])
          refine own_by (fun t_ k_ => XS.dload XT8.here hx rfl (hb hby at_181) rfl  k_) ?_
          show own_Go p e below _ T8 (mkF m 183 #[oI i0, oI i1, oI i2, oI (1 : Int32), oI z, oR w3, oD (FP.i2d i1), .second, oD (FP.i2d z), .second, oI (1 : Int32), oI (1 : Int32)] [(.double (FP.i2d z)), (.double (FP.i2d i1)), (.ref w3)])
          refine own_callV XT8 hx hZ hown (hw _ (List.mem_of_getElem? (i := 8) rfl)) (hw _ (List.mem_of_getElem? (i := 9) rfl)) (hw _ (List.mem_of_getElem? (i := 11) rfl)) (hw _ (List.mem_of_getElem? (i := 10) rfl)) (hw _ (List.mem_of_getElem? (i := 12) rfl)) (hw _ (List.mem_of_getElem? (i := 6) rfl)) (by decide) eT8 (b := w3) E3 (argsL := [(.double (FP.i2d i1)), (.double (FP.i2d z))]) (rest := []) (own_holds_met l Z a0 hw w3 i1 z w2 w3 w4 w5 w6 w7 h0 S) 0 (by decide) (by decide) (by rw [hml]; rfl) (lenOf pd_1 rfl) (Nat.le_of_eq rfl) (hb hby at_183) (by decide) (by decide) (st := [(.double (FP.i2d z)), (.double (FP.i2d i1)), (.ref w3)]) rfl ?_
          intro T13 LT13 vT13 XT13 hQT13
          obtain ⟨rfl, eT13, rfl⟩ := hQT13
          show own_Go p e below _ T13 (mkF m 186 #[oI i0, oI i1, oI i2, oI (1 : Int32), oI z, oR w3, oD (FP.i2d i1), .second, oD (FP.i2d z), .second, oI (1 : Int32), oI (1 : Int32)] [(.int (own_holds w3 i1 z w2 w3 w4 w5 w6 w7))])
          rw [show own_holds w3 i1 z w2 w3 w4 w5 w6 w7 = (1 : Int32) by rw [own_holds, if_neg (F3.ne F2 (by decide)), if_pos rfl, if_neg (by rw [hc] <;> decide)]]
          show own_Go p e below _ T13 (mkF m 186 #[oI i0, oI i1, oI i2, oI (1 : Int32), oI z, oR w3, oD (FP.i2d i1), .second, oD (FP.i2d z), .second, oI (1 : Int32), oI (1 : Int32)] [(.int (1 : Int32))])
          refine own_by (fun t_ k_ => XS.iload XT13.here hx rfl (hb hby at_186) rfl  k_) ?_
          show own_Go p e below _ T13 (mkF m 188 #[oI i0, oI i1, oI i2, oI (1 : Int32), oI z, oR w3, oD (FP.i2d i1), .second, oD (FP.i2d z), .second, oI (1 : Int32), oI (1 : Int32)] [(.int (1 : Int32)), (.int (1 : Int32))])
          refine own_by (fun t_ k_ => XS.icmpNo XT13.here hx rfl (hb hby at_188) rfl (XT.ii_ne_f (by decide)) k_) ?_
          show own_Go p e below _ T13 (mkF m 191 #[oI i0, oI i1, oI i2, oI (1 : Int32), oI z, oR w3, oD (FP.i2d i1), .second, oD (FP.i2d z), .second, oI (1 : Int32), oI (1 : Int32)] [])
          refine own_by (fun t_ k_ => XT.iconstV XT13.here hx rfl (1 : Int32) (hb hby at_191) (by decide) k_) ?_
          show own_Go p e below _ T13 (mkF m 192 #[oI i0, oI i1, oI i2, oI (1 : Int32), oI z, oR w3, oD (FP.i2d i1), .second, oD (FP.i2d z), .second, oI (1 : Int32), oI (1 : Int32)] [(.int (1 : Int32))])
          refine own_by (fun t_ k_ => XS.goto XT13.here hx rfl (pc0 := 192) (pc' := 196) rfl (hb hby at_192) (by decide) (by decide) k_) ?_
          show own_Go p e below _ T13 (mkF m 196 #[oI i0, oI i1, oI i2, oI (1 : Int32), oI z, oR w3, oD (FP.i2d i1), .second, oD (FP.i2d z), .second, oI (1 : Int32), oI (1 : Int32)] [(.int (1 : Int32))])
          exact own_retN XT13 hx hlk hret (by simp) (w := (1 : Int32)) (hb hby at_196) (by decide) (by decide) (by decide) (⟨rfl, eT13, rfl⟩)
    by_cases c14_13 : (((i0.toUInt32 >>> ((8 : Int32) &&& 31).toUInt32).toInt32) &&& (1 : Int32)) = (0 : Int32)
    · refine own_by (fun t_ k_ => XS.ifYes X0.here hx rfl (pc0 := 14) (pc' := 21) rfl (hb hby at_14) rfl (XT.i0_eq_t c14_13) (by decide) (by decide) k_) ?_
      show own_Go p e below _ T0 (mkF m 21 #[oI i0, oI i1, oI i2, oI (1 : Int32), .unset, .unset, .unset, .unset, .unset, .unset, .unset, .unset] [])
      refine own_by (fun t_ k_ => XS.iloadN X0.here hx rfl (hb hby at_21) rfl  k_) ?_
      show own_Go p e below _ T0 (mkF m 22 #[oI i0, oI i1, oI i2, oI (1 : Int32), .unset, .unset, .unset, .unset, .unset, .unset, .unset, .unset] [(.int i2)])
      exact J _
    · refine own_by (fun t_ k_ => XS.ifNo X0.here hx rfl (hb hby at_14) rfl (XT.i0_eq_f c14_13) k_) ?_
      show own_Go p e below _ T0 (mkF m 17 #[oI i0, oI i1, oI i2, oI (1 : Int32), .unset, .unset, .unset, .unset, .unset, .unset, .unset, .unset] [])
      refine own_by (fun t_ k_ => XS.iloadN X0.here hx rfl (hb hby at_17) rfl  k_) ?_
      show own_Go p e below _ T0 (mkF m 18 #[oI i0, oI i1, oI i2, oI (1 : Int32), .unset, .unset, .unset, .unset, .unset, .unset, .unset, .unset] [(.int i1)])
      refine own_by (fun t_ k_ => XS.goto X0.here hx rfl (pc0 := 18) (pc' := 22) rfl (hb hby at_18) (by decide) (by decide) k_) ?_
      show own_Go p e below _ T0 (mkF m 22 #[oI i0, oI i1, oI i2, oI (1 : Int32), .unset, .unset, .unset, .unset, .unset, .unset, .unset, .unset] [(.int i1)])
      exact J _
  · refine own_by (fun t_ k_ => XS.iloadN X0.here hx rfl (hb hby at_0) rfl  k_) ?_
    show own_Go p e below _ T0 (mkF m 1 #[oI i0, oI i1, oI i2, .unset, .unset, .unset, .unset, .unset, .unset, .unset, .unset, .unset] [(.int i0)])
    refine own_by (fun t_ k_ => X0.ldcI hx hown (mvT hZ (hw _ (List.mem_of_getElem? (i := 0) rfl))) rfl (hb hby at_1) k_) ?_
    show own_Go p e below _ T0 (mkF m 3 #[oI i0, oI i1, oI i2, .unset, .unset, .unset, .unset, .unset, .unset, .unset, .unset, .unset] [(.int (2147483647 : Int32)), (.int i0)])
    refine own_by (fun t_ k_ => XS.iand X0.here hx rfl (hb hby at_3) rfl k_) ?_
    show own_Go p e below _ T0 (mkF m 4 #[oI i0, oI i1, oI i2, .unset, .unset, .unset, .unset, .unset, .unset, .unset, .unset, .unset] [(.int (i0 &&& (2147483647 : Int32)))])
    refine own_by (fun t_ k_ => XT.bipushV X0.here hx rfl (6 : Int32) (hb hby at_4) (by decide) k_) ?_
    show own_Go p e below _ T0 (mkF m 6 #[oI i0, oI i1, oI i2, .unset, .unset, .unset, .unset, .unset, .unset, .unset, .unset, .unset] [(.int (6 : Int32)), (.int (i0 &&& (2147483647 : Int32)))])
    refine own_by (fun t_ k_ => iremM X0 hx rfl (hb hby at_6) rfl (by decide) k_) ?_
    show own_Go p e below _ T0 (mkF m 7 #[oI i0, oI i1, oI i2, .unset, .unset, .unset, .unset, .unset, .unset, .unset, .unset, .unset] [(.int ((i0 &&& (2147483647 : Int32)) % (6 : Int32)))])
    rw [hk]
    show own_Go p e below _ T0 (mkF m 7 #[oI i0, oI i1, oI i2, .unset, .unset, .unset, .unset, .unset, .unset, .unset, .unset, .unset] [(.int (2 : Int32))])
    refine own_by (fun t_ k_ => XS.istoreN X0.here hx rfl (hb hby at_7) rfl (l' := #[oI i0, oI i1, oI i2, oI (2 : Int32), .unset, .unset, .unset, .unset, .unset, .unset, .unset, .unset]) rfl k_) ?_
    show own_Go p e below _ T0 (mkF m 8 #[oI i0, oI i1, oI i2, oI (2 : Int32), .unset, .unset, .unset, .unset, .unset, .unset, .unset, .unset] [])
    refine own_by (fun t_ k_ => XS.iloadN X0.here hx rfl (hb hby at_8) rfl  k_) ?_
    show own_Go p e below _ T0 (mkF m 9 #[oI i0, oI i1, oI i2, oI (2 : Int32), .unset, .unset, .unset, .unset, .unset, .unset, .unset, .unset] [(.int i0)])
    refine own_by (fun t_ k_ => XT.bipushV X0.here hx rfl (8 : Int32) (hb hby at_9) (by decide) k_) ?_
    show own_Go p e below _ T0 (mkF m 11 #[oI i0, oI i1, oI i2, oI (2 : Int32), .unset, .unset, .unset, .unset, .unset, .unset, .unset, .unset] [(.int (8 : Int32)), (.int i0)])
    refine own_by (fun t_ k_ => XT.iushr X0.here hx rfl (hb hby at_11) rfl k_) ?_
    show own_Go p e below _ T0 (mkF m 12 #[oI i0, oI i1, oI i2, oI (2 : Int32), .unset, .unset, .unset, .unset, .unset, .unset, .unset, .unset] [(.int ((i0.toUInt32 >>> ((8 : Int32) &&& 31).toUInt32).toInt32))])
    refine own_by (fun t_ k_ => XT.iconstV X0.here hx rfl (1 : Int32) (hb hby at_12) (by decide) k_) ?_
    show own_Go p e below _ T0 (mkF m 13 #[oI i0, oI i1, oI i2, oI (2 : Int32), .unset, .unset, .unset, .unset, .unset, .unset, .unset, .unset] [(.int (1 : Int32)), (.int ((i0.toUInt32 >>> ((8 : Int32) &&& 31).toUInt32).toInt32))])
    refine own_by (fun t_ k_ => XS.iand X0.here hx rfl (hb hby at_13) rfl k_) ?_
    show own_Go p e below _ T0 (mkF m 14 #[oI i0, oI i1, oI i2, oI (2 : Int32), .unset, .unset, .unset, .unset, .unset, .unset, .unset, .unset] [(.int (((i0.toUInt32 >>> ((8 : Int32) &&& 31).toUInt32).toInt32) &&& (1 : Int32)))])
    have J : ∀ z : Int32, own_Go p e below (own_K s room_1.cells room_1.slots (fun v h L => v = some (.int (1 : Int32)) ∧ h = h0 ∧ L = [])) T0 (mkF m 22 #[oI i0, oI i1, oI i2, oI (2 : Int32), .unset, .unset, .unset, .unset, .unset, .unset, .unset, .unset] [(.int z)]) := by
      intro z
      show own_Go p e below _ T0 (mkF m 22 #[oI i0, oI i1, oI i2, oI (2 : Int32), .unset, .unset, .unset, .unset, .unset, .unset, .unset, .unset] [(.int z)])
      refine own_by (fun t_ k_ => XS.istore X0.here hx rfl (hb hby at_22) rfl (l' := #[oI i0, oI i1, oI i2, oI (2 : Int32), oI z, .unset, .unset, .unset, .unset, .unset, .unset, .unset]) rfl k_) ?_
      show own_Go p e below _ T0 (mkF m 24 #[oI i0, oI i1, oI i2, oI (2 : Int32), oI z, .unset, .unset, .unset, .unset, .unset, .unset, .unset] [])
      refine own_by (fun t_ k_ => XS.iloadN X0.here hx rfl (hb hby at_24) rfl  k_) ?_
      show own_Go p e below _ T0 (mkF m 25 #[oI i0, oI i1, oI i2, oI (2 : Int32), oI z, .unset, .unset, .unset, .unset, .unset, .unset, .unset] [(.int (2 : Int32))])
      refine own_callS X0 hx hZ hown (hw _ (List.mem_of_getElem? (i := 1) rfl)) (hw _ (List.mem_of_getElem? (i := 2) rfl)) (hw _ (List.mem_of_getElem? (i := 3) rfl)) (hw _ (List.mem_of_getElem? (i := 4) rfl)) (by decide) e0 (argsL := [(.int (2 : Int32))]) (rest := []) (own_op_met l Z a0 hw (2 : Int32) w2 w3 w4 w5 w6 w7 h0 S) 0 (by decide) (by decide) (by rw [hml]; rfl) (lenOf pd_0 rfl) (Nat.le_of_eq rfl) (hb hby at_25) (by decide) (by decide) (st := [(.int (2 : Int32))]) rfl ?_
      intro T15 LT15 vT15 XT15 hQT15
      obtain ⟨rfl, eT15, rfl⟩ := hQT15
      show own_Go p e below _ T15 (mkF m 28 #[oI i0, oI i1, oI i2, oI (2 : Int32), oI z, .unset, .unset, .unset, .unset, .unset, .unset, .unset] [(.ref (own_op (2 : Int32) w2 w3 w4 w5 w6 w7))])
      rw [show own_op (2 : Int32) w2 w3 w4 w5 w6 w7 = w4 by rw [own_op, if_neg (by decide), if_neg (by decide), if_pos (by decide)]]
      show own_Go p e below _ T15 (mkF m 28 #[oI i0, oI i1, oI i2, oI (2 : Int32), oI z, .unset, .unset, .unset, .unset, .unset, .unset, .unset] [(.ref w4)])
      refine own_by (fun t_ k_ => XS.astore XT15.here hx rfl (hb hby at_28) rfl rfl (l' := #[oI i0, oI i1, oI i2, oI (2 : Int32), oI z, oR w4, .unset, .unset, .unset, .unset, .unset, .unset]) rfl k_) ?_
      show own_Go p e below _ T15 (mkF m 30 #[oI i0, oI i1, oI i2, oI (2 : Int32), oI z, oR w4, .unset, .unset, .unset, .unset, .unset, .unset] [])
      refine own_by (fun t_ k_ => XS.iloadN XT15.here hx rfl (hb hby at_30) rfl  k_) ?_
      show own_Go p e below _ T15 (mkF m 31 #[oI i0, oI i1, oI i2, oI (2 : Int32), oI z, oR w4, .unset, .unset, .unset, .unset, .unset, .unset] [(.int i1)])
      refine own_by (fun t_ k_ => XS.i2dS XT15.here hx rfl (hb hby at_31) rfl rfl k_) ?_
      show own_Go p e below _ T15 (mkF m 32 #[oI i0, oI i1, oI i2, oI (2 : Int32), oI z, oR w4, .unset, .unset, .unset, .unset, .unset, .unset] [(.double (FP.i2d i1))])
      refine own_by (fun t_ k_ => XS.dstore XT15.here hx rfl (hb hby at_32) rfl (l' := #[oI i0, oI i1, oI i2, oI (2 : Int32), oI z, oR w4, oD (FP.i2d i1), .second, .unset, .unset, .unset, .unset]) rfl k_) ?_
      show own_Go p e below _ T15 (mkF m 34 #[oI i0, oI i1, oI i2, oI (2 : Int32), oI z, oR w4, oD (FP.i2d i1), .second, .unset, .unset, .unset, .unset] [])
      refine own_by (fun t_ k_ => XS.iload XT15.here hx rfl (hb hby at_34) rfl  k_) ?_
      show own_Go p e below _ T15 (mkF m 36 #[oI i0, oI i1, oI i2, oI (2 : Int32), oI z, oR w4, oD (FP.i2d i1), .second, .unset, .unset, .unset, .unset] [(.int z)])
      refine own_by (fun t_ k_ => XS.i2dS XT15.here hx rfl (hb hby at_36) rfl rfl k_) ?_
      show own_Go p e below _ T15 (mkF m 37 #[oI i0, oI i1, oI i2, oI (2 : Int32), oI z, oR w4, oD (FP.i2d i1), .second, .unset, .unset, .unset, .unset] [(.double (FP.i2d z))])
      refine own_by (fun t_ k_ => XS.dstore XT15.here hx rfl (hb hby at_37) rfl (l' := #[oI i0, oI i1, oI i2, oI (2 : Int32), oI z, oR w4, oD (FP.i2d i1), .second, oD (FP.i2d z), .second, .unset, .unset]) rfl k_) ?_
      show own_Go p e below _ T15 (mkF m 39 #[oI i0, oI i1, oI i2, oI (2 : Int32), oI z, oR w4, oD (FP.i2d i1), .second, oD (FP.i2d z), .second, .unset, .unset] [])
      refine own_by (fun t_ k_ => XS.iloadN XT15.here hx rfl (hb hby at_39) rfl  k_) ?_
      show own_Go p e below _ T15 (mkF m 40 #[oI i0, oI i1, oI i2, oI (2 : Int32), oI z, oR w4, oD (FP.i2d i1), .second, oD (FP.i2d z), .second, .unset, .unset] [(.int i1)])
      refine own_by (fun t_ k_ => XS.iload XT15.here hx rfl (hb hby at_40) rfl  k_) ?_
      show own_Go p e below _ T15 (mkF m 42 #[oI i0, oI i1, oI i2, oI (2 : Int32), oI z, oR w4, oD (FP.i2d i1), .second, oD (FP.i2d z), .second, .unset, .unset] [(.int z), (.int i1)])
      by_cases c42_15 : i1 < z
      · refine own_by (fun t_ k_ => XS.icmpNo XT15.here hx rfl (hb hby at_42) rfl (XT.ii_ge_f c42_15) k_) ?_
        show own_Go p e below _ T15 (mkF m 45 #[oI i0, oI i1, oI i2, oI (2 : Int32), oI z, oR w4, oD (FP.i2d i1), .second, oD (FP.i2d z), .second, .unset, .unset] [])
        have hc : own_c3 i1 z = (-1 : Int32) := if_pos c42_15
        refine own_by (fun t_ k_ => XT.iconstV XT15.here hx rfl (-1 : Int32) (hb hby at_45) (by decide) k_) ?_
        show own_Go p e below _ T15 (mkF m 46 #[oI i0, oI i1, oI i2, oI (2 : Int32), oI z, oR w4, oD (FP.i2d i1), .second, oD (FP.i2d z), .second, .unset, .unset] [(.int (-1 : Int32))])
        refine own_by (fun t_ k_ => XS.istore XT15.here hx rfl (hb hby at_46) rfl (l' := #[oI i0, oI i1, oI i2, oI (2 : Int32), oI z, oR w4, oD (FP.i2d i1), .second, oD (FP.i2d z), .second, oI (-1 : Int32), .unset]) rfl k_) ?_
        show own_Go p e below _ T15 (mkF m 48 #[oI i0, oI i1, oI i2, oI (2 : Int32), oI z, oR w4, oD (FP.i2d i1), .second, oD (FP.i2d z), .second, oI (-1 : Int32), .unset] [])
        refine own_by (fun t_ k_ => XS.goto XT15.here hx rfl (pc0 := 48) (pc' := 66) rfl (hb hby at_48) (by decide) (by decide) k_) ?_
        show own_Go p e below _ T15 (mkF m 66 #[oI i0, oI i1, oI i2, oI (2 : Int32), oI z, oR w4, oD (FP.i2d i1), .second, oD (FP.i2d z), .second, oI (-1 : Int32), .unset] [])
        refine own_by (fun t_ k_ => XS.iloadN XT15.here hx rfl (hb hby at_66) rfl  k_) ?_
        show own_Go p e below _ T15 (mkF m 67 #[oI i0, oI i1, oI i2, oI (2 : Int32), oI z, oR w4, oD (FP.i2d i1), .second, oD (FP.i2d z), .second, oI (-1 : Int32), .unset] [(.int (2 : Int32))])
        refine own_by (fun t_ k_ => XS.ifYes XT15.here hx rfl (pc0 := 67) (pc' := 85) rfl (hb hby at_67) rfl (XT.i0_ne_t (by decide)) (by decide) (by decide) k_) ?_
        show own_Go p e below _ T15 (mkF m 85 #[oI i0, oI i1, oI i2, oI (2 : Int32), oI z, oR w4, oD (FP.i2d i1), .second, oD (FP.i2d z), .second, oI (-1 : Int32), .unset] [])
        refine own_by (fun t_ k_ => XS.iloadN XT15.here hx rfl (hb hby at_85) rfl  k_) ?_
        show own_Go p e below _ T15 (mkF m 86 #[oI i0, oI i1, oI i2, oI (2 : Int32), oI z, oR w4, oD (FP.i2d i1), .second, oD (FP.i2d z), .second, oI (-1 : Int32), .unset] [(.int (2 : Int32))])
        refine own_by (fun t_ k_ => XT.iconstV XT15.here hx rfl (1 : Int32) (hb hby at_86) (by decide) k_) ?_
        show own_Go p e below _ T15 (mkF m 87 #[oI i0, oI i1, oI i2, oI (2 : Int32), oI z, oR w4, oD (FP.i2d i1), .second, oD (FP.i2d z), .second, oI (-1 : Int32), .unset] [(.int (1 : Int32)), (.int (2 : Int32))])
        refine own_by (fun t_ k_ => XS.icmpYes XT15.here hx rfl (pc0 := 87) (pc' := 105) rfl (hb hby at_87) rfl (XT.ii_ne_t (by decide)) (by decide) (by decide) k_) ?_
        show own_Go p e below _ T15 (mkF m 105 #[oI i0, oI i1, oI i2, oI (2 : Int32), oI z, oR w4, oD (FP.i2d i1), .second, oD (FP.i2d z), .second, oI (-1 : Int32), .unset] [])
        refine own_by (fun t_ k_ => XS.iloadN XT15.here hx rfl (hb hby at_105) rfl  k_) ?_
        show own_Go p e below _ T15 (mkF m 106 #[oI i0, oI i1, oI i2, oI (2 : Int32), oI z, oR w4, oD (FP.i2d i1), .second, oD (FP.i2d z), .second, oI (-1 : Int32), .unset] [(.int (2 : Int32))])
        refine own_by (fun t_ k_ => XT.iconstV XT15.here hx rfl (2 : Int32) (hb hby at_106) (by decide) k_) ?_
        show own_Go p e below _ T15 (mkF m 107 #[oI i0, oI i1, oI i2, oI (2 : Int32), oI z, oR w4, oD (FP.i2d i1), .second, oD (FP.i2d z), .second, oI (-1 : Int32), .unset] [(.int (2 : Int32)), (.int (2 : Int32))])
        refine own_by (fun t_ k_ => XS.icmpNo XT15.here hx rfl (hb hby at_107) rfl (XT.ii_ne_f (by decide)) k_) ?_
        show own_Go p e below _ T15 (mkF m 110 #[oI i0, oI i1, oI i2, oI (2 : Int32), oI z, oR w4, oD (FP.i2d i1), .second, oD (FP.i2d z), .second, oI (-1 : Int32), .unset] [])
        refine own_by (fun t_ k_ => XS.iload XT15.here hx rfl (hb hby at_110) rfl  k_) ?_
        show own_Go p e below _ T15 (mkF m 112 #[oI i0, oI i1, oI i2, oI (2 : Int32), oI z, oR w4, oD (FP.i2d i1), .second, oD (FP.i2d z), .second, oI (-1 : Int32), .unset] [(.int (-1 : Int32))])
        refine own_by (fun t_ k_ => XS.ifNo XT15.here hx rfl (hb hby at_112) rfl (XT.i0_ge_f (by decide)) k_) ?_
        show own_Go p e below _ T15 (mkF m 115 #[oI i0, oI i1, oI i2, oI (2 : Int32), oI z, oR w4, oD (FP.i2d i1), .second, oD (FP.i2d z), .second, oI (-1 : Int32), .unset] [])
        refine own_by (fun t_ k_ => XT.iconstV XT15.here hx rfl (1 : Int32) (hb hby at_115) (by decide) k_) ?_
        show own_Go p e below _ T15 (mkF m 116 #[oI i0, oI i1, oI i2, oI (2 : Int32), oI z, oR w4, oD (FP.i2d i1), .second, oD (FP.i2d z), .second, oI (-1 : Int32), .unset] [(.int (1 : Int32))])
        refine own_by (fun t_ k_ => XS.goto XT15.here hx rfl (pc0 := 116) (pc' := 120) rfl (hb hby at_116) (by decide) (by decide) k_) ?_
        show own_Go p e below _ T15 (mkF m 120 #[oI i0, oI i1, oI i2, oI (2 : Int32), oI z, oR w4, oD (FP.i2d i1), .second, oD (FP.i2d z), .second, oI (-1 : Int32), .unset] [(.int (1 : Int32))])
        refine own_by (fun t_ k_ => XS.istore XT15.here hx rfl (hb hby at_120) rfl (l' := #[oI i0, oI i1, oI i2, oI (2 : Int32), oI z, oR w4, oD (FP.i2d i1), .second, oD (FP.i2d z), .second, oI (-1 : Int32), oI (1 : Int32)]) rfl k_) ?_
        show own_Go p e below _ T15 (mkF m 122 #[oI i0, oI i1, oI i2, oI (2 : Int32), oI z, oR w4, oD (FP.i2d i1), .second, oD (FP.i2d z), .second, oI (-1 : Int32), oI (1 : Int32)] [])
        refine own_by (fun t_ k_ => XS.goto XT15.here hx rfl (pc0 := 122) (pc' := 177) rfl (hb hby at_122) (by decide) (by decide) k_) ?_
        show own_Go p e below _ T15 (mkF m 177 #[oI i0, oI i1, oI i2, oI (2 : Int32), oI z, oR w4, oD (FP.i2d i1), .second, oD (FP.i2d z), .second, oI (-1 : Int32), oI (1 : Int32)] [])
        refine own_by (fun t_ k_ => XS.aload XT15.here hx rfl (hb hby at_177) rfl rfl  k_) ?_
        show own_Go p e below _ T15 (mkF m 179 #[oI i0, oI i1, oI i2, oI (2 : Int32), oI z, oR w4, oD (FP.i2d i1), .second, oD (FP.i2d z), .second, oI (-1 : Int32), oI (1 : Int32)] [(.ref w4)])
        refine own_by (fun t_ k_ => XS.dload XT15.here hx rfl (hb hby at_179) rfl  k_) ?_
        show own_Go p e below _ T15 (mkF m 181 #[oI i0, oI i1, oI i2, oI (2 : Int32), oI z, oR w4, oD (FP.i2d i1), .second, oD (FP.i2d z), .second, oI (-1 : Int32), oI (1 : Int32)] [(.double (FP.i2d i1)), (.ref w4)])
        refine own_by (fun t_ k_ => XS.dload XT15.here hx rfl (hb hby at_181) rfl  k_) ?_
        show own_Go p e below _ T15 (mkF m 183 #[oI i0, oI i1, oI i2, oI (2 : Int32), oI z, oR w4, oD (FP.i2d i1), .second, oD (FP.i2d z), .second, oI (-1 : Int32), oI (1 : Int32)] [(.double (FP.i2d z)), (.double (FP.i2d i1)), (.ref w4)])
        refine own_callV XT15 hx hZ hown (hw _ (List.mem_of_getElem? (i := 8) rfl)) (hw _ (List.mem_of_getElem? (i := 9) rfl)) (hw _ (List.mem_of_getElem? (i := 11) rfl)) (hw _ (List.mem_of_getElem? (i := 10) rfl)) (hw _ (List.mem_of_getElem? (i := 12) rfl)) (hw _ (List.mem_of_getElem? (i := 6) rfl)) (by decide) eT15 (b := w4) E4 (argsL := [(.double (FP.i2d i1)), (.double (FP.i2d z))]) (rest := []) (own_holds_met l Z a0 hw w4 i1 z w2 w3 w4 w5 w6 w7 h0 S) 0 (by decide) (by decide) (by rw [hml]; rfl) (lenOf pd_1 rfl) (Nat.le_of_eq rfl) (hb hby at_183) (by decide) (by decide) (st := [(.double (FP.i2d z)), (.double (FP.i2d i1)), (.ref w4)]) rfl ?_
        intro T17 LT17 vT17 XT17 hQT17
        obtain ⟨rfl, eT17, rfl⟩ := hQT17
        show own_Go p e below _ T17 (mkF m 186 #[oI i0, oI i1, oI i2, oI (2 : Int32), oI z, oR w4, oD (FP.i2d i1), .second, oD (FP.i2d z), .second, oI (-1 : Int32), oI (1 : Int32)] [(.int (own_holds w4 i1 z w2 w3 w4 w5 w6 w7))])
        rw [show own_holds w4 i1 z w2 w3 w4 w5 w6 w7 = (1 : Int32) by rw [own_holds, if_neg (F4.ne F2 (by decide)), if_neg (F4.ne F3 (by decide)), if_pos rfl, if_pos (by rw [hc] <;> decide)]]
        show own_Go p e below _ T17 (mkF m 186 #[oI i0, oI i1, oI i2, oI (2 : Int32), oI z, oR w4, oD (FP.i2d i1), .second, oD (FP.i2d z), .second, oI (-1 : Int32), oI (1 : Int32)] [(.int (1 : Int32))])
        refine own_by (fun t_ k_ => XS.iload XT17.here hx rfl (hb hby at_186) rfl  k_) ?_
        show own_Go p e below _ T17 (mkF m 188 #[oI i0, oI i1, oI i2, oI (2 : Int32), oI z, oR w4, oD (FP.i2d i1), .second, oD (FP.i2d z), .second, oI (-1 : Int32), oI (1 : Int32)] [(.int (1 : Int32)), (.int (1 : Int32))])
        refine own_by (fun t_ k_ => XS.icmpNo XT17.here hx rfl (hb hby at_188) rfl (XT.ii_ne_f (by decide)) k_) ?_
        show own_Go p e below _ T17 (mkF m 191 #[oI i0, oI i1, oI i2, oI (2 : Int32), oI z, oR w4, oD (FP.i2d i1), .second, oD (FP.i2d z), .second, oI (-1 : Int32), oI (1 : Int32)] [])
        refine own_by (fun t_ k_ => XT.iconstV XT17.here hx rfl (1 : Int32) (hb hby at_191) (by decide) k_) ?_
        show own_Go p e below _ T17 (mkF m 192 #[oI i0, oI i1, oI i2, oI (2 : Int32), oI z, oR w4, oD (FP.i2d i1), .second, oD (FP.i2d z), .second, oI (-1 : Int32), oI (1 : Int32)] [(.int (1 : Int32))])
        refine own_by (fun t_ k_ => XS.goto XT17.here hx rfl (pc0 := 192) (pc' := 196) rfl (hb hby at_192) (by decide) (by decide) k_) ?_
        show own_Go p e below _ T17 (mkF m 196 #[oI i0, oI i1, oI i2, oI (2 : Int32), oI z, oR w4, oD (FP.i2d i1), .second, oD (FP.i2d z), .second, oI (-1 : Int32), oI (1 : Int32)] [(.int (1 : Int32))])
        exact own_retN XT17 hx hlk hret (by simp) (w := (1 : Int32)) (hb hby at_196) (by decide) (by decide) (by decide) (⟨rfl, eT17, rfl⟩)
      · refine own_by (fun t_ k_ => XS.icmpYes XT15.here hx rfl (pc0 := 42) (pc' := 51) rfl (hb hby at_42) rfl (XT.ii_ge_t c42_15) (by decide) (by decide) k_) ?_
        show own_Go p e below _ T15 (mkF m 51 #[oI i0, oI i1, oI i2, oI (2 : Int32), oI z, oR w4, oD (FP.i2d i1), .second, oD (FP.i2d z), .second, .unset, .unset] [])
        refine own_by (fun t_ k_ => XS.iloadN XT15.here hx rfl (hb hby at_51) rfl  k_) ?_
        show own_Go p e below _ T15 (mkF m 52 #[oI i0, oI i1, oI i2, oI (2 : Int32), oI z, oR w4, oD (FP.i2d i1), .second, oD (FP.i2d z), .second, .unset, .unset] [(.int i1)])
        refine own_by (fun t_ k_ => XS.iload XT15.here hx rfl (hb hby at_52) rfl  k_) ?_
        show own_Go p e below _ T15 (mkF m 54 #[oI i0, oI i1, oI i2, oI (2 : Int32), oI z, oR w4, oD (FP.i2d i1), .second, oD (FP.i2d z), .second, .unset, .unset] [(.int z), (.int i1)])
        by_cases c54_17 : i1 = z
        · refine own_by (fun t_ k_ => XS.icmpNo XT15.here hx rfl (hb hby at_54) rfl (XT.ii_ne_f c54_17) k_) ?_
          show own_Go p e below _ T15 (mkF m 57 #[oI i0, oI i1, oI i2, oI (2 : Int32), oI z, oR w4, oD (FP.i2d i1), .second, oD (FP.i2d z), .second, .unset, .unset] [])
          have hc : own_c3 i1 z = (0 : Int32) := by rw [own_c3, if_neg c42_15, if_pos c54_17]
          refine own_by (fun t_ k_ => XT.iconstV XT15.here hx rfl (0 : Int32) (hb hby at_57) (by decide) k_) ?_
          show own_Go p e below _ T15 (mkF m 58 #[oI i0, oI i1, oI i2, oI (2 : Int32), oI z, oR w4, oD (FP.i2d i1), .second, oD (FP.i2d z), .second, .unset, .unset] [(.int (0 : Int32))])
          refine own_by (fun t_ k_ => XS.istore XT15.here hx rfl (hb hby at_58) rfl (l' := #[oI i0, oI i1, oI i2, oI (2 : Int32), oI z, oR w4, oD (FP.i2d i1), .second, oD (FP.i2d z), .second, oI (0 : Int32), .unset]) rfl k_) ?_
          show own_Go p e below _ T15 (mkF m 60 #[oI i0, oI i1, oI i2, oI (2 : Int32), oI z, oR w4, oD (FP.i2d i1), .second, oD (FP.i2d z), .second, oI (0 : Int32), .unset] [])
          refine own_by (fun t_ k_ => XS.goto XT15.here hx rfl (pc0 := 60) (pc' := 66) rfl (hb hby at_60) (by decide) (by decide) k_) ?_
          show own_Go p e below _ T15 (mkF m 66 #[oI i0, oI i1, oI i2, oI (2 : Int32), oI z, oR w4, oD (FP.i2d i1), .second, oD (FP.i2d z), .second, oI (0 : Int32), .unset] [])
          refine own_by (fun t_ k_ => XS.iloadN XT15.here hx rfl (hb hby at_66) rfl  k_) ?_
          show own_Go p e below _ T15 (mkF m 67 #[oI i0, oI i1, oI i2, oI (2 : Int32), oI z, oR w4, oD (FP.i2d i1), .second, oD (FP.i2d z), .second, oI (0 : Int32), .unset] [(.int (2 : Int32))])
          refine own_by (fun t_ k_ => XS.ifYes XT15.here hx rfl (pc0 := 67) (pc' := 85) rfl (hb hby at_67) rfl (XT.i0_ne_t (by decide)) (by decide) (by decide) k_) ?_
          show own_Go p e below _ T15 (mkF m 85 #[oI i0, oI i1, oI i2, oI (2 : Int32), oI z, oR w4, oD (FP.i2d i1), .second, oD (FP.i2d z), .second, oI (0 : Int32), .unset] [])
          refine own_by (fun t_ k_ => XS.iloadN XT15.here hx rfl (hb hby at_85) rfl  k_) ?_
          show own_Go p e below _ T15 (mkF m 86 #[oI i0, oI i1, oI i2, oI (2 : Int32), oI z, oR w4, oD (FP.i2d i1), .second, oD (FP.i2d z), .second, oI (0 : Int32), .unset] [(.int (2 : Int32))])
          refine own_by (fun t_ k_ => XT.iconstV XT15.here hx rfl (1 : Int32) (hb hby at_86) (by decide) k_) ?_
          show own_Go p e below _ T15 (mkF m 87 #[oI i0, oI i1, oI i2, oI (2 : Int32), oI z, oR w4, oD (FP.i2d i1), .second, oD (FP.i2d z), .second, oI (0 : Int32), .unset] [(.int (1 : Int32)), (.int (2 : Int32))])
          refine own_by (fun t_ k_ => XS.icmpYes XT15.here hx rfl (pc0 := 87) (pc' := 105) rfl (hb hby at_87) rfl (XT.ii_ne_t (by decide)) (by decide) (by decide) k_) ?_
          show own_Go p e below _ T15 (mkF m 105 #[oI i0, oI i1, oI i2, oI (2 : Int32), oI z, oR w4, oD (FP.i2d i1), .second, oD (FP.i2d z), .second, oI (0 : Int32), .unset] [])
          refine own_by (fun t_ k_ => XS.iloadN XT15.here hx rfl (hb hby at_105) rfl  k_) ?_
          show own_Go p e below _ T15 (mkF m 106 #[oI i0, oI i1, oI i2, oI (2 : Int32), oI z, oR w4, oD (FP.i2d i1), .second, oD (FP.i2d z), .second, oI (0 : Int32), .unset] [(.int (2 : Int32))])
          refine own_by (fun t_ k_ => XT.iconstV XT15.here hx rfl (2 : Int32) (hb hby at_106) (by decide) k_) ?_
          show own_Go p e below _ T15 (mkF m 107 #[oI i0, oI i1, oI i2, oI (2 : Int32), oI z, oR w4, oD (FP.i2d i1), .second, oD (FP.i2d z), .second, oI (0 : Int32), .unset] [(.int (2 : Int32)), (.int (2 : Int32))])
          refine own_by (fun t_ k_ => XS.icmpNo XT15.here hx rfl (hb hby at_107) rfl (XT.ii_ne_f (by decide)) k_) ?_
          show own_Go p e below _ T15 (mkF m 110 #[oI i0, oI i1, oI i2, oI (2 : Int32), oI z, oR w4, oD (FP.i2d i1), .second, oD (FP.i2d z), .second, oI (0 : Int32), .unset] [])
          refine own_by (fun t_ k_ => XS.iload XT15.here hx rfl (hb hby at_110) rfl  k_) ?_
          show own_Go p e below _ T15 (mkF m 112 #[oI i0, oI i1, oI i2, oI (2 : Int32), oI z, oR w4, oD (FP.i2d i1), .second, oD (FP.i2d z), .second, oI (0 : Int32), .unset] [(.int (0 : Int32))])
          refine own_by (fun t_ k_ => XS.ifYes XT15.here hx rfl (pc0 := 112) (pc' := 119) rfl (hb hby at_112) rfl (XT.i0_ge_t (by decide)) (by decide) (by decide) k_) ?_
          show own_Go p e below _ T15 (mkF m 119 #[oI i0, oI i1, oI i2, oI (2 : Int32), oI z, oR w4, oD (FP.i2d i1), .second, oD (FP.i2d z), .second, oI (0 : Int32), .unset] [])
          refine own_by (fun t_ k_ => XT.iconstV XT15.here hx rfl (0 : Int32) (hb hby at_119) (by decide) k_) ?_
          show own_Go p e below _ T15 (mkF m 120 #[oI i0, oI i1, oI i2, oI (2 : Int32), oI z, oR w4, oD (FP.i2d i1), .second, oD (FP.i2d z), .second, oI (0 : Int32), .unset] [(.int (0 : Int32))])
          refine own_by (fun t_ k_ => XS.istore XT15.here hx rfl (hb hby at_120) rfl (l' := #[oI i0, oI i1, oI i2, oI (2 : Int32), oI z, oR w4, oD (FP.i2d i1), .second, oD (FP.i2d z), .second, oI (0 : Int32), oI (0 : Int32)]) rfl k_) ?_
          show own_Go p e below _ T15 (mkF m 122 #[oI i0, oI i1, oI i2, oI (2 : Int32), oI z, oR w4, oD (FP.i2d i1), .second, oD (FP.i2d z), .second, oI (0 : Int32), oI (0 : Int32)] [])
          refine own_by (fun t_ k_ => XS.goto XT15.here hx rfl (pc0 := 122) (pc' := 177) rfl (hb hby at_122) (by decide) (by decide) k_) ?_
          show own_Go p e below _ T15 (mkF m 177 #[oI i0, oI i1, oI i2, oI (2 : Int32), oI z, oR w4, oD (FP.i2d i1), .second, oD (FP.i2d z), .second, oI (0 : Int32), oI (0 : Int32)] [])
          refine own_by (fun t_ k_ => XS.aload XT15.here hx rfl (hb hby at_177) rfl rfl  k_) ?_
          show own_Go p e below _ T15 (mkF m 179 #[oI i0, oI i1, oI i2, oI (2 : Int32), oI z, oR w4, oD (FP.i2d i1), .second, oD (FP.i2d z), .second, oI (0 : Int32), oI (0 : Int32)] [(.ref w4)])
          refine own_by (fun t_ k_ => XS.dload XT15.here hx rfl (hb hby at_179) rfl  k_) ?_
          show own_Go p e below _ T15 (mkF m 181 #[oI i0, oI i1, oI i2, oI (2 : Int32), oI z, oR w4, oD (FP.i2d i1), .second, oD (FP.i2d z), .second, oI (0 : Int32), oI (0 : Int32)] [(.double (FP.i2d i1)), (.ref w4)])
          refine own_by (fun t_ k_ => XS.dload XT15.here hx rfl (hb hby at_181) rfl  k_) ?_
          show own_Go p e below _ T15 (mkF m 183 #[oI i0, oI i1, oI i2, oI (2 : Int32), oI z, oR w4, oD (FP.i2d i1), .second, oD (FP.i2d z), .second, oI (0 : Int32), oI (0 : Int32)] [(.double (FP.i2d z)), (.double (FP.i2d i1)), (.ref w4)])
          refine own_callV XT15 hx hZ hown (hw _ (List.mem_of_getElem? (i := 8) rfl)) (hw _ (List.mem_of_getElem? (i := 9) rfl)) (hw _ (List.mem_of_getElem? (i := 11) rfl)) (hw _ (List.mem_of_getElem? (i := 10) rfl)) (hw _ (List.mem_of_getElem? (i := 12) rfl)) (hw _ (List.mem_of_getElem? (i := 6) rfl)) (by decide) eT15 (b := w4) E4 (argsL := [(.double (FP.i2d i1)), (.double (FP.i2d z))]) (rest := []) (own_holds_met l Z a0 hw w4 i1 z w2 w3 w4 w5 w6 w7 h0 S) 0 (by decide) (by decide) (by rw [hml]; rfl) (lenOf pd_1 rfl) (Nat.le_of_eq rfl) (hb hby at_183) (by decide) (by decide) (st := [(.double (FP.i2d z)), (.double (FP.i2d i1)), (.ref w4)]) rfl ?_
          intro T19 LT19 vT19 XT19 hQT19
          obtain ⟨rfl, eT19, rfl⟩ := hQT19
          show own_Go p e below _ T19 (mkF m 186 #[oI i0, oI i1, oI i2, oI (2 : Int32), oI z, oR w4, oD (FP.i2d i1), .second, oD (FP.i2d z), .second, oI (0 : Int32), oI (0 : Int32)] [(.int (own_holds w4 i1 z w2 w3 w4 w5 w6 w7))])
          rw [show own_holds w4 i1 z w2 w3 w4 w5 w6 w7 = (0 : Int32) by rw [own_holds, if_neg (F4.ne F2 (by decide)), if_neg (F4.ne F3 (by decide)), if_pos rfl, if_neg (by rw [hc] <;> decide)]]
          show own_Go p e below _ T19 (mkF m 186 #[oI i0, oI i1, oI i2, oI (2 : Int32), oI z, oR w4, oD (FP.i2d i1), .second, oD (FP.i2d z), .second, oI (0 : Int32), oI (0 : Int32)] [(.int (0 : Int32))])
          refine own_by (fun t_ k_ => XS.iload XT19.here hx rfl (hb hby at_186) rfl  k_) ?_
          show own_Go p e below _ T19 (mkF m 188 #[oI i0, oI i1, oI i2, oI (2 : Int32), oI z, oR w4, oD (FP.i2d i1), .second, oD (FP.i2d z), .second, oI (0 : Int32), oI (0 : Int32)] [(.int (0 : Int32)), (.int (0 : Int32))])
          refine own_by (fun t_ k_ => XS.icmpNo XT19.here hx rfl (hb hby at_188) rfl (XT.ii_ne_f (by decide)) k_) ?_
          show own_Go p e below _ T19 (mkF m 191 #[oI i0, oI i1, oI i2, oI (2 : Int32), oI z, oR w4, oD (FP.i2d i1), .second, oD (FP.i2d z), .second, oI (0 : Int32), oI (0 : Int32)] [])
          refine own_by (fun t_ k_ => XT.iconstV XT19.here hx rfl (1 : Int32) (hb hby at_191) (by decide) k_) ?_
          show own_Go p e below _ T19 (mkF m 192 #[oI i0, oI i1, oI i2, oI (2 : Int32), oI z, oR w4, oD (FP.i2d i1), .second, oD (FP.i2d z), .second, oI (0 : Int32), oI (0 : Int32)] [(.int (1 : Int32))])
          refine own_by (fun t_ k_ => XS.goto XT19.here hx rfl (pc0 := 192) (pc' := 196) rfl (hb hby at_192) (by decide) (by decide) k_) ?_
          show own_Go p e below _ T19 (mkF m 196 #[oI i0, oI i1, oI i2, oI (2 : Int32), oI z, oR w4, oD (FP.i2d i1), .second, oD (FP.i2d z), .second, oI (0 : Int32), oI (0 : Int32)] [(.int (1 : Int32))])
          exact own_retN XT19 hx hlk hret (by simp) (w := (1 : Int32)) (hb hby at_196) (by decide) (by decide) (by decide) (⟨rfl, eT19, rfl⟩)
        · refine own_by (fun t_ k_ => XS.icmpYes XT15.here hx rfl (pc0 := 54) (pc' := 63) rfl (hb hby at_54) rfl (XT.ii_ne_t c54_17) (by decide) (by decide) k_) ?_
          show own_Go p e below _ T15 (mkF m 63 #[oI i0, oI i1, oI i2, oI (2 : Int32), oI z, oR w4, oD (FP.i2d i1), .second, oD (FP.i2d z), .second, .unset, .unset] [])
          have hc : own_c3 i1 z = (1 : Int32) := by rw [own_c3, if_neg c42_15, if_neg c54_17]
          refine own_by (fun t_ k_ => XT.iconstV XT15.here hx rfl (1 : Int32) (hb hby at_63) (by decide) k_) ?_
          show own_Go p e below _ T15 (mkF m 64 #[oI i0, oI i1, oI i2, oI (2 : Int32), oI z, oR w4, oD (FP.i2d i1), .second, oD (FP.i2d z), .second, .unset, .unset] [(.int (1 : Int32))])
          refine own_by (fun t_ k_ => XS.istore XT15.here hx rfl (hb hby at_64) rfl (l' := #[oI i0, oI i1, oI i2, oI (2 : Int32), oI z, oR w4, oD (FP.i2d i1), .second, oD (FP.i2d z), .second, oI (1 : Int32), .unset]) rfl k_) ?_
          show own_Go p e below _ T15 (mkF m 66 #[oI i0, oI i1, oI i2, oI (2 : Int32), oI z, oR w4, oD (FP.i2d i1), .second, oD (FP.i2d z), .second, oI (1 : Int32), .unset] [])
          refine own_by (fun t_ k_ => XS.iloadN XT15.here hx rfl (hb hby at_66) rfl  k_) ?_
          show own_Go p e below _ T15 (mkF m 67 #[oI i0, oI i1, oI i2, oI (2 : Int32), oI z, oR w4, oD (FP.i2d i1), .second, oD (FP.i2d z), .second, oI (1 : Int32), .unset] [(.int (2 : Int32))])
          refine own_by (fun t_ k_ => XS.ifYes XT15.here hx rfl (pc0 := 67) (pc' := 85) rfl (hb hby at_67) rfl (XT.i0_ne_t (by decide)) (by decide) (by decide) k_) ?_
          show own_Go p e below _ T15 (mkF m 85 #[oI i0, oI i1, oI i2, oI (2 : Int32), oI z, oR w4, oD (FP.i2d i1), .second, oD (FP.i2d z), .second, oI (1 : Int32), .unset] [])
          refine own_by (fun t_ k_ => XS.iloadN XT15.here hx rfl (hb hby at_85) rfl  k_) ?_
          show own_Go p e below _ T15 (mkF m 86 #[oI i0, oI i1, oI i2, oI (2 : Int32), oI z, oR w4, oD (FP.i2d i1), .second, oD (FP.i2d z), .second, oI (1 : Int32), .unset] [(.int (2 : Int32))])
          refine own_by (fun t_ k_ => XT.iconstV XT15.here hx rfl (1 : Int32) (hb hby at_86) (by decide) k_) ?_
          show own_Go p e below _ T15 (mkF m 87 #[oI i0, oI i1, oI i2, oI (2 : Int32), oI z, oR w4, oD (FP.i2d i1), .second, oD (FP.i2d z), .second, oI (1 : Int32), .unset] [(.int (1 : Int32)), (.int (2 : Int32))])
          refine own_by (fun t_ k_ => XS.icmpYes XT15.here hx rfl (pc0 := 87) (pc' := 105) rfl (hb hby at_87) rfl (XT.ii_ne_t (by decide)) (by decide) (by decide) k_) ?_
          show own_Go p e below _ T15 (mkF m 105 #[oI i0, oI i1, oI i2, oI (2 : Int32), oI z, oR w4, oD (FP.i2d i1), .second, oD (FP.i2d z), .second, oI (1 : Int32), .unset] [])
          refine own_by (fun t_ k_ => XS.iloadN XT15.here hx rfl (hb hby at_105) rfl  k_) ?_
          show own_Go p e below _ T15 (mkF m 106 #[oI i0, oI i1, oI i2, oI (2 : Int32), oI z, oR w4, oD (FP.i2d i1), .second, oD (FP.i2d z), .second, oI (1 : Int32), .unset] [(.int (2 : Int32))])
          refine own_by (fun t_ k_ => XT.iconstV XT15.here hx rfl (2 : Int32) (hb hby at_106) (by decide) k_) ?_
          show own_Go p e below _ T15 (mkF m 107 #[oI i0, oI i1, oI i2, oI (2 : Int32), oI z, oR w4, oD (FP.i2d i1), .second, oD (FP.i2d z), .second, oI (1 : Int32), .unset] [(.int (2 : Int32)), (.int (2 : Int32))])
          refine own_by (fun t_ k_ => XS.icmpNo XT15.here hx rfl (hb hby at_107) rfl (XT.ii_ne_f (by decide)) k_) ?_
          show own_Go p e below _ T15 (mkF m 110 #[oI i0, oI i1, oI i2, oI (2 : Int32), oI z, oR w4, oD (FP.i2d i1), .second, oD (FP.i2d z), .second, oI (1 : Int32), .unset] [])
          refine own_by (fun t_ k_ => XS.iload XT15.here hx rfl (hb hby at_110) rfl  k_) ?_
          show own_Go p e below _ T15 (mkF m 112 #[oI i0, oI i1, oI i2, oI (2 : Int32), oI z, oR w4, oD (FP.i2d i1), .second, oD (FP.i2d z), .second, oI (1 : Int32), .unset] [(.int (1 : Int32))])
          refine own_by (fun t_ k_ => XS.ifYes XT15.here hx rfl (pc0 := 112) (pc' := 119) rfl (hb hby at_112) rfl (XT.i0_ge_t (by decide)) (by decide) (by decide) k_) ?_
          show own_Go p e below _ T15 (mkF m 119 #[oI i0, oI i1, oI i2, oI (2 : Int32), oI z, oR w4, oD (FP.i2d i1), .second, oD (FP.i2d z), .second, oI (1 : Int32), .unset] [])
          refine own_by (fun t_ k_ => XT.iconstV XT15.here hx rfl (0 : Int32) (hb hby at_119) (by decide) k_) ?_
          show own_Go p e below _ T15 (mkF m 120 #[oI i0, oI i1, oI i2, oI (2 : Int32), oI z, oR w4, oD (FP.i2d i1), .second, oD (FP.i2d z), .second, oI (1 : Int32), .unset] [(.int (0 : Int32))])
          refine own_by (fun t_ k_ => XS.istore XT15.here hx rfl (hb hby at_120) rfl (l' := #[oI i0, oI i1, oI i2, oI (2 : Int32), oI z, oR w4, oD (FP.i2d i1), .second, oD (FP.i2d z), .second, oI (1 : Int32), oI (0 : Int32)]) rfl k_) ?_
          show own_Go p e below _ T15 (mkF m 122 #[oI i0, oI i1, oI i2, oI (2 : Int32), oI z, oR w4, oD (FP.i2d i1), .second, oD (FP.i2d z), .second, oI (1 : Int32), oI (0 : Int32)] [])
          refine own_by (fun t_ k_ => XS.goto XT15.here hx rfl (pc0 := 122) (pc' := 177) rfl (hb hby at_122) (by decide) (by decide) k_) ?_
          show own_Go p e below _ T15 (mkF m 177 #[oI i0, oI i1, oI i2, oI (2 : Int32), oI z, oR w4, oD (FP.i2d i1), .second, oD (FP.i2d z), .second, oI (1 : Int32), oI (0 : Int32)] [])
          refine own_by (fun t_ k_ => XS.aload XT15.here hx rfl (hb hby at_177) rfl rfl  k_) ?_
          show own_Go p e below _ T15 (mkF m 179 #[oI i0, oI i1, oI i2, oI (2 : Int32), oI z, oR w4, oD (FP.i2d i1), .second, oD (FP.i2d z), .second, oI (1 : Int32), oI (0 : Int32)] [(.ref w4)])
          refine own_by (fun t_ k_ => XS.dload XT15.here hx rfl (hb hby at_179) rfl  k_) ?_
          show own_Go p e below _ T15 (mkF m 181 #[oI i0, oI i1, oI i2, oI (2 : Int32), oI z, oR w4, oD (FP.i2d i1), .second, oD (FP.i2d z), .second, oI (1 : Int32), oI (0 : Int32)] [(.double (FP.i2d i1)), (.ref w4)])
          refine own_by (fun t_ k_ => XS.dload XT15.here hx rfl (hb hby at_181) rfl  k_) ?_
          show own_Go p e below _ T15 (mkF m 183 #[oI i0, oI i1, oI i2, oI (2 : Int32), oI z, oR w4, oD (FP.i2d i1), .second, oD (FP.i2d z), .second, oI (1 : Int32), oI (0 : Int32)] [(.double (FP.i2d z)), (.double (FP.i2d i1)), (.ref w4)])
          refine own_callV XT15 hx hZ hown (hw _ (List.mem_of_getElem? (i := 8) rfl)) (hw _ (List.mem_of_getElem? (i := 9) rfl)) (hw _ (List.mem_of_getElem? (i := 11) rfl)) (hw _ (List.mem_of_getElem? (i := 10) rfl)) (hw _ (List.mem_of_getElem? (i := 12) rfl)) (hw _ (List.mem_of_getElem? (i := 6) rfl)) (by decide) eT15 (b := w4) E4 (argsL := [(.double (FP.i2d i1)), (.double (FP.i2d z))]) (rest := []) (own_holds_met l Z a0 hw w4 i1 z w2 w3 w4 w5 w6 w7 h0 S) 0 (by decide) (by decide) (by rw [hml]; rfl) (lenOf pd_1 rfl) (Nat.le_of_eq rfl) (hb hby at_183) (by decide) (by decide) (st := [(.double (FP.i2d z)), (.double (FP.i2d i1)), (.ref w4)]) rfl ?_
          intro T20 LT20 vT20 XT20 hQT20
          obtain ⟨rfl, eT20, rfl⟩ := hQT20
          show own_Go p e below _ T20 (mkF m 186 #[oI i0, oI i1, oI i2, oI (2 : Int32), oI z, oR w4, oD (FP.i2d i1), .second, oD (FP.i2d z), .second, oI (1 : Int32), oI (0 : Int32)] [(.int (own_holds w4 i1 z w2 w3 w4 w5 w6 w7))])
          rw [show own_holds w4 i1 z w2 w3 w4 w5 w6 w7 = (0 : Int32) by rw [own_holds, if_neg (F4.ne F2 (by decide)), if_neg (F4.ne F3 (by decide)), if_pos rfl, if_neg (by rw [hc] <;> decide)]]
          show own_Go p e below _ T20 (mkF m 186 #[oI i0, oI i1, oI i2, oI (2 : Int32), oI z, oR w4, oD (FP.i2d i1), .second, oD (FP.i2d z), .second, oI (1 : Int32), oI (0 : Int32)] [(.int (0 : Int32))])
          refine own_by (fun t_ k_ => XS.iload XT20.here hx rfl (hb hby at_186) rfl  k_) ?_
          show own_Go p e below _ T20 (mkF m 188 #[oI i0, oI i1, oI i2, oI (2 : Int32), oI z, oR w4, oD (FP.i2d i1), .second, oD (FP.i2d z), .second, oI (1 : Int32), oI (0 : Int32)] [(.int (0 : Int32)), (.int (0 : Int32))])
          refine own_by (fun t_ k_ => XS.icmpNo XT20.here hx rfl (hb hby at_188) rfl (XT.ii_ne_f (by decide)) k_) ?_
          show own_Go p e below _ T20 (mkF m 191 #[oI i0, oI i1, oI i2, oI (2 : Int32), oI z, oR w4, oD (FP.i2d i1), .second, oD (FP.i2d z), .second, oI (1 : Int32), oI (0 : Int32)] [])
          refine own_by (fun t_ k_ => XT.iconstV XT20.here hx rfl (1 : Int32) (hb hby at_191) (by decide) k_) ?_
          show own_Go p e below _ T20 (mkF m 192 #[oI i0, oI i1, oI i2, oI (2 : Int32), oI z, oR w4, oD (FP.i2d i1), .second, oD (FP.i2d z), .second, oI (1 : Int32), oI (0 : Int32)] [(.int (1 : Int32))])
          refine own_by (fun t_ k_ => XS.goto XT20.here hx rfl (pc0 := 192) (pc' := 196) rfl (hb hby at_192) (by decide) (by decide) k_) ?_
          show own_Go p e below _ T20 (mkF m 196 #[oI i0, oI i1, oI i2, oI (2 : Int32), oI z, oR w4, oD (FP.i2d i1), .second, oD (FP.i2d z), .second, oI (1 : Int32), oI (0 : Int32)] [(.int (1 : Int32))])
          exact own_retN XT20 hx hlk hret (by simp) (w := (1 : Int32)) (hb hby at_196) (by decide) (by decide) (by decide) (⟨rfl, eT20, rfl⟩)
    by_cases c14_20 : (((i0.toUInt32 >>> ((8 : Int32) &&& 31).toUInt32).toInt32) &&& (1 : Int32)) = (0 : Int32)
    · refine own_by (fun t_ k_ => XS.ifYes X0.here hx rfl (pc0 := 14) (pc' := 21) rfl (hb hby at_14) rfl (XT.i0_eq_t c14_20) (by decide) (by decide) k_) ?_
      show own_Go p e below _ T0 (mkF m 21 #[oI i0, oI i1, oI i2, oI (2 : Int32), .unset, .unset, .unset, .unset, .unset, .unset, .unset, .unset] [])
      refine own_by (fun t_ k_ => XS.iloadN X0.here hx rfl (hb hby at_21) rfl  k_) ?_
      show own_Go p e below _ T0 (mkF m 22 #[oI i0, oI i1, oI i2, oI (2 : Int32), .unset, .unset, .unset, .unset, .unset, .unset, .unset, .unset] [(.int i2)])
      exact J _
    · refine own_by (fun t_ k_ => XS.ifNo X0.here hx rfl (hb hby at_14) rfl (XT.i0_eq_f c14_20) k_) ?_
      show own_Go p e below _ T0 (mkF m 17 #[oI i0, oI i1, oI i2, oI (2 : Int32), .unset, .unset, .unset, .unset, .unset, .unset, .unset, .unset] [])
      refine own_by (fun t_ k_ => XS.iloadN X0.here hx rfl (hb hby at_17) rfl  k_) ?_
      show own_Go p e below _ T0 (mkF m 18 #[oI i0, oI i1, oI i2, oI (2 : Int32), .unset, .unset, .unset, .unset, .unset, .unset, .unset, .unset] [(.int i1)])
      refine own_by (fun t_ k_ => XS.goto X0.here hx rfl (pc0 := 18) (pc' := 22) rfl (hb hby at_18) (by decide) (by decide) k_) ?_
      show own_Go p e below _ T0 (mkF m 22 #[oI i0, oI i1, oI i2, oI (2 : Int32), .unset, .unset, .unset, .unset, .unset, .unset, .unset, .unset] [(.int i1)])
      exact J _
  · refine own_by (fun t_ k_ => XS.iloadN X0.here hx rfl (hb hby at_0) rfl  k_) ?_
    show own_Go p e below _ T0 (mkF m 1 #[oI i0, oI i1, oI i2, .unset, .unset, .unset, .unset, .unset, .unset, .unset, .unset, .unset] [(.int i0)])
    refine own_by (fun t_ k_ => X0.ldcI hx hown (mvT hZ (hw _ (List.mem_of_getElem? (i := 0) rfl))) rfl (hb hby at_1) k_) ?_
    show own_Go p e below _ T0 (mkF m 3 #[oI i0, oI i1, oI i2, .unset, .unset, .unset, .unset, .unset, .unset, .unset, .unset, .unset] [(.int (2147483647 : Int32)), (.int i0)])
    refine own_by (fun t_ k_ => XS.iand X0.here hx rfl (hb hby at_3) rfl k_) ?_
    show own_Go p e below _ T0 (mkF m 4 #[oI i0, oI i1, oI i2, .unset, .unset, .unset, .unset, .unset, .unset, .unset, .unset, .unset] [(.int (i0 &&& (2147483647 : Int32)))])
    refine own_by (fun t_ k_ => XT.bipushV X0.here hx rfl (6 : Int32) (hb hby at_4) (by decide) k_) ?_
    show own_Go p e below _ T0 (mkF m 6 #[oI i0, oI i1, oI i2, .unset, .unset, .unset, .unset, .unset, .unset, .unset, .unset, .unset] [(.int (6 : Int32)), (.int (i0 &&& (2147483647 : Int32)))])
    refine own_by (fun t_ k_ => iremM X0 hx rfl (hb hby at_6) rfl (by decide) k_) ?_
    show own_Go p e below _ T0 (mkF m 7 #[oI i0, oI i1, oI i2, .unset, .unset, .unset, .unset, .unset, .unset, .unset, .unset, .unset] [(.int ((i0 &&& (2147483647 : Int32)) % (6 : Int32)))])
    rw [hk]
    show own_Go p e below _ T0 (mkF m 7 #[oI i0, oI i1, oI i2, .unset, .unset, .unset, .unset, .unset, .unset, .unset, .unset, .unset] [(.int (3 : Int32))])
    refine own_by (fun t_ k_ => XS.istoreN X0.here hx rfl (hb hby at_7) rfl (l' := #[oI i0, oI i1, oI i2, oI (3 : Int32), .unset, .unset, .unset, .unset, .unset, .unset, .unset, .unset]) rfl k_) ?_
    show own_Go p e below _ T0 (mkF m 8 #[oI i0, oI i1, oI i2, oI (3 : Int32), .unset, .unset, .unset, .unset, .unset, .unset, .unset, .unset] [])
    refine own_by (fun t_ k_ => XS.iloadN X0.here hx rfl (hb hby at_8) rfl  k_) ?_
    show own_Go p e below _ T0 (mkF m 9 #[oI i0, oI i1, oI i2, oI (3 : Int32), .unset, .unset, .unset, .unset, .unset, .unset, .unset, .unset] [(.int i0)])
    refine own_by (fun t_ k_ => XT.bipushV X0.here hx rfl (8 : Int32) (hb hby at_9) (by decide) k_) ?_
    show own_Go p e below _ T0 (mkF m 11 #[oI i0, oI i1, oI i2, oI (3 : Int32), .unset, .unset, .unset, .unset, .unset, .unset, .unset, .unset] [(.int (8 : Int32)), (.int i0)])
    refine own_by (fun t_ k_ => XT.iushr X0.here hx rfl (hb hby at_11) rfl k_) ?_
    show own_Go p e below _ T0 (mkF m 12 #[oI i0, oI i1, oI i2, oI (3 : Int32), .unset, .unset, .unset, .unset, .unset, .unset, .unset, .unset] [(.int ((i0.toUInt32 >>> ((8 : Int32) &&& 31).toUInt32).toInt32))])
    refine own_by (fun t_ k_ => XT.iconstV X0.here hx rfl (1 : Int32) (hb hby at_12) (by decide) k_) ?_
    show own_Go p e below _ T0 (mkF m 13 #[oI i0, oI i1, oI i2, oI (3 : Int32), .unset, .unset, .unset, .unset, .unset, .unset, .unset, .unset] [(.int (1 : Int32)), (.int ((i0.toUInt32 >>> ((8 : Int32) &&& 31).toUInt32).toInt32))])
    refine own_by (fun t_ k_ => XS.iand X0.here hx rfl (hb hby at_13) rfl k_) ?_
    show own_Go p e below _ T0 (mkF m 14 #[oI i0, oI i1, oI i2, oI (3 : Int32), .unset, .unset, .unset, .unset, .unset, .unset, .unset, .unset] [(.int (((i0.toUInt32 >>> ((8 : Int32) &&& 31).toUInt32).toInt32) &&& (1 : Int32)))])
    have J : ∀ z : Int32, own_Go p e below (own_K s room_1.cells room_1.slots (fun v h L => v = some (.int (1 : Int32)) ∧ h = h0 ∧ L = [])) T0 (mkF m 22 #[oI i0, oI i1, oI i2, oI (3 : Int32), .unset, .unset, .unset, .unset, .unset, .unset, .unset, .unset] [(.int z)]) := by
      intro z
      show own_Go p e below _ T0 (mkF m 22 #[oI i0, oI i1, oI i2, oI (3 : Int32), .unset, .unset, .unset, .unset, .unset, .unset, .unset, .unset] [(.int z)])
      refine own_by (fun t_ k_ => XS.istore X0.here hx rfl (hb hby at_22) rfl (l' := #[oI i0, oI i1, oI i2, oI (3 : Int32), oI z, .unset, .unset, .unset, .unset, .unset, .unset, .unset]) rfl k_) ?_
      show own_Go p e below _ T0 (mkF m 24 #[oI i0, oI i1, oI i2, oI (3 : Int32), oI z, .unset, .unset, .unset, .unset, .unset, .unset, .unset] [])
      refine own_by (fun t_ k_ => XS.iloadN X0.here hx rfl (hb hby at_24) rfl  k_) ?_
      show own_Go p e below _ T0 (mkF m 25 #[oI i0, oI i1, oI i2, oI (3 : Int32), oI z, .unset, .unset, .unset, .unset, .unset, .unset, .unset] [(.int (3 : Int32))])
      refine own_callS X0 hx hZ hown (hw _ (List.mem_of_getElem? (i := 1) rfl)) (hw _ (List.mem_of_getElem? (i := 2) rfl)) (hw _ (List.mem_of_getElem? (i := 3) rfl)) (hw _ (List.mem_of_getElem? (i := 4) rfl)) (by decide) e0 (argsL := [(.int (3 : Int32))]) (rest := []) (own_op_met l Z a0 hw (3 : Int32) w2 w3 w4 w5 w6 w7 h0 S) 0 (by decide) (by decide) (by rw [hml]; rfl) (lenOf pd_0 rfl) (Nat.le_of_eq rfl) (hb hby at_25) (by decide) (by decide) (st := [(.int (3 : Int32))]) rfl ?_
      intro T22 LT22 vT22 XT22 hQT22
      obtain ⟨rfl, eT22, rfl⟩ := hQT22
      show own_Go p e below _ T22 (mkF m 28 #[oI i0, oI i1, oI i2, oI (3 : Int32), oI z, .unset, .unset, .unset, .unset, .unset, .unset, .unset] [(.ref (own_op (3 : Int32) w2 w3 w4 w5 w6 w7))])
      rw [show own_op (3 : Int32) w2 w3 w4 w5 w6 w7 = w5 by rw [own_op, if_neg (by decide), if_neg (by decide), if_neg (by decide), if_pos (by decide)]]
      show own_Go p e below _ T22 (mkF m 28 #[oI i0, oI i1, oI i2, oI (3 : Int32), oI z, .unset, .unset, .unset, .unset, .unset, .unset, .unset] [(.ref w5)])
      refine own_by (fun t_ k_ => XS.astore XT22.here hx rfl (hb hby at_28) rfl rfl (l' := #[oI i0, oI i1, oI i2, oI (3 : Int32), oI z, oR w5, .unset, .unset, .unset, .unset, .unset, .unset]) rfl k_) ?_
      show own_Go p e below _ T22 (mkF m 30 #[oI i0, oI i1, oI i2, oI (3 : Int32), oI z, oR w5, .unset, .unset, .unset, .unset, .unset, .unset] [])
      refine own_by (fun t_ k_ => XS.iloadN XT22.here hx rfl (hb hby at_30) rfl  k_) ?_
      show own_Go p e below _ T22 (mkF m 31 #[oI i0, oI i1, oI i2, oI (3 : Int32), oI z, oR w5, .unset, .unset, .unset, .unset, .unset, .unset] [(.int i1)])
      refine own_by (fun t_ k_ => XS.i2dS XT22.here hx rfl (hb hby at_31) rfl rfl k_) ?_
      show own_Go p e below _ T22 (mkF m 32 #[oI i0, oI i1, oI i2, oI (3 : Int32), oI z, oR w5, .unset, .unset, .unset, .unset, .unset, .unset] [(.double (FP.i2d i1))])
      refine own_by (fun t_ k_ => XS.dstore XT22.here hx rfl (hb hby at_32) rfl (l' := #[oI i0, oI i1, oI i2, oI (3 : Int32), oI z, oR w5, oD (FP.i2d i1), .second, .unset, .unset, .unset, .unset]) rfl k_) ?_
      show own_Go p e below _ T22 (mkF m 34 #[oI i0, oI i1, oI i2, oI (3 : Int32), oI z, oR w5, oD (FP.i2d i1), .second, .unset, .unset, .unset, .unset] [])
      refine own_by (fun t_ k_ => XS.iload XT22.here hx rfl (hb hby at_34) rfl  k_) ?_
      show own_Go p e below _ T22 (mkF m 36 #[oI i0, oI i1, oI i2, oI (3 : Int32), oI z, oR w5, oD (FP.i2d i1), .second, .unset, .unset, .unset, .unset] [(.int z)])
      refine own_by (fun t_ k_ => XS.i2dS XT22.here hx rfl (hb hby at_36) rfl rfl k_) ?_
      show own_Go p e below _ T22 (mkF m 37 #[oI i0, oI i1, oI i2, oI (3 : Int32), oI z, oR w5, oD (FP.i2d i1), .second, .unset, .unset, .unset, .unset] [(.double (FP.i2d z))])
      refine own_by (fun t_ k_ => XS.dstore XT22.here hx rfl (hb hby at_37) rfl (l' := #[oI i0, oI i1, oI i2, oI (3 : Int32), oI z, oR w5, oD (FP.i2d i1), .second, oD (FP.i2d z), .second, .unset, .unset]) rfl k_) ?_
      show own_Go p e below _ T22 (mkF m 39 #[oI i0, oI i1, oI i2, oI (3 : Int32), oI z, oR w5, oD (FP.i2d i1), .second, oD (FP.i2d z), .second, .unset, .unset] [])
      refine own_by (fun t_ k_ => XS.iloadN XT22.here hx rfl (hb hby at_39) rfl  k_) ?_
      show own_Go p e below _ T22 (mkF m 40 #[oI i0, oI i1, oI i2, oI (3 : Int32), oI z, oR w5, oD (FP.i2d i1), .second, oD (FP.i2d z), .second, .unset, .unset] [(.int i1)])
      refine own_by (fun t_ k_ => XS.iload XT22.here hx rfl (hb hby at_40) rfl  k_) ?_
      show own_Go p e below _ T22 (mkF m 42 #[oI i0, oI i1, oI i2, oI (3 : Int32), oI z, oR w5, oD (FP.i2d i1), .second, oD (FP.i2d z), .second, .unset, .unset] [(.int z), (.int i1)])
      by_cases c42_22 : i1 < z
      · refine own_by (fun t_ k_ => XS.icmpNo XT22.here hx rfl (hb hby at_42) rfl (XT.ii_ge_f c42_22) k_) ?_
        show own_Go p e below _ T22 (mkF m 45 #[oI i0, oI i1, oI i2, oI (3 : Int32), oI z, oR w5, oD (FP.i2d i1), .second, oD (FP.i2d z), .second, .unset, .unset] [])
        have hc : own_c3 i1 z = (-1 : Int32) := if_pos c42_22
        refine own_by (fun t_ k_ => XT.iconstV XT22.here hx rfl (-1 : Int32) (hb hby at_45) (by decide) k_) ?_
        show own_Go p e below _ T22 (mkF m 46 #[oI i0, oI i1, oI i2, oI (3 : Int32), oI z, oR w5, oD (FP.i2d i1), .second, oD (FP.i2d z), .second, .unset, .unset] [(.int (-1 : Int32))])
        refine own_by (fun t_ k_ => XS.istore XT22.here hx rfl (hb hby at_46) rfl (l' := #[oI i0, oI i1, oI i2, oI (3 : Int32), oI z, oR w5, oD (FP.i2d i1), .second, oD (FP.i2d z), .second, oI (-1 : Int32), .unset]) rfl k_) ?_
        show own_Go p e below _ T22 (mkF m 48 #[oI i0, oI i1, oI i2, oI (3 : Int32), oI z, oR w5, oD (FP.i2d i1), .second, oD (FP.i2d z), .second, oI (-1 : Int32), .unset] [])
        refine own_by (fun t_ k_ => XS.goto XT22.here hx rfl (pc0 := 48) (pc' := 66) rfl (hb hby at_48) (by decide) (by decide) k_) ?_
        show own_Go p e below _ T22 (mkF m 66 #[oI i0, oI i1, oI i2, oI (3 : Int32), oI z, oR w5, oD (FP.i2d i1), .second, oD (FP.i2d z), .second, oI (-1 : Int32), .unset] [])
        refine own_by (fun t_ k_ => XS.iloadN XT22.here hx rfl (hb hby at_66) rfl  k_) ?_
        show own_Go p e below _ T22 (mkF m 67 #[oI i0, oI i1, oI i2, oI (3 : Int32), oI z, oR w5, oD (FP.i2d i1), .second, oD (FP.i2d z), .second, oI (-1 : Int32), .unset] [(.int (3 : Int32))])
        refine own_by (fun t_ k_ => XS.ifYes XT22.here hx rfl (pc0 := 67) (pc' := 85) rfl (hb hby at_67) rfl (XT.i0_ne_t (by decide)) (by decide) (by decide) k_) ?_
        show own_Go p e below _ T22 (mkF m 85 #[oI i0, oI i1, oI i2, oI (3 : Int32), oI z, oR w5, oD (FP.i2d i1), .second, oD (FP.i2d z), .second, oI (-1 : Int32), .unset] [])
        refine own_by (fun t_ k_ => XS.iloadN XT22.here hx rfl (hb hby at_85) rfl  k_) ?_
        show own_Go p e below _ T22 (mkF m 86 #[oI i0, oI i1, oI i2, oI (3 : Int32), oI z, oR w5, oD (FP.i2d i1), .second, oD (FP.i2d z), .second, oI (-1 : Int32), .unset] [(.int (3 : Int32))])
        refine own_by (fun t_ k_ => XT.iconstV XT22.here hx rfl (1 : Int32) (hb hby at_86) (by decide) k_) ?_
        show own_Go p e below _ T22 (mkF m 87 #[oI i0, oI i1, oI i2, oI (3 : Int32), oI z, oR w5, oD (FP.i2d i1), .second, oD (FP.i2d z), .second, oI (-1 : Int32), .unset] [(.int (1 : Int32)), (.int (3 : Int32))])
        refine own_by (fun t_ k_ => XS.icmpYes XT22.here hx rfl (pc0 := 87) (pc' := 105) rfl (hb hby at_87) rfl (XT.ii_ne_t (by decide)) (by decide) (by decide) k_) ?_
        show own_Go p e below _ T22 (mkF m 105 #[oI i0, oI i1, oI i2, oI (3 : Int32), oI z, oR w5, oD (FP.i2d i1), .second, oD (FP.i2d z), .second, oI (-1 : Int32), .unset] [])
        refine own_by (fun t_ k_ => XS.iloadN XT22.here hx rfl (hb hby at_105) rfl  k_) ?_
        show own_Go p e below _ T22 (mkF m 106 #[oI i0, oI i1, oI i2, oI (3 : Int32), oI z, oR w5, oD (FP.i2d i1), .second, oD (FP.i2d z), .second, oI (-1 : Int32), .unset] [(.int (3 : Int32))])
        refine own_by (fun t_ k_ => XT.iconstV XT22.here hx rfl (2 : Int32) (hb hby at_106) (by decide) k_) ?_
        show own_Go p e below _ T22 (mkF m 107 #[oI i0, oI i1, oI i2, oI (3 : Int32), oI z, oR w5, oD (FP.i2d i1), .second, oD (FP.i2d z), .second, oI (-1 : Int32), .unset] [(.int (2 : Int32)), (.int (3 : Int32))])
        refine own_by (fun t_ k_ => XS.icmpYes XT22.here hx rfl (pc0 := 107) (pc' := 125) rfl (hb hby at_107) rfl (XT.ii_ne_t (by decide)) (by decide) (by decide) k_) ?_
        show own_Go p e below _ T22 (mkF m 125 #[oI i0, oI i1, oI i2, oI (3 : Int32), oI z, oR w5, oD (FP.i2d i1), .second, oD (FP.i2d z), .second, oI (-1 : Int32), .unset] [])
        refine own_by (fun t_ k_ => XS.iloadN XT22.here hx rfl (hb hby at_125) rfl  k_) ?_
        show own_Go p e below _ T22 (mkF m 126 #[oI i0, oI i1, oI i2, oI (3 : Int32), oI z, oR w5, oD (FP.i2d i1), .second, oD (FP.i2d z), .second, oI (-1 : Int32), .unset] [(.int (3 : Int32))])
        refine own_by (fun t_ k_ => XT.iconstV XT22.here hx rfl (3 : Int32) (hb hby at_126) (by decide) k_) ?_
        show own_Go p e below _ T22 (mkF m 127 #[oI i0, oI i1, oI i2, oI (3 : Int32), oI z, oR w5, oD (FP.i2d i1), .second, oD (FP.i2d z), .second, oI (-1 : Int32), .unset] [(.int (3 : Int32)), (.int (3 : Int32))])
        refine own_by (fun t_ k_ => XS.icmpNo XT22.here hx rfl (hb hby at_127) rfl (XT.ii_ne_f (by decide)) k_) ?_
        show own_Go p e below _ T22 (mkF m 130 #[oI i0, oI i1, oI i2, oI (3 : Int32), oI z, oR w5, oD (FP.i2d i1), .second, oD (FP.i2d z), .second, oI (-1 : Int32), .unset] [])
        refine own_by (fun t_ k_ => XS.iload XT22.here hx rfl (hb hby at_130) rfl  k_) ?_
        show own_Go p e below _ T22 (mkF m 132 #[oI i0, oI i1, oI i2, oI (3 : Int32), oI z, oR w5, oD (FP.i2d i1), .second, oD (FP.i2d z), .second, oI (-1 : Int32), .unset] [(.int (-1 : Int32))])
        refine own_by (fun t_ k_ => XS.ifNo XT22.here hx rfl (hb hby at_132) rfl (XT.i0_gt_f (by decide)) k_) ?_
        show own_Go p e below _ T22 (mkF m 135 #[oI i0, oI i1, oI i2, oI (3 : Int32), oI z, oR w5, oD (FP.i2d i1), .second, oD (FP.i2d z), .second, oI (-1 : Int32), .unset] [])
        refine own_by (fun t_ k_ => XT.iconstV XT22.here hx rfl (1 : Int32) (hb hby at_135) (by decide) k_) ?_
        show own_Go p e below _ T22 (mkF m 136 #[oI i0, oI i1, oI i2, oI (3 : Int32), oI z, oR w5, oD (FP.i2d i1), .second, oD (FP.i2d z), .second, oI (-1 : Int32), .unset] [(.int (1 : Int32))])
        refine own_by (fun t_ k_ => XS.goto XT22.here hx rfl (pc0 := 136) (pc' := 140) rfl (hb hby at_136) (by decide) (by decide) k_) ?_
        show own_Go p e below _ T22 (mkF m 140 #[oI i0, oI i1, oI i2, oI (3 : Int32), oI z, oR w5, oD (FP.i2d i1), .second, oD (FP.i2d z), .second, oI (-1 : Int32), .unset] [(.int (1 : Int32))])
        refine own_by (fun t_ k_ => XS.istore XT22.here hx rfl (hb hby at_140) rfl (l' := #[oI i0, oI i1, oI i2, oI (3 : Int32), oI z, oR w5, oD (FP.i2d i1), .second, oD (FP.i2d z), .second, oI (-1 : Int32), oI (1 : Int32)]) rfl k_) ?_
        show own_Go p e below _ T22 (mkF m 142 #[oI i0, oI i1, oI i2, oI (3 : Int32), oI z, oR w5, oD (FP.i2d i1), .second, oD (FP.i2d z), .second, oI (-1 : Int32), oI (1 : Int32)] [])
        refine own_by (fun t_ k_ => XS.goto XT22.here hx rfl (pc0 := 142) (pc' := 177) rfl (hb hby at_142) (by decide) (by decide) k_) ?_
        show own_Go p e below _ T22 (mkF m 177 #[oI i0, oI i1, oI i2, oI (3 : Int32), oI z, oR w5, oD (FP.i2d i1), .second, oD (FP.i2d z), .second, oI (-1 : Int32), oI (1 : Int32)] [])
        refine own_by (fun t_ k_ => XS.aload XT22.here hx rfl (hb hby at_177) rfl rfl  k_) ?_
        show own_Go p e below _ T22 (mkF m 179 #[oI i0, oI i1, oI i2, oI (3 : Int32), oI z, oR w5, oD (FP.i2d i1), .second, oD (FP.i2d z), .second, oI (-1 : Int32), oI (1 : Int32)] [(.ref w5)])
        refine own_by (fun t_ k_ => XS.dload XT22.here hx rfl (hb hby at_179) rfl  k_) ?_
        show own_Go p e below _ T22 (mkF m 181 #[oI i0, oI i1, oI i2, oI (3 : Int32), oI z, oR w5, oD (FP.i2d i1), .second, oD (FP.i2d z), .second, oI (-1 : Int32), oI (1 : Int32)] [(.double (FP.i2d i1)), (.ref w5)])
        refine own_by (fun t_ k_ => XS.dload XT22.here hx rfl (hb hby at_181) rfl  k_) ?_
        show own_Go p e below _ T22 (mkF m 183 #[oI i0, oI i1, oI i2, oI (3 : Int32), oI z, oR w5, oD (FP.i2d i1), .second, oD (FP.i2d z), .second, oI (-1 : Int32), oI (1 : Int32)] [(.double (FP.i2d z)), (.double (FP.i2d i1)), (.ref w5)])
        refine own_callV XT22 hx hZ hown (hw _ (List.mem_of_getElem? (i := 8) rfl)) (hw _ (List.mem_of_getElem? (i := 9) rfl)) (hw _ (List.mem_of_getElem? (i := 11) rfl)) (hw _ (List.mem_of_getElem? (i := 10) rfl)) (hw _ (List.mem_of_getElem? (i := 12) rfl)) (hw _ (List.mem_of_getElem? (i := 6) rfl)) (by decide) eT22 (b := w5) E5 (argsL := [(.double (FP.i2d i1)), (.double (FP.i2d z))]) (rest := []) (own_holds_met l Z a0 hw w5 i1 z w2 w3 w4 w5 w6 w7 h0 S) 0 (by decide) (by decide) (by rw [hml]; rfl) (lenOf pd_1 rfl) (Nat.le_of_eq rfl) (hb hby at_183) (by decide) (by decide) (st := [(.double (FP.i2d z)), (.double (FP.i2d i1)), (.ref w5)]) rfl ?_
        intro T24 LT24 vT24 XT24 hQT24
        obtain ⟨rfl, eT24, rfl⟩ := hQT24
        show own_Go p e below _ T24 (mkF m 186 #[oI i0, oI i1, oI i2, oI (3 : Int32), oI z, oR w5, oD (FP.i2d i1), .second, oD (FP.i2d z), .second, oI (-1 : Int32), oI (1 : Int32)] [(.int (own_holds w5 i1 z w2 w3 w4 w5 w6 w7))])
        rw [show own_holds w5 i1 z w2 w3 w4 w5 w6 w7 = (1 : Int32) by rw [own_holds, if_neg (F5.ne F2 (by decide)), if_neg (F5.ne F3 (by decide)), if_neg (F5.ne F4 (by decide)), if_pos rfl, if_neg (by rw [hc] <;> decide)]]
        show own_Go p e below _ T24 (mkF m 186 #[oI i0, oI i1, oI i2, oI (3 : Int32), oI z, oR w5, oD (FP.i2d i1), .second, oD (FP.i2d z), .second, oI (-1 : Int32), oI (1 : Int32)] [(.int (1 : Int32))])
        refine own_by (fun t_ k_ => XS.iload XT24.here hx rfl (hb hby at_186) rfl  k_) ?_
        show own_Go p e below _ T24 (mkF m 188 #[oI i0, oI i1, oI i2, oI (3 : Int32), oI z, oR w5, oD (FP.i2d i1), .second, oD (FP.i2d z), .second, oI (-1 : Int32), oI (1 : Int32)] [(.int (1 : Int32)), (.int (1 : Int32))])
        refine own_by (fun t_ k_ => XS.icmpNo XT24.here hx rfl (hb hby at_188) rfl (XT.ii_ne_f (by decide)) k_) ?_
        show own_Go p e below _ T24 (mkF m 191 #[oI i0, oI i1, oI i2, oI (3 : Int32), oI z, oR w5, oD (FP.i2d i1), .second, oD (FP.i2d z), .second, oI (-1 : Int32), oI (1 : Int32)] [])
        refine own_by (fun t_ k_ => XT.iconstV XT24.here hx rfl (1 : Int32) (hb hby at_191) (by decide) k_) ?_
        show own_Go p e below _ T24 (mkF m 192 #[oI i0, oI i1, oI i2, oI (3 : Int32), oI z, oR w5, oD (FP.i2d i1), .second, oD (FP.i2d z), .second, oI (-1 : Int32), oI (1 : Int32)] [(.int (1 : Int32))])
        refine own_by (fun t_ k_ => XS.goto XT24.here hx rfl (pc0 := 192) (pc' := 196) rfl (hb hby at_192) (by decide) (by decide) k_) ?_
        show own_Go p e below _ T24 (mkF m 196 #[oI i0, oI i1, oI i2, oI (3 : Int32), oI z, oR w5, oD (FP.i2d i1), .second, oD (FP.i2d z), .second, oI (-1 : Int32), oI (1 : Int32)] [(.int (1 : Int32))])
        exact own_retN XT24 hx hlk hret (by simp) (w := (1 : Int32)) (hb hby at_196) (by decide) (by decide) (by decide) (⟨rfl, eT24, rfl⟩)
      · refine own_by (fun t_ k_ => XS.icmpYes XT22.here hx rfl (pc0 := 42) (pc' := 51) rfl (hb hby at_42) rfl (XT.ii_ge_t c42_22) (by decide) (by decide) k_) ?_
        show own_Go p e below _ T22 (mkF m 51 #[oI i0, oI i1, oI i2, oI (3 : Int32), oI z, oR w5, oD (FP.i2d i1), .second, oD (FP.i2d z), .second, .unset, .unset] [])
        refine own_by (fun t_ k_ => XS.iloadN XT22.here hx rfl (hb hby at_51) rfl  k_) ?_
        show own_Go p e below _ T22 (mkF m 52 #[oI i0, oI i1, oI i2, oI (3 : Int32), oI z, oR w5, oD (FP.i2d i1), .second, oD (FP.i2d z), .second, .unset, .unset] [(.int i1)])
        refine own_by (fun t_ k_ => XS.iload XT22.here hx rfl (hb hby at_52) rfl  k_) ?_
        show own_Go p e below _ T22 (mkF m 54 #[oI i0, oI i1, oI i2, oI (3 : Int32), oI z, oR w5, oD (FP.i2d i1), .second, oD (FP.i2d z), .second, .unset, .unset] [(.int z), (.int i1)])
        by_cases c54_24 : i1 = z
        · refine own_by (fun t_ k_ => XS.icmpNo XT22.here hx rfl (hb hby at_54) rfl (XT.ii_ne_f c54_24) k_) ?_
          show own_Go p e below _ T22 (mkF m 57 #[oI i0, oI i1, oI i2, oI (3 : Int32), oI z, oR w5, oD (FP.i2d i1), .second, oD (FP.i2d z), .second, .unset, .unset] [])
          have hc : own_c3 i1 z = (0 : Int32) := by rw [own_c3, if_neg c42_22, if_pos c54_24]
          refine own_by (fun t_ k_ => XT.iconstV XT22.here hx rfl (0 : Int32) (hb hby at_57) (by decide) k_) ?_
          show own_Go p e below _ T22 (mkF m 58 #[oI i0, oI i1, oI i2, oI (3 : Int32), oI z, oR w5, oD (FP.i2d i1), .second, oD (FP.i2d z), .second, .unset, .unset] [(.int (0 : Int32))])
          refine own_by (fun t_ k_ => XS.istore XT22.here hx rfl (hb hby at_58) rfl (l' := #[oI i0, oI i1, oI i2, oI (3 : Int32), oI z, oR w5, oD (FP.i2d i1), .second, oD (FP.i2d z), .second, oI (0 : Int32), .unset]) rfl k_) ?_
          show own_Go p e below _ T22 (mkF m 60 #[oI i0, oI i1, oI i2, oI (3 : Int32), oI z, oR w5, oD (FP.i2d i1), .second, oD (FP.i2d z), .second, oI (0 : Int32), .unset] [])
          refine own_by (fun t_ k_ => XS.goto XT22.here hx rfl (pc0 := 60) (pc' := 66) rfl (hb hby at_60) (by decide) (by decide) k_) ?_
          show own_Go p e below _ T22 (mkF m 66 #[oI i0, oI i1, oI i2, oI (3 : Int32), oI z, oR w5, oD (FP.i2d i1), .second, oD (FP.i2d z), .second, oI (0 : Int32), .unset] [])
          refine own_by (fun t_ k_ => XS.iloadN XT22.here hx rfl (hb hby at_66) rfl  k_) ?_
          show own_Go p e below _ T22 (mkF m 67 #[oI i0, oI i1, oI i2, oI (3 : Int32), oI z, oR w5, oD (FP.i2d i1), .second, oD (FP.i2d z), .second, oI (0 : Int32), .unset] [(.int (3 : Int32))])
          refine own_by (fun t_ k_ => XS.ifYes XT22.here hx rfl (pc0 := 67) (pc' := 85) rfl (hb hby at_67) rfl (XT.i0_ne_t (by decide)) (by decide) (by decide) k_) ?_
          show own_Go p e below _ T22 (mkF m 85 #[oI i0, oI i1, oI i2, oI (3 : Int32), oI z, oR w5, oD (FP.i2d i1), .second, oD (FP.i2d z), .second, oI (0 : Int32), .unset] [])
          refine own_by (fun t_ k_ => XS.iloadN XT22.here hx rfl (hb hby at_85) rfl  k_) ?_
          show own_Go p e below _ T22 (mkF m 86 #[oI i0, oI i1, oI i2, oI (3 : Int32), oI z, oR w5, oD (FP.i2d i1), .second, oD (FP.i2d z), .second, oI (0 : Int32), .unset] [(.int (3 : Int32))])
          refine own_by (fun t_ k_ => XT.iconstV XT22.here hx rfl (1 : Int32) (hb hby at_86) (by decide) k_) ?_
          show own_Go p e below _ T22 (mkF m 87 #[oI i0, oI i1, oI i2, oI (3 : Int32), oI z, oR w5, oD (FP.i2d i1), .second, oD (FP.i2d z), .second, oI (0 : Int32), .unset] [(.int (1 : Int32)), (.int (3 : Int32))])
          refine own_by (fun t_ k_ => XS.icmpYes XT22.here hx rfl (pc0 := 87) (pc' := 105) rfl (hb hby at_87) rfl (XT.ii_ne_t (by decide)) (by decide) (by decide) k_) ?_
          show own_Go p e below _ T22 (mkF m 105 #[oI i0, oI i1, oI i2, oI (3 : Int32), oI z, oR w5, oD (FP.i2d i1), .second, oD (FP.i2d z), .second, oI (0 : Int32), .unset] [])
          refine own_by (fun t_ k_ => XS.iloadN XT22.here hx rfl (hb hby at_105) rfl  k_) ?_
          show own_Go p e below _ T22 (mkF m 106 #[oI i0, oI i1, oI i2, oI (3 : Int32), oI z, oR w5, oD (FP.i2d i1), .second, oD (FP.i2d z), .second, oI (0 : Int32), .unset] [(.int (3 : Int32))])
          refine own_by (fun t_ k_ => XT.iconstV XT22.here hx rfl (2 : Int32) (hb hby at_106) (by decide) k_) ?_
          show own_Go p e below _ T22 (mkF m 107 #[oI i0, oI i1, oI i2, oI (3 : Int32), oI z, oR w5, oD (FP.i2d i1), .second, oD (FP.i2d z), .second, oI (0 : Int32), .unset] [(.int (2 : Int32)), (.int (3 : Int32))])
          refine own_by (fun t_ k_ => XS.icmpYes XT22.here hx rfl (pc0 := 107) (pc' := 125) rfl (hb hby at_107) rfl (XT.ii_ne_t (by decide)) (by decide) (by decide) k_) ?_
          show own_Go p e below _ T22 (mkF m 125 #[oI i0, oI i1, oI i2, oI (3 : Int32), oI z, oR w5, oD (FP.i2d i1), .second, oD (FP.i2d z), .second, oI (0 : Int32), .unset] [])
          refine own_by (fun t_ k_ => XS.iloadN XT22.here hx rfl (hb hby at_125) rfl  k_) ?_
          show own_Go p e below _ T22 (mkF m 126 #[oI i0, oI i1, oI i2, oI (3 : Int32), oI z, oR w5, oD (FP.i2d i1), .second, oD (FP.i2d z), .second, oI (0 : Int32), .unset] [(.int (3 : Int32))])
          refine own_by (fun t_ k_ => XT.iconstV XT22.here hx rfl (3 : Int32) (hb hby at_126) (by decide) k_) ?_
          show own_Go p e below _ T22 (mkF m 127 #[oI i0, oI i1, oI i2, oI (3 : Int32), oI z, oR w5, oD (FP.i2d i1), .second, oD (FP.i2d z), .second, oI (0 : Int32), .unset] [(.int (3 : Int32)), (.int (3 : Int32))])
          refine own_by (fun t_ k_ => XS.icmpNo XT22.here hx rfl (hb hby at_127) rfl (XT.ii_ne_f (by decide)) k_) ?_
          show own_Go p e below _ T22 (mkF m 130 #[oI i0, oI i1, oI i2, oI (3 : Int32), oI z, oR w5, oD (FP.i2d i1), .second, oD (FP.i2d z), .second, oI (0 : Int32), .unset] [])
          refine own_by (fun t_ k_ => XS.iload XT22.here hx rfl (hb hby at_130) rfl  k_) ?_
          show own_Go p e below _ T22 (mkF m 132 #[oI i0, oI i1, oI i2, oI (3 : Int32), oI z, oR w5, oD (FP.i2d i1), .second, oD (FP.i2d z), .second, oI (0 : Int32), .unset] [(.int (0 : Int32))])
          refine own_by (fun t_ k_ => XS.ifNo XT22.here hx rfl (hb hby at_132) rfl (XT.i0_gt_f (by decide)) k_) ?_
          show own_Go p e below _ T22 (mkF m 135 #[oI i0, oI i1, oI i2, oI (3 : Int32), oI z, oR w5, oD (FP.i2d i1), .second, oD (FP.i2d z), .second, oI (0 : Int32), .unset] [])
          refine own_by (fun t_ k_ => XT.iconstV XT22.here hx rfl (1 : Int32) (hb hby at_135) (by decide) k_) ?_
          show own_Go p e below _ T22 (mkF m 136 #[oI i0, oI i1, oI i2, oI (3 : Int32), oI z, oR w5, oD (FP.i2d i1), .second, oD (FP.i2d z), .second, oI (0 : Int32), .unset] [(.int (1 : Int32))])
          refine own_by (fun t_ k_ => XS.goto XT22.here hx rfl (pc0 := 136) (pc' := 140) rfl (hb hby at_136) (by decide) (by decide) k_) ?_
          show own_Go p e below _ T22 (mkF m 140 #[oI i0, oI i1, oI i2, oI (3 : Int32), oI z, oR w5, oD (FP.i2d i1), .second, oD (FP.i2d z), .second, oI (0 : Int32), .unset] [(.int (1 : Int32))])
          refine own_by (fun t_ k_ => XS.istore XT22.here hx rfl (hb hby at_140) rfl (l' := #[oI i0, oI i1, oI i2, oI (3 : Int32), oI z, oR w5, oD (FP.i2d i1), .second, oD (FP.i2d z), .second, oI (0 : Int32), oI (1 : Int32)]) rfl k_) ?_
          show own_Go p e below _ T22 (mkF m 142 #[oI i0, oI i1, oI i2, oI (3 : Int32), oI z, oR w5, oD (FP.i2d i1), .second, oD (FP.i2d z), .second, oI (0 : Int32), oI (1 : Int32)] [])
          refine own_by (fun t_ k_ => XS.goto XT22.here hx rfl (pc0 := 142) (pc' := 177) rfl (hb hby at_142) (by decide) (by decide) k_) ?_
          show own_Go p e below _ T22 (mkF m 177 #[oI i0, oI i1, oI i2, oI (3 : Int32), oI z, oR w5, oD (FP.i2d i1), .second, oD (FP.i2d z), .second, oI (0 : Int32), oI (1 : Int32)] [])
          refine own_by (fun t_ k_ => XS.aload XT22.here hx rfl (hb hby at_177) rfl rfl  k_) ?_
          show own_Go p e below _ T22 (mkF m 179 #[oI i0, oI i1, oI i2, oI (3 : Int32), oI z, oR w5, oD (FP.i2d i1), .second, oD (FP.i2d z), .second, oI (0 : Int32), oI (1 : Int32)] [(.ref w5)])
          refine own_by (fun t_ k_ => XS.dload XT22.here hx rfl (hb hby at_179) rfl  k_) ?_
          show own_Go p e below _ T22 (mkF m 181 #[oI i0, oI i1, oI i2, oI (3 : Int32), oI z, oR w5, oD (FP.i2d i1), .second, oD (FP.i2d z), .second, oI (0 : Int32), oI (1 : Int32)] [(.double (FP.i2d i1)), (.ref w5)])
          refine own_by (fun t_ k_ => XS.dload XT22.here hx rfl (hb hby at_181) rfl  k_) ?_
          show own_Go p e below _ T22 (mkF m 183 #[oI i0, oI i1, oI i2, oI (3 : Int32), oI z, oR w5, oD (FP.i2d i1), .second, oD (FP.i2d z), .second, oI (0 : Int32), oI (1 : Int32)] [(.double (FP.i2d z)), (.double (FP.i2d i1)), (.ref w5)])
          refine own_callV XT22 hx hZ hown (hw _ (List.mem_of_getElem? (i := 8) rfl)) (hw _ (List.mem_of_getElem? (i := 9) rfl)) (hw _ (List.mem_of_getElem? (i := 11) rfl)) (hw _ (List.mem_of_getElem? (i := 10) rfl)) (hw _ (List.mem_of_getElem? (i := 12) rfl)) (hw _ (List.mem_of_getElem? (i := 6) rfl)) (by decide) eT22 (b := w5) E5 (argsL := [(.double (FP.i2d i1)), (.double (FP.i2d z))]) (rest := []) (own_holds_met l Z a0 hw w5 i1 z w2 w3 w4 w5 w6 w7 h0 S) 0 (by decide) (by decide) (by rw [hml]; rfl) (lenOf pd_1 rfl) (Nat.le_of_eq rfl) (hb hby at_183) (by decide) (by decide) (st := [(.double (FP.i2d z)), (.double (FP.i2d i1)), (.ref w5)]) rfl ?_
          intro T26 LT26 vT26 XT26 hQT26
          obtain ⟨rfl, eT26, rfl⟩ := hQT26
          show own_Go p e below _ T26 (mkF m 186 #[oI i0, oI i1, oI i2, oI (3 : Int32), oI z, oR w5, oD (FP.i2d i1), .second, oD (FP.i2d z), .second, oI (0 : Int32), oI (1 : Int32)] [(.int (own_holds w5 i1 z w2 w3 w4 w5 w6 w7))])
          rw [show own_holds w5 i1 z w2 w3 w4 w5 w6 w7 = (1 : Int32) by rw [own_holds, if_neg (F5.ne F2 (by decide)), if_neg (F5.ne F3 (by decide)), if_neg (F5.ne F4 (by decide)), if_pos rfl, if_neg (by rw [hc] <;> decide)]]
          show own_Go p e below _ T26 (mkF m 186 #[oI i0, oI i1, oI i2, oI (3 : Int32), oI z, oR w5, oD (FP.i2d i1), .second, oD (FP.i2d z), .second, oI (0 : Int32), oI (1 : Int32)] [(.int (1 : Int32))])
          refine own_by (fun t_ k_ => XS.iload XT26.here hx rfl (hb hby at_186) rfl  k_) ?_
          show own_Go p e below _ T26 (mkF m 188 #[oI i0, oI i1, oI i2, oI (3 : Int32), oI z, oR w5, oD (FP.i2d i1), .second, oD (FP.i2d z), .second, oI (0 : Int32), oI (1 : Int32)] [(.int (1 : Int32)), (.int (1 : Int32))])
          refine own_by (fun t_ k_ => XS.icmpNo XT26.here hx rfl (hb hby at_188) rfl (XT.ii_ne_f (by decide)) k_) ?_
          show own_Go p e below _ T26 (mkF m 191 #[oI i0, oI i1, oI i2, oI (3 : Int32), oI z, oR w5, oD (FP.i2d i1), .second, oD (FP.i2d z), .second, oI (0 : Int32), oI (1 : Int32)] [])
          refine own_by (fun t_ k_ => XT.iconstV XT26.here hx rfl (1 : Int32) (hb hby at_191) (by decide) k_) ?_
          show own_Go p e below _ T26 (mkF m 192 #[oI i0, oI i1, oI i2, oI (3 : Int32), oI z, oR w5, oD (FP.i2d i1), .second, oD (FP.i2d z), .second, oI (0 : Int32), oI (1 : Int32)] [(.int (1 : Int32))])
          refine own_by (fun t_ k_ => XS.goto XT26.here hx rfl (pc0 := 192) (pc' := 196) rfl (hb hby at_192) (by decide) (by decide) k_) ?_
          show own_Go p e below _ T26 (mkF m 196 #[oI i0, oI i1, oI i2, oI (3 : Int32), oI z, oR w5, oD (FP.i2d i1), .second, oD (FP.i2d z), .second, oI (0 : Int32), oI (1 : Int32)] [(.int (1 : Int32))])
          exact own_retN XT26 hx hlk hret (by simp) (w := (1 : Int32)) (hb hby at_196) (by decide) (by decide) (by decide) (⟨rfl, eT26, rfl⟩)
        · refine own_by (fun t_ k_ => XS.icmpYes XT22.here hx rfl (pc0 := 54) (pc' := 63) rfl (hb hby at_54) rfl (XT.ii_ne_t c54_24) (by decide) (by decide) k_) ?_
          show own_Go p e below _ T22 (mkF m 63 #[oI i0, oI i1, oI i2, oI (3 : Int32), oI z, oR w5, oD (FP.i2d i1), .second, oD (FP.i2d z), .second, .unset, .unset] [])
          have hc : own_c3 i1 z = (1 : Int32) := by rw [own_c3, if_neg c42_22, if_neg c54_24]
          refine own_by (fun t_ k_ => XT.iconstV XT22.here hx rfl (1 : Int32) (hb hby at_63) (by decide) k_) ?_
          show own_Go p e below _ T22 (mkF m 64 #[oI i0, oI i1, oI i2, oI (3 : Int32), oI z, oR w5, oD (FP.i2d i1), .second, oD (FP.i2d z), .second, .unset, .unset] [(.int (1 : Int32))])
          refine own_by (fun t_ k_ => XS.istore XT22.here hx rfl (hb hby at_64) rfl (l' := #[oI i0, oI i1, oI i2, oI (3 : Int32), oI z, oR w5, oD (FP.i2d i1), .second, oD (FP.i2d z), .second, oI (1 : Int32), .unset]) rfl k_) ?_
          show own_Go p e below _ T22 (mkF m 66 #[oI i0, oI i1, oI i2, oI (3 : Int32), oI z, oR w5, oD (FP.i2d i1), .second, oD (FP.i2d z), .second, oI (1 : Int32), .unset] [])
          refine own_by (fun t_ k_ => XS.iloadN XT22.here hx rfl (hb hby at_66) rfl  k_) ?_
          show own_Go p e below _ T22 (mkF m 67 #[oI i0, oI i1, oI i2, oI (3 : Int32), oI z, oR w5, oD (FP.i2d i1), .second, oD (FP.i2d z), .second, oI (1 : Int32), .unset] [(.int (3 : Int32))])
          refine own_by (fun t_ k_ => XS.ifYes XT22.here hx rfl (pc0 := 67) (pc' := 85) rfl (hb hby at_67) rfl (XT.i0_ne_t (by decide)) (by decide) (by decide) k_) ?_
          show own_Go p e below _ T22 (mkF m 85 #[oI i0, oI i1, oI i2, oI (3 : Int32), oI z, oR w5, oD (FP.i2d i1), .second, oD (FP.i2d z), .second, oI (1 : Int32), .unset] [])
          refine own_by (fun t_ k_ => XS.iloadN XT22.here hx rfl (hb hby at_85) rfl  k_) ?_
          show own_Go p e below _ T22 (mkF m 86 #[oI i0, oI i1, oI i2, oI (3 : Int32), oI z, oR w5, oD (FP.i2d i1), .second, oD (FP.i2d z), .second, oI (1 : Int32), .unset] [(.int (3 : Int32))])
          refine own_by (fun t_ k_ => XT.iconstV XT22.here hx rfl (1 : Int32) (hb hby at_86) (by decide) k_) ?_
          show own_Go p e below _ T22 (mkF m 87 #[oI i0, oI i1, oI i2, oI (3 : Int32), oI z, oR w5, oD (FP.i2d i1), .second, oD (FP.i2d z), .second, oI (1 : Int32), .unset] [(.int (1 : Int32)), (.int (3 : Int32))])
          refine own_by (fun t_ k_ => XS.icmpYes XT22.here hx rfl (pc0 := 87) (pc' := 105) rfl (hb hby at_87) rfl (XT.ii_ne_t (by decide)) (by decide) (by decide) k_) ?_
          show own_Go p e below _ T22 (mkF m 105 #[oI i0, oI i1, oI i2, oI (3 : Int32), oI z, oR w5, oD (FP.i2d i1), .second, oD (FP.i2d z), .second, oI (1 : Int32), .unset] [])
          refine own_by (fun t_ k_ => XS.iloadN XT22.here hx rfl (hb hby at_105) rfl  k_) ?_
          show own_Go p e below _ T22 (mkF m 106 #[oI i0, oI i1, oI i2, oI (3 : Int32), oI z, oR w5, oD (FP.i2d i1), .second, oD (FP.i2d z), .second, oI (1 : Int32), .unset] [(.int (3 : Int32))])
          refine own_by (fun t_ k_ => XT.iconstV XT22.here hx rfl (2 : Int32) (hb hby at_106) (by decide) k_) ?_
          show own_Go p e below _ T22 (mkF m 107 #[oI i0, oI i1, oI i2, oI (3 : Int32), oI z, oR w5, oD (FP.i2d i1), .second, oD (FP.i2d z), .second, oI (1 : Int32), .unset] [(.int (2 : Int32)), (.int (3 : Int32))])
          refine own_by (fun t_ k_ => XS.icmpYes XT22.here hx rfl (pc0 := 107) (pc' := 125) rfl (hb hby at_107) rfl (XT.ii_ne_t (by decide)) (by decide) (by decide) k_) ?_
          show own_Go p e below _ T22 (mkF m 125 #[oI i0, oI i1, oI i2, oI (3 : Int32), oI z, oR w5, oD (FP.i2d i1), .second, oD (FP.i2d z), .second, oI (1 : Int32), .unset] [])
          refine own_by (fun t_ k_ => XS.iloadN XT22.here hx rfl (hb hby at_125) rfl  k_) ?_
          show own_Go p e below _ T22 (mkF m 126 #[oI i0, oI i1, oI i2, oI (3 : Int32), oI z, oR w5, oD (FP.i2d i1), .second, oD (FP.i2d z), .second, oI (1 : Int32), .unset] [(.int (3 : Int32))])
          refine own_by (fun t_ k_ => XT.iconstV XT22.here hx rfl (3 : Int32) (hb hby at_126) (by decide) k_) ?_
          show own_Go p e below _ T22 (mkF m 127 #[oI i0, oI i1, oI i2, oI (3 : Int32), oI z, oR w5, oD (FP.i2d i1), .second, oD (FP.i2d z), .second, oI (1 : Int32), .unset] [(.int (3 : Int32)), (.int (3 : Int32))])
          refine own_by (fun t_ k_ => XS.icmpNo XT22.here hx rfl (hb hby at_127) rfl (XT.ii_ne_f (by decide)) k_) ?_
          show own_Go p e below _ T22 (mkF m 130 #[oI i0, oI i1, oI i2, oI (3 : Int32), oI z, oR w5, oD (FP.i2d i1), .second, oD (FP.i2d z), .second, oI (1 : Int32), .unset] [])
          refine own_by (fun t_ k_ => XS.iload XT22.here hx rfl (hb hby at_130) rfl  k_) ?_
          show own_Go p e below _ T22 (mkF m 132 #[oI i0, oI i1, oI i2, oI (3 : Int32), oI z, oR w5, oD (FP.i2d i1), .second, oD (FP.i2d z), .second, oI (1 : Int32), .unset] [(.int (1 : Int32))])
          refine own_by (fun t_ k_ => XS.ifYes XT22.here hx rfl (pc0 := 132) (pc' := 139) rfl (hb hby at_132) rfl (XT.i0_gt_t (by decide)) (by decide) (by decide) k_) ?_
          show own_Go p e below _ T22 (mkF m 139 #[oI i0, oI i1, oI i2, oI (3 : Int32), oI z, oR w5, oD (FP.i2d i1), .second, oD (FP.i2d z), .second, oI (1 : Int32), .unset] [])
          refine own_by (fun t_ k_ => XT.iconstV XT22.here hx rfl (0 : Int32) (hb hby at_139) (by decide) k_) ?_
          show own_Go p e below _ T22 (mkF m 140 #[oI i0, oI i1, oI i2, oI (3 : Int32), oI z, oR w5, oD (FP.i2d i1), .second, oD (FP.i2d z), .second, oI (1 : Int32), .unset] [(.int (0 : Int32))])
          refine own_by (fun t_ k_ => XS.istore XT22.here hx rfl (hb hby at_140) rfl (l' := #[oI i0, oI i1, oI i2, oI (3 : Int32), oI z, oR w5, oD (FP.i2d i1), .second, oD (FP.i2d z), .second, oI (1 : Int32), oI (0 : Int32)]) rfl k_) ?_
          show own_Go p e below _ T22 (mkF m 142 #[oI i0, oI i1, oI i2, oI (3 : Int32), oI z, oR w5, oD (FP.i2d i1), .second, oD (FP.i2d z), .second, oI (1 : Int32), oI (0 : Int32)] [])
          refine own_by (fun t_ k_ => XS.goto XT22.here hx rfl (pc0 := 142) (pc' := 177) rfl (hb hby at_142) (by decide) (by decide) k_) ?_
          show own_Go p e below _ T22 (mkF m 177 #[oI i0, oI i1, oI i2, oI (3 : Int32), oI z, oR w5, oD (FP.i2d i1), .second, oD (FP.i2d z), .second, oI (1 : Int32), oI (0 : Int32)] [])
          refine own_by (fun t_ k_ => XS.aload XT22.here hx rfl (hb hby at_177) rfl rfl  k_) ?_
          show own_Go p e below _ T22 (mkF m 179 #[oI i0, oI i1, oI i2, oI (3 : Int32), oI z, oR w5, oD (FP.i2d i1), .second, oD (FP.i2d z), .second, oI (1 : Int32), oI (0 : Int32)] [(.ref w5)])
          refine own_by (fun t_ k_ => XS.dload XT22.here hx rfl (hb hby at_179) rfl  k_) ?_
          show own_Go p e below _ T22 (mkF m 181 #[oI i0, oI i1, oI i2, oI (3 : Int32), oI z, oR w5, oD (FP.i2d i1), .second, oD (FP.i2d z), .second, oI (1 : Int32), oI (0 : Int32)] [(.double (FP.i2d i1)), (.ref w5)])
          refine own_by (fun t_ k_ => XS.dload XT22.here hx rfl (hb hby at_181) rfl  k_) ?_
          show own_Go p e below _ T22 (mkF m 183 #[oI i0, oI i1, oI i2, oI (3 : Int32), oI z, oR w5, oD (FP.i2d i1), .second, oD (FP.i2d z), .second, oI (1 : Int32), oI (0 : Int32)] [(.double (FP.i2d z)), (.double (FP.i2d i1)), (.ref w5)])
          refine own_callV XT22 hx hZ hown (hw _ (List.mem_of_getElem? (i := 8) rfl)) (hw _ (List.mem_of_getElem? (i := 9) rfl)) (hw _ (List.mem_of_getElem? (i := 11) rfl)) (hw _ (List.mem_of_getElem? (i := 10) rfl)) (hw _ (List.mem_of_getElem? (i := 12) rfl)) (hw _ (List.mem_of_getElem? (i := 6) rfl)) (by decide) eT22 (b := w5) E5 (argsL := [(.double (FP.i2d i1)), (.double (FP.i2d z))]) (rest := []) (own_holds_met l Z a0 hw w5 i1 z w2 w3 w4 w5 w6 w7 h0 S) 0 (by decide) (by decide) (by rw [hml]; rfl) (lenOf pd_1 rfl) (Nat.le_of_eq rfl) (hb hby at_183) (by decide) (by decide) (st := [(.double (FP.i2d z)), (.double (FP.i2d i1)), (.ref w5)]) rfl ?_
          intro T27 LT27 vT27 XT27 hQT27
          obtain ⟨rfl, eT27, rfl⟩ := hQT27
          show own_Go p e below _ T27 (mkF m 186 #[oI i0, oI i1, oI i2, oI (3 : Int32), oI z, oR w5, oD (FP.i2d i1), .second, oD (FP.i2d z), .second, oI (1 : Int32), oI (0 : Int32)] [(.int (own_holds w5 i1 z w2 w3 w4 w5 w6 w7))])
          rw [show own_holds w5 i1 z w2 w3 w4 w5 w6 w7 = (0 : Int32) by rw [own_holds, if_neg (F5.ne F2 (by decide)), if_neg (F5.ne F3 (by decide)), if_neg (F5.ne F4 (by decide)), if_pos rfl, if_pos (by rw [hc] <;> decide)]]
          show own_Go p e below _ T27 (mkF m 186 #[oI i0, oI i1, oI i2, oI (3 : Int32), oI z, oR w5, oD (FP.i2d i1), .second, oD (FP.i2d z), .second, oI (1 : Int32), oI (0 : Int32)] [(.int (0 : Int32))])
          refine own_by (fun t_ k_ => XS.iload XT27.here hx rfl (hb hby at_186) rfl  k_) ?_
          show own_Go p e below _ T27 (mkF m 188 #[oI i0, oI i1, oI i2, oI (3 : Int32), oI z, oR w5, oD (FP.i2d i1), .second, oD (FP.i2d z), .second, oI (1 : Int32), oI (0 : Int32)] [(.int (0 : Int32)), (.int (0 : Int32))])
          refine own_by (fun t_ k_ => XS.icmpNo XT27.here hx rfl (hb hby at_188) rfl (XT.ii_ne_f (by decide)) k_) ?_
          show own_Go p e below _ T27 (mkF m 191 #[oI i0, oI i1, oI i2, oI (3 : Int32), oI z, oR w5, oD (FP.i2d i1), .second, oD (FP.i2d z), .second, oI (1 : Int32), oI (0 : Int32)] [])
          refine own_by (fun t_ k_ => XT.iconstV XT27.here hx rfl (1 : Int32) (hb hby at_191) (by decide) k_) ?_
          show own_Go p e below _ T27 (mkF m 192 #[oI i0, oI i1, oI i2, oI (3 : Int32), oI z, oR w5, oD (FP.i2d i1), .second, oD (FP.i2d z), .second, oI (1 : Int32), oI (0 : Int32)] [(.int (1 : Int32))])
          refine own_by (fun t_ k_ => XS.goto XT27.here hx rfl (pc0 := 192) (pc' := 196) rfl (hb hby at_192) (by decide) (by decide) k_) ?_
          show own_Go p e below _ T27 (mkF m 196 #[oI i0, oI i1, oI i2, oI (3 : Int32), oI z, oR w5, oD (FP.i2d i1), .second, oD (FP.i2d z), .second, oI (1 : Int32), oI (0 : Int32)] [(.int (1 : Int32))])
          exact own_retN XT27 hx hlk hret (by simp) (w := (1 : Int32)) (hb hby at_196) (by decide) (by decide) (by decide) (⟨rfl, eT27, rfl⟩)
    by_cases c14_27 : (((i0.toUInt32 >>> ((8 : Int32) &&& 31).toUInt32).toInt32) &&& (1 : Int32)) = (0 : Int32)
    · refine own_by (fun t_ k_ => XS.ifYes X0.here hx rfl (pc0 := 14) (pc' := 21) rfl (hb hby at_14) rfl (XT.i0_eq_t c14_27) (by decide) (by decide) k_) ?_
      show own_Go p e below _ T0 (mkF m 21 #[oI i0, oI i1, oI i2, oI (3 : Int32), .unset, .unset, .unset, .unset, .unset, .unset, .unset, .unset] [])
      refine own_by (fun t_ k_ => XS.iloadN X0.here hx rfl (hb hby at_21) rfl  k_) ?_
      show own_Go p e below _ T0 (mkF m 22 #[oI i0, oI i1, oI i2, oI (3 : Int32), .unset, .unset, .unset, .unset, .unset, .unset, .unset, .unset] [(.int i2)])
      exact J _
    · refine own_by (fun t_ k_ => XS.ifNo X0.here hx rfl (hb hby at_14) rfl (XT.i0_eq_f c14_27) k_) ?_
      show own_Go p e below _ T0 (mkF m 17 #[oI i0, oI i1, oI i2, oI (3 : Int32), .unset, .unset, .unset, .unset, .unset, .unset, .unset, .unset] [])
      refine own_by (fun t_ k_ => XS.iloadN X0.here hx rfl (hb hby at_17) rfl  k_) ?_
      show own_Go p e below _ T0 (mkF m 18 #[oI i0, oI i1, oI i2, oI (3 : Int32), .unset, .unset, .unset, .unset, .unset, .unset, .unset, .unset] [(.int i1)])
      refine own_by (fun t_ k_ => XS.goto X0.here hx rfl (pc0 := 18) (pc' := 22) rfl (hb hby at_18) (by decide) (by decide) k_) ?_
      show own_Go p e below _ T0 (mkF m 22 #[oI i0, oI i1, oI i2, oI (3 : Int32), .unset, .unset, .unset, .unset, .unset, .unset, .unset, .unset] [(.int i1)])
      exact J _
  · refine own_by (fun t_ k_ => XS.iloadN X0.here hx rfl (hb hby at_0) rfl  k_) ?_
    show own_Go p e below _ T0 (mkF m 1 #[oI i0, oI i1, oI i2, .unset, .unset, .unset, .unset, .unset, .unset, .unset, .unset, .unset] [(.int i0)])
    refine own_by (fun t_ k_ => X0.ldcI hx hown (mvT hZ (hw _ (List.mem_of_getElem? (i := 0) rfl))) rfl (hb hby at_1) k_) ?_
    show own_Go p e below _ T0 (mkF m 3 #[oI i0, oI i1, oI i2, .unset, .unset, .unset, .unset, .unset, .unset, .unset, .unset, .unset] [(.int (2147483647 : Int32)), (.int i0)])
    refine own_by (fun t_ k_ => XS.iand X0.here hx rfl (hb hby at_3) rfl k_) ?_
    show own_Go p e below _ T0 (mkF m 4 #[oI i0, oI i1, oI i2, .unset, .unset, .unset, .unset, .unset, .unset, .unset, .unset, .unset] [(.int (i0 &&& (2147483647 : Int32)))])
    refine own_by (fun t_ k_ => XT.bipushV X0.here hx rfl (6 : Int32) (hb hby at_4) (by decide) k_) ?_
    show own_Go p e below _ T0 (mkF m 6 #[oI i0, oI i1, oI i2, .unset, .unset, .unset, .unset, .unset, .unset, .unset, .unset, .unset] [(.int (6 : Int32)), (.int (i0 &&& (2147483647 : Int32)))])
    refine own_by (fun t_ k_ => iremM X0 hx rfl (hb hby at_6) rfl (by decide) k_) ?_
    show own_Go p e below _ T0 (mkF m 7 #[oI i0, oI i1, oI i2, .unset, .unset, .unset, .unset, .unset, .unset, .unset, .unset, .unset] [(.int ((i0 &&& (2147483647 : Int32)) % (6 : Int32)))])
    rw [hk]
    show own_Go p e below _ T0 (mkF m 7 #[oI i0, oI i1, oI i2, .unset, .unset, .unset, .unset, .unset, .unset, .unset, .unset, .unset] [(.int (4 : Int32))])
    refine own_by (fun t_ k_ => XS.istoreN X0.here hx rfl (hb hby at_7) rfl (l' := #[oI i0, oI i1, oI i2, oI (4 : Int32), .unset, .unset, .unset, .unset, .unset, .unset, .unset, .unset]) rfl k_) ?_
    show own_Go p e below _ T0 (mkF m 8 #[oI i0, oI i1, oI i2, oI (4 : Int32), .unset, .unset, .unset, .unset, .unset, .unset, .unset, .unset] [])
    refine own_by (fun t_ k_ => XS.iloadN X0.here hx rfl (hb hby at_8) rfl  k_) ?_
    show own_Go p e below _ T0 (mkF m 9 #[oI i0, oI i1, oI i2, oI (4 : Int32), .unset, .unset, .unset, .unset, .unset, .unset, .unset, .unset] [(.int i0)])
    refine own_by (fun t_ k_ => XT.bipushV X0.here hx rfl (8 : Int32) (hb hby at_9) (by decide) k_) ?_
    show own_Go p e below _ T0 (mkF m 11 #[oI i0, oI i1, oI i2, oI (4 : Int32), .unset, .unset, .unset, .unset, .unset, .unset, .unset, .unset] [(.int (8 : Int32)), (.int i0)])
    refine own_by (fun t_ k_ => XT.iushr X0.here hx rfl (hb hby at_11) rfl k_) ?_
    show own_Go p e below _ T0 (mkF m 12 #[oI i0, oI i1, oI i2, oI (4 : Int32), .unset, .unset, .unset, .unset, .unset, .unset, .unset, .unset] [(.int ((i0.toUInt32 >>> ((8 : Int32) &&& 31).toUInt32).toInt32))])
    refine own_by (fun t_ k_ => XT.iconstV X0.here hx rfl (1 : Int32) (hb hby at_12) (by decide) k_) ?_
    show own_Go p e below _ T0 (mkF m 13 #[oI i0, oI i1, oI i2, oI (4 : Int32), .unset, .unset, .unset, .unset, .unset, .unset, .unset, .unset] [(.int (1 : Int32)), (.int ((i0.toUInt32 >>> ((8 : Int32) &&& 31).toUInt32).toInt32))])
    refine own_by (fun t_ k_ => XS.iand X0.here hx rfl (hb hby at_13) rfl k_) ?_
    show own_Go p e below _ T0 (mkF m 14 #[oI i0, oI i1, oI i2, oI (4 : Int32), .unset, .unset, .unset, .unset, .unset, .unset, .unset, .unset] [(.int (((i0.toUInt32 >>> ((8 : Int32) &&& 31).toUInt32).toInt32) &&& (1 : Int32)))])
    have J : ∀ z : Int32, own_Go p e below (own_K s room_1.cells room_1.slots (fun v h L => v = some (.int (1 : Int32)) ∧ h = h0 ∧ L = [])) T0 (mkF m 22 #[oI i0, oI i1, oI i2, oI (4 : Int32), .unset, .unset, .unset, .unset, .unset, .unset, .unset, .unset] [(.int z)]) := by
      intro z
      show own_Go p e below _ T0 (mkF m 22 #[oI i0, oI i1, oI i2, oI (4 : Int32), .unset, .unset, .unset, .unset, .unset, .unset, .unset, .unset] [(.int z)])
      refine own_by (fun t_ k_ => XS.istore X0.here hx rfl (hb hby at_22) rfl (l' := #[oI i0, oI i1, oI i2, oI (4 : Int32), oI z, .unset, .unset, .unset, .unset, .unset, .unset, .unset]) rfl k_) ?_
      show own_Go p e below _ T0 (mkF m 24 #[oI i0, oI i1, oI i2, oI (4 : Int32), oI z, .unset, .unset, .unset, .unset, .unset, .unset, .unset] [])
      refine own_by (fun t_ k_ => XS.iloadN X0.here hx rfl (hb hby at_24) rfl  k_) ?_
      show own_Go p e below _ T0 (mkF m 25 #[oI i0, oI i1, oI i2, oI (4 : Int32), oI z, .unset, .unset, .unset, .unset, .unset, .unset, .unset] [(.int (4 : Int32))])
      refine own_callS X0 hx hZ hown (hw _ (List.mem_of_getElem? (i := 1) rfl)) (hw _ (List.mem_of_getElem? (i := 2) rfl)) (hw _ (List.mem_of_getElem? (i := 3) rfl)) (hw _ (List.mem_of_getElem? (i := 4) rfl)) (by decide) e0 (argsL := [(.int (4 : Int32))]) (rest := []) (own_op_met l Z a0 hw (4 : Int32) w2 w3 w4 w5 w6 w7 h0 S) 0 (by decide) (by decide) (by rw [hml]; rfl) (lenOf pd_0 rfl) (Nat.le_of_eq rfl) (hb hby at_25) (by decide) (by decide) (st := [(.int (4 : Int32))]) rfl ?_
      intro T29 LT29 vT29 XT29 hQT29
      obtain ⟨rfl, eT29, rfl⟩ := hQT29
      show own_Go p e below _ T29 (mkF m 28 #[oI i0, oI i1, oI i2, oI (4 : Int32), oI z, .unset, .unset, .unset, .unset, .unset, .unset, .unset] [(.ref (own_op (4 : Int32) w2 w3 w4 w5 w6 w7))])
      rw [show own_op (4 : Int32) w2 w3 w4 w5 w6 w7 = w6 by rw [own_op, if_neg (by decide), if_neg (by decide), if_neg (by decide), if_neg (by decide), if_pos (by decide)]]
      show own_Go p e below _ T29 (mkF m 28 #[oI i0, oI i1, oI i2, oI (4 : Int32), oI z, .unset, .unset, .unset, .unset, .unset, .unset, .unset] [(.ref w6)])
      refine own_by (fun t_ k_ => XS.astore XT29.here hx rfl (hb hby at_28) rfl rfl (l' := #[oI i0, oI i1, oI i2, oI (4 : Int32), oI z, oR w6, .unset, .unset, .unset, .unset, .unset, .unset]) rfl k_) ?_
      show own_Go p e below _ T29 (mkF m 30 #[oI i0, oI i1, oI i2, oI (4 : Int32), oI z, oR w6, .unset, .unset, .unset, .unset, .unset, .unset] [])
      refine own_by (fun t_ k_ => XS.iloadN XT29.here hx rfl (hb hby at_30) rfl  k_) ?_
      show own_Go p e below _ T29 (mkF m 31 #[oI i0, oI i1, oI i2, oI (4 : Int32), oI z, oR w6, .unset, .unset, .unset, .unset, .unset, .unset] [(.int i1)])
      refine own_by (fun t_ k_ => XS.i2dS XT29.here hx rfl (hb hby at_31) rfl rfl k_) ?_
      show own_Go p e below _ T29 (mkF m 32 #[oI i0, oI i1, oI i2, oI (4 : Int32), oI z, oR w6, .unset, .unset, .unset, .unset, .unset, .unset] [(.double (FP.i2d i1))])
      refine own_by (fun t_ k_ => XS.dstore XT29.here hx rfl (hb hby at_32) rfl (l' := #[oI i0, oI i1, oI i2, oI (4 : Int32), oI z, oR w6, oD (FP.i2d i1), .second, .unset, .unset, .unset, .unset]) rfl k_) ?_
      show own_Go p e below _ T29 (mkF m 34 #[oI i0, oI i1, oI i2, oI (4 : Int32), oI z, oR w6, oD (FP.i2d i1), .second, .unset, .unset, .unset, .unset] [])
      refine own_by (fun t_ k_ => XS.iload XT29.here hx rfl (hb hby at_34) rfl  k_) ?_
      show own_Go p e below _ T29 (mkF m 36 #[oI i0, oI i1, oI i2, oI (4 : Int32), oI z, oR w6, oD (FP.i2d i1), .second, .unset, .unset, .unset, .unset] [(.int z)])
      refine own_by (fun t_ k_ => XS.i2dS XT29.here hx rfl (hb hby at_36) rfl rfl k_) ?_
      show own_Go p e below _ T29 (mkF m 37 #[oI i0, oI i1, oI i2, oI (4 : Int32), oI z, oR w6, oD (FP.i2d i1), .second, .unset, .unset, .unset, .unset] [(.double (FP.i2d z))])
      refine own_by (fun t_ k_ => XS.dstore XT29.here hx rfl (hb hby at_37) rfl (l' := #[oI i0, oI i1, oI i2, oI (4 : Int32), oI z, oR w6, oD (FP.i2d i1), .second, oD (FP.i2d z), .second, .unset, .unset]) rfl k_) ?_
      show own_Go p e below _ T29 (mkF m 39 #[oI i0, oI i1, oI i2, oI (4 : Int32), oI z, oR w6, oD (FP.i2d i1), .second, oD (FP.i2d z), .second, .unset, .unset] [])
      refine own_by (fun t_ k_ => XS.iloadN XT29.here hx rfl (hb hby at_39) rfl  k_) ?_
      show own_Go p e below _ T29 (mkF m 40 #[oI i0, oI i1, oI i2, oI (4 : Int32), oI z, oR w6, oD (FP.i2d i1), .second, oD (FP.i2d z), .second, .unset, .unset] [(.int i1)])
      refine own_by (fun t_ k_ => XS.iload XT29.here hx rfl (hb hby at_40) rfl  k_) ?_
      show own_Go p e below _ T29 (mkF m 42 #[oI i0, oI i1, oI i2, oI (4 : Int32), oI z, oR w6, oD (FP.i2d i1), .second, oD (FP.i2d z), .second, .unset, .unset] [(.int z), (.int i1)])
      by_cases c42_29 : i1 < z
      · refine own_by (fun t_ k_ => XS.icmpNo XT29.here hx rfl (hb hby at_42) rfl (XT.ii_ge_f c42_29) k_) ?_
        show own_Go p e below _ T29 (mkF m 45 #[oI i0, oI i1, oI i2, oI (4 : Int32), oI z, oR w6, oD (FP.i2d i1), .second, oD (FP.i2d z), .second, .unset, .unset] [])
        have hc : own_c3 i1 z = (-1 : Int32) := if_pos c42_29
        refine own_by (fun t_ k_ => XT.iconstV XT29.here hx rfl (-1 : Int32) (hb hby at_45) (by decide) k_) ?_
        show own_Go p e below _ T29 (mkF m 46 #[oI i0, oI i1, oI i2, oI (4 : Int32), oI z, oR w6, oD (FP.i2d i1), .second, oD (FP.i2d z), .second, .unset, .unset] [(.int (-1 : Int32))])
        refine own_by (fun t_ k_ => XS.istore XT29.here hx rfl (hb hby at_46) rfl (l' := #[oI i0, oI i1, oI i2, oI (4 : Int32), oI z, oR w6, oD (FP.i2d i1), .second, oD (FP.i2d z), .second, oI (-1 : Int32), .unset]) rfl k_) ?_
        show own_Go p e below _ T29 (mkF m 48 #[oI i0, oI i1, oI i2, oI (4 : Int32), oI z, oR w6, oD (FP.i2d i1), .second, oD (FP.i2d z), .second, oI (-1 : Int32), .unset] [])
        refine own_by (fun t_ k_ => XS.goto XT29.here hx rfl (pc0 := 48) (pc' := 66) rfl (hb hby at_48) (by decide) (by decide) k_) ?_
        show own_Go p e below _ T29 (mkF m 66 #[oI i0, oI i1, oI i2, oI (4 : Int32), oI z, oR w6, oD (FP.i2d i1), .second, oD (FP.i2d z), .second, oI (-1 : Int32), .unset] [])
        refine own_by (fun t_ k_ => XS.iloadN XT29.here hx rfl (hb hby at_66) rfl  k_) ?_
        show own_Go p e below _ T29 (mkF m 67 #[oI i0, oI i1, oI i2, oI (4 : Int32), oI z, oR w6, oD (FP.i2d i1), .second, oD (FP.i2d z), .second, oI (-1 : Int32), .unset] [(.int (4 : Int32))])
        refine own_by (fun t_ k_ => XS.ifYes XT29.here hx rfl (pc0 := 67) (pc' := 85) rfl (hb hby at_67) rfl (XT.i0_ne_t (by decide)) (by decide) (by decide) k_) ?_
        show own_Go p e below _ T29 (mkF m 85 #[oI i0, oI i1, oI i2, oI (4 : Int32), oI z, oR w6, oD (FP.i2d i1), .second, oD (FP.i2d z), .second, oI (-1 : Int32), .unset] [])
        refine own_by (fun t_ k_ => XS.iloadN XT29.here hx rfl (hb hby at_85) rfl  k_) ?_
        show own_Go p e below _ T29 (mkF m 86 #[oI i0, oI i1, oI i2, oI (4 : Int32), oI z, oR w6, oD (FP.i2d i1), .second, oD (FP.i2d z), .second, oI (-1 : Int32), .unset] [(.int (4 : Int32))])
        refine own_by (fun t_ k_ => XT.iconstV XT29.here hx rfl (1 : Int32) (hb hby at_86) (by decide) k_) ?_
        show own_Go p e below _ T29 (mkF m 87 #[oI i0, oI i1, oI i2, oI (4 : Int32), oI z, oR w6, oD (FP.i2d i1), .second, oD (FP.i2d z), .second, oI (-1 : Int32), .unset] [(.int (1 : Int32)), (.int (4 : Int32))])
        refine own_by (fun t_ k_ => XS.icmpYes XT29.here hx rfl (pc0 := 87) (pc' := 105) rfl (hb hby at_87) rfl (XT.ii_ne_t (by decide)) (by decide) (by decide) k_) ?_
        show own_Go p e below _ T29 (mkF m 105 #[oI i0, oI i1, oI i2, oI (4 : Int32), oI z, oR w6, oD (FP.i2d i1), .second, oD (FP.i2d z), .second, oI (-1 : Int32), .unset] [])
        refine own_by (fun t_ k_ => XS.iloadN XT29.here hx rfl (hb hby at_105) rfl  k_) ?_
        show own_Go p e below _ T29 (mkF m 106 #[oI i0, oI i1, oI i2, oI (4 : Int32), oI z, oR w6, oD (FP.i2d i1), .second, oD (FP.i2d z), .second, oI (-1 : Int32), .unset] [(.int (4 : Int32))])
        refine own_by (fun t_ k_ => XT.iconstV XT29.here hx rfl (2 : Int32) (hb hby at_106) (by decide) k_) ?_
        show own_Go p e below _ T29 (mkF m 107 #[oI i0, oI i1, oI i2, oI (4 : Int32), oI z, oR w6, oD (FP.i2d i1), .second, oD (FP.i2d z), .second, oI (-1 : Int32), .unset] [(.int (2 : Int32)), (.int (4 : Int32))])
        refine own_by (fun t_ k_ => XS.icmpYes XT29.here hx rfl (pc0 := 107) (pc' := 125) rfl (hb hby at_107) rfl (XT.ii_ne_t (by decide)) (by decide) (by decide) k_) ?_
        show own_Go p e below _ T29 (mkF m 125 #[oI i0, oI i1, oI i2, oI (4 : Int32), oI z, oR w6, oD (FP.i2d i1), .second, oD (FP.i2d z), .second, oI (-1 : Int32), .unset] [])
        refine own_by (fun t_ k_ => XS.iloadN XT29.here hx rfl (hb hby at_125) rfl  k_) ?_
        show own_Go p e below _ T29 (mkF m 126 #[oI i0, oI i1, oI i2, oI (4 : Int32), oI z, oR w6, oD (FP.i2d i1), .second, oD (FP.i2d z), .second, oI (-1 : Int32), .unset] [(.int (4 : Int32))])
        refine own_by (fun t_ k_ => XT.iconstV XT29.here hx rfl (3 : Int32) (hb hby at_126) (by decide) k_) ?_
        show own_Go p e below _ T29 (mkF m 127 #[oI i0, oI i1, oI i2, oI (4 : Int32), oI z, oR w6, oD (FP.i2d i1), .second, oD (FP.i2d z), .second, oI (-1 : Int32), .unset] [(.int (3 : Int32)), (.int (4 : Int32))])
        refine own_by (fun t_ k_ => XS.icmpYes XT29.here hx rfl (pc0 := 127) (pc' := 145) rfl (hb hby at_127) rfl (XT.ii_ne_t (by decide)) (by decide) (by decide) k_) ?_
        show own_Go p e below _ T29 (mkF m 145 #[oI i0, oI i1, oI i2, oI (4 : Int32), oI z, oR w6, oD (FP.i2d i1), .second, oD (FP.i2d z), .second, oI (-1 : Int32), .unset] [])
        refine own_by (fun t_ k_ => XS.iloadN XT29.here hx rfl (hb hby at_145) rfl  k_) ?_
        show own_Go p e below _ T29 (mkF m 146 #[oI i0, oI i1, oI i2, oI (4 : Int32), oI z, oR w6, oD (FP.i2d i1), .second, oD (FP.i2d z), .second, oI (-1 : Int32), .unset] [(.int (4 : Int32))])
        refine own_by (fun t_ k_ => XT.iconstV XT29.here hx rfl (4 : Int32) (hb hby at_146) (by decide) k_) ?_
        show own_Go p e below _ T29 (mkF m 147 #[oI i0, oI i1, oI i2, oI (4 : Int32), oI z, oR w6, oD (FP.i2d i1), .second, oD (FP.i2d z), .second, oI (-1 : Int32), .unset] [(.int (4 : Int32)), (.int (4 : Int32))])
        refine own_by (fun t_ k_ => XS.icmpNo XT29.here hx rfl (hb hby at_147) rfl (XT.ii_ne_f (by decide)) k_) ?_
        show own_Go p e below _ T29 (mkF m 150 #[oI i0, oI i1, oI i2, oI (4 : Int32), oI z, oR w6, oD (FP.i2d i1), .second, oD (FP.i2d z), .second, oI (-1 : Int32), .unset] [])
        refine own_by (fun t_ k_ => XS.iload XT29.here hx rfl (hb hby at_150) rfl  k_) ?_
        show own_Go p e below _ T29 (mkF m 152 #[oI i0, oI i1, oI i2, oI (4 : Int32), oI z, oR w6, oD (FP.i2d i1), .second, oD (FP.i2d z), .second, oI (-1 : Int32), .unset] [(.int (-1 : Int32))])
        refine own_by (fun t_ k_ => XS.ifYes XT29.here hx rfl (pc0 := 152) (pc' := 159) rfl (hb hby at_152) rfl (XT.i0_le_t (by decide)) (by decide) (by decide) k_) ?_
        show own_Go p e below _ T29 (mkF m 159 #[oI i0, oI i1, oI i2, oI (4 : Int32), oI z, oR w6, oD (FP.i2d i1), .second, oD (FP.i2d z), .second, oI (-1 : Int32), .unset] [])
        refine own_by (fun t_ k_ => XT.iconstV XT29.here hx rfl (0 : Int32) (hb hby at_159) (by decide) k_) ?_
        show own_Go p e below _ T29 (mkF m 160 #[oI i0, oI i1, oI i2, oI (4 : Int32), oI z, oR w6, oD (FP.i2d i1), .second, oD (FP.i2d z), .second, oI (-1 : Int32), .unset] [(.int (0 : Int32))])
        refine own_by (fun t_ k_ => XS.istore XT29.here hx rfl (hb hby at_160) rfl (l' := #[oI i0, oI i1, oI i2, oI (4 : Int32), oI z, oR w6, oD (FP.i2d i1), .second, oD (FP.i2d z), .second, oI (-1 : Int32), oI (0 : Int32)]) rfl k_) ?_
        show own_Go p e below _ T29 (mkF m 162 #[oI i0, oI i1, oI i2, oI (4 : Int32), oI z, oR w6, oD (FP.i2d i1), .second, oD (FP.i2d z), .second, oI (-1 : Int32), oI (0 : Int32)] [])
        refine own_by (fun t_ k_ => XS.goto XT29.here hx rfl (pc0 := 162) (pc' := 177) rfl (hb hby at_162) (by decide) (by decide) k_) ?_
        show own_Go p e below _ T29 (mkF m 177 #[oI i0, oI i1, oI i2, oI (4 : Int32), oI z, oR w6, oD (FP.i2d i1), .second, oD (FP.i2d z), .second, oI (-1 : Int32), oI (0 : Int32)] [])
        refine own_by (fun t_ k_ => XS.aload XT29.here hx rfl (hb hby at_177) rfl rfl  k_) ?_
        show own_Go p e below _ T29 (mkF m 179 #[oI i0, oI i1, oI i2, oI (4 : Int32), oI z, oR w6, oD (FP.i2d i1), .second, oD (FP.i2d z), .second, oI (-1 : Int32), oI (0 : Int32)] [(.ref w6)])
        refine own_by (fun t_ k_ => XS.dload XT29.here hx rfl (hb hby at_179) rfl  k_) ?_
        show own_Go p e below _ T29 (mkF m 181 #[oI i0, oI i1, oI i2, oI (4 : Int32), oI z, oR w6, oD (FP.i2d i1), .second, oD (FP.i2d z), .second, oI (-1 : Int32), oI (0 : Int32)] [(.double (FP.i2d i1)), (.ref w6)])
        refine own_by (fun t_ k_ => XS.dload XT29.here hx rfl (hb hby at_181) rfl  k_) ?_
        show own_Go p e below _ T29 (mkF m 183 #[oI i0, oI i1, oI i2, oI (4 : Int32), oI z, oR w6, oD (FP.i2d i1), .second, oD (FP.i2d z), .second, oI (-1 : Int32), oI (0 : Int32)] [(.double (FP.i2d z)), (.double (FP.i2d i1)), (.ref w6)])
        refine own_callV XT29 hx hZ hown (hw _ (List.mem_of_getElem? (i := 8) rfl)) (hw _ (List.mem_of_getElem? (i := 9) rfl)) (hw _ (List.mem_of_getElem? (i := 11) rfl)) (hw _ (List.mem_of_getElem? (i := 10) rfl)) (hw _ (List.mem_of_getElem? (i := 12) rfl)) (hw _ (List.mem_of_getElem? (i := 6) rfl)) (by decide) eT29 (b := w6) E6 (argsL := [(.double (FP.i2d i1)), (.double (FP.i2d z))]) (rest := []) (own_holds_met l Z a0 hw w6 i1 z w2 w3 w4 w5 w6 w7 h0 S) 0 (by decide) (by decide) (by rw [hml]; rfl) (lenOf pd_1 rfl) (Nat.le_of_eq rfl) (hb hby at_183) (by decide) (by decide) (st := [(.double (FP.i2d z)), (.double (FP.i2d i1)), (.ref w6)]) rfl ?_
        intro T31 LT31 vT31 XT31 hQT31
        obtain ⟨rfl, eT31, rfl⟩ := hQT31
        show own_Go p e below _ T31 (mkF m 186 #[oI i0, oI i1, oI i2, oI (4 : Int32), oI z, oR w6, oD (FP.i2d i1), .second, oD (FP.i2d z), .second, oI (-1 : Int32), oI (0 : Int32)] [(.int (own_holds w6 i1 z w2 w3 w4 w5 w6 w7))])
        rw [show own_holds w6 i1 z w2 w3 w4 w5 w6 w7 = (0 : Int32) by rw [own_holds, if_neg (F6.ne F2 (by decide)), if_neg (F6.ne F3 (by decide)), if_neg (F6.ne F4 (by decide)), if_neg (F6.ne F5 (by decide)), if_pos rfl, if_neg (by rw [hc] <;> decide)]]
        show own_Go p e below _ T31 (mkF m 186 #[oI i0, oI i1, oI i2, oI (4 : Int32), oI z, oR w6, oD (FP.i2d i1), .second, oD (FP.i2d z), .second, oI (-1 : Int32), oI (0 : Int32)] [(.int (0 : Int32))])
        refine own_by (fun t_ k_ => XS.iload XT31.here hx rfl (hb hby at_186) rfl  k_) ?_
        show own_Go p e below _ T31 (mkF m 188 #[oI i0, oI i1, oI i2, oI (4 : Int32), oI z, oR w6, oD (FP.i2d i1), .second, oD (FP.i2d z), .second, oI (-1 : Int32), oI (0 : Int32)] [(.int (0 : Int32)), (.int (0 : Int32))])
        refine own_by (fun t_ k_ => XS.icmpNo XT31.here hx rfl (hb hby at_188) rfl (XT.ii_ne_f (by decide)) k_) ?_
        show own_Go p e below _ T31 (mkF m 191 #[oI i0, oI i1, oI i2, oI (4 : Int32), oI z, oR w6, oD (FP.i2d i1), .second, oD (FP.i2d z), .second, oI (-1 : Int32), oI (0 : Int32)] [])
        refine own_by (fun t_ k_ => XT.iconstV XT31.here hx rfl (1 : Int32) (hb hby at_191) (by decide) k_) ?_
        show own_Go p e below _ T31 (mkF m 192 #[oI i0, oI i1, oI i2, oI (4 : Int32), oI z, oR w6, oD (FP.i2d i1), .second, oD (FP.i2d z), .second, oI (-1 : Int32), oI (0 : Int32)] [(.int (1 : Int32))])
        refine own_by (fun t_ k_ => XS.goto XT31.here hx rfl (pc0 := 192) (pc' := 196) rfl (hb hby at_192) (by decide) (by decide) k_) ?_
        show own_Go p e below _ T31 (mkF m 196 #[oI i0, oI i1, oI i2, oI (4 : Int32), oI z, oR w6, oD (FP.i2d i1), .second, oD (FP.i2d z), .second, oI (-1 : Int32), oI (0 : Int32)] [(.int (1 : Int32))])
        exact own_retN XT31 hx hlk hret (by simp) (w := (1 : Int32)) (hb hby at_196) (by decide) (by decide) (by decide) (⟨rfl, eT31, rfl⟩)
      · refine own_by (fun t_ k_ => XS.icmpYes XT29.here hx rfl (pc0 := 42) (pc' := 51) rfl (hb hby at_42) rfl (XT.ii_ge_t c42_29) (by decide) (by decide) k_) ?_
        show own_Go p e below _ T29 (mkF m 51 #[oI i0, oI i1, oI i2, oI (4 : Int32), oI z, oR w6, oD (FP.i2d i1), .second, oD (FP.i2d z), .second, .unset, .unset] [])
        refine own_by (fun t_ k_ => XS.iloadN XT29.here hx rfl (hb hby at_51) rfl  k_) ?_
        show own_Go p e below _ T29 (mkF m 52 #[oI i0, oI i1, oI i2, oI (4 : Int32), oI z, oR w6, oD (FP.i2d i1), .second, oD (FP.i2d z), .second, .unset, .unset] [(.int i1)])
        refine own_by (fun t_ k_ => XS.iload XT29.here hx rfl (hb hby at_52) rfl  k_) ?_
        show own_Go p e below _ T29 (mkF m 54 #[oI i0, oI i1, oI i2, oI (4 : Int32), oI z, oR w6, oD (FP.i2d i1), .second, oD (FP.i2d z), .second, .unset, .unset] [(.int z), (.int i1)])
        by_cases c54_31 : i1 = z
        · refine own_by (fun t_ k_ => XS.icmpNo XT29.here hx rfl (hb hby at_54) rfl (XT.ii_ne_f c54_31) k_) ?_
          show own_Go p e below _ T29 (mkF m 57 #[oI i0, oI i1, oI i2, oI (4 : Int32), oI z, oR w6, oD (FP.i2d i1), .second, oD (FP.i2d z), .second, .unset, .unset] [])
          have hc : own_c3 i1 z = (0 : Int32) := by rw [own_c3, if_neg c42_29, if_pos c54_31]
          refine own_by (fun t_ k_ => XT.iconstV XT29.here hx rfl (0 : Int32) (hb hby at_57) (by decide) k_) ?_
          show own_Go p e below _ T29 (mkF m 58 #[oI i0, oI i1, oI i2, oI (4 : Int32), oI z, oR w6, oD (FP.i2d i1), .second, oD (FP.i2d z), .second, .unset, .unset] [(.int (0 : Int32))])
          refine own_by (fun t_ k_ => XS.istore XT29.here hx rfl (hb hby at_58) rfl (l' := #[oI i0, oI i1, oI i2, oI (4 : Int32), oI z, oR w6, oD (FP.i2d i1), .second, oD (FP.i2d z), .second, oI (0 : Int32), .unset]) rfl k_) ?_
          show own_Go p e below _ T29 (mkF m 60 #[oI i0, oI i1, oI i2, oI (4 : Int32), oI z, oR w6, oD (FP.i2d i1), .second, oD (FP.i2d z), .second, oI (0 : Int32), .unset] [])
          refine own_by (fun t_ k_ => XS.goto XT29.here hx rfl (pc0 := 60) (pc' := 66) rfl (hb hby at_60) (by decide) (by decide) k_) ?_
          show own_Go p e below _ T29 (mkF m 66 #[oI i0, oI i1, oI i2, oI (4 : Int32), oI z, oR w6, oD (FP.i2d i1), .second, oD (FP.i2d z), .second, oI (0 : Int32), .unset] [])
          refine own_by (fun t_ k_ => XS.iloadN XT29.here hx rfl (hb hby at_66) rfl  k_) ?_
          show own_Go p e below _ T29 (mkF m 67 #[oI i0, oI i1, oI i2, oI (4 : Int32), oI z, oR w6, oD (FP.i2d i1), .second, oD (FP.i2d z), .second, oI (0 : Int32), .unset] [(.int (4 : Int32))])
          refine own_by (fun t_ k_ => XS.ifYes XT29.here hx rfl (pc0 := 67) (pc' := 85) rfl (hb hby at_67) rfl (XT.i0_ne_t (by decide)) (by decide) (by decide) k_) ?_
          show own_Go p e below _ T29 (mkF m 85 #[oI i0, oI i1, oI i2, oI (4 : Int32), oI z, oR w6, oD (FP.i2d i1), .second, oD (FP.i2d z), .second, oI (0 : Int32), .unset] [])
          refine own_by (fun t_ k_ => XS.iloadN XT29.here hx rfl (hb hby at_85) rfl  k_) ?_
          show own_Go p e below _ T29 (mkF m 86 #[oI i0, oI i1, oI i2, oI (4 : Int32), oI z, oR w6, oD (FP.i2d i1), .second, oD (FP.i2d z), .second, oI (0 : Int32), .unset] [(.int (4 : Int32))])
          refine own_by (fun t_ k_ => XT.iconstV XT29.here hx rfl (1 : Int32) (hb hby at_86) (by decide) k_) ?_
          show own_Go p e below _ T29 (mkF m 87 #[oI i0, oI i1, oI i2, oI (4 : Int32), oI z, oR w6, oD (FP.i2d i1), .second, oD (FP.i2d z), .second, oI (0 : Int32), .unset] [(.int (1 : Int32)), (.int (4 : Int32))])
          refine own_by (fun t_ k_ => XS.icmpYes XT29.here hx rfl (pc0 := 87) (pc' := 105) rfl (hb hby at_87) rfl (XT.ii_ne_t (by decide)) (by decide) (by decide) k_) ?_
          show own_Go p e below _ T29 (mkF m 105 #[oI i0, oI i1, oI i2, oI (4 : Int32), oI z, oR w6, oD (FP.i2d i1), .second, oD (FP.i2d z), .second, oI (0 : Int32), .unset] [])
          refine own_by (fun t_ k_ => XS.iloadN XT29.here hx rfl (hb hby at_105) rfl  k_) ?_
          show own_Go p e below _ T29 (mkF m 106 #[oI i0, oI i1, oI i2, oI (4 : Int32), oI z, oR w6, oD (FP.i2d i1), .second, oD (FP.i2d z), .second, oI (0 : Int32), .unset] [(.int (4 : Int32))])
          refine own_by (fun t_ k_ => XT.iconstV XT29.here hx rfl (2 : Int32) (hb hby at_106) (by decide) k_) ?_
          show own_Go p e below _ T29 (mkF m 107 #[oI i0, oI i1, oI i2, oI (4 : Int32), oI z, oR w6, oD (FP.i2d i1), .second, oD (FP.i2d z), .second, oI (0 : Int32), .unset] [(.int (2 : Int32)), (.int (4 : Int32))])
          refine own_by (fun t_ k_ => XS.icmpYes XT29.here hx rfl (pc0 := 107) (pc' := 125) rfl (hb hby at_107) rfl (XT.ii_ne_t (by decide)) (by decide) (by decide) k_) ?_
          show own_Go p e below _ T29 (mkF m 125 #[oI i0, oI i1, oI i2, oI (4 : Int32), oI z, oR w6, oD (FP.i2d i1), .second, oD (FP.i2d z), .second, oI (0 : Int32), .unset] [])
          refine own_by (fun t_ k_ => XS.iloadN XT29.here hx rfl (hb hby at_125) rfl  k_) ?_
          show own_Go p e below _ T29 (mkF m 126 #[oI i0, oI i1, oI i2, oI (4 : Int32), oI z, oR w6, oD (FP.i2d i1), .second, oD (FP.i2d z), .second, oI (0 : Int32), .unset] [(.int (4 : Int32))])
          refine own_by (fun t_ k_ => XT.iconstV XT29.here hx rfl (3 : Int32) (hb hby at_126) (by decide) k_) ?_
          show own_Go p e below _ T29 (mkF m 127 #[oI i0, oI i1, oI i2, oI (4 : Int32), oI z, oR w6, oD (FP.i2d i1), .second, oD (FP.i2d z), .second, oI (0 : Int32), .unset] [(.int (3 : Int32)), (.int (4 : Int32))])
          refine own_by (fun t_ k_ => XS.icmpYes XT29.here hx rfl (pc0 := 127) (pc' := 145) rfl (hb hby at_127) rfl (XT.ii_ne_t (by decide)) (by decide) (by decide) k_) ?_
          show own_Go p e below _ T29 (mkF m 145 #[oI i0, oI i1, oI i2, oI (4 : Int32), oI z, oR w6, oD (FP.i2d i1), .second, oD (FP.i2d z), .second, oI (0 : Int32), .unset] [])
          refine own_by (fun t_ k_ => XS.iloadN XT29.here hx rfl (hb hby at_145) rfl  k_) ?_
          show own_Go p e below _ T29 (mkF m 146 #[oI i0, oI i1, oI i2, oI (4 : Int32), oI z, oR w6, oD (FP.i2d i1), .second, oD (FP.i2d z), .second, oI (0 : Int32), .unset] [(.int (4 : Int32))])
          refine own_by (fun t_ k_ => XT.iconstV XT29.here hx rfl (4 : Int32) (hb hby at_146) (by decide) k_) ?_
          show own_Go p e below _ T29 (mkF m 147 #[oI i0, oI i1, oI i2, oI (4 : Int32), oI z, oR w6, oD (FP.i2d i1), .second, oD (FP.i2d z), .second, oI (0 : Int32), .unset] [(.int (4 : Int32)), (.int (4 : Int32))])
          refine own_by (fun t_ k_ => XS.icmpNo XT29.here hx rfl (hb hby at_147) rfl (XT.ii_ne_f (by decide)) k_) ?_
          show own_Go p e below _ T29 (mkF m 150 #[oI i0, oI i1, oI i2, oI (4 : Int32), oI z, oR w6, oD (FP.i2d i1), .second, oD (FP.i2d z), .second, oI (0 : Int32), .unset] [])
          refine own_by (fun t_ k_ => XS.iload XT29.here hx rfl (hb hby at_150) rfl  k_) ?_
          show own_Go p e below _ T29 (mkF m 152 #[oI i0, oI i1, oI i2, oI (4 : Int32), oI z, oR w6, oD (FP.i2d i1), .second, oD (FP.i2d z), .second, oI (0 : Int32), .unset] [(.int (0 : Int32))])
          refine own_by (fun t_ k_ => XS.ifYes XT29.here hx rfl (pc0 := 152) (pc' := 159) rfl (hb hby at_152) rfl (XT.i0_le_t (by decide)) (by decide) (by decide) k_) ?_
          show own_Go p e below _ T29 (mkF m 159 #[oI i0, oI i1, oI i2, oI (4 : Int32), oI z, oR w6, oD (FP.i2d i1), .second, oD (FP.i2d z), .second, oI (0 : Int32), .unset] [])
          refine own_by (fun t_ k_ => XT.iconstV XT29.here hx rfl (0 : Int32) (hb hby at_159) (by decide) k_) ?_
          show own_Go p e below _ T29 (mkF m 160 #[oI i0, oI i1, oI i2, oI (4 : Int32), oI z, oR w6, oD (FP.i2d i1), .second, oD (FP.i2d z), .second, oI (0 : Int32), .unset] [(.int (0 : Int32))])
          refine own_by (fun t_ k_ => XS.istore XT29.here hx rfl (hb hby at_160) rfl (l' := #[oI i0, oI i1, oI i2, oI (4 : Int32), oI z, oR w6, oD (FP.i2d i1), .second, oD (FP.i2d z), .second, oI (0 : Int32), oI (0 : Int32)]) rfl k_) ?_
          show own_Go p e below _ T29 (mkF m 162 #[oI i0, oI i1, oI i2, oI (4 : Int32), oI z, oR w6, oD (FP.i2d i1), .second, oD (FP.i2d z), .second, oI (0 : Int32), oI (0 : Int32)] [])
          refine own_by (fun t_ k_ => XS.goto XT29.here hx rfl (pc0 := 162) (pc' := 177) rfl (hb hby at_162) (by decide) (by decide) k_) ?_
          show own_Go p e below _ T29 (mkF m 177 #[oI i0, oI i1, oI i2, oI (4 : Int32), oI z, oR w6, oD (FP.i2d i1), .second, oD (FP.i2d z), .second, oI (0 : Int32), oI (0 : Int32)] [])
          refine own_by (fun t_ k_ => XS.aload XT29.here hx rfl (hb hby at_177) rfl rfl  k_) ?_
          show own_Go p e below _ T29 (mkF m 179 #[oI i0, oI i1, oI i2, oI (4 : Int32), oI z, oR w6, oD (FP.i2d i1), .second, oD (FP.i2d z), .second, oI (0 : Int32), oI (0 : Int32)] [(.ref w6)])
          refine own_by (fun t_ k_ => XS.dload XT29.here hx rfl (hb hby at_179) rfl  k_) ?_
          show own_Go p e below _ T29 (mkF m 181 #[oI i0, oI i1, oI i2, oI (4 : Int32), oI z, oR w6, oD (FP.i2d i1), .second, oD (FP.i2d z), .second, oI (0 : Int32), oI (0 : Int32)] [(.double (FP.i2d i1)), (.ref w6)])
          refine own_by (fun t_ k_ => XS.dload XT29.here hx rfl (hb hby at_181) rfl  k_) ?_
          show own_Go p e below _ T29 (mkF m 183 #[oI i0, oI i1, oI i2, oI (4 : Int32), oI z, oR w6, oD (FP.i2d i1), .second, oD (FP.i2d z), .second, oI (0 : Int32), oI (0 : Int32)] [(.double (FP.i2d z)), (.double (FP.i2d i1)), (.ref w6)])
          refine own_callV XT29 hx hZ hown (hw _ (List.mem_of_getElem? (i := 8) rfl)) (hw _ (List.mem_of_getElem? (i := 9) rfl)) (hw _ (List.mem_of_getElem? (i := 11) rfl)) (hw _ (List.mem_of_getElem? (i := 10) rfl)) (hw _ (List.mem_of_getElem? (i := 12) rfl)) (hw _ (List.mem_of_getElem? (i := 6) rfl)) (by decide) eT29 (b := w6) E6 (argsL := [(.double (FP.i2d i1)), (.double (FP.i2d z))]) (rest := []) (own_holds_met l Z a0 hw w6 i1 z w2 w3 w4 w5 w6 w7 h0 S) 0 (by decide) (by decide) (by rw [hml]; rfl) (lenOf pd_1 rfl) (Nat.le_of_eq rfl) (hb hby at_183) (by decide) (by decide) (st := [(.double (FP.i2d z)), (.double (FP.i2d i1)), (.ref w6)]) rfl ?_
          intro T33 LT33 vT33 XT33 hQT33
          obtain ⟨rfl, eT33, rfl⟩ := hQT33
          show own_Go p e below _ T33 (mkF m 186 #[oI i0, oI i1, oI i2, oI (4 : Int32), oI z, oR w6, oD (FP.i2d i1), .second, oD (FP.i2d z), .second, oI (0 : Int32), oI (0 : Int32)] [(.int (own_holds w6 i1 z w2 w3 w4 w5 w6 w7))])
          rw [show own_holds w6 i1 z w2 w3 w4 w5 w6 w7 = (0 : Int32) by rw [own_holds, if_neg (F6.ne F2 (by decide)), if_neg (F6.ne F3 (by decide)), if_neg (F6.ne F4 (by decide)), if_neg (F6.ne F5 (by decide)), if_pos rfl, if_neg (by rw [hc] <;> decide)]]
          show own_Go p e below _ T33 (mkF m 186 #[oI i0, oI i1, oI i2, oI (4 : Int32), oI z, oR w6, oD (FP.i2d i1), .second, oD (FP.i2d z), .second, oI (0 : Int32), oI (0 : Int32)] [(.int (0 : Int32))])
          refine own_by (fun t_ k_ => XS.iload XT33.here hx rfl (hb hby at_186) rfl  k_) ?_
          show own_Go p e below _ T33 (mkF m 188 #[oI i0, oI i1, oI i2, oI (4 : Int32), oI z, oR w6, oD (FP.i2d i1), .second, oD (FP.i2d z), .second, oI (0 : Int32), oI (0 : Int32)] [(.int (0 : Int32)), (.int (0 : Int32))])
          refine own_by (fun t_ k_ => XS.icmpNo XT33.here hx rfl (hb hby at_188) rfl (XT.ii_ne_f (by decide)) k_) ?_
          show own_Go p e below _ T33 (mkF m 191 #[oI i0, oI i1, oI i2, oI (4 : Int32), oI z, oR w6, oD (FP.i2d i1), .second, oD (FP.i2d z), .second, oI (0 : Int32), oI (0 : Int32)] [])
          refine own_by (fun t_ k_ => XT.iconstV XT33.here hx rfl (1 : Int32) (hb hby at_191) (by decide) k_) ?_
          show own_Go p e below _ T33 (mkF m 192 #[oI i0, oI i1, oI i2, oI (4 : Int32), oI z, oR w6, oD (FP.i2d i1), .second, oD (FP.i2d z), .second, oI (0 : Int32), oI (0 : Int32)] [(.int (1 : Int32))])
          refine own_by (fun t_ k_ => XS.goto XT33.here hx rfl (pc0 := 192) (pc' := 196) rfl (hb hby at_192) (by decide) (by decide) k_) ?_
          show own_Go p e below _ T33 (mkF m 196 #[oI i0, oI i1, oI i2, oI (4 : Int32), oI z, oR w6, oD (FP.i2d i1), .second, oD (FP.i2d z), .second, oI (0 : Int32), oI (0 : Int32)] [(.int (1 : Int32))])
          exact own_retN XT33 hx hlk hret (by simp) (w := (1 : Int32)) (hb hby at_196) (by decide) (by decide) (by decide) (⟨rfl, eT33, rfl⟩)
        · refine own_by (fun t_ k_ => XS.icmpYes XT29.here hx rfl (pc0 := 54) (pc' := 63) rfl (hb hby at_54) rfl (XT.ii_ne_t c54_31) (by decide) (by decide) k_) ?_
          show own_Go p e below _ T29 (mkF m 63 #[oI i0, oI i1, oI i2, oI (4 : Int32), oI z, oR w6, oD (FP.i2d i1), .second, oD (FP.i2d z), .second, .unset, .unset] [])
          have hc : own_c3 i1 z = (1 : Int32) := by rw [own_c3, if_neg c42_29, if_neg c54_31]
          refine own_by (fun t_ k_ => XT.iconstV XT29.here hx rfl (1 : Int32) (hb hby at_63) (by decide) k_) ?_
          show own_Go p e below _ T29 (mkF m 64 #[oI i0, oI i1, oI i2, oI (4 : Int32), oI z, oR w6, oD (FP.i2d i1), .second, oD (FP.i2d z), .second, .unset, .unset] [(.int (1 : Int32))])
          refine own_by (fun t_ k_ => XS.istore XT29.here hx rfl (hb hby at_64) rfl (l' := #[oI i0, oI i1, oI i2, oI (4 : Int32), oI z, oR w6, oD (FP.i2d i1), .second, oD (FP.i2d z), .second, oI (1 : Int32), .unset]) rfl k_) ?_
          show own_Go p e below _ T29 (mkF m 66 #[oI i0, oI i1, oI i2, oI (4 : Int32), oI z, oR w6, oD (FP.i2d i1), .second, oD (FP.i2d z), .second, oI (1 : Int32), .unset] [])
          refine own_by (fun t_ k_ => XS.iloadN XT29.here hx rfl (hb hby at_66) rfl  k_) ?_
          show own_Go p e below _ T29 (mkF m 67 #[oI i0, oI i1, oI i2, oI (4 : Int32), oI z, oR w6, oD (FP.i2d i1), .second, oD (FP.i2d z), .second, oI (1 : Int32), .unset] [(.int (4 : Int32))])
          refine own_by (fun t_ k_ => XS.ifYes XT29.here hx rfl (pc0 := 67) (pc' := 85) rfl (hb hby at_67) rfl (XT.i0_ne_t (by decide)) (by decide) (by decide) k_) ?_
          show own_Go p e below _ T29 (mkF m 85 #[oI i0, oI i1, oI i2, oI (4 : Int32), oI z, oR w6, oD (FP.i2d i1), .second, oD (FP.i2d z), .second, oI (1 : Int32), .unset] [])
          refine own_by (fun t_ k_ => XS.iloadN XT29.here hx rfl (hb hby at_85) rfl  k_) ?_
          show own_Go p e below _ T29 (mkF m 86 #[oI i0, oI i1, oI i2, oI (4 : Int32), oI z, oR w6, oD (FP.i2d i1), .second, oD (FP.i2d z), .second, oI (1 : Int32), .unset] [(.int (4 : Int32))])
          refine own_by (fun t_ k_ => XT.iconstV XT29.here hx rfl (1 : Int32) (hb hby at_86) (by decide) k_) ?_
          show own_Go p e below _ T29 (mkF m 87 #[oI i0, oI i1, oI i2, oI (4 : Int32), oI z, oR w6, oD (FP.i2d i1), .second, oD (FP.i2d z), .second, oI (1 : Int32), .unset] [(.int (1 : Int32)), (.int (4 : Int32))])
          refine own_by (fun t_ k_ => XS.icmpYes XT29.here hx rfl (pc0 := 87) (pc' := 105) rfl (hb hby at_87) rfl (XT.ii_ne_t (by decide)) (by decide) (by decide) k_) ?_
          show own_Go p e below _ T29 (mkF m 105 #[oI i0, oI i1, oI i2, oI (4 : Int32), oI z, oR w6, oD (FP.i2d i1), .second, oD (FP.i2d z), .second, oI (1 : Int32), .unset] [])
          refine own_by (fun t_ k_ => XS.iloadN XT29.here hx rfl (hb hby at_105) rfl  k_) ?_
          show own_Go p e below _ T29 (mkF m 106 #[oI i0, oI i1, oI i2, oI (4 : Int32), oI z, oR w6, oD (FP.i2d i1), .second, oD (FP.i2d z), .second, oI (1 : Int32), .unset] [(.int (4 : Int32))])
          refine own_by (fun t_ k_ => XT.iconstV XT29.here hx rfl (2 : Int32) (hb hby at_106) (by decide) k_) ?_
          show own_Go p e below _ T29 (mkF m 107 #[oI i0, oI i1, oI i2, oI (4 : Int32), oI z, oR w6, oD (FP.i2d i1), .second, oD (FP.i2d z), .second, oI (1 : Int32), .unset] [(.int (2 : Int32)), (.int (4 : Int32))])
          refine own_by (fun t_ k_ => XS.icmpYes XT29.here hx rfl (pc0 := 107) (pc' := 125) rfl (hb hby at_107) rfl (XT.ii_ne_t (by decide)) (by decide) (by decide) k_) ?_
          show own_Go p e below _ T29 (mkF m 125 #[oI i0, oI i1, oI i2, oI (4 : Int32), oI z, oR w6, oD (FP.i2d i1), .second, oD (FP.i2d z), .second, oI (1 : Int32), .unset] [])
          refine own_by (fun t_ k_ => XS.iloadN XT29.here hx rfl (hb hby at_125) rfl  k_) ?_
          show own_Go p e below _ T29 (mkF m 126 #[oI i0, oI i1, oI i2, oI (4 : Int32), oI z, oR w6, oD (FP.i2d i1), .second, oD (FP.i2d z), .second, oI (1 : Int32), .unset] [(.int (4 : Int32))])
          refine own_by (fun t_ k_ => XT.iconstV XT29.here hx rfl (3 : Int32) (hb hby at_126) (by decide) k_) ?_
          show own_Go p e below _ T29 (mkF m 127 #[oI i0, oI i1, oI i2, oI (4 : Int32), oI z, oR w6, oD (FP.i2d i1), .second, oD (FP.i2d z), .second, oI (1 : Int32), .unset] [(.int (3 : Int32)), (.int (4 : Int32))])
          refine own_by (fun t_ k_ => XS.icmpYes XT29.here hx rfl (pc0 := 127) (pc' := 145) rfl (hb hby at_127) rfl (XT.ii_ne_t (by decide)) (by decide) (by decide) k_) ?_
          show own_Go p e below _ T29 (mkF m 145 #[oI i0, oI i1, oI i2, oI (4 : Int32), oI z, oR w6, oD (FP.i2d i1), .second, oD (FP.i2d z), .second, oI (1 : Int32), .unset] [])
          refine own_by (fun t_ k_ => XS.iloadN XT29.here hx rfl (hb hby at_145) rfl  k_) ?_
          show own_Go p e below _ T29 (mkF m 146 #[oI i0, oI i1, oI i2, oI (4 : Int32), oI z, oR w6, oD (FP.i2d i1), .second, oD (FP.i2d z), .second, oI (1 : Int32), .unset] [(.int (4 : Int32))])
          refine own_by (fun t_ k_ => XT.iconstV XT29.here hx rfl (4 : Int32) (hb hby at_146) (by decide) k_) ?_
          show own_Go p e below _ T29 (mkF m 147 #[oI i0, oI i1, oI i2, oI (4 : Int32), oI z, oR w6, oD (FP.i2d i1), .second, oD (FP.i2d z), .second, oI (1 : Int32), .unset] [(.int (4 : Int32)), (.int (4 : Int32))])
          refine own_by (fun t_ k_ => XS.icmpNo XT29.here hx rfl (hb hby at_147) rfl (XT.ii_ne_f (by decide)) k_) ?_
          show own_Go p e below _ T29 (mkF m 150 #[oI i0, oI i1, oI i2, oI (4 : Int32), oI z, oR w6, oD (FP.i2d i1), .second, oD (FP.i2d z), .second, oI (1 : Int32), .unset] [])
          refine own_by (fun t_ k_ => XS.iload XT29.here hx rfl (hb hby at_150) rfl  k_) ?_
          show own_Go p e below _ T29 (mkF m 152 #[oI i0, oI i1, oI i2, oI (4 : Int32), oI z, oR w6, oD (FP.i2d i1), .second, oD (FP.i2d z), .second, oI (1 : Int32), .unset] [(.int (1 : Int32))])
          refine own_by (fun t_ k_ => XS.ifNo XT29.here hx rfl (hb hby at_152) rfl (XT.i0_le_f (by decide)) k_) ?_
          show own_Go p e below _ T29 (mkF m 155 #[oI i0, oI i1, oI i2, oI (4 : Int32), oI z, oR w6, oD (FP.i2d i1), .second, oD (FP.i2d z), .second, oI (1 : Int32), .unset] [])
          refine own_by (fun t_ k_ => XT.iconstV XT29.here hx rfl (1 : Int32) (hb hby at_155) (by decide) k_) ?_
          show own_Go p e below _ T29 (mkF m 156 #[oI i0, oI i1, oI i2, oI (4 : Int32), oI z, oR w6, oD (FP.i2d i1), .second, oD (FP.i2d z), .second, oI (1 : Int32), .unset] [(.int (1 : Int32))])
          refine own_by (fun t_ k_ => XS.goto XT29.here hx rfl (pc0 := 156) (pc' := 160) rfl (hb hby at_156) (by decide) (by decide) k_) ?_
          show own_Go p e below _ T29 (mkF m 160 #[oI i0, oI i1, oI i2, oI (4 : Int32), oI z, oR w6, oD (FP.i2d i1), .second, oD (FP.i2d z), .second, oI (1 : Int32), .unset] [(.int (1 : Int32))])
          refine own_by (fun t_ k_ => XS.istore XT29.here hx rfl (hb hby at_160) rfl (l' := #[oI i0, oI i1, oI i2, oI (4 : Int32), oI z, oR w6, oD (FP.i2d i1), .second, oD (FP.i2d z), .second, oI (1 : Int32), oI (1 : Int32)]) rfl k_) ?_
          show own_Go p e below _ T29 (mkF m 162 #[oI i0, oI i1, oI i2, oI (4 : Int32), oI z, oR w6, oD (FP.i2d i1), .second, oD (FP.i2d z), .second, oI (1 : Int32), oI (1 : Int32)] [])
          refine own_by (fun t_ k_ => XS.goto XT29.here hx rfl (pc0 := 162) (pc' := 177) rfl (hb hby at_162) (by decide) (by decide) k_) ?_
          show own_Go p e below _ T29 (mkF m 177 #[oI i0, oI i1, oI i2, oI (4 : Int32), oI z, oR w6, oD (FP.i2d i1), .second, oD (FP.i2d z), .second, oI (1 : Int32), oI (1 : Int32)] [])
          refine own_by (fun t_ k_ => XS.aload XT29.here hx rfl (hb hby at_177) rfl rfl  k_) ?_
          show own_Go p e below _ T29 (mkF m 179 #[oI i0, oI i1, oI i2, oI (4 : Int32), oI z, oR w6, oD (FP.i2d i1), .second, oD (FP.i2d z), .second, oI (1 : Int32), oI (1 : Int32)] [(.ref w6)])
          refine own_by (fun t_ k_ => XS.dload XT29.here hx rfl (hb hby at_179) rfl  k_) ?_
          show own_Go p e below _ T29 (mkF m 181 #[oI i0, oI i1, oI i2, oI (4 : Int32), oI z, oR w6, oD (FP.i2d i1), .second, oD (FP.i2d z), .second, oI (1 : Int32), oI (1 : Int32)] [(.double (FP.i2d i1)), (.ref w6)])
          refine own_by (fun t_ k_ => XS.dload XT29.here hx rfl (hb hby at_181) rfl  k_) ?_
          show own_Go p e below _ T29 (mkF m 183 #[oI i0, oI i1, oI i2, oI (4 : Int32), oI z, oR w6, oD (FP.i2d i1), .second, oD (FP.i2d z), .second, oI (1 : Int32), oI (1 : Int32)] [(.double (FP.i2d z)), (.double (FP.i2d i1)), (.ref w6)])
          refine own_callV XT29 hx hZ hown (hw _ (List.mem_of_getElem? (i := 8) rfl)) (hw _ (List.mem_of_getElem? (i := 9) rfl)) (hw _ (List.mem_of_getElem? (i := 11) rfl)) (hw _ (List.mem_of_getElem? (i := 10) rfl)) (hw _ (List.mem_of_getElem? (i := 12) rfl)) (hw _ (List.mem_of_getElem? (i := 6) rfl)) (by decide) eT29 (b := w6) E6 (argsL := [(.double (FP.i2d i1)), (.double (FP.i2d z))]) (rest := []) (own_holds_met l Z a0 hw w6 i1 z w2 w3 w4 w5 w6 w7 h0 S) 0 (by decide) (by decide) (by rw [hml]; rfl) (lenOf pd_1 rfl) (Nat.le_of_eq rfl) (hb hby at_183) (by decide) (by decide) (st := [(.double (FP.i2d z)), (.double (FP.i2d i1)), (.ref w6)]) rfl ?_
          intro T34 LT34 vT34 XT34 hQT34
          obtain ⟨rfl, eT34, rfl⟩ := hQT34
          show own_Go p e below _ T34 (mkF m 186 #[oI i0, oI i1, oI i2, oI (4 : Int32), oI z, oR w6, oD (FP.i2d i1), .second, oD (FP.i2d z), .second, oI (1 : Int32), oI (1 : Int32)] [(.int (own_holds w6 i1 z w2 w3 w4 w5 w6 w7))])
          rw [show own_holds w6 i1 z w2 w3 w4 w5 w6 w7 = (1 : Int32) by rw [own_holds, if_neg (F6.ne F2 (by decide)), if_neg (F6.ne F3 (by decide)), if_neg (F6.ne F4 (by decide)), if_neg (F6.ne F5 (by decide)), if_pos rfl, if_pos (by rw [hc] <;> decide)]]
          show own_Go p e below _ T34 (mkF m 186 #[oI i0, oI i1, oI i2, oI (4 : Int32), oI z, oR w6, oD (FP.i2d i1), .second, oD (FP.i2d z), .second, oI (1 : Int32), oI (1 : Int32)] [(.int (1 : Int32))])
          refine own_by (fun t_ k_ => XS.iload XT34.here hx rfl (hb hby at_186) rfl  k_) ?_
          show own_Go p e below _ T34 (mkF m 188 #[oI i0, oI i1, oI i2, oI (4 : Int32), oI z, oR w6, oD (FP.i2d i1), .second, oD (FP.i2d z), .second, oI (1 : Int32), oI (1 : Int32)] [(.int (1 : Int32)), (.int (1 : Int32))])
          refine own_by (fun t_ k_ => XS.icmpNo XT34.here hx rfl (hb hby at_188) rfl (XT.ii_ne_f (by decide)) k_) ?_
          show own_Go p e below _ T34 (mkF m 191 #[oI i0, oI i1, oI i2, oI (4 : Int32), oI z, oR w6, oD (FP.i2d i1), .second, oD (FP.i2d z), .second, oI (1 : Int32), oI (1 : Int32)] [])
          refine own_by (fun t_ k_ => XT.iconstV XT34.here hx rfl (1 : Int32) (hb hby at_191) (by decide) k_) ?_
          show own_Go p e below _ T34 (mkF m 192 #[oI i0, oI i1, oI i2, oI (4 : Int32), oI z, oR w6, oD (FP.i2d i1), .second, oD (FP.i2d z), .second, oI (1 : Int32), oI (1 : Int32)] [(.int (1 : Int32))])
          refine own_by (fun t_ k_ => XS.goto XT34.here hx rfl (pc0 := 192) (pc' := 196) rfl (hb hby at_192) (by decide) (by decide) k_) ?_
          show own_Go p e below _ T34 (mkF m 196 #[oI i0, oI i1, oI i2, oI (4 : Int32), oI z, oR w6, oD (FP.i2d i1), .second, oD (FP.i2d z), .second, oI (1 : Int32), oI (1 : Int32)] [(.int (1 : Int32))])
          exact own_retN XT34 hx hlk hret (by simp) (w := (1 : Int32)) (hb hby at_196) (by decide) (by decide) (by decide) (⟨rfl, eT34, rfl⟩)
    by_cases c14_34 : (((i0.toUInt32 >>> ((8 : Int32) &&& 31).toUInt32).toInt32) &&& (1 : Int32)) = (0 : Int32)
    · refine own_by (fun t_ k_ => XS.ifYes X0.here hx rfl (pc0 := 14) (pc' := 21) rfl (hb hby at_14) rfl (XT.i0_eq_t c14_34) (by decide) (by decide) k_) ?_
      show own_Go p e below _ T0 (mkF m 21 #[oI i0, oI i1, oI i2, oI (4 : Int32), .unset, .unset, .unset, .unset, .unset, .unset, .unset, .unset] [])
      refine own_by (fun t_ k_ => XS.iloadN X0.here hx rfl (hb hby at_21) rfl  k_) ?_
      show own_Go p e below _ T0 (mkF m 22 #[oI i0, oI i1, oI i2, oI (4 : Int32), .unset, .unset, .unset, .unset, .unset, .unset, .unset, .unset] [(.int i2)])
      exact J _
    · refine own_by (fun t_ k_ => XS.ifNo X0.here hx rfl (hb hby at_14) rfl (XT.i0_eq_f c14_34) k_) ?_
      show own_Go p e below _ T0 (mkF m 17 #[oI i0, oI i1, oI i2, oI (4 : Int32), .unset, .unset, .unset, .unset, .unset, .unset, .unset, .unset] [])
      refine own_by (fun t_ k_ => XS.iloadN X0.here hx rfl (hb hby at_17) rfl  k_) ?_
      show own_Go p e below _ T0 (mkF m 18 #[oI i0, oI i1, oI i2, oI (4 : Int32), .unset, .unset, .unset, .unset, .unset, .unset, .unset, .unset] [(.int i1)])
      refine own_by (fun t_ k_ => XS.goto X0.here hx rfl (pc0 := 18) (pc' := 22) rfl (hb hby at_18) (by decide) (by decide) k_) ?_
      show own_Go p e below _ T0 (mkF m 22 #[oI i0, oI i1, oI i2, oI (4 : Int32), .unset, .unset, .unset, .unset, .unset, .unset, .unset, .unset] [(.int i1)])
      exact J _
  · refine own_by (fun t_ k_ => XS.iloadN X0.here hx rfl (hb hby at_0) rfl  k_) ?_
    show own_Go p e below _ T0 (mkF m 1 #[oI i0, oI i1, oI i2, .unset, .unset, .unset, .unset, .unset, .unset, .unset, .unset, .unset] [(.int i0)])
    refine own_by (fun t_ k_ => X0.ldcI hx hown (mvT hZ (hw _ (List.mem_of_getElem? (i := 0) rfl))) rfl (hb hby at_1) k_) ?_
    show own_Go p e below _ T0 (mkF m 3 #[oI i0, oI i1, oI i2, .unset, .unset, .unset, .unset, .unset, .unset, .unset, .unset, .unset] [(.int (2147483647 : Int32)), (.int i0)])
    refine own_by (fun t_ k_ => XS.iand X0.here hx rfl (hb hby at_3) rfl k_) ?_
    show own_Go p e below _ T0 (mkF m 4 #[oI i0, oI i1, oI i2, .unset, .unset, .unset, .unset, .unset, .unset, .unset, .unset, .unset] [(.int (i0 &&& (2147483647 : Int32)))])
    refine own_by (fun t_ k_ => XT.bipushV X0.here hx rfl (6 : Int32) (hb hby at_4) (by decide) k_) ?_
    show own_Go p e below _ T0 (mkF m 6 #[oI i0, oI i1, oI i2, .unset, .unset, .unset, .unset, .unset, .unset, .unset, .unset, .unset] [(.int (6 : Int32)), (.int (i0 &&& (2147483647 : Int32)))])
    refine own_by (fun t_ k_ => iremM X0 hx rfl (hb hby at_6) rfl (by decide) k_) ?_
    show own_Go p e below _ T0 (mkF m 7 #[oI i0, oI i1, oI i2, .unset, .unset, .unset, .unset, .unset, .unset, .unset, .unset, .unset] [(.int ((i0 &&& (2147483647 : Int32)) % (6 : Int32)))])
    rw [hk]
    show own_Go p e below _ T0 (mkF m 7 #[oI i0, oI i1, oI i2, .unset, .unset, .unset, .unset, .unset, .unset, .unset, .unset, .unset] [(.int (5 : Int32))])
    refine own_by (fun t_ k_ => XS.istoreN X0.here hx rfl (hb hby at_7) rfl (l' := #[oI i0, oI i1, oI i2, oI (5 : Int32), .unset, .unset, .unset, .unset, .unset, .unset, .unset, .unset]) rfl k_) ?_
    show own_Go p e below _ T0 (mkF m 8 #[oI i0, oI i1, oI i2, oI (5 : Int32), .unset, .unset, .unset, .unset, .unset, .unset, .unset, .unset] [])
    refine own_by (fun t_ k_ => XS.iloadN X0.here hx rfl (hb hby at_8) rfl  k_) ?_
    show own_Go p e below _ T0 (mkF m 9 #[oI i0, oI i1, oI i2, oI (5 : Int32), .unset, .unset, .unset, .unset, .unset, .unset, .unset, .unset] [(.int i0)])
    refine own_by (fun t_ k_ => XT.bipushV X0.here hx rfl (8 : Int32) (hb hby at_9) (by decide) k_) ?_
    show own_Go p e below _ T0 (mkF m 11 #[oI i0, oI i1, oI i2, oI (5 : Int32), .unset, .unset, .unset, .unset, .unset, .unset, .unset, .unset] [(.int (8 : Int32)), (.int i0)])
    refine own_by (fun t_ k_ => XT.iushr X0.here hx rfl (hb hby at_11) rfl k_) ?_
    show own_Go p e below _ T0 (mkF m 12 #[oI i0, oI i1, oI i2, oI (5 : Int32), .unset, .unset, .unset, .unset, .unset, .unset, .unset, .unset] [(.int ((i0.toUInt32 >>> ((8 : Int32) &&& 31).toUInt32).toInt32))])
    refine own_by (fun t_ k_ => XT.iconstV X0.here hx rfl (1 : Int32) (hb hby at_12) (by decide) k_) ?_
    show own_Go p e below _ T0 (mkF m 13 #[oI i0, oI i1, oI i2, oI (5 : Int32), .unset, .unset, .unset, .unset, .unset, .unset, .unset, .unset] [(.int (1 : Int32)), (.int ((i0.toUInt32 >>> ((8 : Int32) &&& 31).toUInt32).toInt32))])
    refine own_by (fun t_ k_ => XS.iand X0.here hx rfl (hb hby at_13) rfl k_) ?_
    show own_Go p e below _ T0 (mkF m 14 #[oI i0, oI i1, oI i2, oI (5 : Int32), .unset, .unset, .unset, .unset, .unset, .unset, .unset, .unset] [(.int (((i0.toUInt32 >>> ((8 : Int32) &&& 31).toUInt32).toInt32) &&& (1 : Int32)))])
    have J : ∀ z : Int32, own_Go p e below (own_K s room_1.cells room_1.slots (fun v h L => v = some (.int (1 : Int32)) ∧ h = h0 ∧ L = [])) T0 (mkF m 22 #[oI i0, oI i1, oI i2, oI (5 : Int32), .unset, .unset, .unset, .unset, .unset, .unset, .unset, .unset] [(.int z)]) := by
      intro z
      show own_Go p e below _ T0 (mkF m 22 #[oI i0, oI i1, oI i2, oI (5 : Int32), .unset, .unset, .unset, .unset, .unset, .unset, .unset, .unset] [(.int z)])
      refine own_by (fun t_ k_ => XS.istore X0.here hx rfl (hb hby at_22) rfl (l' := #[oI i0, oI i1, oI i2, oI (5 : Int32), oI z, .unset, .unset, .unset, .unset, .unset, .unset, .unset]) rfl k_) ?_
      show own_Go p e below _ T0 (mkF m 24 #[oI i0, oI i1, oI i2, oI (5 : Int32), oI z, .unset, .unset, .unset, .unset, .unset, .unset, .unset] [])
      refine own_by (fun t_ k_ => XS.iloadN X0.here hx rfl (hb hby at_24) rfl  k_) ?_
      show own_Go p e below _ T0 (mkF m 25 #[oI i0, oI i1, oI i2, oI (5 : Int32), oI z, .unset, .unset, .unset, .unset, .unset, .unset, .unset] [(.int (5 : Int32))])
      refine own_callS X0 hx hZ hown (hw _ (List.mem_of_getElem? (i := 1) rfl)) (hw _ (List.mem_of_getElem? (i := 2) rfl)) (hw _ (List.mem_of_getElem? (i := 3) rfl)) (hw _ (List.mem_of_getElem? (i := 4) rfl)) (by decide) e0 (argsL := [(.int (5 : Int32))]) (rest := []) (own_op_met l Z a0 hw (5 : Int32) w2 w3 w4 w5 w6 w7 h0 S) 0 (by decide) (by decide) (by rw [hml]; rfl) (lenOf pd_0 rfl) (Nat.le_of_eq rfl) (hb hby at_25) (by decide) (by decide) (st := [(.int (5 : Int32))]) rfl ?_
      intro T36 LT36 vT36 XT36 hQT36
      obtain ⟨rfl, eT36, rfl⟩ := hQT36
      show own_Go p e below _ T36 (mkF m 28 #[oI i0, oI i1, oI i2, oI (5 : Int32), oI z, .unset, .unset, .unset, .unset, .unset, .unset, .unset] [(.ref (own_op (5 : Int32) w2 w3 w4 w5 w6 w7))])
      rw [show own_op (5 : Int32) w2 w3 w4 w5 w6 w7 = w7 by rw [own_op, if_neg (by decide), if_neg (by decide), if_neg (by decide), if_neg (by decide), if_neg (by decide)]]
      show own_Go p e below _ T36 (mkF m 28 #[oI i0, oI i1, oI i2, oI (5 : Int32), oI z, .unset, .unset, .unset, .unset, .unset, .unset, .unset] [(.ref w7)])
      refine own_by (fun t_ k_ => XS.astore XT36.here hx rfl (hb hby at_28) rfl rfl (l' := #[oI i0, oI i1, oI i2, oI (5 : Int32), oI z, oR w7, .unset, .unset, .unset, .unset, .unset, .unset]) rfl k_) ?_
      show own_Go p e below _ T36 (mkF m 30 #[oI i0, oI i1, oI i2, oI (5 : Int32), oI z, oR w7, .unset, .unset, .unset, .unset, .unset, .unset] [])
      refine own_by (fun t_ k_ => XS.iloadN XT36.here hx rfl (hb hby at_30) rfl  k_) ?_
      show own_Go p e below _ T36 (mkF m 31 #[oI i0, oI i1, oI i2, oI (5 : Int32), oI z, oR w7, .unset, .unset, .unset, .unset, .unset, .unset] [(.int i1)])
      refine own_by (fun t_ k_ => XS.i2dS XT36.here hx rfl (hb hby at_31) rfl rfl k_) ?_
      show own_Go p e below _ T36 (mkF m 32 #[oI i0, oI i1, oI i2, oI (5 : Int32), oI z, oR w7, .unset, .unset, .unset, .unset, .unset, .unset] [(.double (FP.i2d i1))])
      refine own_by (fun t_ k_ => XS.dstore XT36.here hx rfl (hb hby at_32) rfl (l' := #[oI i0, oI i1, oI i2, oI (5 : Int32), oI z, oR w7, oD (FP.i2d i1), .second, .unset, .unset, .unset, .unset]) rfl k_) ?_
      show own_Go p e below _ T36 (mkF m 34 #[oI i0, oI i1, oI i2, oI (5 : Int32), oI z, oR w7, oD (FP.i2d i1), .second, .unset, .unset, .unset, .unset] [])
      refine own_by (fun t_ k_ => XS.iload XT36.here hx rfl (hb hby at_34) rfl  k_) ?_
      show own_Go p e below _ T36 (mkF m 36 #[oI i0, oI i1, oI i2, oI (5 : Int32), oI z, oR w7, oD (FP.i2d i1), .second, .unset, .unset, .unset, .unset] [(.int z)])
      refine own_by (fun t_ k_ => XS.i2dS XT36.here hx rfl (hb hby at_36) rfl rfl k_) ?_
      show own_Go p e below _ T36 (mkF m 37 #[oI i0, oI i1, oI i2, oI (5 : Int32), oI z, oR w7, oD (FP.i2d i1), .second, .unset, .unset, .unset, .unset] [(.double (FP.i2d z))])
      refine own_by (fun t_ k_ => XS.dstore XT36.here hx rfl (hb hby at_37) rfl (l' := #[oI i0, oI i1, oI i2, oI (5 : Int32), oI z, oR w7, oD (FP.i2d i1), .second, oD (FP.i2d z), .second, .unset, .unset]) rfl k_) ?_
      show own_Go p e below _ T36 (mkF m 39 #[oI i0, oI i1, oI i2, oI (5 : Int32), oI z, oR w7, oD (FP.i2d i1), .second, oD (FP.i2d z), .second, .unset, .unset] [])
      refine own_by (fun t_ k_ => XS.iloadN XT36.here hx rfl (hb hby at_39) rfl  k_) ?_
      show own_Go p e below _ T36 (mkF m 40 #[oI i0, oI i1, oI i2, oI (5 : Int32), oI z, oR w7, oD (FP.i2d i1), .second, oD (FP.i2d z), .second, .unset, .unset] [(.int i1)])
      refine own_by (fun t_ k_ => XS.iload XT36.here hx rfl (hb hby at_40) rfl  k_) ?_
      show own_Go p e below _ T36 (mkF m 42 #[oI i0, oI i1, oI i2, oI (5 : Int32), oI z, oR w7, oD (FP.i2d i1), .second, oD (FP.i2d z), .second, .unset, .unset] [(.int z), (.int i1)])
      by_cases c42_36 : i1 < z
      · refine own_by (fun t_ k_ => XS.icmpNo XT36.here hx rfl (hb hby at_42) rfl (XT.ii_ge_f c42_36) k_) ?_
        show own_Go p e below _ T36 (mkF m 45 #[oI i0, oI i1, oI i2, oI (5 : Int32), oI z, oR w7, oD (FP.i2d i1), .second, oD (FP.i2d z), .second, .unset, .unset] [])
        have hc : own_c3 i1 z = (-1 : Int32) := if_pos c42_36
        refine own_by (fun t_ k_ => XT.iconstV XT36.here hx rfl (-1 : Int32) (hb hby at_45) (by decide) k_) ?_
        show own_Go p e below _ T36 (mkF m 46 #[oI i0, oI i1, oI i2, oI (5 : Int32), oI z, oR w7, oD (FP.i2d i1), .second, oD (FP.i2d z), .second, .unset, .unset] [(.int (-1 : Int32))])
        refine own_by (fun t_ k_ => XS.istore XT36.here hx rfl (hb hby at_46) rfl (l' := #[oI i0, oI i1, oI i2, oI (5 : Int32), oI z, oR w7, oD (FP.i2d i1), .second, oD (FP.i2d z), .second, oI (-1 : Int32), .unset]) rfl k_) ?_
        show own_Go p e below _ T36 (mkF m 48 #[oI i0, oI i1, oI i2, oI (5 : Int32), oI z, oR w7, oD (FP.i2d i1), .second, oD (FP.i2d z), .second, oI (-1 : Int32), .unset] [])
        refine own_by (fun t_ k_ => XS.goto XT36.here hx rfl (pc0 := 48) (pc' := 66) rfl (hb hby at_48) (by decide) (by decide) k_) ?_
        show own_Go p e below _ T36 (mkF m 66 #[oI i0, oI i1, oI i2, oI (5 : Int32), oI z, oR w7, oD (FP.i2d i1), .second, oD (FP.i2d z), .second, oI (-1 : Int32), .unset] [])
        refine own_by (fun t_ k_ => XS.iloadN XT36.here hx rfl (hb hby at_66) rfl  k_) ?_
        show own_Go p e below _ T36 (mkF m 67 #[oI i0, oI i1, oI i2, oI (5 : Int32), oI z, oR w7, oD (FP.i2d i1), .second, oD (FP.i2d z), .second, oI (-1 : Int32), .unset] [(.int (5 : Int32))])
        refine own_by (fun t_ k_ => XS.ifYes XT36.here hx rfl (pc0 := 67) (pc' := 85) rfl (hb hby at_67) rfl (XT.i0_ne_t (by decide)) (by decide) (by decide) k_) ?_
        show own_Go p e below _ T36 (mkF m 85 #[oI i0, oI i1, oI i2, oI (5 : Int32), oI z, oR w7, oD (FP.i2d i1), .second, oD (FP.i2d z), .second, oI (-1 : Int32), .unset] [])
        refine own_by (fun t_ k_ => XS.iloadN XT36.here hx rfl (hb hby at_85) rfl  k_) ?_
        show own_Go p e below _ T36 (mkF m 86 #[oI i0, oI i1, oI i2, oI (5 : Int32), oI z, oR w7, oD (FP.i2d i1), .second, oD (FP.i2d z), .second, oI (-1 : Int32), .unset] [(.int (5 : Int32))])
        refine own_by (fun t_ k_ => XT.iconstV XT36.here hx rfl (1 : Int32) (hb hby at_86) (by decide) k_) ?_
        show own_Go p e below _ T36 (mkF m 87 #[oI i0, oI i1, oI i2, oI (5 : Int32), oI z, oR w7, oD (FP.i2d i1), .second, oD (FP.i2d z), .second, oI (-1 : Int32), .unset] [(.int (1 : Int32)), (.int (5 : Int32))])
        refine own_by (fun t_ k_ => XS.icmpYes XT36.here hx rfl (pc0 := 87) (pc' := 105) rfl (hb hby at_87) rfl (XT.ii_ne_t (by decide)) (by decide) (by decide) k_) ?_
        show own_Go p e below _ T36 (mkF m 105 #[oI i0, oI i1, oI i2, oI (5 : Int32), oI z, oR w7, oD (FP.i2d i1), .second, oD (FP.i2d z), .second, oI (-1 : Int32), .unset] [])
        refine own_by (fun t_ k_ => XS.iloadN XT36.here hx rfl (hb hby at_105) rfl  k_) ?_
        show own_Go p e below _ T36 (mkF m 106 #[oI i0, oI i1, oI i2, oI (5 : Int32), oI z, oR w7, oD (FP.i2d i1), .second, oD (FP.i2d z), .second, oI (-1 : Int32), .unset] [(.int (5 : Int32))])
        refine own_by (fun t_ k_ => XT.iconstV XT36.here hx rfl (2 : Int32) (hb hby at_106) (by decide) k_) ?_
        show own_Go p e below _ T36 (mkF m 107 #[oI i0, oI i1, oI i2, oI (5 : Int32), oI z, oR w7, oD (FP.i2d i1), .second, oD (FP.i2d z), .second, oI (-1 : Int32), .unset] [(.int (2 : Int32)), (.int (5 : Int32))])
        refine own_by (fun t_ k_ => XS.icmpYes XT36.here hx rfl (pc0 := 107) (pc' := 125) rfl (hb hby at_107) rfl (XT.ii_ne_t (by decide)) (by decide) (by decide) k_) ?_
        show own_Go p e below _ T36 (mkF m 125 #[oI i0, oI i1, oI i2, oI (5 : Int32), oI z, oR w7, oD (FP.i2d i1), .second, oD (FP.i2d z), .second, oI (-1 : Int32), .unset] [])
        refine own_by (fun t_ k_ => XS.iloadN XT36.here hx rfl (hb hby at_125) rfl  k_) ?_
        show own_Go p e below _ T36 (mkF m 126 #[oI i0, oI i1, oI i2, oI (5 : Int32), oI z, oR w7, oD (FP.i2d i1), .second, oD (FP.i2d z), .second, oI (-1 : Int32), .unset] [(.int (5 : Int32))])
        refine own_by (fun t_ k_ => XT.iconstV XT36.here hx rfl (3 : Int32) (hb hby at_126) (by decide) k_) ?_
        show own_Go p e below _ T36 (mkF m 127 #[oI i0, oI i1, oI i2, oI (5 : Int32), oI z, oR w7, oD (FP.i2d i1), .second, oD (FP.i2d z), .second, oI (-1 : Int32), .unset] [(.int (3 : Int32)), (.int (5 : Int32))])
        refine own_by (fun t_ k_ => XS.icmpYes XT36.here hx rfl (pc0 := 127) (pc' := 145) rfl (hb hby at_127) rfl (XT.ii_ne_t (by decide)) (by decide) (by decide) k_) ?_
        show own_Go p e below _ T36 (mkF m 145 #[oI i0, oI i1, oI i2, oI (5 : Int32), oI z, oR w7, oD (FP.i2d i1), .second, oD (FP.i2d z), .second, oI (-1 : Int32), .unset] [])
        refine own_by (fun t_ k_ => XS.iloadN XT36.here hx rfl (hb hby at_145) rfl  k_) ?_
        show own_Go p e below _ T36 (mkF m 146 #[oI i0, oI i1, oI i2, oI (5 : Int32), oI z, oR w7, oD (FP.i2d i1), .second, oD (FP.i2d z), .second, oI (-1 : Int32), .unset] [(.int (5 : Int32))])
        refine own_by (fun t_ k_ => XT.iconstV XT36.here hx rfl (4 : Int32) (hb hby at_146) (by decide) k_) ?_
        show own_Go p e below _ T36 (mkF m 147 #[oI i0, oI i1, oI i2, oI (5 : Int32), oI z, oR w7, oD (FP.i2d i1), .second, oD (FP.i2d z), .second, oI (-1 : Int32), .unset] [(.int (4 : Int32)), (.int (5 : Int32))])
        refine own_by (fun t_ k_ => XS.icmpYes XT36.here hx rfl (pc0 := 147) (pc' := 165) rfl (hb hby at_147) rfl (XT.ii_ne_t (by decide)) (by decide) (by decide) k_) ?_
        show own_Go p e below _ T36 (mkF m 165 #[oI i0, oI i1, oI i2, oI (5 : Int32), oI z, oR w7, oD (FP.i2d i1), .second, oD (FP.i2d z), .second, oI (-1 : Int32), .unset] [])
        refine own_by (fun t_ k_ => XS.iload XT36.here hx rfl (hb hby at_165) rfl  k_) ?_
        show own_Go p e below _ T36 (mkF m 167 #[oI i0, oI i1, oI i2, oI (5 : Int32), oI z, oR w7, oD (FP.i2d i1), .second, oD (FP.i2d z), .second, oI (-1 : Int32), .unset] [(.int (-1 : Int32))])
        refine own_by (fun t_ k_ => XS.ifYes XT36.here hx rfl (pc0 := 167) (pc' := 174) rfl (hb hby at_167) rfl (XT.i0_lt_t (by decide)) (by decide) (by decide) k_) ?_
        show own_Go p e below _ T36 (mkF m 174 #[oI i0, oI i1, oI i2, oI (5 : Int32), oI z, oR w7, oD (FP.i2d i1), .second, oD (FP.i2d z), .second, oI (-1 : Int32), .unset] [])
        refine own_by (fun t_ k_ => XT.iconstV XT36.here hx rfl (0 : Int32) (hb hby at_174) (by decide) k_) ?_
        show own_Go p e below _ T36 (mkF m 175 #[oI i0, oI i1, oI i2, oI (5 : Int32), oI z, oR w7, oD (FP.i2d i1), .second, oD (FP.i2d z), .second, oI (-1 : Int32), .unset] [(.int (0 : Int32))])
        refine own_by (fun t_ k_ => XS.istore XT36.here hx rfl (hb hby at_175) rfl (l' := #[oI i0, oI i1, oI i2, oI (5 : Int32), oI z, oR w7, oD (FP.i2d i1), .second, oD (FP.i2d z), .second, oI (-1 : Int32), oI (0 : Int32)]) rfl k_) ?_
        show own_Go p e below _ T36 (mkF m 177 #[oI i0, oI i1, oI i2, oI (5 : Int32), oI z, oR w7, oD (FP.i2d i1), .second, oD (FP.i2d z), .second, oI (-1 : Int32), oI (0 : Int32)] [])
        refine own_by (fun t_ k_ => XS.aload XT36.here hx rfl (hb hby at_177) rfl rfl  k_) ?_
        show own_Go p e below _ T36 (mkF m 179 #[oI i0, oI i1, oI i2, oI (5 : Int32), oI z, oR w7, oD (FP.i2d i1), .second, oD (FP.i2d z), .second, oI (-1 : Int32), oI (0 : Int32)] [(.ref w7)])
        refine own_by (fun t_ k_ => XS.dload XT36.here hx rfl (hb hby at_179) rfl  k_) ?_
        show own_Go p e below _ T36 (mkF m 181 #[oI i0, oI i1, oI i2, oI (5 : Int32), oI z, oR w7, oD (FP.i2d i1), .second, oD (FP.i2d z), .second, oI (-1 : Int32), oI (0 : Int32)] [(.double (FP.i2d i1)), (.ref w7)])
        refine own_by (fun t_ k_ => XS.dload XT36.here hx rfl (hb hby at_181) rfl  k_) ?_
        show own_Go p e below _ T36 (mkF m 183 #[oI i0, oI i1, oI i2, oI (5 : Int32), oI z, oR w7, oD (FP.i2d i1), .second, oD (FP.i2d z), .second, oI (-1 : Int32), oI (0 : Int32)] [(.double (FP.i2d z)), (.double (FP.i2d i1)), (.ref w7)])
        refine own_callV XT36 hx hZ hown (hw _ (List.mem_of_getElem? (i := 8) rfl)) (hw _ (List.mem_of_getElem? (i := 9) rfl)) (hw _ (List.mem_of_getElem? (i := 11) rfl)) (hw _ (List.mem_of_getElem? (i := 10) rfl)) (hw _ (List.mem_of_getElem? (i := 12) rfl)) (hw _ (List.mem_of_getElem? (i := 6) rfl)) (by decide) eT36 (b := w7) E7 (argsL := [(.double (FP.i2d i1)), (.double (FP.i2d z))]) (rest := []) (own_holds_met l Z a0 hw w7 i1 z w2 w3 w4 w5 w6 w7 h0 S) 0 (by decide) (by decide) (by rw [hml]; rfl) (lenOf pd_1 rfl) (Nat.le_of_eq rfl) (hb hby at_183) (by decide) (by decide) (st := [(.double (FP.i2d z)), (.double (FP.i2d i1)), (.ref w7)]) rfl ?_
        intro T38 LT38 vT38 XT38 hQT38
        obtain ⟨rfl, eT38, rfl⟩ := hQT38
        show own_Go p e below _ T38 (mkF m 186 #[oI i0, oI i1, oI i2, oI (5 : Int32), oI z, oR w7, oD (FP.i2d i1), .second, oD (FP.i2d z), .second, oI (-1 : Int32), oI (0 : Int32)] [(.int (own_holds w7 i1 z w2 w3 w4 w5 w6 w7))])
        rw [show own_holds w7 i1 z w2 w3 w4 w5 w6 w7 = (0 : Int32) by rw [own_holds, if_neg (F7.ne F2 (by decide)), if_neg (F7.ne F3 (by decide)), if_neg (F7.ne F4 (by decide)), if_neg (F7.ne F5 (by decide)), if_neg (F7.ne F6 (by decide)), if_pos (by rw [hc] <;> decide)]]
        show own_Go p e below _ T38 (mkF m 186 #[oI i0, oI i1, oI i2, oI (5 : Int32), oI z, oR w7, oD (FP.i2d i1), .second, oD (FP.i2d z), .second, oI (-1 : Int32), oI (0 : Int32)] [(.int (0 : Int32))])
        refine own_by (fun t_ k_ => XS.iload XT38.here hx rfl (hb hby at_186) rfl  k_) ?_
        show own_Go p e below _ T38 (mkF m 188 #[oI i0, oI i1, oI i2, oI (5 : Int32), oI z, oR w7, oD (FP.i2d i1), .second, oD (FP.i2d z), .second, oI (-1 : Int32), oI (0 : Int32)] [(.int (0 : Int32)), (.int (0 : Int32))])
        refine own_by (fun t_ k_ => XS.icmpNo XT38.here hx rfl (hb hby at_188) rfl (XT.ii_ne_f (by decide)) k_) ?_
        show own_Go p e below _ T38 (mkF m 191 #[oI i0, oI i1, oI i2, oI (5 : Int32), oI z, oR w7, oD (FP.i2d i1), .second, oD (FP.i2d z), .second, oI (-1 : Int32), oI (0 : Int32)] [])
        refine own_by (fun t_ k_ => XT.iconstV XT38.here hx rfl (1 : Int32) (hb hby at_191) (by decide) k_) ?_
        show own_Go p e below _ T38 (mkF m 192 #[oI i0, oI i1, oI i2, oI (5 : Int32), oI z, oR w7, oD (FP.i2d i1), .second, oD (FP.i2d z), .second, oI (-1 : Int32), oI (0 : Int32)] [(.int (1 : Int32))])
        refine own_by (fun t_ k_ => XS.goto XT38.here hx rfl (pc0 := 192) (pc' := 196) rfl (hb hby at_192) (by decide) (by decide) k_) ?_
        show own_Go p e below _ T38 (mkF m 196 #[oI i0, oI i1, oI i2, oI (5 : Int32), oI z, oR w7, oD (FP.i2d i1), .second, oD (FP.i2d z), .second, oI (-1 : Int32), oI (0 : Int32)] [(.int (1 : Int32))])
        exact own_retN XT38 hx hlk hret (by simp) (w := (1 : Int32)) (hb hby at_196) (by decide) (by decide) (by decide) (⟨rfl, eT38, rfl⟩)
      · refine own_by (fun t_ k_ => XS.icmpYes XT36.here hx rfl (pc0 := 42) (pc' := 51) rfl (hb hby at_42) rfl (XT.ii_ge_t c42_36) (by decide) (by decide) k_) ?_
        show own_Go p e below _ T36 (mkF m 51 #[oI i0, oI i1, oI i2, oI (5 : Int32), oI z, oR w7, oD (FP.i2d i1), .second, oD (FP.i2d z), .second, .unset, .unset] [])
        refine own_by (fun t_ k_ => XS.iloadN XT36.here hx rfl (hb hby at_51) rfl  k_) ?_
        show own_Go p e below _ T36 (mkF m 52 #[oI i0, oI i1, oI i2, oI (5 : Int32), oI z, oR w7, oD (FP.i2d i1), .second, oD (FP.i2d z), .second, .unset, .unset] [(.int i1)])
        refine own_by (fun t_ k_ => XS.iload XT36.here hx rfl (hb hby at_52) rfl  k_) ?_
        show own_Go p e below _ T36 (mkF m 54 #[oI i0, oI i1, oI i2, oI (5 : Int32), oI z, oR w7, oD (FP.i2d i1), .second, oD (FP.i2d z), .second, .unset, .unset] [(.int z), (.int i1)])
        by_cases c54_38 : i1 = z
        · refine own_by (fun t_ k_ => XS.icmpNo XT36.here hx rfl (hb hby at_54) rfl (XT.ii_ne_f c54_38) k_) ?_
          show own_Go p e below _ T36 (mkF m 57 #[oI i0, oI i1, oI i2, oI (5 : Int32), oI z, oR w7, oD (FP.i2d i1), .second, oD (FP.i2d z), .second, .unset, .unset] [])
          have hc : own_c3 i1 z = (0 : Int32) := by rw [own_c3, if_neg c42_36, if_pos c54_38]
          refine own_by (fun t_ k_ => XT.iconstV XT36.here hx rfl (0 : Int32) (hb hby at_57) (by decide) k_) ?_
          show own_Go p e below _ T36 (mkF m 58 #[oI i0, oI i1, oI i2, oI (5 : Int32), oI z, oR w7, oD (FP.i2d i1), .second, oD (FP.i2d z), .second, .unset, .unset] [(.int (0 : Int32))])
          refine own_by (fun t_ k_ => XS.istore XT36.here hx rfl (hb hby at_58) rfl (l' := #[oI i0, oI i1, oI i2, oI (5 : Int32), oI z, oR w7, oD (FP.i2d i1), .second, oD (FP.i2d z), .second, oI (0 : Int32), .unset]) rfl k_) ?_
          show own_Go p e below _ T36 (mkF m 60 #[oI i0, oI i1, oI i2, oI (5 : Int32), oI z, oR w7, oD (FP.i2d i1), .second, oD (FP.i2d z), .second, oI (0 : Int32), .unset] [])
          refine own_by (fun t_ k_ => XS.goto XT36.here hx rfl (pc0 := 60) (pc' := 66) rfl (hb hby at_60) (by decide) (by decide) k_) ?_
          show own_Go p e below _ T36 (mkF m 66 #[oI i0, oI i1, oI i2, oI (5 : Int32), oI z, oR w7, oD (FP.i2d i1), .second, oD (FP.i2d z), .second, oI (0 : Int32), .unset] [])
          refine own_by (fun t_ k_ => XS.iloadN XT36.here hx rfl (hb hby at_66) rfl  k_) ?_
          show own_Go p e below _ T36 (mkF m 67 #[oI i0, oI i1, oI i2, oI (5 : Int32), oI z, oR w7, oD (FP.i2d i1), .second, oD (FP.i2d z), .second, oI (0 : Int32), .unset] [(.int (5 : Int32))])
          refine own_by (fun t_ k_ => XS.ifYes XT36.here hx rfl (pc0 := 67) (pc' := 85) rfl (hb hby at_67) rfl (XT.i0_ne_t (by decide)) (by decide) (by decide) k_) ?_
          show own_Go p e below _ T36 (mkF m 85 #[oI i0, oI i1, oI i2, oI (5 : Int32), oI z, oR w7, oD (FP.i2d i1), .second, oD (FP.i2d z), .second, oI (0 : Int32), .unset] [])
          refine own_by (fun t_ k_ => XS.iloadN XT36.here hx rfl (hb hby at_85) rfl  k_) ?_
          show own_Go p e below _ T36 (mkF m 86 #[oI i0, oI i1, oI i2, oI (5 : Int32), oI z, oR w7, oD (FP.i2d i1), .second, oD (FP.i2d z), .second, oI (0 : Int32), .unset] [(.int (5 : Int32))])
          refine own_by (fun t_ k_ => XT.iconstV XT36.here hx rfl (1 : Int32) (hb hby at_86) (by decide) k_) ?_
          show own_Go p e below _ T36 (mkF m 87 #[oI i0, oI i1, oI i2, oI (5 : Int32), oI z, oR w7, oD (FP.i2d i1), .second, oD (FP.i2d z), .second, oI (0 : Int32), .unset] [(.int (1 : Int32)), (.int (5 : Int32))])
          refine own_by (fun t_ k_ => XS.icmpYes XT36.here hx rfl (pc0 := 87) (pc' := 105) rfl (hb hby at_87) rfl (XT.ii_ne_t (by decide)) (by decide) (by decide) k_) ?_
          show own_Go p e below _ T36 (mkF m 105 #[oI i0, oI i1, oI i2, oI (5 : Int32), oI z, oR w7, oD (FP.i2d i1), .second, oD (FP.i2d z), .second, oI (0 : Int32), .unset] [])
          refine own_by (fun t_ k_ => XS.iloadN XT36.here hx rfl (hb hby at_105) rfl  k_) ?_
          show own_Go p e below _ T36 (mkF m 106 #[oI i0, oI i1, oI i2, oI (5 : Int32), oI z, oR w7, oD (FP.i2d i1), .second, oD (FP.i2d z), .second, oI (0 : Int32), .unset] [(.int (5 : Int32))])
          refine own_by (fun t_ k_ => XT.iconstV XT36.here hx rfl (2 : Int32) (hb hby at_106) (by decide) k_) ?_
          show own_Go p e below _ T36 (mkF m 107 #[oI i0, oI i1, oI i2, oI (5 : Int32), oI z, oR w7, oD (FP.i2d i1), .second, oD (FP.i2d z), .second, oI (0 : Int32), .unset] [(.int (2 : Int32)), (.int (5 : Int32))])
          refine own_by (fun t_ k_ => XS.icmpYes XT36.here hx rfl (pc0 := 107) (pc' := 125) rfl (hb hby at_107) rfl (XT.ii_ne_t (by decide)) (by decide) (by decide) k_) ?_
          show own_Go p e below _ T36 (mkF m 125 #[oI i0, oI i1, oI i2, oI (5 : Int32), oI z, oR w7, oD (FP.i2d i1), .second, oD (FP.i2d z), .second, oI (0 : Int32), .unset] [])
          refine own_by (fun t_ k_ => XS.iloadN XT36.here hx rfl (hb hby at_125) rfl  k_) ?_
          show own_Go p e below _ T36 (mkF m 126 #[oI i0, oI i1, oI i2, oI (5 : Int32), oI z, oR w7, oD (FP.i2d i1), .second, oD (FP.i2d z), .second, oI (0 : Int32), .unset] [(.int (5 : Int32))])
          refine own_by (fun t_ k_ => XT.iconstV XT36.here hx rfl (3 : Int32) (hb hby at_126) (by decide) k_) ?_
          show own_Go p e below _ T36 (mkF m 127 #[oI i0, oI i1, oI i2, oI (5 : Int32), oI z, oR w7, oD (FP.i2d i1), .second, oD (FP.i2d z), .second, oI (0 : Int32), .unset] [(.int (3 : Int32)), (.int (5 : Int32))])
          refine own_by (fun t_ k_ => XS.icmpYes XT36.here hx rfl (pc0 := 127) (pc' := 145) rfl (hb hby at_127) rfl (XT.ii_ne_t (by decide)) (by decide) (by decide) k_) ?_
          show own_Go p e below _ T36 (mkF m 145 #[oI i0, oI i1, oI i2, oI (5 : Int32), oI z, oR w7, oD (FP.i2d i1), .second, oD (FP.i2d z), .second, oI (0 : Int32), .unset] [])
          refine own_by (fun t_ k_ => XS.iloadN XT36.here hx rfl (hb hby at_145) rfl  k_) ?_
          show own_Go p e below _ T36 (mkF m 146 #[oI i0, oI i1, oI i2, oI (5 : Int32), oI z, oR w7, oD (FP.i2d i1), .second, oD (FP.i2d z), .second, oI (0 : Int32), .unset] [(.int (5 : Int32))])
          refine own_by (fun t_ k_ => XT.iconstV XT36.here hx rfl (4 : Int32) (hb hby at_146) (by decide) k_) ?_
          show own_Go p e below _ T36 (mkF m 147 #[oI i0, oI i1, oI i2, oI (5 : Int32), oI z, oR w7, oD (FP.i2d i1), .second, oD (FP.i2d z), .second, oI (0 : Int32), .unset] [(.int (4 : Int32)), (.int (5 : Int32))])
          refine own_by (fun t_ k_ => XS.icmpYes XT36.here hx rfl (pc0 := 147) (pc' := 165) rfl (hb hby at_147) rfl (XT.ii_ne_t (by decide)) (by decide) (by decide) k_) ?_
          show own_Go p e below _ T36 (mkF m 165 #[oI i0, oI i1, oI i2, oI (5 : Int32), oI z, oR w7, oD (FP.i2d i1), .second, oD (FP.i2d z), .second, oI (0 : Int32), .unset] [])
          refine own_by (fun t_ k_ => XS.iload XT36.here hx rfl (hb hby at_165) rfl  k_) ?_
          show own_Go p e below _ T36 (mkF m 167 #[oI i0, oI i1, oI i2, oI (5 : Int32), oI z, oR w7, oD (FP.i2d i1), .second, oD (FP.i2d z), .second, oI (0 : Int32), .unset] [(.int (0 : Int32))])
          refine own_by (fun t_ k_ => XS.ifNo XT36.here hx rfl (hb hby at_167) rfl (XT.i0_lt_f (by decide)) k_) ?_
          show own_Go p e below _ T36 (mkF m 170 #[oI i0, oI i1, oI i2, oI (5 : Int32), oI z, oR w7, oD (FP.i2d i1), .second, oD (FP.i2d z), .second, oI (0 : Int32), .unset] [])
          refine own_by (fun t_ k_ => XT.iconstV XT36.here hx rfl (1 : Int32) (hb hby at_170) (by decide) k_) ?_
          show own_Go p e below _ T36 (mkF m 171 #[oI i0, oI i1, oI i2, oI (5 : Int32), oI z, oR w7, oD (FP.i2d i1), .second, oD (FP.i2d z), .second, oI (0 : Int32), .unset] [(.int (1 : Int32))])
          refine own_by (fun t_ k_ => XS.goto XT36.here hx rfl (pc0 := 171) (pc' := 175) rfl (hb hby at_171) (by decide) (by decide) k_) ?_
          show own_Go p e below _ T36 (mkF m 175 #[oI i0, oI i1, oI i2, oI (5 : Int32), oI z, oR w7, oD (FP.i2d i1), .second, oD (FP.i2d z), .second, oI (0 : Int32), .unset] [(.int (1 : Int32))])
          refine own_by (fun t_ k_ => XS.istore XT36.here hx rfl (hb hby at_175) rfl (l' := #[oI i0, oI i1, oI i2, oI (5 : Int32), oI z, oR w7, oD (FP.i2d i1), .second, oD (FP.i2d z), .second, oI (0 : Int32), oI (1 : Int32)]) rfl k_) ?_
          show own_Go p e below _ T36 (mkF m 177 #[oI i0, oI i1, oI i2, oI (5 : Int32), oI z, oR w7, oD (FP.i2d i1), .second, oD (FP.i2d z), .second, oI (0 : Int32), oI (1 : Int32)] [])
          refine own_by (fun t_ k_ => XS.aload XT36.here hx rfl (hb hby at_177) rfl rfl  k_) ?_
          show own_Go p e below _ T36 (mkF m 179 #[oI i0, oI i1, oI i2, oI (5 : Int32), oI z, oR w7, oD (FP.i2d i1), .second, oD (FP.i2d z), .second, oI (0 : Int32), oI (1 : Int32)] [(.ref w7)])
          refine own_by (fun t_ k_ => XS.dload XT36.here hx rfl (hb hby at_179) rfl  k_) ?_
          show own_Go p e below _ T36 (mkF m 181 #[oI i0, oI i1, oI i2, oI (5 : Int32), oI z, oR w7, oD (FP.i2d i1), .second, oD (FP.i2d z), .second, oI (0 : Int32), oI (1 : Int32)] [(.double (FP.i2d i1)), (.ref w7)])
          refine own_by (fun t_ k_ => XS.dload XT36.here hx rfl (hb hby at_181) rfl  k_) ?_
          show own_Go p e below _ T36 (mkF m 183 #[oI i0, oI i1, oI i2, oI (5 : Int32), oI z, oR w7, oD (FP.i2d i1), .second, oD (FP.i2d z), .second, oI (0 : Int32), oI (1 : Int32)] [(.double (FP.i2d z)), (.double (FP.i2d i1)), (.ref w7)])
          refine own_callV XT36 hx hZ hown (hw _ (List.mem_of_getElem? (i := 8) rfl)) (hw _ (List.mem_of_getElem? (i := 9) rfl)) (hw _ (List.mem_of_getElem? (i := 11) rfl)) (hw _ (List.mem_of_getElem? (i := 10) rfl)) (hw _ (List.mem_of_getElem? (i := 12) rfl)) (hw _ (List.mem_of_getElem? (i := 6) rfl)) (by decide) eT36 (b := w7) E7 (argsL := [(.double (FP.i2d i1)), (.double (FP.i2d z))]) (rest := []) (own_holds_met l Z a0 hw w7 i1 z w2 w3 w4 w5 w6 w7 h0 S) 0 (by decide) (by decide) (by rw [hml]; rfl) (lenOf pd_1 rfl) (Nat.le_of_eq rfl) (hb hby at_183) (by decide) (by decide) (st := [(.double (FP.i2d z)), (.double (FP.i2d i1)), (.ref w7)]) rfl ?_
          intro T40 LT40 vT40 XT40 hQT40
          obtain ⟨rfl, eT40, rfl⟩ := hQT40
          show own_Go p e below _ T40 (mkF m 186 #[oI i0, oI i1, oI i2, oI (5 : Int32), oI z, oR w7, oD (FP.i2d i1), .second, oD (FP.i2d z), .second, oI (0 : Int32), oI (1 : Int32)] [(.int (own_holds w7 i1 z w2 w3 w4 w5 w6 w7))])
          rw [show own_holds w7 i1 z w2 w3 w4 w5 w6 w7 = (1 : Int32) by rw [own_holds, if_neg (F7.ne F2 (by decide)), if_neg (F7.ne F3 (by decide)), if_neg (F7.ne F4 (by decide)), if_neg (F7.ne F5 (by decide)), if_neg (F7.ne F6 (by decide)), if_neg (by rw [hc] <;> decide)]]
          show own_Go p e below _ T40 (mkF m 186 #[oI i0, oI i1, oI i2, oI (5 : Int32), oI z, oR w7, oD (FP.i2d i1), .second, oD (FP.i2d z), .second, oI (0 : Int32), oI (1 : Int32)] [(.int (1 : Int32))])
          refine own_by (fun t_ k_ => XS.iload XT40.here hx rfl (hb hby at_186) rfl  k_) ?_
          show own_Go p e below _ T40 (mkF m 188 #[oI i0, oI i1, oI i2, oI (5 : Int32), oI z, oR w7, oD (FP.i2d i1), .second, oD (FP.i2d z), .second, oI (0 : Int32), oI (1 : Int32)] [(.int (1 : Int32)), (.int (1 : Int32))])
          refine own_by (fun t_ k_ => XS.icmpNo XT40.here hx rfl (hb hby at_188) rfl (XT.ii_ne_f (by decide)) k_) ?_
          show own_Go p e below _ T40 (mkF m 191 #[oI i0, oI i1, oI i2, oI (5 : Int32), oI z, oR w7, oD (FP.i2d i1), .second, oD (FP.i2d z), .second, oI (0 : Int32), oI (1 : Int32)] [])
          refine own_by (fun t_ k_ => XT.iconstV XT40.here hx rfl (1 : Int32) (hb hby at_191) (by decide) k_) ?_
          show own_Go p e below _ T40 (mkF m 192 #[oI i0, oI i1, oI i2, oI (5 : Int32), oI z, oR w7, oD (FP.i2d i1), .second, oD (FP.i2d z), .second, oI (0 : Int32), oI (1 : Int32)] [(.int (1 : Int32))])
          refine own_by (fun t_ k_ => XS.goto XT40.here hx rfl (pc0 := 192) (pc' := 196) rfl (hb hby at_192) (by decide) (by decide) k_) ?_
          show own_Go p e below _ T40 (mkF m 196 #[oI i0, oI i1, oI i2, oI (5 : Int32), oI z, oR w7, oD (FP.i2d i1), .second, oD (FP.i2d z), .second, oI (0 : Int32), oI (1 : Int32)] [(.int (1 : Int32))])
          exact own_retN XT40 hx hlk hret (by simp) (w := (1 : Int32)) (hb hby at_196) (by decide) (by decide) (by decide) (⟨rfl, eT40, rfl⟩)
        · refine own_by (fun t_ k_ => XS.icmpYes XT36.here hx rfl (pc0 := 54) (pc' := 63) rfl (hb hby at_54) rfl (XT.ii_ne_t c54_38) (by decide) (by decide) k_) ?_
          show own_Go p e below _ T36 (mkF m 63 #[oI i0, oI i1, oI i2, oI (5 : Int32), oI z, oR w7, oD (FP.i2d i1), .second, oD (FP.i2d z), .second, .unset, .unset] [])
          have hc : own_c3 i1 z = (1 : Int32) := by rw [own_c3, if_neg c42_36, if_neg c54_38]
          refine own_by (fun t_ k_ => XT.iconstV XT36.here hx rfl (1 : Int32) (hb hby at_63) (by decide) k_) ?_
          show own_Go p e below _ T36 (mkF m 64 #[oI i0, oI i1, oI i2, oI (5 : Int32), oI z, oR w7, oD (FP.i2d i1), .second, oD (FP.i2d z), .second, .unset, .unset] [(.int (1 : Int32))])
          refine own_by (fun t_ k_ => XS.istore XT36.here hx rfl (hb hby at_64) rfl (l' := #[oI i0, oI i1, oI i2, oI (5 : Int32), oI z, oR w7, oD (FP.i2d i1), .second, oD (FP.i2d z), .second, oI (1 : Int32), .unset]) rfl k_) ?_
          show own_Go p e below _ T36 (mkF m 66 #[oI i0, oI i1, oI i2, oI (5 : Int32), oI z, oR w7, oD (FP.i2d i1), .second, oD (FP.i2d z), .second, oI (1 : Int32), .unset] [])
          refine own_by (fun t_ k_ => XS.iloadN XT36.here hx rfl (hb hby at_66) rfl  k_) ?_
          show own_Go p e below _ T36 (mkF m 67 #[oI i0, oI i1, oI i2, oI (5 : Int32), oI z, oR w7, oD (FP.i2d i1), .second, oD (FP.i2d z), .second, oI (1 : Int32), .unset] [(.int (5 : Int32))])
          refine own_by (fun t_ k_ => XS.ifYes XT36.here hx rfl (pc0 := 67) (pc' := 85) rfl (hb hby at_67) rfl (XT.i0_ne_t (by decide)) (by decide) (by decide) k_) ?_
          show own_Go p e below _ T36 (mkF m 85 #[oI i0, oI i1, oI i2, oI (5 : Int32), oI z, oR w7, oD (FP.i2d i1), .second, oD (FP.i2d z), .second, oI (1 : Int32), .unset] [])
          refine own_by (fun t_ k_ => XS.iloadN XT36.here hx rfl (hb hby at_85) rfl  k_) ?_
          show own_Go p e below _ T36 (mkF m 86 #[oI i0, oI i1, oI i2, oI (5 : Int32), oI z, oR w7, oD (FP.i2d i1), .second, oD (FP.i2d z), .second, oI (1 : Int32), .unset] [(.int (5 : Int32))])
          refine own_by (fun t_ k_ => XT.iconstV XT36.here hx rfl (1 : Int32) (hb hby at_86) (by decide) k_) ?_
          show own_Go p e below _ T36 (mkF m 87 #[oI i0, oI i1, oI i2, oI (5 : Int32), oI z, oR w7, oD (FP.i2d i1), .second, oD (FP.i2d z), .second, oI (1 : Int32), .unset] [(.int (1 : Int32)), (.int (5 : Int32))])
          refine own_by (fun t_ k_ => XS.icmpYes XT36.here hx rfl (pc0 := 87) (pc' := 105) rfl (hb hby at_87) rfl (XT.ii_ne_t (by decide)) (by decide) (by decide) k_) ?_
          show own_Go p e below _ T36 (mkF m 105 #[oI i0, oI i1, oI i2, oI (5 : Int32), oI z, oR w7, oD (FP.i2d i1), .second, oD (FP.i2d z), .second, oI (1 : Int32), .unset] [])
          refine own_by (fun t_ k_ => XS.iloadN XT36.here hx rfl (hb hby at_105) rfl  k_) ?_
          show own_Go p e below _ T36 (mkF m 106 #[oI i0, oI i1, oI i2, oI (5 : Int32), oI z, oR w7, oD (FP.i2d i1), .second, oD (FP.i2d z), .second, oI (1 : Int32), .unset] [(.int (5 : Int32))])
          refine own_by (fun t_ k_ => XT.iconstV XT36.here hx rfl (2 : Int32) (hb hby at_106) (by decide) k_) ?_
          show own_Go p e below _ T36 (mkF m 107 #[oI i0, oI i1, oI i2, oI (5 : Int32), oI z, oR w7, oD (FP.i2d i1), .second, oD (FP.i2d z), .second, oI (1 : Int32), .unset] [(.int (2 : Int32)), (.int (5 : Int32))])
          refine own_by (fun t_ k_ => XS.icmpYes XT36.here hx rfl (pc0 := 107) (pc' := 125) rfl (hb hby at_107) rfl (XT.ii_ne_t (by decide)) (by decide) (by decide) k_) ?_
          show own_Go p e below _ T36 (mkF m 125 #[oI i0, oI i1, oI i2, oI (5 : Int32), oI z, oR w7, oD (FP.i2d i1), .second, oD (FP.i2d z), .second, oI (1 : Int32), .unset] [])
          refine own_by (fun t_ k_ => XS.iloadN XT36.here hx rfl (hb hby at_125) rfl  k_) ?_
          show own_Go p e below _ T36 (mkF m 126 #[oI i0, oI i1, oI i2, oI (5 : Int32), oI z, oR w7, oD (FP.i2d i1), .second, oD (FP.i2d z), .second, oI (1 : Int32), .unset] [(.int (5 : Int32))])
          refine own_by (fun t_ k_ => XT.iconstV XT36.here hx rfl (3 : Int32) (hb hby at_126) (by decide) k_) ?_
          show own_Go p e below _ T36 (mkF m 127 #[oI i0, oI i1, oI i2, oI (5 : Int32), oI z, oR w7, oD (FP.i2d i1), .second, oD (FP.i2d z), .second, oI (1 : Int32), .unset] [(.int (3 : Int32)), (.int (5 : Int32))])
          refine own_by (fun t_ k_ => XS.icmpYes XT36.here hx rfl (pc0 := 127) (pc' := 145) rfl (hb hby at_127) rfl (XT.ii_ne_t (by decide)) (by decide) (by decide) k_) ?_
          show own_Go p e below _ T36 (mkF m 145 #[oI i0, oI i1, oI i2, oI (5 : Int32), oI z, oR w7, oD (FP.i2d i1), .second, oD (FP.i2d z), .second, oI (1 : Int32), .unset] [])
          refine own_by (fun t_ k_ => XS.iloadN XT36.here hx rfl (hb hby at_145) rfl  k_) ?_
          show own_Go p e below _ T36 (mkF m 146 #[oI i0, oI i1, oI i2, oI (5 : Int32), oI z, oR w7, oD (FP.i2d i1), .second, oD (FP.i2d z), .second, oI (1 : Int32), .unset] [(.int (5 : Int32))])
          refine own_by (fun t_ k_ => XT.iconstV XT36.here hx rfl (4 : Int32) (hb hby at_146) (by decide) k_) ?_
          show own_Go p e below _ T36 (mkF m 147 #[oI i0, oI i1, oI i2, oI (5 : Int32), oI z, oR w7, oD (FP.i2d i1), .second, oD (FP.i2d z), .second, oI (1 : Int32), .unset] [(.int (4 : Int32)), (.int (5 : Int32))])
          refine own_by (fun t_ k_ => XS.icmpYes XT36.here hx rfl (pc0 := 147) (pc' := 165) rfl (hb hby at_147) rfl (XT.ii_ne_t (by decide)) (by decide) (by decide) k_) ?_
          show own_Go p e below _ T36 (mkF m 165 #[oI i0, oI i1, oI i2, oI (5 : Int32), oI z, oR w7, oD (FP.i2d i1), .second, oD (FP.i2d z), .second, oI (1 : Int32), .unset] [])
          refine own_by (fun t_ k_ => XS.iload XT36.here hx rfl (hb hby at_165) rfl  k_) ?_
          show own_Go p e below _ T36 (mkF m 167 #[oI i0, oI i1, oI i2, oI (5 : Int32), oI z, oR w7, oD (FP.i2d i1), .second, oD (FP.i2d z), .second, oI (1 : Int32), .unset] [(.int (1 : Int32))])
          refine own_by (fun t_ k_ => XS.ifNo XT36.here hx rfl (hb hby at_167) rfl (XT.i0_lt_f (by decide)) k_) ?_
          show own_Go p e below _ T36 (mkF m 170 #[oI i0, oI i1, oI i2, oI (5 : Int32), oI z, oR w7, oD (FP.i2d i1), .second, oD (FP.i2d z), .second, oI (1 : Int32), .unset] [])
          refine own_by (fun t_ k_ => XT.iconstV XT36.here hx rfl (1 : Int32) (hb hby at_170) (by decide) k_) ?_
          show own_Go p e below _ T36 (mkF m 171 #[oI i0, oI i1, oI i2, oI (5 : Int32), oI z, oR w7, oD (FP.i2d i1), .second, oD (FP.i2d z), .second, oI (1 : Int32), .unset] [(.int (1 : Int32))])
          refine own_by (fun t_ k_ => XS.goto XT36.here hx rfl (pc0 := 171) (pc' := 175) rfl (hb hby at_171) (by decide) (by decide) k_) ?_
          show own_Go p e below _ T36 (mkF m 175 #[oI i0, oI i1, oI i2, oI (5 : Int32), oI z, oR w7, oD (FP.i2d i1), .second, oD (FP.i2d z), .second, oI (1 : Int32), .unset] [(.int (1 : Int32))])
          refine own_by (fun t_ k_ => XS.istore XT36.here hx rfl (hb hby at_175) rfl (l' := #[oI i0, oI i1, oI i2, oI (5 : Int32), oI z, oR w7, oD (FP.i2d i1), .second, oD (FP.i2d z), .second, oI (1 : Int32), oI (1 : Int32)]) rfl k_) ?_
          show own_Go p e below _ T36 (mkF m 177 #[oI i0, oI i1, oI i2, oI (5 : Int32), oI z, oR w7, oD (FP.i2d i1), .second, oD (FP.i2d z), .second, oI (1 : Int32), oI (1 : Int32)] [])
          refine own_by (fun t_ k_ => XS.aload XT36.here hx rfl (hb hby at_177) rfl rfl  k_) ?_
          show own_Go p e below _ T36 (mkF m 179 #[oI i0, oI i1, oI i2, oI (5 : Int32), oI z, oR w7, oD (FP.i2d i1), .second, oD (FP.i2d z), .second, oI (1 : Int32), oI (1 : Int32)] [(.ref w7)])
          refine own_by (fun t_ k_ => XS.dload XT36.here hx rfl (hb hby at_179) rfl  k_) ?_
          show own_Go p e below _ T36 (mkF m 181 #[oI i0, oI i1, oI i2, oI (5 : Int32), oI z, oR w7, oD (FP.i2d i1), .second, oD (FP.i2d z), .second, oI (1 : Int32), oI (1 : Int32)] [(.double (FP.i2d i1)), (.ref w7)])
          refine own_by (fun t_ k_ => XS.dload XT36.here hx rfl (hb hby at_181) rfl  k_) ?_
          show own_Go p e below _ T36 (mkF m 183 #[oI i0, oI i1, oI i2, oI (5 : Int32), oI z, oR w7, oD (FP.i2d i1), .second, oD (FP.i2d z), .second, oI (1 : Int32), oI (1 : Int32)] [(.double (FP.i2d z)), (.double (FP.i2d i1)), (.ref w7)])
          refine own_callV XT36 hx hZ hown (hw _ (List.mem_of_getElem? (i := 8) rfl)) (hw _ (List.mem_of_getElem? (i := 9) rfl)) (hw _ (List.mem_of_getElem? (i := 11) rfl)) (hw _ (List.mem_of_getElem? (i := 10) rfl)) (hw _ (List.mem_of_getElem? (i := 12) rfl)) (hw _ (List.mem_of_getElem? (i := 6) rfl)) (by decide) eT36 (b := w7) E7 (argsL := [(.double (FP.i2d i1)), (.double (FP.i2d z))]) (rest := []) (own_holds_met l Z a0 hw w7 i1 z w2 w3 w4 w5 w6 w7 h0 S) 0 (by decide) (by decide) (by rw [hml]; rfl) (lenOf pd_1 rfl) (Nat.le_of_eq rfl) (hb hby at_183) (by decide) (by decide) (st := [(.double (FP.i2d z)), (.double (FP.i2d i1)), (.ref w7)]) rfl ?_
          intro T41 LT41 vT41 XT41 hQT41
          obtain ⟨rfl, eT41, rfl⟩ := hQT41
          show own_Go p e below _ T41 (mkF m 186 #[oI i0, oI i1, oI i2, oI (5 : Int32), oI z, oR w7, oD (FP.i2d i1), .second, oD (FP.i2d z), .second, oI (1 : Int32), oI (1 : Int32)] [(.int (own_holds w7 i1 z w2 w3 w4 w5 w6 w7))])
          rw [show own_holds w7 i1 z w2 w3 w4 w5 w6 w7 = (1 : Int32) by rw [own_holds, if_neg (F7.ne F2 (by decide)), if_neg (F7.ne F3 (by decide)), if_neg (F7.ne F4 (by decide)), if_neg (F7.ne F5 (by decide)), if_neg (F7.ne F6 (by decide)), if_neg (by rw [hc] <;> decide)]]
          show own_Go p e below _ T41 (mkF m 186 #[oI i0, oI i1, oI i2, oI (5 : Int32), oI z, oR w7, oD (FP.i2d i1), .second, oD (FP.i2d z), .second, oI (1 : Int32), oI (1 : Int32)] [(.int (1 : Int32))])
          refine own_by (fun t_ k_ => XS.iload XT41.here hx rfl (hb hby at_186) rfl  k_) ?_
          show own_Go p e below _ T41 (mkF m 188 #[oI i0, oI i1, oI i2, oI (5 : Int32), oI z, oR w7, oD (FP.i2d i1), .second, oD (FP.i2d z), .second, oI (1 : Int32), oI (1 : Int32)] [(.int (1 : Int32)), (.int (1 : Int32))])
          refine own_by (fun t_ k_ => XS.icmpNo XT41.here hx rfl (hb hby at_188) rfl (XT.ii_ne_f (by decide)) k_) ?_
          show own_Go p e below _ T41 (mkF m 191 #[oI i0, oI i1, oI i2, oI (5 : Int32), oI z, oR w7, oD (FP.i2d i1), .second, oD (FP.i2d z), .second, oI (1 : Int32), oI (1 : Int32)] [])
          refine own_by (fun t_ k_ => XT.iconstV XT41.here hx rfl (1 : Int32) (hb hby at_191) (by decide) k_) ?_
          show own_Go p e below _ T41 (mkF m 192 #[oI i0, oI i1, oI i2, oI (5 : Int32), oI z, oR w7, oD (FP.i2d i1), .second, oD (FP.i2d z), .second, oI (1 : Int32), oI (1 : Int32)] [(.int (1 : Int32))])
          refine own_by (fun t_ k_ => XS.goto XT41.here hx rfl (pc0 := 192) (pc' := 196) rfl (hb hby at_192) (by decide) (by decide) k_) ?_
          show own_Go p e below _ T41 (mkF m 196 #[oI i0, oI i1, oI i2, oI (5 : Int32), oI z, oR w7, oD (FP.i2d i1), .second, oD (FP.i2d z), .second, oI (1 : Int32), oI (1 : Int32)] [(.int (1 : Int32))])
          exact own_retN XT41 hx hlk hret (by simp) (w := (1 : Int32)) (hb hby at_196) (by decide) (by decide) (by decide) (⟨rfl, eT41, rfl⟩)
    by_cases c14_41 : (((i0.toUInt32 >>> ((8 : Int32) &&& 31).toUInt32).toInt32) &&& (1 : Int32)) = (0 : Int32)
    · refine own_by (fun t_ k_ => XS.ifYes X0.here hx rfl (pc0 := 14) (pc' := 21) rfl (hb hby at_14) rfl (XT.i0_eq_t c14_41) (by decide) (by decide) k_) ?_
      show own_Go p e below _ T0 (mkF m 21 #[oI i0, oI i1, oI i2, oI (5 : Int32), .unset, .unset, .unset, .unset, .unset, .unset, .unset, .unset] [])
      refine own_by (fun t_ k_ => XS.iloadN X0.here hx rfl (hb hby at_21) rfl  k_) ?_
      show own_Go p e below _ T0 (mkF m 22 #[oI i0, oI i1, oI i2, oI (5 : Int32), .unset, .unset, .unset, .unset, .unset, .unset, .unset, .unset] [(.int i2)])
      exact J _
    · refine own_by (fun t_ k_ => XS.ifNo X0.here hx rfl (hb hby at_14) rfl (XT.i0_eq_f c14_41) k_) ?_
      show own_Go p e below _ T0 (mkF m 17 #[oI i0, oI i1, oI i2, oI (5 : Int32), .unset, .unset, .unset, .unset, .unset, .unset, .unset, .unset] [])
      refine own_by (fun t_ k_ => XS.iloadN X0.here hx rfl (hb hby at_17) rfl  k_) ?_
      show own_Go p e below _ T0 (mkF m 18 #[oI i0, oI i1, oI i2, oI (5 : Int32), .unset, .unset, .unset, .unset, .unset, .unset, .unset, .unset] [(.int i1)])
      refine own_by (fun t_ k_ => XS.goto X0.here hx rfl (pc0 := 18) (pc' := 22) rfl (hb hby at_18) (by decide) (by decide) k_) ?_
      show own_Go p e below _ T0 (mkF m 22 #[oI i0, oI i1, oI i2, oI (5 : Int32), .unset, .unset, .unset, .unset, .unset, .unset, .unset, .unset] [(.int i1)])
      exact J _
set_option maxRecDepth 65536 in
set_option maxHeartbeats 40000000 in
theorem comes_1 {Post : Tables → Env → Array Value → State → Outcome → State → Prop} (hpost : ∀ tb e args s v u, (limb_1_1.after args s (.returned v) u = true ∧ limb_1_2.after args s (.returned v) u = true ∧ True) → FrameEnd s (.returned v) u (Jvm.fieldLocs frame_1_writes args s ++ Jvm.arrayLocs frame_1_arrays args s ++ Jvm.staticLocs frame_1_statics s) 0 0 → Post tb e args s (.returned v) u) :
    ArmFor flags0 classFile x code maxLocals ret World_1 tables_1 room_1 Calls_1 rest_1 Pre_1 Post := by
  intro l hfl _ _ p e ha hc hk s m args below hf hA hF happ hP
  obtain ⟨hcalls, hrest, hpre⟩ := hP
  obtain ⟨-, -, -, hnamed, -, -, -, hat⟩ := (Spec.applies_iff hf).mp happ
  obtain ⟨hg, hn⟩ := and_e (Cond.before_iff.mp (show (Jvm.Cond.and given_1 narrow_1).before args s = true from hpre))
  obtain ⟨g0, rg0⟩ := and_e hg
  obtain ⟨g1, rg1⟩ := and_e rg0
  obtain ⟨g2, rg2⟩ := and_e rg1
  have g3 := rg2
  obtain ⟨w0, w1, w2, rfl⟩ : ∃ w0 w1 w2 : Value, args = #[w0, w1, w2] := by
    have hs : args.size = 3 := by simpa [Cond.value] using g0
    obtain ⟨L⟩ := args
    match L, hs with
    | [w0, w1, w2], _ => exact ⟨w0, w1, w2, rfl⟩
  have hw := fun d (hd : d ∈ tables_1) => atoms_spec (ws := Jvm.Cond.code x code maxLocals ret :: tables_1) hat d (List.mem_cons_of_mem _ hd)
  obtain ⟨i0, ei0⟩ := is_v g1
  obtain rfl : w0 = (.int i0) := Option.some.inj ei0
  obtain ⟨i1, ei1⟩ := is_v g2
  obtain rfl : w1 = (.int i1) := Option.some.inj ei1
  obtain ⟨i2, ei2⟩ := is_v g3
  obtain rfl : w2 = (.int i2) := Option.some.inj ei2
  obtain ⟨n0, rn0⟩ := and_e hn
  obtain ⟨n1, rn1⟩ := and_e rn0
  obtain ⟨n2, rn2⟩ := and_e rn1
  obtain ⟨n3, rn3⟩ := and_e rn2
  obtain ⟨n4, rn4⟩ := and_e rn3
  obtain ⟨n5, rn5⟩ := and_e rn4
  obtain ⟨n6, rn6⟩ := and_e rn5
  obtain ⟨n7, rn7⟩ := and_e rn6
  obtain ⟨n8, rn8⟩ := and_e rn7
  obtain ⟨n9, rn9⟩ := and_e rn8
  obtain ⟨n10, rn10⟩ := and_e rn9
  have n11 := rn10
  obtain ⟨u2, v2⟩ := exa_v n0
  have S2 := Sta.start v2 (Or.inr ⟨(hw _ (List.mem_of_getElem? (i := 6) rfl)), (hw _ (List.mem_of_getElem? (i := 7) rfl))⟩)
  have E2 := Exa.start v2 n0
  have F2 := Fld.start ((fld_at v2).symm.trans (own_eqi n3))
  obtain ⟨u3, v3⟩ := exa_v n1
  have S3 := Sta.start v3 (Or.inr ⟨(hw _ (List.mem_of_getElem? (i := 6) rfl)), (hw _ (List.mem_of_getElem? (i := 15) rfl))⟩)
  have E3 := Exa.start v3 n1
  have F3 := Fld.start ((fld_at v3).symm.trans (own_eqi n2))
  obtain ⟨u4, v4⟩ := exa_v n4
  have S4 := Sta.start v4 (Or.inr ⟨(hw _ (List.mem_of_getElem? (i := 6) rfl)), (hw _ (List.mem_of_getElem? (i := 18) rfl))⟩)
  have E4 := Exa.start v4 n4
  have F4 := Fld.start ((fld_at v4).symm.trans (own_eqi n5))
  obtain ⟨u5, v5⟩ := exa_v n8
  have S5 := Sta.start v5 (Or.inr ⟨(hw _ (List.mem_of_getElem? (i := 6) rfl)), (hw _ (List.mem_of_getElem? (i := 23) rfl))⟩)
  have E5 := Exa.start v5 n8
  have F5 := Fld.start ((fld_at v5).symm.trans (own_eqi n9))
  obtain ⟨u6, v6⟩ := exa_v n10
  have S6 := Sta.start v6 (Or.inr ⟨(hw _ (List.mem_of_getElem? (i := 6) rfl)), (hw _ (List.mem_of_getElem? (i := 25) rfl))⟩)
  have E6 := Exa.start v6 n10
  have F6 := Fld.start ((fld_at v6).symm.trans (own_eqi n11))
  obtain ⟨u7, v7⟩ := exa_v n6
  have S7 := Sta.start v7 (Or.inr ⟨(hw _ (List.mem_of_getElem? (i := 6) rfl)), (hw _ (List.mem_of_getElem? (i := 21) rfl))⟩)
  have E7 := Exa.start v7 n6
  have F7 := Fld.start ((fld_at v7).symm.trans (own_eqi n7))
  obtain ⟨n, o, h1, h2, h3, _, L, rfl, ⟨rfl, -, rfl⟩, hq⟩ := own_law l s _ hw i0 i1 i2 u2 u3 u4 u5 u6 u7 s.heap ⟨S2, S3, S4, S5, S6, S7⟩ E2 E3 E4 E5 E6 E7 F2 F3 F4 F5 F6 F7 p e ha hc hk s m _ below hf ((Spec.applies_iff_loose hf).mp happ).1 ⟨rfl, State.Warmed39.refl s, rfl⟩ trivial
  have N := Fr.nil s.heap.size
  refine ⟨n, _, h1, h2, h3, hpost _ _ _ _ _ _ ⟨Cond.after_iff.mpr rfl, Cond.after_iff.mpr (eq_i res_at (Term.int_eval (1)) rfl), trivial⟩ ⟨hq.1, hq.2.1, (hq.2.2.sift fun y hy => Or.inr (N y hy)).mono (by decide) (by decide)⟩⟩
theorem main_1_1 : Claimed_1_1 := comes_1 fun _ _ _ _ _ _ h hF => ⟨h.1, hF⟩
theorem main_1_2 : Claimed_1_2 := comes_1 fun _ _ _ _ _ _ h hF => ⟨h.2.1, hF⟩
end Jvm.Pilot.@@N@@
namespace Jvm.Pilot.@@N@@
open Jvm Jvm.ClassFile Sem Op Lib Jvm.Free Jvm.Stand Jvm.Pilot.@@N@@.Jvm.D
/-! MADE BY PROGRAM (witnessworld.py) out of the Statement's table words and the real class files: 12 classes; the members and pool entries that the words name. The judged class is class 1, her method 2. -/
namespace start1
open Jvm.ClassFile
def u (s : String) : CpInfo := .utf8 (stringToUtf16 s)
/-- a pool by its gaps: so many unusable entries, then the entry; so many at the end -/
def gap : Nat → List CpInfo → List CpInfo
  | 0, r => r
  | n + 1, r => .unusable :: gap n r
def poolList (es : List (Nat × CpInfo)) (last : Nat) : List CpInfo := es.foldr (fun e r => gap e.1 (e.2 :: r)) (gap last [])
def pool (es : List (Nat × CpInfo)) (last : Nat) : Array CpInfo := ⟨poolList es last⟩
def fileOf (pool : Array CpInfo) (this : Nat) (attrs : Array Attribute := #[]) (ms : Array MethodInfo := #[]) (fl : Nat := 33) (sup : Nat := 0) (ifs : Array Nat := #[]) (fds : Array FieldInfo := #[]) : ClassFile where
  minorVersion := 0
  majorVersion := 65
  constantPool := pool
  accessFlags := fl
  thisClass := this
  superClass := sup
  interfaces := ifs
  fields := fds
  methods := ms
  attributes := attrs
def plain (name : String) (sup : Option ClassId) : Class where
  name := name
  kind := .ordinary
  loader := none
  accessFlags := 33
  super := sup
  interfaces := #[]
  cf := none
  fields := #[]
  methods := #[]
  instanceTypes := #[]
  staticTypes := #[]
  resolved := #[]
  callSites := []
  init := .initialized
  statics := none
  mirror := none

def pool0 : Array CpInfo := pool [(5, u "<init>"), (0, u "()V"), (1, .class_ 10), (1, u "java/lang/Object")] 113

def k0m0 : Method := { name := "<init>", desc := "()V", sig := { parameters := [], returnType := none }, accessFlags := 1, code := none }
/-- java/lang/Object -/
def k0 : Class := { plain "java/lang/Object" none with
  accessFlags := 33
  interfaces := #[]
  cf := some (fileOf pool0 8 #[] #[{ accessFlags := 1, nameIndex := 5, descriptorIndex := 6, attributes := #[] }] 33 0 #[] #[])
  fields := #[]
  methods := #[k0m0]
  instanceTypes := #[]
  staticTypes := #[]
  resolved := Array.replicate 124 none
  statics := none }

def pool1 : Array CpInfo := pool [(2, .class_ 4), (1, u "java/lang/Object"), (0, u "<init>"), (0, u "()V"), (0, .fieldref 8 9), (0, .class_ 10), (0, .nameAndType 11 12), (0, u "com/example/focus_crawl/focuscrawl/crawl/page/XPathExpr$Operator"), (0, u "EQUAL"), (0, u "Lcom/example/focus_crawl/focuscrawl/crawl/page/XPathExpr$Operator;"), (0, .fieldref 8 14), (0, .nameAndType 15 12), (0, u "NOT_EQUAL"), (0, .fieldref 8 17), (0, .nameAndType 18 12), (0, u "LESS"), (0, .fieldref 8 20), (0, .nameAndType 21 12), (0, u "LESS_OR_EQUAL"), (0, .fieldref 8 23), (0, .nameAndType 24 12), (0, u "GREATER"), (0, .fieldref 8 26), (0, .nameAndType 27 12), (0, u "GREATER_OR_EQUAL"), (0, .integer 2147483647), (0, .methodref 30 31), (0, .class_ 32), (0, .nameAndType 33 34), (0, u "com/example/focus_crawl/focuscrawl/crawl/page/XPathExprHoldsPinLaw"), (0, u "operator"), (0, u "(I)Lcom/example/focus_crawl/focuscrawl/crawl/page/XPathExpr$Operator;"), (0, .methodref 8 36), (0, .nameAndType 37 38), (0, u "holds"), (0, u "(DD)Z"), (3, u "law"), (0, u "(III)Z")] 6

def k1m0 : Method := { name := "<init>", desc := "()V", sig := { parameters := [], returnType := none }, accessFlags := 2, code := none }
def k1c1 : Code := { maxStack := 2, maxLocals := 2, code := method_2_code, exceptionTable := #[], attributes := #[] }
def k1m1 : Method := { name := "operator", desc := "(I)Lcom/example/focus_crawl/focuscrawl/crawl/page/XPathExpr$Operator;", sig := { parameters := [.int], returnType := some (.object "com/example/focus_crawl/focuscrawl/crawl/page/XPathExpr$Operator") }, accessFlags := 10, code := some k1c1 }
def k1c2 : Code := { maxStack := 5, maxLocals := 12, code := code, exceptionTable := #[], attributes := #[] }
def k1m2 : Method := { name := "law", desc := "(III)Z", sig := { parameters := [.int, .int, .int], returnType := some .boolean }, accessFlags := 9, code := some k1c2 }
/-- com/example/focus_crawl/focuscrawl/crawl/page/XPathExprHoldsPinLaw -/
def k1 : Class := { plain "com/example/focus_crawl/focuscrawl/crawl/page/XPathExprHoldsPinLaw" (some 0) with
  accessFlags := 49
  interfaces := #[]
  cf := some (fileOf pool1 30 #[] #[{ accessFlags := 2, nameIndex := 5, descriptorIndex := 6, attributes := #[] }, { accessFlags := 10, nameIndex := 33, descriptorIndex := 34, attributes := #[] }, { accessFlags := 9, nameIndex := 42, descriptorIndex := 43, attributes := #[] }] 49 2 #[] #[])
  fields := #[]
  methods := #[k1m0, k1m1, k1m2]
  instanceTypes := #[]
  staticTypes := #[]
  resolved := Array.replicate 50 none
  statics := none }

def pool2 : Array CpInfo := pool [(1, .class_ 2), (0, u "java/lang/constant/Constable"), (0, .class_ 4), (0, u "java/lang/Object")] 6

/-- java/lang/constant/Constable -/
def k2 : Class := { plain "java/lang/constant/Constable" (some 0) with
  accessFlags := 1537
  interfaces := #[]
  cf := some (fileOf pool2 1 #[] #[] 1537 3 #[] #[])
  fields := #[]
  methods := #[]
  instanceTypes := #[]
  staticTypes := #[]
  resolved := Array.replicate 11 none
  statics := none }

def pool3 : Array CpInfo := pool [(1, .class_ 2), (0, u "java/lang/Comparable"), (0, .class_ 4), (0, u "java/lang/Object")] 7

/-- java/lang/Comparable -/
def k3 : Class := { plain "java/lang/Comparable" (some 0) with
  accessFlags := 1537
  interfaces := #[]
  cf := some (fileOf pool3 1 #[] #[] 1537 3 #[] #[])
  fields := #[]
  methods := #[]
  instanceTypes := #[]
  staticTypes := #[]
  resolved := Array.replicate 12 none
  statics := none }

def pool4 : Array CpInfo := pool [(1, .class_ 2), (0, u "java/io/Serializable"), (0, .class_ 4), (0, u "java/lang/Object")] 2

/-- java/io/Serializable -/
def k4 : Class := { plain "java/io/Serializable" (some 0) with
  accessFlags := 1537
  interfaces := #[]
  cf := some (fileOf pool4 1 #[] #[] 1537 3 #[] #[])
  fields := #[]
  methods := #[]
  instanceTypes := #[]
  staticTypes := #[]
  resolved := Array.replicate 7 none
  statics := none }

def pool5 : Array CpInfo := pool [(2, .class_ 4), (1, u "java/lang/Enum"), (0, u "name"), (0, u "Ljava/lang/String;"), (2, u "ordinal"), (0, u "I"), (1, .class_ 14), (1, u "java/lang/Object"), (4, u "hash"), (86, .class_ 108), (1, u "java/lang/Enum$EnumDesc"), (2, .class_ 112), (0, u "java/lang/constant/Constable"), (0, .class_ 114), (0, u "java/lang/Comparable"), (0, .class_ 116), (0, u "java/io/Serializable")] 87

/-- java/lang/Enum -/
def k5 : Class := { plain "java/lang/Enum" (some 0) with
  accessFlags := 1057
  interfaces := #[2, 3, 4]
  cf := some (fileOf pool5 2 #[.nestMembers #[106]] #[] 1057 12 #[111, 113, 115] #[{ accessFlags := 18, nameIndex := 5, descriptorIndex := 6, attributes := #[] }, { accessFlags := 18, nameIndex := 9, descriptorIndex := 10, attributes := #[] }, { accessFlags := 2, nameIndex := 19, descriptorIndex := 10, attributes := #[] }])
  fields := #[{ name := "name", type := (.object "java/lang/String"), accessFlags := 18, slot := 0, constantValue := 0 }, { name := "ordinal", type := .int, accessFlags := 18, slot := 1, constantValue := 0 }, { name := "hash", type := .int, accessFlags := 2, slot := 2, constantValue := 0 }]
  methods := #[]
  instanceTypes := #[(.object "java/lang/String"), .int, .int]
  staticTypes := #[]
  resolved := Array.replicate 204 none
  statics := none }

def pool6 : Array CpInfo := pool [(1, .class_ 2), (0, u "com/example/focus_crawl/focuscrawl/crawl/page/XPathExpr$Operator"), (2, u "OR"), (0, u "Lcom/example/focus_crawl/focuscrawl/crawl/page/XPathExpr$Operator;"), (2, u "AND"), (0, .fieldref 1 11), (0, .nameAndType 12 6), (0, u "EQUAL"), (0, .fieldref 1 14), (0, .nameAndType 15 6), (0, u "NOT_EQUAL"), (0, .fieldref 1 17), (0, .nameAndType 18 6), (0, u "LESS"), (0, .fieldref 1 20), (0, .nameAndType 21 6), (0, u "LESS_OR_EQUAL"), (0, .fieldref 1 23), (0, .nameAndType 24 6), (0, u "GREATER"), (2, u "GREATER_OR_EQUAL"), (2, u "PLUS"), (2, u "MINUS"), (2, u "TIMES"), (2, u "DIV"), (2, u "MOD"), (2, u "$VALUES"), (0, u "[Lcom/example/focus_crawl/focuscrawl/crawl/page/XPathExpr$Operator;"), (6, .class_ 55), (1, u "java/lang/Enum"), (8, u "text"), (0, u "Ljava/lang/String;"), (65, u "holds"), (1, u "(DD)Z"), (8, .class_ 143), (0, u "com/example/focus_crawl/focuscrawl/crawl/page/XPathExpr")] 2

def k6c0 : Code := { maxStack := 4, maxLocals := 6, code := prog_45_method_10_code, exceptionTable := #[], attributes := #[] }
def k6m0 : Method := { name := "holds", desc := "(DD)Z", sig := { parameters := [.double, .double], returnType := some .boolean }, accessFlags := 0, code := some k6c0 }
/-- com/example/focus_crawl/focuscrawl/crawl/page/XPathExpr$Operator -/
def k6 : Class := { plain "com/example/focus_crawl/focuscrawl/crawl/page/XPathExpr$Operator" (some 5) with
  accessFlags := 16432
  interfaces := #[]
  cf := some (fileOf pool6 1 #[.nestHost 142] #[{ accessFlags := 0, nameIndex := 131, descriptorIndex := 133, attributes := #[] }] 16432 53 #[] #[{ accessFlags := 16409, nameIndex := 5, descriptorIndex := 6, attributes := #[] }, { accessFlags := 16409, nameIndex := 9, descriptorIndex := 6, attributes := #[] }, { accessFlags := 16409, nameIndex := 12, descriptorIndex := 6, attributes := #[] }, { accessFlags := 16409, nameIndex := 15, descriptorIndex := 6, attributes := #[] }, { accessFlags := 16409, nameIndex := 18, descriptorIndex := 6, attributes := #[] }, { accessFlags := 16409, nameIndex := 21, descriptorIndex := 6, attributes := #[] }, { accessFlags := 16409, nameIndex := 24, descriptorIndex := 6, attributes := #[] }, { accessFlags := 16409, nameIndex := 27, descriptorIndex := 6, attributes := #[] }, { accessFlags := 16409, nameIndex := 30, descriptorIndex := 6, attributes := #[] }, { accessFlags := 16409, nameIndex := 33, descriptorIndex := 6, attributes := #[] }, { accessFlags := 16409, nameIndex := 36, descriptorIndex := 6, attributes := #[] }, { accessFlags := 16409, nameIndex := 39, descriptorIndex := 6, attributes := #[] }, { accessFlags := 16409, nameIndex := 42, descriptorIndex := 6, attributes := #[] }, { accessFlags := 18, nameIndex := 64, descriptorIndex := 65, attributes := #[] }, { accessFlags := 4122, nameIndex := 45, descriptorIndex := 46, attributes := #[] }])
  fields := #[{ name := "OR", type := (.object "com/example/focus_crawl/focuscrawl/crawl/page/XPathExpr$Operator"), accessFlags := 16409, slot := 0, constantValue := 0 }, { name := "AND", type := (.object "com/example/focus_crawl/focuscrawl/crawl/page/XPathExpr$Operator"), accessFlags := 16409, slot := 1, constantValue := 0 }, { name := "EQUAL", type := (.object "com/example/focus_crawl/focuscrawl/crawl/page/XPathExpr$Operator"), accessFlags := 16409, slot := 2, constantValue := 0 }, { name := "NOT_EQUAL", type := (.object "com/example/focus_crawl/focuscrawl/crawl/page/XPathExpr$Operator"), accessFlags := 16409, slot := 3, constantValue := 0 }, { name := "LESS", type := (.object "com/example/focus_crawl/focuscrawl/crawl/page/XPathExpr$Operator"), accessFlags := 16409, slot := 4, constantValue := 0 }, { name := "LESS_OR_EQUAL", type := (.object "com/example/focus_crawl/focuscrawl/crawl/page/XPathExpr$Operator"), accessFlags := 16409, slot := 5, constantValue := 0 }, { name := "GREATER", type := (.object "com/example/focus_crawl/focuscrawl/crawl/page/XPathExpr$Operator"), accessFlags := 16409, slot := 6, constantValue := 0 }, { name := "GREATER_OR_EQUAL", type := (.object "com/example/focus_crawl/focuscrawl/crawl/page/XPathExpr$Operator"), accessFlags := 16409, slot := 7, constantValue := 0 }, { name := "PLUS", type := (.object "com/example/focus_crawl/focuscrawl/crawl/page/XPathExpr$Operator"), accessFlags := 16409, slot := 8, constantValue := 0 }, { name := "MINUS", type := (.object "com/example/focus_crawl/focuscrawl/crawl/page/XPathExpr$Operator"), accessFlags := 16409, slot := 9, constantValue := 0 }, { name := "TIMES", type := (.object "com/example/focus_crawl/focuscrawl/crawl/page/XPathExpr$Operator"), accessFlags := 16409, slot := 10, constantValue := 0 }, { name := "DIV", type := (.object "com/example/focus_crawl/focuscrawl/crawl/page/XPathExpr$Operator"), accessFlags := 16409, slot := 11, constantValue := 0 }, { name := "MOD", type := (.object "com/example/focus_crawl/focuscrawl/crawl/page/XPathExpr$Operator"), accessFlags := 16409, slot := 12, constantValue := 0 }, { name := "text", type := (.object "java/lang/String"), accessFlags := 18, slot := 3, constantValue := 0 }, { name := "$VALUES", type := (.array (.object "com/example/focus_crawl/focuscrawl/crawl/page/XPathExpr$Operator")), accessFlags := 4122, slot := 13, constantValue := 0 }]
  methods := #[k6m0]
  instanceTypes := #[(.object "java/lang/String"), .int, .int, (.object "java/lang/String")]
  staticTypes := #[(.object "com/example/focus_crawl/focuscrawl/crawl/page/XPathExpr$Operator"), (.object "com/example/focus_crawl/focuscrawl/crawl/page/XPathExpr$Operator"), (.object "com/example/focus_crawl/focuscrawl/crawl/page/XPathExpr$Operator"), (.object "com/example/focus_crawl/focuscrawl/crawl/page/XPathExpr$Operator"), (.object "com/example/focus_crawl/focuscrawl/crawl/page/XPathExpr$Operator"), (.object "com/example/focus_crawl/focuscrawl/crawl/page/XPathExpr$Operator"), (.object "com/example/focus_crawl/focuscrawl/crawl/page/XPathExpr$Operator"), (.object "com/example/focus_crawl/focuscrawl/crawl/page/XPathExpr$Operator"), (.object "com/example/focus_crawl/focuscrawl/crawl/page/XPathExpr$Operator"), (.object "com/example/focus_crawl/focuscrawl/crawl/page/XPathExpr$Operator"), (.object "com/example/focus_crawl/focuscrawl/crawl/page/XPathExpr$Operator"), (.object "com/example/focus_crawl/focuscrawl/crawl/page/XPathExpr$Operator"), (.object "com/example/focus_crawl/focuscrawl/crawl/page/XPathExpr$Operator"), (.array (.object "com/example/focus_crawl/focuscrawl/crawl/page/XPathExpr$Operator"))]
  resolved := Array.replicate 146 none
  statics := some 0 }

def pool7 : Array CpInfo := pool [(1, u "java/lang/Cloneable"), (0, .class_ 1), (0, u "java/lang/Object"), (0, .class_ 3)] 3

/-- java/lang/Cloneable -/
def k7 : Class := { plain "java/lang/Cloneable" (some 0) with
  accessFlags := 1537
  interfaces := #[]
  cf := some (fileOf pool7 2 #[] #[] 1537 4 #[] #[])
  fields := #[]
  methods := #[]
  instanceTypes := #[]
  staticTypes := #[]
  resolved := Array.replicate 8 none
  statics := none }

/-- the primitive byte -/
def k8 : Class := { plain "byte" none with kind := .primitive 'B', accessFlags := 0x411 }
/-- [B -/
def k9 : Class := { plain "[B" (some 0) with kind := .array 8 .byte, interfaces := #[7, 4], accessFlags := 1041 }

/-- the primitive int -/
def k10 : Class := { plain "int" none with kind := .primitive 'I', accessFlags := 0x411 }
/-- [I -/
def k11 : Class := { plain "[I" (some 0) with kind := .array 10 .int, interfaces := #[7, 4], accessFlags := 1041 }

def heap : Heap := #[{ cls := 6, slots := #[.null, .null, .ref 1, .ref 2, .ref 3, .ref 4, .ref 5, .ref 6, .null, .null, .null, .null, .null, .null], vm := .statics 6 },
  { cls := 6, slots := #[.null, .int 2, .int 0, .null], vm := .none },
  { cls := 6, slots := #[.null, .int 3, .int 0, .null], vm := .none },
  { cls := 6, slots := #[.null, .int 4, .int 0, .null], vm := .none },
  { cls := 6, slots := #[.null, .int 5, .int 0, .null], vm := .none },
  { cls := 6, slots := #[.null, .int 6, .int 0, .null], vm := .none },
  { cls := 6, slots := #[.null, .int 7, .int 0, .null], vm := .none }]
def classes : Array Class := #[k0, k1, k2, k3, k4, k5, k6, k7, k8, k9, k10, k11]
def interned : List (Array UInt16 × Addr) := []
def slotsUsed : Nat := 38
def theMethod : MethodId := ⟨1, 2⟩
def args0 : Array Value := #[.int 5, .int 3, .int 4]
def aboutOver (below : List Frame) : State where
  vm := { classes := classes, interned := interned.toArray }
  heap := heap
  slotsUsed := slotsUsed
  threads := #[{ frames := .invoking theMethod args0 :: below }]
def below0 : List Frame := [.native { method := ⟨0, 0⟩, args := #[] }]
def about1 : State := aboutOver below0
def p0 : Program := .bare "" "" ""
def e0 : Env := launch0.env 0 0 0
theorem w_frames : about1.frames = Frame.invoking theMethod args0 :: below0 := rfl
set_option maxRecDepth 65536 in
theorem w_args : argsFit about1.vm theMethod args0 = true := by decide +kernel
set_option maxRecDepth 65536 in
theorem w_heap : heapFits about1 = true := by decide +kernel
set_option maxRecDepth 65536 in
theorem w_runnable : about1.curStatus? = some .runnable := by decide +kernel
set_option maxRecDepth 65536 in
theorem w_alone : about1.alone = true := by decide +kernel
set_option maxRecDepth 65536 in
theorem w_named : about1.methodNamed? x = some theMethod := by decide +kernel
set_option maxRecDepth 65536 in
theorem w_hears : about1.hears theMethod below0 = true := by decide +kernel
set_option maxRecDepth 65536 in
theorem w_ripe : about1.ripe theMethod args0 below0 = true := by decide +kernel
theorem w_running : about1.status = .running := rfl
set_option maxRecDepth 65536 in
theorem w_room : about1.hasRoom e0.platform room_1 = true :=
  launch0.hasRoom_least _ room_1 (by decide +kernel) (by decide +kernel) (by decide +kernel) (by decide +kernel) (by decide +kernel) (by decide +kernel)
theorem allAtoms_all (ts : List Jvm.Cond) (a : Array Jvm.Value) (st : Jvm.State) : (allAtoms ts).before a st = ts.all (fun c => c.before a st) := by
  induction ts with
  | nil => rfl
  | cons c t ih =>
    show (Jvm.Cond.and c (allAtoms t)).before a st = _
    rw [Jvm.Cond.before_and, ih, List.all_cons]
def words1 : List Jvm.Cond := Jvm.Cond.code x code maxLocals ret :: tables_1
/-- a 'code' word, met by the world's own term for the bytes: nothing is compared byte by byte -/
theorem code_word {y : MethodName} {bytes : ByteArray} {mx : Nat} {rt : Option FieldType} {a : Array Value} {s : State} {m : MethodId} {meth : Method} {c : Code} (h1 : s.methodNamed? y = some m) (h2 : s.vm.method? m = some meth) (h3 : meth.code = some c) (h4 : c.code = bytes)
    (h5 : (c.maxLocals == mx && c.exceptionTable.isEmpty && decide (c.maxStack ≤ mostOperands) && decide (meth.sig.returnType = rt) && !meth.locks && decide (parseMethodDescriptor y.desc = some meth.sig)) = true) : (Jvm.Cond.code y bytes mx rt).before a s = true := by
  simp only [Bool.and_eq_true, beq_iff_eq, Bool.not_eq_true', decide_eq_true_eq] at h5
  obtain ⟨⟨⟨⟨⟨g1, g2⟩, g3⟩, g4⟩, g5⟩, g6⟩ := h5
  simp [Cond.before, Cond.holds, Cond.value, h1, h2, h3, h4, g1, g2, g3, g4, g5, g6]
def isCode : Jvm.Cond → Bool
  | .code _ _ _ _ => true
  | _ => false
theorem all_split {L : List Jvm.Cond} {P : Jvm.Cond → Bool} (h1 : L.all (fun c => isCode c || P c) = true) (h2 : ∀ c ∈ L.filter isCode, P c = true) : L.all P = true := by
  refine List.all_eq_true.mpr fun c hc => ?_
  have h := List.all_eq_true.mp h1 c hc
  rcases Bool.eq_false_or_eq_true (isCode c) with hi | hi
  · exact h2 c (List.mem_filter.mpr ⟨hc, hi⟩)
  · simpa [hi] using h
set_option maxRecDepth 65536 in
theorem w_c0 : (Jvm.Cond.code x code maxLocals ret).before args0 about1 = true := code_word (m := ⟨1, 2⟩) (meth := k1m2) (c := k1c2) (by decide +kernel) rfl rfl rfl (by decide +kernel)
set_option maxRecDepth 65536 in
theorem w_c1 : (Jvm.Cond.code ({ cls := "com/example/focus_crawl/focuscrawl/crawl/page/XPathExprHoldsPinLaw", name := "operator", desc := "(I)Lcom/example/focus_crawl/focuscrawl/crawl/page/XPathExpr$Operator;" } : Jvm.MethodName) method_2_code (2 : Nat) (Option.some (Jvm.ClassFile.FieldType.object "com/example/focus_crawl/focuscrawl/crawl/page/XPathExpr$Operator"))).before args0 about1 = true := code_word (m := ⟨1, 1⟩) (meth := k1m1) (c := k1c1) (by decide +kernel) rfl rfl rfl (by decide +kernel)
set_option maxRecDepth 65536 in
theorem w_c2 : (Jvm.Cond.code ({ cls := "com/example/focus_crawl/focuscrawl/crawl/page/XPathExpr$Operator", name := "holds", desc := "(DD)Z" } : Jvm.MethodName) prog_45_method_10_code (6 : Nat) (Option.some Jvm.ClassFile.FieldType.boolean)).before args0 about1 = true := code_word (m := ⟨6, 0⟩) (meth := k6m0) (c := k6c0) (by decide +kernel) rfl rfl rfl (by decide +kernel)
def codes1 : List Jvm.Cond := [Jvm.Cond.code x code maxLocals ret, Jvm.Cond.code ({ cls := "com/example/focus_crawl/focuscrawl/crawl/page/XPathExprHoldsPinLaw", name := "operator", desc := "(I)Lcom/example/focus_crawl/focuscrawl/crawl/page/XPathExpr$Operator;" } : Jvm.MethodName) method_2_code (2 : Nat) (Option.some (Jvm.ClassFile.FieldType.object "com/example/focus_crawl/focuscrawl/crawl/page/XPathExpr$Operator")), Jvm.Cond.code ({ cls := "com/example/focus_crawl/focuscrawl/crawl/page/XPathExpr$Operator", name := "holds", desc := "(DD)Z" } : Jvm.MethodName) prog_45_method_10_code (6 : Nat) (Option.some Jvm.ClassFile.FieldType.boolean)]
set_option maxRecDepth 65536 in
theorem codes_eq : words1.filter isCode = codes1 := rfl
theorem w_codes : ∀ c ∈ words1.filter isCode, c.before args0 about1 = true := by
  rw [codes_eq]
  intro c hc
  simp only [codes1, List.mem_cons, List.not_mem_nil, or_false] at hc
  rcases hc with rfl | rfl | rfl
  · exact w_c0
  · exact w_c1
  · exact w_c2
set_option maxRecDepth 65536 in
theorem w_t1 : (words1.take 24).all (fun c => isCode c || c.before args0 about1) = true := by decide +kernel
set_option maxRecDepth 65536 in
theorem w_t2 : (words1.drop 24).all (fun c => isCode c || c.before args0 about1) = true := by decide +kernel
theorem w_tables : (allAtoms (Jvm.Cond.code x code maxLocals ret :: tables_1)).before args0 about1 = true := by
  rw [allAtoms_all]
  show words1.all (fun c => c.before args0 about1) = true
  refine all_split ?_ w_codes
  rw [← List.take_append_drop 24 words1, List.all_append, w_t1, w_t2]
  rfl
set_option maxRecDepth 65536 in
theorem w_case : (Jvm.Cond.and given_1 narrow_1).before args0 about1 = true := by decide +kernel
theorem w_applies : (headSpec (Jvm.Cond.code x code maxLocals ret :: tables_1) room_1).applies x e0.platform about1 = true :=
  (Spec.applies_iff w_frames).mpr ⟨w_running, w_runnable, w_alone, w_named, w_hears, w_ripe, w_room, w_tables⟩
theorem atStart : AtStart classFile x code maxLocals ret World_1 tables_1 room_1 Calls_1 rest_1 Pre_1 launch0 p0 e0 about1 theMethod args0 below0 :=
  ⟨lists_1, trivial, launch0.admits_env _ _ _, launch0.least_env, fairChoices_fair.cas, fairChoices_fair.clock, w_frames, w_args, w_heap, w_applies, trivial, trivial, w_case⟩
end start1
theorem witness_1 : WitnessClaimed_1 := ⟨start1.p0, start1.e0, start1.about1, start1.theMethod, start1.args0, start1.below0, start1.atStart⟩
end Jvm.Pilot.@@N@@
