import JvmDerived
import JvmDerived.Pilot.@@N@@Statement
import JvmDerived.Pilot.@@N@@Code
set_option linter.unusedVariables false
set_option linter.unusedSimpArgs false
namespace Jvm.Pilot.@@N@@
open Jvm Jvm.ClassFile Sem Op Lib Jvm.Free Jvm.Stand Jvm.LawKit Jvm.RoadKit Bundle Jvm.Pilot.@@N@@.Jvm.D
abbrev oI (x : Int32) : Slot := .val (.int x)
abbrev oR (x : Addr) : Slot := .val (.ref x)
abbrev oD (x : UInt64) : Slot := .val (.double x)
abbrev oF (x : UInt32) : Slot := .val (.float x)
abbrev oJ (x : Int64) : Slot := .val (.long x)
section Own
variable {p : Program} {l : Launch} {e : Env} {R : Room} {s : State} {m : MethodId} {args : Array Value} {below : List Frame} {meth : Method} {c : Code} {T T' : State} {locs : List Loc} {cells slots : Nat} {Z : State} {a0 : Array Value} {h h0 : Heap} {K : State → Outcome → Prop} {Q : Option Value → Heap → List Loc → Prop}
/-- from the frame g over the state T the run comes to an end that K takes -/
def own_Go (p : Program) (e : Env) (below : List Frame) (K : State → Outcome → Prop) (T : State) (g : JFrame) : Prop :=
  ∃ s₂ o, Steps p.tables e below (T.setTop g) s₂ ∧ s₂.status = .running ∧ Ended s₂ below o ∧ K s₂ o
theorem own_by {g g' : JFrame} (h : ∀ t, Steps p.tables e below (T'.setTop g') t → Steps p.tables e below (T.setTop g) t) (k : own_Go p e below K T' g') : own_Go p e below K T g := by
  obtain ⟨s2, o, h1, h2⟩ := k
  exact ⟨s2, o, h _ h1, h2⟩
def own_K (s : State) (k n : Nat) (Q : Option Value → Heap → List Loc → Prop) (t : State) (o : Outcome) : Prop := ∃ v L, o = .returned v ∧ Q v t.heap L ∧ FrameEnd s o t L k n
def own_Met (l : Launch) (y : MethodName) (bytes : ByteArray) (mx : Nat) (ret : Option FieldType) (ws : List Jvm.Cond) (rm : Room) (Z : State) (as' : Array Value) (h0 : Heap) (Q : Option Value → Heap → List Loc → Prop) : Prop :=
  MetFree l y (head1 (Jvm.Cond.code y bytes mx ret :: ws) rm) (fun a U => a = as' ∧ Z.Warmed39 U.vm ∧ U.heap = h0) (fun _ _ _ _ _ => True) (fun _ U o U' => ∃ v L, o = .returned v ∧ Q v U'.heap L ∧ FrameEnd U o U' L rm.cells rm.slots)
theorem own_enter {y : MethodName} {bytes : ByteArray} {mx : Nat} {ret : Option FieldType} {ws : List Jvm.Cond} {rm : Room} {as' : Array Value} (hn : plainName y.cls = true)
    (body : ∀ (p : Program) (e : Env) (s : State) (m : MethodId) (below : List Frame) (meth : Method) (c : Code) (T0 : State), p.tables.exec = Jvm.exec → c.code = bytes → c.maxLocals = mx → meth.sig.returnType = ret → meth.locks = false → s.vm.findClass y.cls = some m.cls → meth.name = y.name → Z.Warmed39 s.vm →
      Stand p l e rm s m as' below meth c T0 [] 0 0 → T0.heap = h0 → own_Go p e below (own_K s rm.cells rm.slots Q) T0 (entryFrame m as' mx)) : own_Met l y bytes mx ret ws rm Z as' h0 Q := by
  refine MetFree.of_bodySF (plainFor_of_name hn) hisR ?_
  intro p e s m args below meth c s₁ Bd hml hP hK
  obtain ⟨rfl, hZ, hh⟩ := hP
  obtain ⟨s2, o, h1, h2, h3, h4⟩ := body p e s m below meth c s₁ Bd.exec Bd.bytes hml Bd.returns Bd.notSynchronized (findClass_of_methodNamed Bd.named) (name_of_methodNamed Bd.named Bd.method).1 hZ (Stand.of_body Bd) (by rw [← hh, Bd.state]; rfl)
  exact ⟨s2, o, h1, h2, h3, h4⟩
theorem own_at {g g' : JFrame} (q : g = g') (k : own_Go p e below K T g') : own_Go p e below K T g := q ▸ k
theorem own_leave (X : Stand p l e R s m args below meth c T locs cells slots) (hlk : meth.locks = false) {v : Option Value} {k n : Nat} (hv : meth.sig.returnType = none → v = none) {g : JFrame}
    (step : ∀ fs, (∀ (f : JFrame) (acts : List Action), f.method = m → f.locked = none → f.entered = [] → (doReturn e (T.setTop f) acts v).1 = T.setFrames fs) → Steps p.tables e below (T.setTop g) (T.setFrames fs)) (hk : cells ≤ k) (hn : slots ≤ n) (hQ : Q v T.heap locs) : own_Go p e below (own_K s k n Q) T g := by
  obtain ⟨fs, hr, hrun, hended, hW, hsame⟩ := X.leave (v := v) hv hlk
  exact ⟨_, _, step fs hr, hrun, hended, v, locs, rfl, hQ, ⟨_, rfl⟩, hW, hsame.mono hk hn⟩
theorem own_retI (X : Stand p l e R s m args below meth c T locs cells slots) (hx : p.tables.exec = Jvm.exec) (hlk : meth.locks = false) (hret : meth.sig.returnType = some .int) {pc : Nat} {Ls : Array Slot} {z : Int32} {rest : List Value} {k n : Nat} (hd : decode c.code pc = .ok (.ireturn, 1)) (hk : cells ≤ k) (hn : slots ≤ n) (hQ : Q (some (.int z)) T.heap locs) :
    own_Go p e below (own_K s k n Q) T (mkF m pc Ls (.int z :: rest)) := by
  refine own_leave X hlk (v := some (.int z)) (fun h => by rw [hret] at h; cases h) (fun fs hl => ?_) hk hn hQ
  have hm' : T.vm.method? m = some meth := X.method'
  have hn : narrow .int (.int z) = .int z := rfl
  show Steps p.tables e below (T.setTop { method := m, pc := pc, locals := Ls, stack := _ :: rest, locked := none }) _
  jvm_step X.here [X.here.top, hx, hd, hm', hret, hn]
  first | (intro acts; rw [hl _ acts rfl rfl rfl]) | rw [hl _ _ rfl rfl rfl]
  exact Steps.refl _
theorem own_retN (X : Stand p l e R s m args below meth c T locs cells slots) (hx : p.tables.exec = Jvm.exec) (hlk : meth.locks = false) {t : FieldType} (hret : meth.sig.returnType = some t) (ht : t = .boolean ∨ t = .byte ∨ t = .char ∨ t = .short) {pc : Nat} {Ls : Array Slot} {z w : Int32} {rest : List Value} {k n : Nat} (hd : decode c.code pc = .ok (.ireturn, 1)) (hw : nar t z = w) (hk : cells ≤ k) (hn : slots ≤ n) (hQ : Q (some (.int w)) T.heap locs) :
    own_Go p e below (own_K s k n Q) T (mkF m pc Ls (.int z :: rest)) := by
  subst hw
  exact own_leave X hlk (v := some (.int (nar t z))) (fun h => by rw [hret] at h; cases h) (fun fs hl => retN X hx hret ht hd hl) hk hn hQ
theorem own_retA (X : Stand p l e R s m args below meth c T locs cells slots) (hx : p.tables.exec = Jvm.exec) (hlk : meth.locks = false) {t : FieldType} (hret : meth.sig.returnType = some t) (ht : t.isReference = true) {pc : Nat} {Ls : Array Slot} {v : Value} (hv : v.isRef = true) {rest : List Value} {k n : Nat} (hd : decode c.code pc = .ok (.areturn, 1)) (hk : cells ≤ k) (hn : slots ≤ n) (hQ : Q (some v) T.heap locs) :
    own_Go p e below (own_K s k n Q) T (mkF m pc Ls (v :: rest)) :=
  own_leave X hlk (v := some v) (fun h => by rw [hret] at h; cases h) (fun fs hl => retOut X hx hret (by cases t <;> first | (cases ht; done) | (rcases ref_cases hv with rfl | ⟨a, rfl⟩ <;> rfl)) (Or.inr (Or.inr (Or.inr (Or.inr ⟨rfl, ht, hv⟩)))) hd hl) hk hn hQ
theorem own_retV (X : Stand p l e R s m args below meth c T locs cells slots) (hx : p.tables.exec = Jvm.exec) (hlk : meth.locks = false) (hret : meth.sig.returnType = none) {pc : Nat} {Ls : Array Slot} {k n : Nat} (hd : decode c.code pc = .ok (.return_, 1)) (hk : cells ≤ k) (hn : slots ≤ n) (hQ : Q none T.heap locs) :
    own_Go p e below (own_K s k n Q) T (mkF m pc Ls []) :=
  own_leave X hlk (v := none) (fun _ => rfl) (fun fs hl => X.returnOut hx hret hd hl) hk hn hQ
theorem own_callS (X : Stand p l e R s m args below meth c T locs cells slots) (hx : p.tables.exec = Jvm.exec) (hZ : Z.Warmed39 s.vm) {own : String} {index : Nat} {y : MethodName} {bytes : ByteArray} {mx : Nat} {ret : Option FieldType} {rm : Room} (hown : s.vm.findClass own = some m.cls) (w1 : (Jvm.Cond.methodLink own index y).before a0 Z = true) (w2 : (Jvm.Cond.static y).before a0 Z = true) (w3 : (Jvm.Cond.initialized y.cls).before a0 Z = true) (w4 : (Jvm.Cond.code y bytes mx ret).before a0 Z = true)
    (hy : y.cls ≠ "java/lang/invoke/MethodHandle" ∧ y.cls ≠ "java/lang/invoke/VarHandle") (eT : T.heap = h) {argsL rest : List Value} (M : own_Met l y bytes mx ret [] rm Z argsL.toArray h Q) (W : Nat) (hf : rm.frames + 1 ≤ R.frames) (hl : W + (mx + 11) + rm.locals ≤ R.locals) {pc : Nat} {Ls : Array Slot} (hsize : Ls.size = c.maxLocals)
    (hlen : ∀ sig, parseMethodDescriptor y.desc = some sig → argsL.length = sig.parameters.length) (hW : (rest.map fun v => v.category).sum ≤ W) (hd : decode c.code pc = .ok (.invokestatic index, 3)) (hc : cells + rm.cells ≤ R.cells) (hs : slots + rm.slots ≤ R.slots) {st : List Value} (hst : st = argsL.reverse ++ rest)
    (k : ∀ (T' : State) (L : List Loc) (v : Option Value), Stand p l e R s m args below meth c T' (locs ++ L) (cells + rm.cells) (slots + rm.slots) → Q v T'.heap L → own_Go p e below K T' (mkF m (pc + 3) Ls (v.toList ++ rest))) : own_Go p e below K T (mkF m pc Ls st) := by
  obtain ⟨v, _, ⟨T1, L1, k1, n1⟩, -, X1, ⟨Lc, hQ, l1, y1, z1⟩, stp⟩ := Jvm.LawKit.callS X hx hown (mvT hZ w1) (mvT hZ w2) (mvT hZ w3) (mvT hZ w4) hy (backOf (W := W) M hZ w4 w3 hf hl) (g := mkF m pc Ls st) rfl hsize (argsL := argsL) (rest := rest) hlen hst (by show 2 * 0 + _ ≤ _; omega) hd (fun _ _ => ⟨rfl, eT, hc, hs⟩)
  dsimp only [Pt.U, Pt.locs, Pt.cells, Pt.slots] at X1 l1 y1 z1 stp hQ
  subst l1 y1 z1
  exact own_by stp (k T1 Lc v X1 hQ)
theorem own_callV (X : Stand p l e R s m args below meth c T locs cells slots) (hx : p.tables.exec = Jvm.exec) (hZ : Z.Warmed39 s.vm) {own C : String} {index : Nat} {y : MethodName} {bytes : ByteArray} {mx : Nat} {ret : Option FieldType} {rm : Room} (hown : s.vm.findClass own = some m.cls) (w1 : (Jvm.Cond.methodLink own index y).before a0 Z = true) (w2 : (Jvm.Cond.declares y).before a0 Z = true) (w3 : (Jvm.Cond.selects C y y).before a0 Z = true) (w4 : (Jvm.Cond.instanceMethod y).before a0 Z = true) (w5 : (Jvm.Cond.code y bytes mx ret).before a0 Z = true) (w6 : (Jvm.Cond.initialized y.cls).before a0 Z = true)
    (hy : y.cls ≠ "java/lang/invoke/MethodHandle" ∧ y.cls ≠ "java/lang/invoke/VarHandle") (eT : T.heap = h) {b : Addr} (E : Exa Z h b C) {argsL rest : List Value} (M : own_Met l y bytes mx ret [] rm Z (.ref b :: argsL).toArray h Q) (W : Nat) (hf : rm.frames + 1 ≤ R.frames) (hl : W + (mx + 11) + rm.locals ≤ R.locals) {pc : Nat} {Ls : Array Slot} (hsize : Ls.size = c.maxLocals)
    (hlen : ∀ sig, parseMethodDescriptor y.desc = some sig → argsL.length = sig.parameters.length) (hW : (rest.map fun v => v.category).sum ≤ W) (hd : decode c.code pc = .ok (.invokevirtual index, 3)) (hc : cells + rm.cells ≤ R.cells) (hs : slots + rm.slots ≤ R.slots) {st : List Value} (hst : st = argsL.reverse ++ .ref b :: rest)
    (k : ∀ (T' : State) (L : List Loc) (v : Option Value), Stand p l e R s m args below meth c T' (locs ++ L) (cells + rm.cells) (slots + rm.slots) → Q v T'.heap L → own_Go p e below K T' (mkF m (pc + 3) Ls (v.toList ++ rest))) : own_Go p e below K T (mkF m pc Ls st) := by
  obtain ⟨cq, kq, qa, qb, qc⟩ := isOf (T := T) hZ eT E
  obtain ⟨v, _, ⟨T1, L1, k1, n1⟩, -, X1, ⟨Lc, hQ, l1, y1, z1⟩, stp⟩ := X.virtualBack hx hown (mvT hZ w1) (mvT hZ w2) (notFace_of_selects (args := #[]) (mvT hZ w3)) (mvT hZ w3) (mvT hZ w4) hy (backOf (W := W) M hZ w5 w6 hf hl) qa qc (g := mkF m pc Ls st) rfl hsize (Steps.refl _) (argsL := argsL) (rest := rest) hlen hst (by show 2 * 0 + _ ≤ _; omega) hd (fun _ _ => ⟨rfl, eT, hc, hs⟩)
  dsimp only [Pt.U, Pt.locs, Pt.cells, Pt.slots] at X1 l1 y1 z1 stp hQ
  subst l1 y1 z1
  exact own_by (fun t q => stp.trans q) (k T1 Lc v X1 hQ)
theorem own_callN (X : Stand p l e R s m args below meth c T locs cells slots) (hx : p.tables.exec = Jvm.exec) (hZ : Z.Warmed39 s.vm) {own : String} {index : Nat} {y : MethodName} {bytes : ByteArray} {mx : Nat} {rm : Room} (hy1 : y.name = "<init>") (hown : s.vm.findClass own = some m.cls) (w1 : (Jvm.Cond.methodLink own index y).before a0 Z = true) (w2 : (Jvm.Cond.instanceMethod y).before a0 Z = true) (w3 : (Jvm.Cond.code y bytes mx none).before a0 Z = true) (w4 : (Jvm.Cond.initialized y.cls).before a0 Z = true)
    (hy : y.cls ≠ "java/lang/invoke/MethodHandle" ∧ y.cls ≠ "java/lang/invoke/VarHandle") (eT : T.heap = h) {b : Addr} {argsL rest : List Value} (M : own_Met l y bytes mx none [] rm Z (.ref b :: argsL).toArray h Q) (W : Nat) (hf : rm.frames + 1 ≤ R.frames) (hl : W + (mx + 11) + rm.locals ≤ R.locals) {pc : Nat} {Ls : Array Slot} (hsize : Ls.size = c.maxLocals)
    (hlen : ∀ sig, parseMethodDescriptor y.desc = some sig → argsL.length = sig.parameters.length) (hW : (rest.map fun v => v.category).sum ≤ W) (hd : decode c.code pc = .ok (.invokespecial index, 3)) (hc : cells + rm.cells ≤ R.cells) (hs : slots + rm.slots ≤ R.slots) {st : List Value} (hst : st = argsL.reverse ++ .ref b :: rest)
    (k : ∀ (T' : State) (L : List Loc) (v : Option Value), Stand p l e R s m args below meth c T' (locs ++ L) (cells + rm.cells) (slots + rm.slots) → Q v T'.heap L → own_Go p e below K T' (mkF m (pc + 3) Ls (v.toList ++ rest))) : own_Go p e below K T (mkF m pc Ls st) := by
  obtain ⟨v, _, ⟨T1, L1, k1, n1⟩, -, X1, ⟨Lc, hQ, l1, y1, z1⟩, stp⟩ := X.specialBack hx hy1 hown (mvT hZ w1) (mvT hZ w2) (mvT hZ w3) hy (backOf (W := W) M hZ w3 w4 hf hl) (g := mkF m pc Ls st) rfl hsize (Steps.refl _) (a := b) (argsL := argsL) (rest := rest) hlen hst (by show 2 * 0 + _ ≤ _; omega) hd (fun _ _ => ⟨rfl, eT, hc, hs⟩)
  dsimp only [Pt.U, Pt.locs, Pt.cells, Pt.slots] at X1 l1 y1 z1 stp hQ
  subst l1 y1 z1
  exact own_by (fun t q => stp.trans q) (k T1 Lc v X1 hQ)
end Own
def own_S (Z : State) (h : Heap) (w0 w1 w2 w3 w4 w5 w6 w7 : Addr) : Prop := Sta Z h "com/example/deliver/deliver/JobState" "AWAITING_SCHEDULING" "Lcom/example/deliver/deliver/JobState;" (.ref w0) ∧ Sta Z h "com/example/deliver/deliver/JobState" "EXECUTING" "Lcom/example/deliver/deliver/JobState;" (.ref w1) ∧ Sta Z h "com/example/deliver/deliver/JobState" "SUCCEEDED" "Lcom/example/deliver/deliver/JobState;" (.ref w2) ∧ Sta Z h "com/example/deliver/deliver/JobState" "DISCARDED" "Lcom/example/deliver/deliver/JobState;" (.ref w3) ∧ Sta Z h "com/example/deliver/deliver/JobState" "AWAITING_RETRY" "Lcom/example/deliver/deliver/JobState;" (.ref w4) ∧ Sta Z h "com/example/deliver/deliver/JobState" "ARCHIVING" "Lcom/example/deliver/deliver/JobState;" (.ref w5) ∧ Sta Z h "com/example/deliver/deliver/JobState" "ARCHIVED" "Lcom/example/deliver/deliver/JobState;" (.ref w6) ∧ Sta Z h "com/example/deliver/deliver/JobState" "CANCELLED" "Lcom/example/deliver/deliver/JobState;" (.ref w7)
theorem own_eqi {args : Array Value} {s : State} {t : Term} {k : Int32} (h : (Jvm.Cond.eq t (.int k)).value args s none s [] = some true) : t.eval args s none [] s = some (.int k) := by
  have hk : (Term.int k).eval args s none [] s = some (.int k) := Term.int_eval k
  cases ht : t.eval args s none [] s with
  | none => simp [Cond.value, ht] at h
  | some y => cases y <;> simp [Cond.value, ht, hk] at h ⊢; exact h
theorem own_mask (x : Int32) : x &&& (7 : Int32) = (0 : Int32) ∨ x &&& (7 : Int32) = (1 : Int32) ∨ x &&& (7 : Int32) = (2 : Int32) ∨ x &&& (7 : Int32) = (3 : Int32) ∨ x &&& (7 : Int32) = (4 : Int32) ∨ x &&& (7 : Int32) = (5 : Int32) ∨ x &&& (7 : Int32) = (6 : Int32) ∨ x &&& (7 : Int32) = (7 : Int32) := by
  have h := c_mask x (7 : Int32) 3 (by decide) (by decide)
  have h2 : (x &&& (7 : Int32)).toInt = 0 ∨ (x &&& (7 : Int32)).toInt = 1 ∨ (x &&& (7 : Int32)).toInt = 2 ∨ (x &&& (7 : Int32)).toInt = 3 ∨ (x &&& (7 : Int32)).toInt = 4 ∨ (x &&& (7 : Int32)).toInt = 5 ∨ (x &&& (7 : Int32)).toInt = 6 ∨ (x &&& (7 : Int32)).toInt = 7 := by omega
  rcases h2 with q | q | q | q | q | q | q | q
  · exact Or.inl (Int32.toInt_inj.mp (q.trans (by decide)))
  · exact Or.inr (Or.inl (Int32.toInt_inj.mp (q.trans (by decide))))
  · exact Or.inr (Or.inr (Or.inl (Int32.toInt_inj.mp (q.trans (by decide)))))
  · exact Or.inr (Or.inr (Or.inr (Or.inl (Int32.toInt_inj.mp (q.trans (by decide))))))
  · exact Or.inr (Or.inr (Or.inr (Or.inr (Or.inl (Int32.toInt_inj.mp (q.trans (by decide)))))))
  · exact Or.inr (Or.inr (Or.inr (Or.inr (Or.inr (Or.inl (Int32.toInt_inj.mp (q.trans (by decide))))))))
  · exact Or.inr (Or.inr (Or.inr (Or.inr (Or.inr (Or.inr (Or.inl (Int32.toInt_inj.mp (q.trans (by decide)))))))))
  · exact Or.inr (Or.inr (Or.inr (Or.inr (Or.inr (Or.inr (Or.inr ((Int32.toInt_inj.mp (q.trans (by decide))))))))))
def own_pick (k : Int32) (w0 w1 w2 w3 w4 w5 w6 w7 : Addr) : Addr := (if k = (0 : Int32) then w0 else (if k = (1 : Int32) then w1 else (if k = (2 : Int32) then w2 else (if k = (3 : Int32) then w3 else (if k = (4 : Int32) then w4 else (if k = (5 : Int32) then w5 else (if k = (6 : Int32) then w6 else w7)))))))
theorem pn_0 : plainName "com/example/deliver/deliver/JobStateAwaitsAttemptPinLaw" = true := by first | (simp [plainName, overriddenIn]; done) | decide +kernel
theorem d1_0 : decode method_2_code 0 = .ok (.iload_n 0, 1) := by decide +kernel
theorem d1_1 : decode method_2_code 1 = .ok (.ifCond .ne 7, 3) := by decide +kernel
theorem d1_4 : decode method_2_code 4 = .ok (.getstatic 7, 3) := by decide +kernel
theorem d1_7 : decode method_2_code 7 = .ok (.areturn, 1) := by decide +kernel
theorem d1_8 : decode method_2_code 8 = .ok (.iload_n 0, 1) := by decide +kernel
theorem d1_9 : decode method_2_code 9 = .ok (.iconst 1, 1) := by decide +kernel
theorem d1_10 : decode method_2_code 10 = .ok (.if_icmp .ne 7, 3) := by decide +kernel
theorem d1_13 : decode method_2_code 13 = .ok (.getstatic 13, 3) := by decide +kernel
theorem d1_16 : decode method_2_code 16 = .ok (.areturn, 1) := by decide +kernel
theorem d1_17 : decode method_2_code 17 = .ok (.iload_n 0, 1) := by decide +kernel
theorem d1_18 : decode method_2_code 18 = .ok (.iconst 2, 1) := by decide +kernel
theorem d1_19 : decode method_2_code 19 = .ok (.if_icmp .ne 7, 3) := by decide +kernel
theorem d1_22 : decode method_2_code 22 = .ok (.getstatic 16, 3) := by decide +kernel
theorem d1_25 : decode method_2_code 25 = .ok (.areturn, 1) := by decide +kernel
theorem d1_26 : decode method_2_code 26 = .ok (.iload_n 0, 1) := by decide +kernel
theorem d1_27 : decode method_2_code 27 = .ok (.iconst 3, 1) := by decide +kernel
theorem d1_28 : decode method_2_code 28 = .ok (.if_icmp .ne 7, 3) := by decide +kernel
theorem d1_31 : decode method_2_code 31 = .ok (.getstatic 19, 3) := by decide +kernel
theorem d1_34 : decode method_2_code 34 = .ok (.areturn, 1) := by decide +kernel
theorem d1_35 : decode method_2_code 35 = .ok (.iload_n 0, 1) := by decide +kernel
theorem d1_36 : decode method_2_code 36 = .ok (.iconst 4, 1) := by decide +kernel
theorem d1_37 : decode method_2_code 37 = .ok (.if_icmp .ne 7, 3) := by decide +kernel
theorem d1_40 : decode method_2_code 40 = .ok (.getstatic 22, 3) := by decide +kernel
theorem d1_43 : decode method_2_code 43 = .ok (.areturn, 1) := by decide +kernel
theorem d1_44 : decode method_2_code 44 = .ok (.iload_n 0, 1) := by decide +kernel
theorem d1_45 : decode method_2_code 45 = .ok (.iconst 5, 1) := by decide +kernel
theorem d1_46 : decode method_2_code 46 = .ok (.if_icmp .ne 7, 3) := by decide +kernel
theorem d1_49 : decode method_2_code 49 = .ok (.getstatic 25, 3) := by decide +kernel
theorem d1_52 : decode method_2_code 52 = .ok (.areturn, 1) := by decide +kernel
theorem d1_53 : decode method_2_code 53 = .ok (.iload_n 0, 1) := by decide +kernel
theorem d1_54 : decode method_2_code 54 = .ok (.bipush 6, 2) := by decide +kernel
theorem d1_56 : decode method_2_code 56 = .ok (.if_icmp .ne 7, 3) := by decide +kernel
theorem d1_59 : decode method_2_code 59 = .ok (.getstatic 28, 3) := by decide +kernel
theorem d1_62 : decode method_2_code 62 = .ok (.areturn, 1) := by decide +kernel
theorem d1_63 : decode method_2_code 63 = .ok (.getstatic 31, 3) := by decide +kernel
theorem d1_66 : decode method_2_code 66 = .ok (.areturn, 1) := by decide +kernel
set_option maxRecDepth 65536 in
set_option maxHeartbeats 40000000 in
theorem own_pick_met (l : Launch) (Z : State) (a0 : Array Value) (hw : ∀ d ∈ tables_1, d.before a0 Z = true) (k : Int32) (w0 w1 w2 w3 w4 w5 w6 w7 : Addr) (h0 : Heap) (S : own_S Z h0 w0 w1 w2 w3 w4 w5 w6 w7) :
    own_Met l (⟨"com/example/deliver/deliver/JobStateAwaitsAttemptPinLaw", "pick", "(I)Lcom/example/deliver/deliver/JobState;"⟩ : MethodName) method_2_code 1 (some (.object "com/example/deliver/deliver/JobState")) [] ({ frames := 0, cells := 0, slots := 0, locals := 0 } : Room) Z #[(.int k)] h0 (fun v h L => v = some (.ref (own_pick k w0 w1 w2 w3 w4 w5 w6 w7)) ∧ h = h0 ∧ L = []) := by
  obtain ⟨S0, S1, S2, S3, S4, S5, S6, S7⟩ := S
  refine own_enter pn_0 ?_
  intro p e s m below meth c T0 hx hby hml hret hlk hown hnm hZ X0 e0
  refine own_at (g' := (mkF m 0 #[oI k] [])) (by first | rfl | (simp [entryFrame, mkF, argsToLocals, Value.category]; done)) ?_
  show own_Go p e below _ T0 (mkF m 0 #[oI k] [])
  refine own_by (fun t k => XS.iloadN X0.here hx rfl (hb hby d1_0) rfl  k) ?_
  show own_Go p e below _ T0 (mkF m 1 #[oI k] [(.int k)])
  by_cases c1_0 : k = (0 : Int32)
  · refine own_by (fun t k => XS.ifNo X0.here hx rfl (hb hby d1_1) rfl (XT.i0_ne_f c1_0) k) ?_
    show own_Go p e below _ T0 (mkF m 4 #[oI k] [])
    obtain ⟨T2, XT2, eT2, stT2⟩ := getS2 X0 hx hZ hown (host := "") (Or.inl (hw _ (List.mem_of_getElem? (i := 4) rfl))) Via.refl e0 S0 (g := (mkF m 4 #[oI k] [])) rfl (hb hby d1_4)
    refine own_by stT2 ?_
    show own_Go p e below _ T2 (mkF m 7 #[oI k] [(.ref w0)])
    exact own_retA XT2 hx hlk hret rfl rfl (hb hby d1_7) (by decide) (by decide) (⟨by rw [own_pick, if_pos c1_0], eT2, rfl⟩)
  · refine own_by (fun t k => XS.ifYes X0.here hx rfl (pc0 := 1) (pc' := 8) rfl (hb hby d1_1) rfl (XT.i0_ne_t c1_0) (by decide) (by decide) k) ?_
    show own_Go p e below _ T0 (mkF m 8 #[oI k] [])
    refine own_by (fun t k => XS.iloadN X0.here hx rfl (hb hby d1_8) rfl  k) ?_
    show own_Go p e below _ T0 (mkF m 9 #[oI k] [(.int k)])
    refine own_by (fun t k => XT.iconstV X0.here hx rfl (1 : Int32) (hb hby d1_9) (by decide) k) ?_
    show own_Go p e below _ T0 (mkF m 10 #[oI k] [(.int (1 : Int32)), (.int k)])
    by_cases c10_2 : k = (1 : Int32)
    · refine own_by (fun t k => XS.icmpNo X0.here hx rfl (hb hby d1_10) rfl (XT.ii_ne_f c10_2) k) ?_
      show own_Go p e below _ T0 (mkF m 13 #[oI k] [])
      obtain ⟨T4, XT4, eT4, stT4⟩ := getS2 X0 hx hZ hown (host := "") (Or.inl (hw _ (List.mem_of_getElem? (i := 35) rfl))) Via.refl e0 S1 (g := (mkF m 13 #[oI k] [])) rfl (hb hby d1_13)
      refine own_by stT4 ?_
      show own_Go p e below _ T4 (mkF m 16 #[oI k] [(.ref w1)])
      exact own_retA XT4 hx hlk hret rfl rfl (hb hby d1_16) (by decide) (by decide) (⟨by rw [own_pick, if_neg c1_0, if_pos c10_2], eT4, rfl⟩)
    · refine own_by (fun t k => XS.icmpYes X0.here hx rfl (pc0 := 10) (pc' := 17) rfl (hb hby d1_10) rfl (XT.ii_ne_t c10_2) (by decide) (by decide) k) ?_
      show own_Go p e below _ T0 (mkF m 17 #[oI k] [])
      refine own_by (fun t k => XS.iloadN X0.here hx rfl (hb hby d1_17) rfl  k) ?_
      show own_Go p e below _ T0 (mkF m 18 #[oI k] [(.int k)])
      refine own_by (fun t k => XT.iconstV X0.here hx rfl (2 : Int32) (hb hby d1_18) (by decide) k) ?_
      show own_Go p e below _ T0 (mkF m 19 #[oI k] [(.int (2 : Int32)), (.int k)])
      by_cases c19_4 : k = (2 : Int32)
      · refine own_by (fun t k => XS.icmpNo X0.here hx rfl (hb hby d1_19) rfl (XT.ii_ne_f c19_4) k) ?_
        show own_Go p e below _ T0 (mkF m 22 #[oI k] [])
        obtain ⟨T6, XT6, eT6, stT6⟩ := getS2 X0 hx hZ hown (host := "") (Or.inl (hw _ (List.mem_of_getElem? (i := 34) rfl))) Via.refl e0 S2 (g := (mkF m 22 #[oI k] [])) rfl (hb hby d1_22)
        refine own_by stT6 ?_
        show own_Go p e below _ T6 (mkF m 25 #[oI k] [(.ref w2)])
        exact own_retA XT6 hx hlk hret rfl rfl (hb hby d1_25) (by decide) (by decide) (⟨by rw [own_pick, if_neg c1_0, if_neg c10_2, if_pos c19_4], eT6, rfl⟩)
      · refine own_by (fun t k => XS.icmpYes X0.here hx rfl (pc0 := 19) (pc' := 26) rfl (hb hby d1_19) rfl (XT.ii_ne_t c19_4) (by decide) (by decide) k) ?_
        show own_Go p e below _ T0 (mkF m 26 #[oI k] [])
        refine own_by (fun t k => XS.iloadN X0.here hx rfl (hb hby d1_26) rfl  k) ?_
        show own_Go p e below _ T0 (mkF m 27 #[oI k] [(.int k)])
        refine own_by (fun t k => XT.iconstV X0.here hx rfl (3 : Int32) (hb hby d1_27) (by decide) k) ?_
        show own_Go p e below _ T0 (mkF m 28 #[oI k] [(.int (3 : Int32)), (.int k)])
        by_cases c28_6 : k = (3 : Int32)
        · refine own_by (fun t k => XS.icmpNo X0.here hx rfl (hb hby d1_28) rfl (XT.ii_ne_f c28_6) k) ?_
          show own_Go p e below _ T0 (mkF m 31 #[oI k] [])
          obtain ⟨T8, XT8, eT8, stT8⟩ := getS2 X0 hx hZ hown (host := "") (Or.inl (hw _ (List.mem_of_getElem? (i := 29) rfl))) Via.refl e0 S3 (g := (mkF m 31 #[oI k] [])) rfl (hb hby d1_31)
          refine own_by stT8 ?_
          show own_Go p e below _ T8 (mkF m 34 #[oI k] [(.ref w3)])
          exact own_retA XT8 hx hlk hret rfl rfl (hb hby d1_34) (by decide) (by decide) (⟨by rw [own_pick, if_neg c1_0, if_neg c10_2, if_neg c19_4, if_pos c28_6], eT8, rfl⟩)
        · refine own_by (fun t k => XS.icmpYes X0.here hx rfl (pc0 := 28) (pc' := 35) rfl (hb hby d1_28) rfl (XT.ii_ne_t c28_6) (by decide) (by decide) k) ?_
          show own_Go p e below _ T0 (mkF m 35 #[oI k] [])
          refine own_by (fun t k => XS.iloadN X0.here hx rfl (hb hby d1_35) rfl  k) ?_
          show own_Go p e below _ T0 (mkF m 36 #[oI k] [(.int k)])
          refine own_by (fun t k => XT.iconstV X0.here hx rfl (4 : Int32) (hb hby d1_36) (by decide) k) ?_
          show own_Go p e below _ T0 (mkF m 37 #[oI k] [(.int (4 : Int32)), (.int k)])
          by_cases c37_8 : k = (4 : Int32)
          · refine own_by (fun t k => XS.icmpNo X0.here hx rfl (hb hby d1_37) rfl (XT.ii_ne_f c37_8) k) ?_
            show own_Go p e below _ T0 (mkF m 40 #[oI k] [])
            obtain ⟨T10, XT10, eT10, stT10⟩ := getS2 X0 hx hZ hown (host := "") (Or.inl (hw _ (List.mem_of_getElem? (i := 37) rfl))) Via.refl e0 S4 (g := (mkF m 40 #[oI k] [])) rfl (hb hby d1_40)
            refine own_by stT10 ?_
            show own_Go p e below _ T10 (mkF m 43 #[oI k] [(.ref w4)])
            exact own_retA XT10 hx hlk hret rfl rfl (hb hby d1_43) (by decide) (by decide) (⟨by rw [own_pick, if_neg c1_0, if_neg c10_2, if_neg c19_4, if_neg c28_6, if_pos c37_8], eT10, rfl⟩)
          · refine own_by (fun t k => XS.icmpYes X0.here hx rfl (pc0 := 37) (pc' := 44) rfl (hb hby d1_37) rfl (XT.ii_ne_t c37_8) (by decide) (by decide) k) ?_
            show own_Go p e below _ T0 (mkF m 44 #[oI k] [])
            refine own_by (fun t k => XS.iloadN X0.here hx rfl (hb hby d1_44) rfl  k) ?_
            show own_Go p e below _ T0 (mkF m 45 #[oI k] [(.int k)])
            refine own_by (fun t k => XT.iconstV X0.here hx rfl (5 : Int32) (hb hby d1_45) (by decide) k) ?_
            show own_Go p e below _ T0 (mkF m 46 #[oI k] [(.int (5 : Int32)), (.int k)])
            by_cases c46_10 : k = (5 : Int32)
            · refine own_by (fun t k => XS.icmpNo X0.here hx rfl (hb hby d1_46) rfl (XT.ii_ne_f c46_10) k) ?_
              show own_Go p e below _ T0 (mkF m 49 #[oI k] [])
              obtain ⟨T12, XT12, eT12, stT12⟩ := getS2 X0 hx hZ hown (host := "") (Or.inl (hw _ (List.mem_of_getElem? (i := 38) rfl))) Via.refl e0 S5 (g := (mkF m 49 #[oI k] [])) rfl (hb hby d1_49)
              refine own_by stT12 ?_
              show own_Go p e below _ T12 (mkF m 52 #[oI k] [(.ref w5)])
              exact own_retA XT12 hx hlk hret rfl rfl (hb hby d1_52) (by decide) (by decide) (⟨by rw [own_pick, if_neg c1_0, if_neg c10_2, if_neg c19_4, if_neg c28_6, if_neg c37_8, if_pos c46_10], eT12, rfl⟩)
            · refine own_by (fun t k => XS.icmpYes X0.here hx rfl (pc0 := 46) (pc' := 53) rfl (hb hby d1_46) rfl (XT.ii_ne_t c46_10) (by decide) (by decide) k) ?_
              show own_Go p e below _ T0 (mkF m 53 #[oI k] [])
              refine own_by (fun t k => XS.iloadN X0.here hx rfl (hb hby d1_53) rfl  k) ?_
              show own_Go p e below _ T0 (mkF m 54 #[oI k] [(.int k)])
              refine own_by (fun t k => XT.bipushV X0.here hx rfl (6 : Int32) (hb hby d1_54) (by decide) k) ?_
              show own_Go p e below _ T0 (mkF m 56 #[oI k] [(.int (6 : Int32)), (.int k)])
              by_cases c56_12 : k = (6 : Int32)
              · refine own_by (fun t k => XS.icmpNo X0.here hx rfl (hb hby d1_56) rfl (XT.ii_ne_f c56_12) k) ?_
                show own_Go p e below _ T0 (mkF m 59 #[oI k] [])
                obtain ⟨T14, XT14, eT14, stT14⟩ := getS2 X0 hx hZ hown (host := "") (Or.inl (hw _ (List.mem_of_getElem? (i := 32) rfl))) Via.refl e0 S6 (g := (mkF m 59 #[oI k] [])) rfl (hb hby d1_59)
                refine own_by stT14 ?_
                show own_Go p e below _ T14 (mkF m 62 #[oI k] [(.ref w6)])
                exact own_retA XT14 hx hlk hret rfl rfl (hb hby d1_62) (by decide) (by decide) (⟨by rw [own_pick, if_neg c1_0, if_neg c10_2, if_neg c19_4, if_neg c28_6, if_neg c37_8, if_neg c46_10, if_pos c56_12], eT14, rfl⟩)
              · refine own_by (fun t k => XS.icmpYes X0.here hx rfl (pc0 := 56) (pc' := 63) rfl (hb hby d1_56) rfl (XT.ii_ne_t c56_12) (by decide) (by decide) k) ?_
                show own_Go p e below _ T0 (mkF m 63 #[oI k] [])
                obtain ⟨T15, XT15, eT15, stT15⟩ := getS2 X0 hx hZ hown (host := "") (Or.inl (hw _ (List.mem_of_getElem? (i := 33) rfl))) Via.refl e0 S7 (g := (mkF m 63 #[oI k] [])) rfl (hb hby d1_63)
                refine own_by stT15 ?_
                show own_Go p e below _ T15 (mkF m 66 #[oI k] [(.ref w7)])
                exact own_retA XT15 hx hlk hret rfl rfl (hb hby d1_66) (by decide) (by decide) (⟨by rw [own_pick, if_neg c1_0, if_neg c10_2, if_neg c19_4, if_neg c28_6, if_neg c37_8, if_neg c46_10, if_neg c56_12], eT15, rfl⟩)
def own_awaitsAttempt (a : Addr) (w0 w1 w2 w3 w4 w5 w6 w7 : Addr) : Int32 := (if a = w0 then (1 : Int32) else (if a = w4 then (1 : Int32) else (0 : Int32)))
theorem pn_1 : plainName "com/example/deliver/deliver/JobState" = true := by first | (simp [plainName, overriddenIn]; done) | decide +kernel
theorem d2_0 : decode prog_10_method_5_code 0 = .ok (.aload_n 0, 1) := by decide +kernel
theorem d2_1 : decode prog_10_method_5_code 1 = .ok (.getstatic 3, 3) := by decide +kernel
theorem d2_4 : decode prog_10_method_5_code 4 = .ok (.if_acmp .eq 10, 3) := by decide +kernel
theorem d2_14 : decode prog_10_method_5_code 14 = .ok (.iconst 1, 1) := by decide +kernel
theorem d2_15 : decode prog_10_method_5_code 15 = .ok (.goto 4, 3) := by decide +kernel
theorem d2_19 : decode prog_10_method_5_code 19 = .ok (.ireturn, 1) := by decide +kernel
theorem d2_7 : decode prog_10_method_5_code 7 = .ok (.aload_n 0, 1) := by decide +kernel
theorem d2_8 : decode prog_10_method_5_code 8 = .ok (.getstatic 16, 3) := by decide +kernel
theorem d2_11 : decode prog_10_method_5_code 11 = .ok (.if_acmp .ne 7, 3) := by decide +kernel
theorem d2_18 : decode prog_10_method_5_code 18 = .ok (.iconst 0, 1) := by decide +kernel
set_option maxRecDepth 65536 in
set_option maxHeartbeats 40000000 in
theorem own_awaitsAttempt_met (l : Launch) (Z : State) (a0 : Array Value) (hw : ∀ d ∈ tables_1, d.before a0 Z = true) (a : Addr) (w0 w1 w2 w3 w4 w5 w6 w7 : Addr) (h0 : Heap) (S : own_S Z h0 w0 w1 w2 w3 w4 w5 w6 w7) :
    own_Met l (⟨"com/example/deliver/deliver/JobState", "awaitsAttempt", "()Z"⟩ : MethodName) prog_10_method_5_code 1 (some .boolean) [] ({ frames := 0, cells := 0, slots := 0, locals := 0 } : Room) Z #[(.ref a)] h0 (fun v h L => v = some (.int (own_awaitsAttempt a w0 w1 w2 w3 w4 w5 w6 w7)) ∧ h = h0 ∧ L = []) := by
  obtain ⟨S0, S1, S2, S3, S4, S5, S6, S7⟩ := S
  refine own_enter pn_1 ?_
  intro p e s m below meth c T0 hx hby hml hret hlk hown hnm hZ X0 e0
  refine own_at (g' := (mkF m 0 #[oR a] [])) (by first | rfl | (simp [entryFrame, mkF, argsToLocals, Value.category]; done)) ?_
  show own_Go p e below _ T0 (mkF m 0 #[oR a] [])
  refine own_by (fun t k => XS.aloadN X0.here hx rfl (hb hby d2_0) rfl rfl  k) ?_
  show own_Go p e below _ T0 (mkF m 1 #[oR a] [(.ref a)])
  obtain ⟨T1, XT1, eT1, stT1⟩ := getS2 X0 hx hZ hown (host := "") (Or.inl (hw _ (List.mem_of_getElem? (i := 12) rfl))) Via.refl e0 S0 (g := (mkF m 1 #[oR a] [(.ref a)])) rfl (hb hby d2_1)
  refine own_by stT1 ?_
  show own_Go p e below _ T1 (mkF m 4 #[oR a] [(.ref w0), (.ref a)])
  by_cases c4_1 : a = w0
  · refine own_by (fun t k => Jvm.RoadKit.acmp (g := (mkF m 4 #[oR a] [(.ref w0), (.ref a)])) XT1 hx rfl rfl rfl (pc0 := 4) (pc' := 14) (same := true) rfl (hb hby d2_4) rfl (decide_eq_true (congrArg Value.ref (c4_1))) (by decide) (by decide) k) ?_
    show own_Go p e below _ T1 (mkF m 14 #[oR a] [])
    refine own_by (fun t k => XT.iconstV XT1.here hx rfl (1 : Int32) (hb hby d2_14) (by decide) k) ?_
    show own_Go p e below _ T1 (mkF m 15 #[oR a] [(.int (1 : Int32))])
    refine own_by (fun t k => XS.goto XT1.here hx rfl (pc0 := 15) (pc' := 19) rfl (hb hby d2_15) (by decide) (by decide) k) ?_
    show own_Go p e below _ T1 (mkF m 19 #[oR a] [(.int (1 : Int32))])
    exact own_retN XT1 hx hlk hret (by simp) (w := (1 : Int32)) (hb hby d2_19) (by decide) (by decide) (by decide) (⟨by rw [own_awaitsAttempt, if_pos c4_1], eT1, rfl⟩)
  · refine own_by (fun t k => Jvm.RoadKit.acmp (g := (mkF m 4 #[oR a] [(.ref w0), (.ref a)])) XT1 hx rfl rfl rfl (pc0 := 4) (pc' := 7) (same := false) rfl (hb hby d2_4) rfl (decide_eq_false fun q => (c4_1) (Value.ref.inj q)) (by decide) (by decide) k) ?_
    show own_Go p e below _ T1 (mkF m 7 #[oR a] [])
    refine own_by (fun t k => XS.aloadN XT1.here hx rfl (hb hby d2_7) rfl rfl  k) ?_
    show own_Go p e below _ T1 (mkF m 8 #[oR a] [(.ref a)])
    obtain ⟨T3, XT3, eT3, stT3⟩ := getS2 XT1 hx hZ hown (host := "") (Or.inl (hw _ (List.mem_of_getElem? (i := 30) rfl))) Via.refl eT1 S4 (g := (mkF m 8 #[oR a] [(.ref a)])) rfl (hb hby d2_8)
    refine own_by stT3 ?_
    show own_Go p e below _ T3 (mkF m 11 #[oR a] [(.ref w4), (.ref a)])
    by_cases c11_3 : a = w4
    · refine own_by (fun t k => Jvm.RoadKit.acmp (g := (mkF m 11 #[oR a] [(.ref w4), (.ref a)])) XT3 hx rfl rfl rfl (pc0 := 11) (pc' := 14) (same := true) rfl (hb hby d2_11) rfl (decide_eq_true (congrArg Value.ref (c11_3))) (by decide) (by decide) k) ?_
      show own_Go p e below _ T3 (mkF m 14 #[oR a] [])
      refine own_by (fun t k => XT.iconstV XT3.here hx rfl (1 : Int32) (hb hby d2_14) (by decide) k) ?_
      show own_Go p e below _ T3 (mkF m 15 #[oR a] [(.int (1 : Int32))])
      refine own_by (fun t k => XS.goto XT3.here hx rfl (pc0 := 15) (pc' := 19) rfl (hb hby d2_15) (by decide) (by decide) k) ?_
      show own_Go p e below _ T3 (mkF m 19 #[oR a] [(.int (1 : Int32))])
      exact own_retN XT3 hx hlk hret (by simp) (w := (1 : Int32)) (hb hby d2_19) (by decide) (by decide) (by decide) (⟨by rw [own_awaitsAttempt, if_neg c4_1, if_pos c11_3], eT3, rfl⟩)
    · refine own_by (fun t k => Jvm.RoadKit.acmp (g := (mkF m 11 #[oR a] [(.ref w4), (.ref a)])) XT3 hx rfl rfl rfl (pc0 := 11) (pc' := 18) (same := false) rfl (hb hby d2_11) rfl (decide_eq_false fun q => (c11_3) (Value.ref.inj q)) (by decide) (by decide) k) ?_
      show own_Go p e below _ T3 (mkF m 18 #[oR a] [])
      refine own_by (fun t k => XT.iconstV XT3.here hx rfl (0 : Int32) (hb hby d2_18) (by decide) k) ?_
      show own_Go p e below _ T3 (mkF m 19 #[oR a] [(.int (0 : Int32))])
      exact own_retN XT3 hx hlk hret (by simp) (w := (0 : Int32)) (hb hby d2_19) (by decide) (by decide) (by decide) (⟨by rw [own_awaitsAttempt, if_neg c4_1, if_neg c11_3], eT3, rfl⟩)
def own_ended (a : Addr) (w0 w1 w2 w3 w4 w5 w6 w7 : Addr) : Int32 := (if a = w2 then (1 : Int32) else (if a = w3 then (1 : Int32) else (if a = w6 then (1 : Int32) else (if a = w7 then (1 : Int32) else (0 : Int32)))))
theorem d3_0 : decode prog_10_method_6_code 0 = .ok (.aload_n 0, 1) := by decide +kernel
theorem d3_1 : decode prog_10_method_6_code 1 = .ok (.getstatic 10, 3) := by decide +kernel
theorem d3_4 : decode prog_10_method_6_code 4 = .ok (.if_acmp .eq 24, 3) := by decide +kernel
theorem d3_28 : decode prog_10_method_6_code 28 = .ok (.iconst 1, 1) := by decide +kernel
theorem d3_29 : decode prog_10_method_6_code 29 = .ok (.goto 4, 3) := by decide +kernel
theorem d3_33 : decode prog_10_method_6_code 33 = .ok (.ireturn, 1) := by decide +kernel
theorem d3_7 : decode prog_10_method_6_code 7 = .ok (.aload_n 0, 1) := by decide +kernel
theorem d3_8 : decode prog_10_method_6_code 8 = .ok (.getstatic 13, 3) := by decide +kernel
theorem d3_11 : decode prog_10_method_6_code 11 = .ok (.if_acmp .eq 17, 3) := by decide +kernel
theorem d3_14 : decode prog_10_method_6_code 14 = .ok (.aload_n 0, 1) := by decide +kernel
theorem d3_15 : decode prog_10_method_6_code 15 = .ok (.getstatic 22, 3) := by decide +kernel
theorem d3_18 : decode prog_10_method_6_code 18 = .ok (.if_acmp .eq 10, 3) := by decide +kernel
theorem d3_21 : decode prog_10_method_6_code 21 = .ok (.aload_n 0, 1) := by decide +kernel
theorem d3_22 : decode prog_10_method_6_code 22 = .ok (.getstatic 25, 3) := by decide +kernel
theorem d3_25 : decode prog_10_method_6_code 25 = .ok (.if_acmp .ne 7, 3) := by decide +kernel
theorem d3_32 : decode prog_10_method_6_code 32 = .ok (.iconst 0, 1) := by decide +kernel
set_option maxRecDepth 65536 in
set_option maxHeartbeats 40000000 in
theorem own_ended_met (l : Launch) (Z : State) (a0 : Array Value) (hw : ∀ d ∈ tables_1, d.before a0 Z = true) (a : Addr) (w0 w1 w2 w3 w4 w5 w6 w7 : Addr) (h0 : Heap) (S : own_S Z h0 w0 w1 w2 w3 w4 w5 w6 w7) :
    own_Met l (⟨"com/example/deliver/deliver/JobState", "ended", "()Z"⟩ : MethodName) prog_10_method_6_code 1 (some .boolean) [] ({ frames := 0, cells := 0, slots := 0, locals := 0 } : Room) Z #[(.ref a)] h0 (fun v h L => v = some (.int (own_ended a w0 w1 w2 w3 w4 w5 w6 w7)) ∧ h = h0 ∧ L = []) := by
  obtain ⟨S0, S1, S2, S3, S4, S5, S6, S7⟩ := S
  refine own_enter pn_1 ?_
  intro p e s m below meth c T0 hx hby hml hret hlk hown hnm hZ X0 e0
  refine own_at (g' := (mkF m 0 #[oR a] [])) (by first | rfl | (simp [entryFrame, mkF, argsToLocals, Value.category]; done)) ?_
  show own_Go p e below _ T0 (mkF m 0 #[oR a] [])
  refine own_by (fun t k => XS.aloadN X0.here hx rfl (hb hby d3_0) rfl rfl  k) ?_
  show own_Go p e below _ T0 (mkF m 1 #[oR a] [(.ref a)])
  obtain ⟨T1, XT1, eT1, stT1⟩ := getS2 X0 hx hZ hown (host := "") (Or.inl (hw _ (List.mem_of_getElem? (i := 18) rfl))) Via.refl e0 S2 (g := (mkF m 1 #[oR a] [(.ref a)])) rfl (hb hby d3_1)
  refine own_by stT1 ?_
  show own_Go p e below _ T1 (mkF m 4 #[oR a] [(.ref w2), (.ref a)])
  by_cases c4_1 : a = w2
  · refine own_by (fun t k => Jvm.RoadKit.acmp (g := (mkF m 4 #[oR a] [(.ref w2), (.ref a)])) XT1 hx rfl rfl rfl (pc0 := 4) (pc' := 28) (same := true) rfl (hb hby d3_4) rfl (decide_eq_true (congrArg Value.ref (c4_1))) (by decide) (by decide) k) ?_
    show own_Go p e below _ T1 (mkF m 28 #[oR a] [])
    refine own_by (fun t k => XT.iconstV XT1.here hx rfl (1 : Int32) (hb hby d3_28) (by decide) k) ?_
    show own_Go p e below _ T1 (mkF m 29 #[oR a] [(.int (1 : Int32))])
    refine own_by (fun t k => XS.goto XT1.here hx rfl (pc0 := 29) (pc' := 33) rfl (hb hby d3_29) (by decide) (by decide) k) ?_
    show own_Go p e below _ T1 (mkF m 33 #[oR a] [(.int (1 : Int32))])
    exact own_retN XT1 hx hlk hret (by simp) (w := (1 : Int32)) (hb hby d3_33) (by decide) (by decide) (by decide) (⟨by rw [own_ended, if_pos c4_1], eT1, rfl⟩)
  · refine own_by (fun t k => Jvm.RoadKit.acmp (g := (mkF m 4 #[oR a] [(.ref w2), (.ref a)])) XT1 hx rfl rfl rfl (pc0 := 4) (pc' := 7) (same := false) rfl (hb hby d3_4) rfl (decide_eq_false fun q => (c4_1) (Value.ref.inj q)) (by decide) (by decide) k) ?_
    show own_Go p e below _ T1 (mkF m 7 #[oR a] [])
    refine own_by (fun t k => XS.aloadN XT1.here hx rfl (hb hby d3_7) rfl rfl  k) ?_
    show own_Go p e below _ T1 (mkF m 8 #[oR a] [(.ref a)])
    obtain ⟨T3, XT3, eT3, stT3⟩ := getS2 XT1 hx hZ hown (host := "") (Or.inl (hw _ (List.mem_of_getElem? (i := 20) rfl))) Via.refl eT1 S3 (g := (mkF m 8 #[oR a] [(.ref a)])) rfl (hb hby d3_8)
    refine own_by stT3 ?_
    show own_Go p e below _ T3 (mkF m 11 #[oR a] [(.ref w3), (.ref a)])
    by_cases c11_3 : a = w3
    · refine own_by (fun t k => Jvm.RoadKit.acmp (g := (mkF m 11 #[oR a] [(.ref w3), (.ref a)])) XT3 hx rfl rfl rfl (pc0 := 11) (pc' := 28) (same := true) rfl (hb hby d3_11) rfl (decide_eq_true (congrArg Value.ref (c11_3))) (by decide) (by decide) k) ?_
      show own_Go p e below _ T3 (mkF m 28 #[oR a] [])
      refine own_by (fun t k => XT.iconstV XT3.here hx rfl (1 : Int32) (hb hby d3_28) (by decide) k) ?_
      show own_Go p e below _ T3 (mkF m 29 #[oR a] [(.int (1 : Int32))])
      refine own_by (fun t k => XS.goto XT3.here hx rfl (pc0 := 29) (pc' := 33) rfl (hb hby d3_29) (by decide) (by decide) k) ?_
      show own_Go p e below _ T3 (mkF m 33 #[oR a] [(.int (1 : Int32))])
      exact own_retN XT3 hx hlk hret (by simp) (w := (1 : Int32)) (hb hby d3_33) (by decide) (by decide) (by decide) (⟨by rw [own_ended, if_neg c4_1, if_pos c11_3], eT3, rfl⟩)
    · refine own_by (fun t k => Jvm.RoadKit.acmp (g := (mkF m 11 #[oR a] [(.ref w3), (.ref a)])) XT3 hx rfl rfl rfl (pc0 := 11) (pc' := 14) (same := false) rfl (hb hby d3_11) rfl (decide_eq_false fun q => (c11_3) (Value.ref.inj q)) (by decide) (by decide) k) ?_
      show own_Go p e below _ T3 (mkF m 14 #[oR a] [])
      refine own_by (fun t k => XS.aloadN XT3.here hx rfl (hb hby d3_14) rfl rfl  k) ?_
      show own_Go p e below _ T3 (mkF m 15 #[oR a] [(.ref a)])
      obtain ⟨T5, XT5, eT5, stT5⟩ := getS2 XT3 hx hZ hown (host := "") (Or.inl (hw _ (List.mem_of_getElem? (i := 22) rfl))) Via.refl eT3 S6 (g := (mkF m 15 #[oR a] [(.ref a)])) rfl (hb hby d3_15)
      refine own_by stT5 ?_
      show own_Go p e below _ T5 (mkF m 18 #[oR a] [(.ref w6), (.ref a)])
      by_cases c18_5 : a = w6
      · refine own_by (fun t k => Jvm.RoadKit.acmp (g := (mkF m 18 #[oR a] [(.ref w6), (.ref a)])) XT5 hx rfl rfl rfl (pc0 := 18) (pc' := 28) (same := true) rfl (hb hby d3_18) rfl (decide_eq_true (congrArg Value.ref (c18_5))) (by decide) (by decide) k) ?_
        show own_Go p e below _ T5 (mkF m 28 #[oR a] [])
        refine own_by (fun t k => XT.iconstV XT5.here hx rfl (1 : Int32) (hb hby d3_28) (by decide) k) ?_
        show own_Go p e below _ T5 (mkF m 29 #[oR a] [(.int (1 : Int32))])
        refine own_by (fun t k => XS.goto XT5.here hx rfl (pc0 := 29) (pc' := 33) rfl (hb hby d3_29) (by decide) (by decide) k) ?_
        show own_Go p e below _ T5 (mkF m 33 #[oR a] [(.int (1 : Int32))])
        exact own_retN XT5 hx hlk hret (by simp) (w := (1 : Int32)) (hb hby d3_33) (by decide) (by decide) (by decide) (⟨by rw [own_ended, if_neg c4_1, if_neg c11_3, if_pos c18_5], eT5, rfl⟩)
      · refine own_by (fun t k => Jvm.RoadKit.acmp (g := (mkF m 18 #[oR a] [(.ref w6), (.ref a)])) XT5 hx rfl rfl rfl (pc0 := 18) (pc' := 21) (same := false) rfl (hb hby d3_18) rfl (decide_eq_false fun q => (c18_5) (Value.ref.inj q)) (by decide) (by decide) k) ?_
        show own_Go p e below _ T5 (mkF m 21 #[oR a] [])
        refine own_by (fun t k => XS.aloadN XT5.here hx rfl (hb hby d3_21) rfl rfl  k) ?_
        show own_Go p e below _ T5 (mkF m 22 #[oR a] [(.ref a)])
        obtain ⟨T7, XT7, eT7, stT7⟩ := getS2 XT5 hx hZ hown (host := "") (Or.inl (hw _ (List.mem_of_getElem? (i := 24) rfl))) Via.refl eT5 S7 (g := (mkF m 22 #[oR a] [(.ref a)])) rfl (hb hby d3_22)
        refine own_by stT7 ?_
        show own_Go p e below _ T7 (mkF m 25 #[oR a] [(.ref w7), (.ref a)])
        by_cases c25_7 : a = w7
        · refine own_by (fun t k => Jvm.RoadKit.acmp (g := (mkF m 25 #[oR a] [(.ref w7), (.ref a)])) XT7 hx rfl rfl rfl (pc0 := 25) (pc' := 28) (same := true) rfl (hb hby d3_25) rfl (decide_eq_true (congrArg Value.ref (c25_7))) (by decide) (by decide) k) ?_
          show own_Go p e below _ T7 (mkF m 28 #[oR a] [])
          refine own_by (fun t k => XT.iconstV XT7.here hx rfl (1 : Int32) (hb hby d3_28) (by decide) k) ?_
          show own_Go p e below _ T7 (mkF m 29 #[oR a] [(.int (1 : Int32))])
          refine own_by (fun t k => XS.goto XT7.here hx rfl (pc0 := 29) (pc' := 33) rfl (hb hby d3_29) (by decide) (by decide) k) ?_
          show own_Go p e below _ T7 (mkF m 33 #[oR a] [(.int (1 : Int32))])
          exact own_retN XT7 hx hlk hret (by simp) (w := (1 : Int32)) (hb hby d3_33) (by decide) (by decide) (by decide) (⟨by rw [own_ended, if_neg c4_1, if_neg c11_3, if_neg c18_5, if_pos c25_7], eT7, rfl⟩)
        · refine own_by (fun t k => Jvm.RoadKit.acmp (g := (mkF m 25 #[oR a] [(.ref w7), (.ref a)])) XT7 hx rfl rfl rfl (pc0 := 25) (pc' := 32) (same := false) rfl (hb hby d3_25) rfl (decide_eq_false fun q => (c25_7) (Value.ref.inj q)) (by decide) (by decide) k) ?_
          show own_Go p e below _ T7 (mkF m 32 #[oR a] [])
          refine own_by (fun t k => XT.iconstV XT7.here hx rfl (0 : Int32) (hb hby d3_32) (by decide) k) ?_
          show own_Go p e below _ T7 (mkF m 33 #[oR a] [(.int (0 : Int32))])
          exact own_retN XT7 hx hlk hret (by simp) (w := (0 : Int32)) (hb hby d3_33) (by decide) (by decide) (by decide) (⟨by rw [own_ended, if_neg c4_1, if_neg c11_3, if_neg c18_5, if_neg c25_7], eT7, rfl⟩)
def own_expectedAwaits (k : Int32)  : Int32 := (if k = (0 : Int32) then (1 : Int32) else (if k = (4 : Int32) then (1 : Int32) else (0 : Int32)))
theorem d4_0 : decode method_3_code 0 = .ok (.iload_n 0, 1) := by decide +kernel
theorem d4_1 : decode method_3_code 1 = .ok (.ifCond .ne 5, 3) := by decide +kernel
theorem d4_4 : decode method_3_code 4 = .ok (.iconst 1, 1) := by decide +kernel
theorem d4_5 : decode method_3_code 5 = .ok (.ireturn, 1) := by decide +kernel
theorem d4_6 : decode method_3_code 6 = .ok (.iload_n 0, 1) := by decide +kernel
theorem d4_7 : decode method_3_code 7 = .ok (.iconst 4, 1) := by decide +kernel
theorem d4_8 : decode method_3_code 8 = .ok (.if_icmp .ne 5, 3) := by decide +kernel
theorem d4_11 : decode method_3_code 11 = .ok (.iconst 1, 1) := by decide +kernel
theorem d4_12 : decode method_3_code 12 = .ok (.ireturn, 1) := by decide +kernel
theorem d4_13 : decode method_3_code 13 = .ok (.iconst 0, 1) := by decide +kernel
theorem d4_14 : decode method_3_code 14 = .ok (.ireturn, 1) := by decide +kernel
set_option maxRecDepth 65536 in
set_option maxHeartbeats 40000000 in
theorem own_expectedAwaits_met (l : Launch) (Z : State) (a0 : Array Value) (hw : ∀ d ∈ tables_1, d.before a0 Z = true) (k : Int32)  (h0 : Heap)  :
    own_Met l (⟨"com/example/deliver/deliver/JobStateAwaitsAttemptPinLaw", "expectedAwaits", "(I)Z"⟩ : MethodName) method_3_code 1 (some .boolean) [] ({ frames := 0, cells := 0, slots := 0, locals := 0 } : Room) Z #[(.int k)] h0 (fun v h L => v = some (.int (own_expectedAwaits k )) ∧ h = h0 ∧ L = []) := by
  refine own_enter pn_0 ?_
  intro p e s m below meth c T0 hx hby hml hret hlk hown hnm hZ X0 e0
  refine own_at (g' := (mkF m 0 #[oI k] [])) (by first | rfl | (simp [entryFrame, mkF, argsToLocals, Value.category]; done)) ?_
  show own_Go p e below _ T0 (mkF m 0 #[oI k] [])
  refine own_by (fun t k => XS.iloadN X0.here hx rfl (hb hby d4_0) rfl  k) ?_
  show own_Go p e below _ T0 (mkF m 1 #[oI k] [(.int k)])
  by_cases c1_0 : k = (0 : Int32)
  · refine own_by (fun t k => XS.ifNo X0.here hx rfl (hb hby d4_1) rfl (XT.i0_ne_f c1_0) k) ?_
    show own_Go p e below _ T0 (mkF m 4 #[oI k] [])
    refine own_by (fun t k => XT.iconstV X0.here hx rfl (1 : Int32) (hb hby d4_4) (by decide) k) ?_
    show own_Go p e below _ T0 (mkF m 5 #[oI k] [(.int (1 : Int32))])
    exact own_retN X0 hx hlk hret (by simp) (w := (1 : Int32)) (hb hby d4_5) (by decide) (by decide) (by decide) (⟨by rw [own_expectedAwaits, if_pos c1_0], e0, rfl⟩)
  · refine own_by (fun t k => XS.ifYes X0.here hx rfl (pc0 := 1) (pc' := 6) rfl (hb hby d4_1) rfl (XT.i0_ne_t c1_0) (by decide) (by decide) k) ?_
    show own_Go p e below _ T0 (mkF m 6 #[oI k] [])
    refine own_by (fun t k => XS.iloadN X0.here hx rfl (hb hby d4_6) rfl  k) ?_
    show own_Go p e below _ T0 (mkF m 7 #[oI k] [(.int k)])
    refine own_by (fun t k => XT.iconstV X0.here hx rfl (4 : Int32) (hb hby d4_7) (by decide) k) ?_
    show own_Go p e below _ T0 (mkF m 8 #[oI k] [(.int (4 : Int32)), (.int k)])
    by_cases c8_1 : k = (4 : Int32)
    · refine own_by (fun t k => XS.icmpNo X0.here hx rfl (hb hby d4_8) rfl (XT.ii_ne_f c8_1) k) ?_
      show own_Go p e below _ T0 (mkF m 11 #[oI k] [])
      refine own_by (fun t k => XT.iconstV X0.here hx rfl (1 : Int32) (hb hby d4_11) (by decide) k) ?_
      show own_Go p e below _ T0 (mkF m 12 #[oI k] [(.int (1 : Int32))])
      exact own_retN X0 hx hlk hret (by simp) (w := (1 : Int32)) (hb hby d4_12) (by decide) (by decide) (by decide) (⟨by rw [own_expectedAwaits, if_neg c1_0, if_pos c8_1], e0, rfl⟩)
    · refine own_by (fun t k => XS.icmpYes X0.here hx rfl (pc0 := 8) (pc' := 13) rfl (hb hby d4_8) rfl (XT.ii_ne_t c8_1) (by decide) (by decide) k) ?_
      show own_Go p e below _ T0 (mkF m 13 #[oI k] [])
      refine own_by (fun t k => XT.iconstV X0.here hx rfl (0 : Int32) (hb hby d4_13) (by decide) k) ?_
      show own_Go p e below _ T0 (mkF m 14 #[oI k] [(.int (0 : Int32))])
      exact own_retN X0 hx hlk hret (by simp) (w := (0 : Int32)) (hb hby d4_14) (by decide) (by decide) (by decide) (⟨by rw [own_expectedAwaits, if_neg c1_0, if_neg c8_1], e0, rfl⟩)
theorem pd_0 : parseMethodDescriptor "(I)Lcom/example/deliver/deliver/JobState;" = some ⟨[.int], some (.object "com/example/deliver/deliver/JobState")⟩ := by decide +kernel
theorem pd_1 : parseMethodDescriptor "()Z" = some ⟨[], some .boolean⟩ := by decide +kernel
theorem pd_2 : parseMethodDescriptor "(I)Z" = some ⟨[.int], some .boolean⟩ := by decide +kernel
set_option maxRecDepth 65536 in
set_option maxHeartbeats 40000000 in
theorem own_law (l : Launch) (Z : State) (a0 : Array Value) (hw : ∀ d ∈ tables_1, d.before a0 Z = true) (i0 : Int32) (w0 w1 w2 w3 w4 w5 w6 w7 : Addr) (h0 : Heap) (S : own_S Z h0 w0 w1 w2 w3 w4 w5 w6 w7) (E0 : Exa Z h0 w0 "com/example/deliver/deliver/JobState") (E1 : Exa Z h0 w1 "com/example/deliver/deliver/JobState") (E2 : Exa Z h0 w2 "com/example/deliver/deliver/JobState") (E3 : Exa Z h0 w3 "com/example/deliver/deliver/JobState") (E4 : Exa Z h0 w4 "com/example/deliver/deliver/JobState") (E5 : Exa Z h0 w5 "com/example/deliver/deliver/JobState") (E6 : Exa Z h0 w6 "com/example/deliver/deliver/JobState") (E7 : Exa Z h0 w7 "com/example/deliver/deliver/JobState") (F0 : Fld Z h0 w0 "java/lang/Enum" "ordinal" "I" (.int (0 : Int32))) (F1 : Fld Z h0 w1 "java/lang/Enum" "ordinal" "I" (.int (1 : Int32))) (F2 : Fld Z h0 w2 "java/lang/Enum" "ordinal" "I" (.int (2 : Int32))) (F3 : Fld Z h0 w3 "java/lang/Enum" "ordinal" "I" (.int (3 : Int32))) (F4 : Fld Z h0 w4 "java/lang/Enum" "ordinal" "I" (.int (4 : Int32))) (F5 : Fld Z h0 w5 "java/lang/Enum" "ordinal" "I" (.int (5 : Int32))) (F6 : Fld Z h0 w6 "java/lang/Enum" "ordinal" "I" (.int (6 : Int32))) (F7 : Fld Z h0 w7 "java/lang/Enum" "ordinal" "I" (.int (7 : Int32))) :
    own_Met l x code maxLocals ret tables_1 room_1 Z #[(.int i0)] h0 (fun v h L => v = some (.int (1 : Int32)) ∧ h = h0 ∧ L = []) := by
  refine own_enter pn_0 ?_
  intro p e s m below meth c T0 hx hby hml hret hlk hown hnm hZ X0 e0
  refine own_at (g' := (mkF m 0 #[oI i0, .unset, .unset, .unset, .unset] [])) (by first | rfl | (simp [entryFrame, mkF, argsToLocals, Value.category, maxLocals]; done)) ?_
  show own_Go p e below _ T0 (mkF m 0 #[oI i0, .unset, .unset, .unset, .unset] [])
  rcases own_mask i0 with hk | hk | hk | hk | hk | hk | hk | hk
  · refine own_by (fun t k => XS.iloadN X0.here hx rfl (hb hby at_0) rfl  k) ?_
    show own_Go p e below _ T0 (mkF m 1 #[oI i0, .unset, .unset, .unset, .unset] [(.int i0)])
    refine own_by (fun t k => XT.bipushV X0.here hx rfl (7 : Int32) (hb hby at_1) (by decide) k) ?_
    show own_Go p e below _ T0 (mkF m 3 #[oI i0, .unset, .unset, .unset, .unset] [(.int (7 : Int32)), (.int i0)])
    refine own_by (fun t k => XS.iand X0.here hx rfl (hb hby at_3) rfl k) ?_
    show own_Go p e below _ T0 (mkF m 4 #[oI i0, .unset, .unset, .unset, .unset] [(.int (i0 &&& (7 : Int32)))])
    rw [hk]
    show own_Go p e below _ T0 (mkF m 4 #[oI i0, .unset, .unset, .unset, .unset] [(.int (0 : Int32))])
    refine own_by (fun t k => XS.istoreN X0.here hx rfl (hb hby at_4) rfl (l' := #[oI i0, oI (0 : Int32), .unset, .unset, .unset]) rfl k) ?_
    show own_Go p e below _ T0 (mkF m 5 #[oI i0, oI (0 : Int32), .unset, .unset, .unset] [])
    refine own_by (fun t k => XS.iloadN X0.here hx rfl (hb hby at_5) rfl  k) ?_
    show own_Go p e below _ T0 (mkF m 6 #[oI i0, oI (0 : Int32), .unset, .unset, .unset] [(.int (0 : Int32))])
    refine own_callS X0 hx hZ hown (hw _ (List.mem_of_getElem? (i := 0) rfl)) (hw _ (List.mem_of_getElem? (i := 1) rfl)) (hw _ (List.mem_of_getElem? (i := 2) rfl)) (hw _ (List.mem_of_getElem? (i := 3) rfl)) (by decide) e0 (argsL := [(.int (0 : Int32))]) (rest := []) (own_pick_met l Z a0 hw (0 : Int32) w0 w1 w2 w3 w4 w5 w6 w7 h0 S) 0 (by decide) (by decide) (by rw [hml]; rfl) (lenOf pd_0 rfl) (Nat.le_of_eq rfl) (hb hby at_6) (by decide) (by decide) (st := [(.int (0 : Int32))]) rfl ?_
    intro T1 LT1 vT1 XT1 hQT1
    obtain ⟨rfl, eT1, rfl⟩ := hQT1
    show own_Go p e below _ T1 (mkF m 9 #[oI i0, oI (0 : Int32), .unset, .unset, .unset] [(.ref (own_pick (0 : Int32) w0 w1 w2 w3 w4 w5 w6 w7))])
    rw [show own_pick (0 : Int32) w0 w1 w2 w3 w4 w5 w6 w7 = w0 by rw [own_pick, if_pos (by decide)]]
    show own_Go p e below _ T1 (mkF m 9 #[oI i0, oI (0 : Int32), .unset, .unset, .unset] [(.ref w0)])
    refine own_by (fun t k => XS.astoreN XT1.here hx rfl (hb hby at_9) rfl rfl (l' := #[oI i0, oI (0 : Int32), oR w0, .unset, .unset]) rfl k) ?_
    show own_Go p e below _ T1 (mkF m 10 #[oI i0, oI (0 : Int32), oR w0, .unset, .unset] [])
    refine own_by (fun t k => XS.aloadN XT1.here hx rfl (hb hby at_10) rfl rfl  k) ?_
    show own_Go p e below _ T1 (mkF m 11 #[oI i0, oI (0 : Int32), oR w0, .unset, .unset] [(.ref w0)])
    refine own_callV XT1 hx hZ hown (hw _ (List.mem_of_getElem? (i := 7) rfl)) (hw _ (List.mem_of_getElem? (i := 8) rfl)) (hw _ (List.mem_of_getElem? (i := 10) rfl)) (hw _ (List.mem_of_getElem? (i := 9) rfl)) (hw _ (List.mem_of_getElem? (i := 11) rfl)) (hw _ (List.mem_of_getElem? (i := 5) rfl)) (by decide) eT1 (b := w0) E0 (argsL := []) (rest := []) (own_awaitsAttempt_met l Z a0 hw w0 w0 w1 w2 w3 w4 w5 w6 w7 h0 S) 0 (by decide) (by decide) (by rw [hml]; rfl) (lenOf pd_1 rfl) (Nat.le_of_eq rfl) (hb hby at_11) (by decide) (by decide) (st := [(.ref w0)]) rfl ?_
    intro T2 LT2 vT2 XT2 hQT2
    obtain ⟨rfl, eT2, rfl⟩ := hQT2
    show own_Go p e below _ T2 (mkF m 14 #[oI i0, oI (0 : Int32), oR w0, .unset, .unset] [(.int (own_awaitsAttempt w0 w0 w1 w2 w3 w4 w5 w6 w7))])
    rw [show own_awaitsAttempt w0 w0 w1 w2 w3 w4 w5 w6 w7 = (1 : Int32) by rw [own_awaitsAttempt, if_pos rfl]]
    show own_Go p e below _ T2 (mkF m 14 #[oI i0, oI (0 : Int32), oR w0, .unset, .unset] [(.int (1 : Int32))])
    refine own_by (fun t k => XS.istoreN XT2.here hx rfl (hb hby at_14) rfl (l' := #[oI i0, oI (0 : Int32), oR w0, oI (1 : Int32), .unset]) rfl k) ?_
    show own_Go p e below _ T2 (mkF m 15 #[oI i0, oI (0 : Int32), oR w0, oI (1 : Int32), .unset] [])
    refine own_by (fun t k => XS.aloadN XT2.here hx rfl (hb hby at_15) rfl rfl  k) ?_
    show own_Go p e below _ T2 (mkF m 16 #[oI i0, oI (0 : Int32), oR w0, oI (1 : Int32), .unset] [(.ref w0)])
    refine own_callV XT2 hx hZ hown (hw _ (List.mem_of_getElem? (i := 13) rfl)) (hw _ (List.mem_of_getElem? (i := 14) rfl)) (hw _ (List.mem_of_getElem? (i := 16) rfl)) (hw _ (List.mem_of_getElem? (i := 15) rfl)) (hw _ (List.mem_of_getElem? (i := 17) rfl)) (hw _ (List.mem_of_getElem? (i := 5) rfl)) (by decide) eT2 (b := w0) E0 (argsL := []) (rest := []) (own_ended_met l Z a0 hw w0 w0 w1 w2 w3 w4 w5 w6 w7 h0 S) 0 (by decide) (by decide) (by rw [hml]; rfl) (lenOf pd_1 rfl) (Nat.le_of_eq rfl) (hb hby at_16) (by decide) (by decide) (st := [(.ref w0)]) rfl ?_
    intro T3 LT3 vT3 XT3 hQT3
    obtain ⟨rfl, eT3, rfl⟩ := hQT3
    show own_Go p e below _ T3 (mkF m 19 #[oI i0, oI (0 : Int32), oR w0, oI (1 : Int32), .unset] [(.int (own_ended w0 w0 w1 w2 w3 w4 w5 w6 w7))])
    rw [show own_ended w0 w0 w1 w2 w3 w4 w5 w6 w7 = (0 : Int32) by rw [own_ended, if_neg (F0.ne F2 (by decide)), if_neg (F0.ne F3 (by decide)), if_neg (F0.ne F6 (by decide)), if_neg (F0.ne F7 (by decide))]]
    show own_Go p e below _ T3 (mkF m 19 #[oI i0, oI (0 : Int32), oR w0, oI (1 : Int32), .unset] [(.int (0 : Int32))])
    refine own_by (fun t k => XS.istore XT3.here hx rfl (hb hby at_19) rfl (l' := #[oI i0, oI (0 : Int32), oR w0, oI (1 : Int32), oI (0 : Int32)]) rfl k) ?_
    show own_Go p e below _ T3 (mkF m 21 #[oI i0, oI (0 : Int32), oR w0, oI (1 : Int32), oI (0 : Int32)] [])
    refine own_by (fun t k => XS.iloadN XT3.here hx rfl (hb hby at_21) rfl  k) ?_
    show own_Go p e below _ T3 (mkF m 22 #[oI i0, oI (0 : Int32), oR w0, oI (1 : Int32), oI (0 : Int32)] [(.int (1 : Int32))])
    refine own_by (fun t k => XS.iloadN XT3.here hx rfl (hb hby at_22) rfl  k) ?_
    show own_Go p e below _ T3 (mkF m 23 #[oI i0, oI (0 : Int32), oR w0, oI (1 : Int32), oI (0 : Int32)] [(.int (0 : Int32)), (.int (1 : Int32))])
    refine own_callS XT3 hx hZ hown (hw _ (List.mem_of_getElem? (i := 26) rfl)) (hw _ (List.mem_of_getElem? (i := 27) rfl)) (hw _ (List.mem_of_getElem? (i := 2) rfl)) (hw _ (List.mem_of_getElem? (i := 28) rfl)) (by decide) eT3 (argsL := [(.int (0 : Int32))]) (rest := [(.int (1 : Int32))]) (own_expectedAwaits_met l Z a0 hw (0 : Int32) h0) 1 (by decide) (by decide) (by rw [hml]; rfl) (lenOf pd_2 rfl) (Nat.le_of_eq rfl) (hb hby at_23) (by decide) (by decide) (st := [(.int (0 : Int32)), (.int (1 : Int32))]) rfl ?_
    intro T4 LT4 vT4 XT4 hQT4
    obtain ⟨rfl, eT4, rfl⟩ := hQT4
    show own_Go p e below _ T4 (mkF m 26 #[oI i0, oI (0 : Int32), oR w0, oI (1 : Int32), oI (0 : Int32)] [(.int (own_expectedAwaits (0 : Int32) )), (.int (1 : Int32))])
    rw [show own_expectedAwaits (0 : Int32) = (1 : Int32) by rw [own_expectedAwaits, if_pos (by decide)]]
    show own_Go p e below _ T4 (mkF m 26 #[oI i0, oI (0 : Int32), oR w0, oI (1 : Int32), oI (0 : Int32)] [(.int (1 : Int32)), (.int (1 : Int32))])
    refine own_by (fun t k => XS.icmpNo XT4.here hx rfl (hb hby at_26) rfl (XT.ii_ne_f (by decide)) k) ?_
    show own_Go p e below _ T4 (mkF m 29 #[oI i0, oI (0 : Int32), oR w0, oI (1 : Int32), oI (0 : Int32)] [])
    refine own_by (fun t k => XS.iloadN XT4.here hx rfl (hb hby at_29) rfl  k) ?_
    show own_Go p e below _ T4 (mkF m 30 #[oI i0, oI (0 : Int32), oR w0, oI (1 : Int32), oI (0 : Int32)] [(.int (1 : Int32))])
    refine own_by (fun t k => XS.ifNo XT4.here hx rfl (hb hby at_30) rfl (XT.i0_eq_f (by decide)) k) ?_
    show own_Go p e below _ T4 (mkF m 33 #[oI i0, oI (0 : Int32), oR w0, oI (1 : Int32), oI (0 : Int32)] [])
    refine own_by (fun t k => XS.iload XT4.here hx rfl (hb hby at_33) rfl  k) ?_
    show own_Go p e below _ T4 (mkF m 35 #[oI i0, oI (0 : Int32), oR w0, oI (1 : Int32), oI (0 : Int32)] [(.int (0 : Int32))])
    refine own_by (fun t k => XS.ifNo XT4.here hx rfl (hb hby at_35) rfl (XT.i0_ne_f (by decide)) k) ?_
    show own_Go p e below _ T4 (mkF m 38 #[oI i0, oI (0 : Int32), oR w0, oI (1 : Int32), oI (0 : Int32)] [])
    refine own_by (fun t k => XT.iconstV XT4.here hx rfl (1 : Int32) (hb hby at_38) (by decide) k) ?_
    show own_Go p e below _ T4 (mkF m 39 #[oI i0, oI (0 : Int32), oR w0, oI (1 : Int32), oI (0 : Int32)] [(.int (1 : Int32))])
    refine own_by (fun t k => XS.goto XT4.here hx rfl (pc0 := 39) (pc' := 43) rfl (hb hby at_39) (by decide) (by decide) k) ?_
    show own_Go p e below _ T4 (mkF m 43 #[oI i0, oI (0 : Int32), oR w0, oI (1 : Int32), oI (0 : Int32)] [(.int (1 : Int32))])
    exact own_retN XT4 hx hlk hret (by simp) (w := (1 : Int32)) (hb hby at_43) (by decide) (by decide) (by decide) (⟨rfl, eT4, rfl⟩)
  · refine own_by (fun t k => XS.iloadN X0.here hx rfl (hb hby at_0) rfl  k) ?_
    show own_Go p e below _ T0 (mkF m 1 #[oI i0, .unset, .unset, .unset, .unset] [(.int i0)])
    refine own_by (fun t k => XT.bipushV X0.here hx rfl (7 : Int32) (hb hby at_1) (by decide) k) ?_
    show own_Go p e below _ T0 (mkF m 3 #[oI i0, .unset, .unset, .unset, .unset] [(.int (7 : Int32)), (.int i0)])
    refine own_by (fun t k => XS.iand X0.here hx rfl (hb hby at_3) rfl k) ?_
    show own_Go p e below _ T0 (mkF m 4 #[oI i0, .unset, .unset, .unset, .unset] [(.int (i0 &&& (7 : Int32)))])
    rw [hk]
    show own_Go p e below _ T0 (mkF m 4 #[oI i0, .unset, .unset, .unset, .unset] [(.int (1 : Int32))])
    refine own_by (fun t k => XS.istoreN X0.here hx rfl (hb hby at_4) rfl (l' := #[oI i0, oI (1 : Int32), .unset, .unset, .unset]) rfl k) ?_
    show own_Go p e below _ T0 (mkF m 5 #[oI i0, oI (1 : Int32), .unset, .unset, .unset] [])
    refine own_by (fun t k => XS.iloadN X0.here hx rfl (hb hby at_5) rfl  k) ?_
    show own_Go p e below _ T0 (mkF m 6 #[oI i0, oI (1 : Int32), .unset, .unset, .unset] [(.int (1 : Int32))])
    refine own_callS X0 hx hZ hown (hw _ (List.mem_of_getElem? (i := 0) rfl)) (hw _ (List.mem_of_getElem? (i := 1) rfl)) (hw _ (List.mem_of_getElem? (i := 2) rfl)) (hw _ (List.mem_of_getElem? (i := 3) rfl)) (by decide) e0 (argsL := [(.int (1 : Int32))]) (rest := []) (own_pick_met l Z a0 hw (1 : Int32) w0 w1 w2 w3 w4 w5 w6 w7 h0 S) 0 (by decide) (by decide) (by rw [hml]; rfl) (lenOf pd_0 rfl) (Nat.le_of_eq rfl) (hb hby at_6) (by decide) (by decide) (st := [(.int (1 : Int32))]) rfl ?_
    intro T5 LT5 vT5 XT5 hQT5
    obtain ⟨rfl, eT5, rfl⟩ := hQT5
    show own_Go p e below _ T5 (mkF m 9 #[oI i0, oI (1 : Int32), .unset, .unset, .unset] [(.ref (own_pick (1 : Int32) w0 w1 w2 w3 w4 w5 w6 w7))])
    rw [show own_pick (1 : Int32) w0 w1 w2 w3 w4 w5 w6 w7 = w1 by rw [own_pick, if_neg (by decide), if_pos (by decide)]]
    show own_Go p e below _ T5 (mkF m 9 #[oI i0, oI (1 : Int32), .unset, .unset, .unset] [(.ref w1)])
    refine own_by (fun t k => XS.astoreN XT5.here hx rfl (hb hby at_9) rfl rfl (l' := #[oI i0, oI (1 : Int32), oR w1, .unset, .unset]) rfl k) ?_
    show own_Go p e below _ T5 (mkF m 10 #[oI i0, oI (1 : Int32), oR w1, .unset, .unset] [])
    refine own_by (fun t k => XS.aloadN XT5.here hx rfl (hb hby at_10) rfl rfl  k) ?_
    show own_Go p e below _ T5 (mkF m 11 #[oI i0, oI (1 : Int32), oR w1, .unset, .unset] [(.ref w1)])
    refine own_callV XT5 hx hZ hown (hw _ (List.mem_of_getElem? (i := 7) rfl)) (hw _ (List.mem_of_getElem? (i := 8) rfl)) (hw _ (List.mem_of_getElem? (i := 10) rfl)) (hw _ (List.mem_of_getElem? (i := 9) rfl)) (hw _ (List.mem_of_getElem? (i := 11) rfl)) (hw _ (List.mem_of_getElem? (i := 5) rfl)) (by decide) eT5 (b := w1) E1 (argsL := []) (rest := []) (own_awaitsAttempt_met l Z a0 hw w1 w0 w1 w2 w3 w4 w5 w6 w7 h0 S) 0 (by decide) (by decide) (by rw [hml]; rfl) (lenOf pd_1 rfl) (Nat.le_of_eq rfl) (hb hby at_11) (by decide) (by decide) (st := [(.ref w1)]) rfl ?_
    intro T6 LT6 vT6 XT6 hQT6
    obtain ⟨rfl, eT6, rfl⟩ := hQT6
    show own_Go p e below _ T6 (mkF m 14 #[oI i0, oI (1 : Int32), oR w1, .unset, .unset] [(.int (own_awaitsAttempt w1 w0 w1 w2 w3 w4 w5 w6 w7))])
    rw [show own_awaitsAttempt w1 w0 w1 w2 w3 w4 w5 w6 w7 = (0 : Int32) by rw [own_awaitsAttempt, if_neg (F1.ne F0 (by decide)), if_neg (F1.ne F4 (by decide))]]
    show own_Go p e below _ T6 (mkF m 14 #[oI i0, oI (1 : Int32), oR w1, .unset, .unset] [(.int (0 : Int32))])
    refine own_by (fun t k => XS.istoreN XT6.here hx rfl (hb hby at_14) rfl (l' := #[oI i0, oI (1 : Int32), oR w1, oI (0 : Int32), .unset]) rfl k) ?_
    show own_Go p e below _ T6 (mkF m 15 #[oI i0, oI (1 : Int32), oR w1, oI (0 : Int32), .unset] [])
    refine own_by (fun t k => XS.aloadN XT6.here hx rfl (hb hby at_15) rfl rfl  k) ?_
    show own_Go p e below _ T6 (mkF m 16 #[oI i0, oI (1 : Int32), oR w1, oI (0 : Int32), .unset] [(.ref w1)])
    refine own_callV XT6 hx hZ hown (hw _ (List.mem_of_getElem? (i := 13) rfl)) (hw _ (List.mem_of_getElem? (i := 14) rfl)) (hw _ (List.mem_of_getElem? (i := 16) rfl)) (hw _ (List.mem_of_getElem? (i := 15) rfl)) (hw _ (List.mem_of_getElem? (i := 17) rfl)) (hw _ (List.mem_of_getElem? (i := 5) rfl)) (by decide) eT6 (b := w1) E1 (argsL := []) (rest := []) (own_ended_met l Z a0 hw w1 w0 w1 w2 w3 w4 w5 w6 w7 h0 S) 0 (by decide) (by decide) (by rw [hml]; rfl) (lenOf pd_1 rfl) (Nat.le_of_eq rfl) (hb hby at_16) (by decide) (by decide) (st := [(.ref w1)]) rfl ?_
    intro T7 LT7 vT7 XT7 hQT7
    obtain ⟨rfl, eT7, rfl⟩ := hQT7
    show own_Go p e below _ T7 (mkF m 19 #[oI i0, oI (1 : Int32), oR w1, oI (0 : Int32), .unset] [(.int (own_ended w1 w0 w1 w2 w3 w4 w5 w6 w7))])
    rw [show own_ended w1 w0 w1 w2 w3 w4 w5 w6 w7 = (0 : Int32) by rw [own_ended, if_neg (F1.ne F2 (by decide)), if_neg (F1.ne F3 (by decide)), if_neg (F1.ne F6 (by decide)), if_neg (F1.ne F7 (by decide))]]
    show own_Go p e below _ T7 (mkF m 19 #[oI i0, oI (1 : Int32), oR w1, oI (0 : Int32), .unset] [(.int (0 : Int32))])
    refine own_by (fun t k => XS.istore XT7.here hx rfl (hb hby at_19) rfl (l' := #[oI i0, oI (1 : Int32), oR w1, oI (0 : Int32), oI (0 : Int32)]) rfl k) ?_
    show own_Go p e below _ T7 (mkF m 21 #[oI i0, oI (1 : Int32), oR w1, oI (0 : Int32), oI (0 : Int32)] [])
    refine own_by (fun t k => XS.iloadN XT7.here hx rfl (hb hby at_21) rfl  k) ?_
    show own_Go p e below _ T7 (mkF m 22 #[oI i0, oI (1 : Int32), oR w1, oI (0 : Int32), oI (0 : Int32)] [(.int (0 : Int32))])
    refine own_by (fun t k => XS.iloadN XT7.here hx rfl (hb hby at_22) rfl  k) ?_
    show own_Go p e below _ T7 (mkF m 23 #[oI i0, oI (1 : Int32), oR w1, oI (0 : Int32), oI (0 : Int32)] [(.int (1 : Int32)), (.int (0 : Int32))])
    refine own_callS XT7 hx hZ hown (hw _ (List.mem_of_getElem? (i := 26) rfl)) (hw _ (List.mem_of_getElem? (i := 27) rfl)) (hw _ (List.mem_of_getElem? (i := 2) rfl)) (hw _ (List.mem_of_getElem? (i := 28) rfl)) (by decide) eT7 (argsL := [(.int (1 : Int32))]) (rest := [(.int (0 : Int32))]) (own_expectedAwaits_met l Z a0 hw (1 : Int32) h0) 1 (by decide) (by decide) (by rw [hml]; rfl) (lenOf pd_2 rfl) (Nat.le_of_eq rfl) (hb hby at_23) (by decide) (by decide) (st := [(.int (1 : Int32)), (.int (0 : Int32))]) rfl ?_
    intro T8 LT8 vT8 XT8 hQT8
    obtain ⟨rfl, eT8, rfl⟩ := hQT8
    show own_Go p e below _ T8 (mkF m 26 #[oI i0, oI (1 : Int32), oR w1, oI (0 : Int32), oI (0 : Int32)] [(.int (own_expectedAwaits (1 : Int32) )), (.int (0 : Int32))])
    rw [show own_expectedAwaits (1 : Int32) = (0 : Int32) by rw [own_expectedAwaits, if_neg (by decide), if_neg (by decide)]]
    show own_Go p e below _ T8 (mkF m 26 #[oI i0, oI (1 : Int32), oR w1, oI (0 : Int32), oI (0 : Int32)] [(.int (0 : Int32)), (.int (0 : Int32))])
    refine own_by (fun t k => XS.icmpNo XT8.here hx rfl (hb hby at_26) rfl (XT.ii_ne_f (by decide)) k) ?_
    show own_Go p e below _ T8 (mkF m 29 #[oI i0, oI (1 : Int32), oR w1, oI (0 : Int32), oI (0 : Int32)] [])
    refine own_by (fun t k => XS.iloadN XT8.here hx rfl (hb hby at_29) rfl  k) ?_
    show own_Go p e below _ T8 (mkF m 30 #[oI i0, oI (1 : Int32), oR w1, oI (0 : Int32), oI (0 : Int32)] [(.int (0 : Int32))])
    refine own_by (fun t k => XS.ifYes XT8.here hx rfl (pc0 := 30) (pc' := 38) rfl (hb hby at_30) rfl (XT.i0_eq_t (by decide)) (by decide) (by decide) k) ?_
    show own_Go p e below _ T8 (mkF m 38 #[oI i0, oI (1 : Int32), oR w1, oI (0 : Int32), oI (0 : Int32)] [])
    refine own_by (fun t k => XT.iconstV XT8.here hx rfl (1 : Int32) (hb hby at_38) (by decide) k) ?_
    show own_Go p e below _ T8 (mkF m 39 #[oI i0, oI (1 : Int32), oR w1, oI (0 : Int32), oI (0 : Int32)] [(.int (1 : Int32))])
    refine own_by (fun t k => XS.goto XT8.here hx rfl (pc0 := 39) (pc' := 43) rfl (hb hby at_39) (by decide) (by decide) k) ?_
    show own_Go p e below _ T8 (mkF m 43 #[oI i0, oI (1 : Int32), oR w1, oI (0 : Int32), oI (0 : Int32)] [(.int (1 : Int32))])
    exact own_retN XT8 hx hlk hret (by simp) (w := (1 : Int32)) (hb hby at_43) (by decide) (by decide) (by decide) (⟨rfl, eT8, rfl⟩)
  · refine own_by (fun t k => XS.iloadN X0.here hx rfl (hb hby at_0) rfl  k) ?_
    show own_Go p e below _ T0 (mkF m 1 #[oI i0, .unset, .unset, .unset, .unset] [(.int i0)])
    refine own_by (fun t k => XT.bipushV X0.here hx rfl (7 : Int32) (hb hby at_1) (by decide) k) ?_
    show own_Go p e below _ T0 (mkF m 3 #[oI i0, .unset, .unset, .unset, .unset] [(.int (7 : Int32)), (.int i0)])
    refine own_by (fun t k => XS.iand X0.here hx rfl (hb hby at_3) rfl k) ?_
    show own_Go p e below _ T0 (mkF m 4 #[oI i0, .unset, .unset, .unset, .unset] [(.int (i0 &&& (7 : Int32)))])
    rw [hk]
    show own_Go p e below _ T0 (mkF m 4 #[oI i0, .unset, .unset, .unset, .unset] [(.int (2 : Int32))])
    refine own_by (fun t k => XS.istoreN X0.here hx rfl (hb hby at_4) rfl (l' := #[oI i0, oI (2 : Int32), .unset, .unset, .unset]) rfl k) ?_
    show own_Go p e below _ T0 (mkF m 5 #[oI i0, oI (2 : Int32), .unset, .unset, .unset] [])
    refine own_by (fun t k => XS.iloadN X0.here hx rfl (hb hby at_5) rfl  k) ?_
    show own_Go p e below _ T0 (mkF m 6 #[oI i0, oI (2 : Int32), .unset, .unset, .unset] [(.int (2 : Int32))])
    refine own_callS X0 hx hZ hown (hw _ (List.mem_of_getElem? (i := 0) rfl)) (hw _ (List.mem_of_getElem? (i := 1) rfl)) (hw _ (List.mem_of_getElem? (i := 2) rfl)) (hw _ (List.mem_of_getElem? (i := 3) rfl)) (by decide) e0 (argsL := [(.int (2 : Int32))]) (rest := []) (own_pick_met l Z a0 hw (2 : Int32) w0 w1 w2 w3 w4 w5 w6 w7 h0 S) 0 (by decide) (by decide) (by rw [hml]; rfl) (lenOf pd_0 rfl) (Nat.le_of_eq rfl) (hb hby at_6) (by decide) (by decide) (st := [(.int (2 : Int32))]) rfl ?_
    intro T9 LT9 vT9 XT9 hQT9
    obtain ⟨rfl, eT9, rfl⟩ := hQT9
    show own_Go p e below _ T9 (mkF m 9 #[oI i0, oI (2 : Int32), .unset, .unset, .unset] [(.ref (own_pick (2 : Int32) w0 w1 w2 w3 w4 w5 w6 w7))])
    rw [show own_pick (2 : Int32) w0 w1 w2 w3 w4 w5 w6 w7 = w2 by rw [own_pick, if_neg (by decide), if_neg (by decide), if_pos (by decide)]]
    show own_Go p e below _ T9 (mkF m 9 #[oI i0, oI (2 : Int32), .unset, .unset, .unset] [(.ref w2)])
    refine own_by (fun t k => XS.astoreN XT9.here hx rfl (hb hby at_9) rfl rfl (l' := #[oI i0, oI (2 : Int32), oR w2, .unset, .unset]) rfl k) ?_
    show own_Go p e below _ T9 (mkF m 10 #[oI i0, oI (2 : Int32), oR w2, .unset, .unset] [])
    refine own_by (fun t k => XS.aloadN XT9.here hx rfl (hb hby at_10) rfl rfl  k) ?_
    show own_Go p e below _ T9 (mkF m 11 #[oI i0, oI (2 : Int32), oR w2, .unset, .unset] [(.ref w2)])
    refine own_callV XT9 hx hZ hown (hw _ (List.mem_of_getElem? (i := 7) rfl)) (hw _ (List.mem_of_getElem? (i := 8) rfl)) (hw _ (List.mem_of_getElem? (i := 10) rfl)) (hw _ (List.mem_of_getElem? (i := 9) rfl)) (hw _ (List.mem_of_getElem? (i := 11) rfl)) (hw _ (List.mem_of_getElem? (i := 5) rfl)) (by decide) eT9 (b := w2) E2 (argsL := []) (rest := []) (own_awaitsAttempt_met l Z a0 hw w2 w0 w1 w2 w3 w4 w5 w6 w7 h0 S) 0 (by decide) (by decide) (by rw [hml]; rfl) (lenOf pd_1 rfl) (Nat.le_of_eq rfl) (hb hby at_11) (by decide) (by decide) (st := [(.ref w2)]) rfl ?_
    intro T10 LT10 vT10 XT10 hQT10
    obtain ⟨rfl, eT10, rfl⟩ := hQT10
    show own_Go p e below _ T10 (mkF m 14 #[oI i0, oI (2 : Int32), oR w2, .unset, .unset] [(.int (own_awaitsAttempt w2 w0 w1 w2 w3 w4 w5 w6 w7))])
    rw [show own_awaitsAttempt w2 w0 w1 w2 w3 w4 w5 w6 w7 = (0 : Int32) by rw [own_awaitsAttempt, if_neg (F2.ne F0 (by decide)), if_neg (F2.ne F4 (by decide))]]
    show own_Go p e below _ T10 (mkF m 14 #[oI i0, oI (2 : Int32), oR w2, .unset, .unset] [(.int (0 : Int32))])
    refine own_by (fun t k => XS.istoreN XT10.here hx rfl (hb hby at_14) rfl (l' := #[oI i0, oI (2 : Int32), oR w2, oI (0 : Int32), .unset]) rfl k) ?_
    show own_Go p e below _ T10 (mkF m 15 #[oI i0, oI (2 : Int32), oR w2, oI (0 : Int32), .unset] [])
    refine own_by (fun t k => XS.aloadN XT10.here hx rfl (hb hby at_15) rfl rfl  k) ?_
    show own_Go p e below _ T10 (mkF m 16 #[oI i0, oI (2 : Int32), oR w2, oI (0 : Int32), .unset] [(.ref w2)])
    refine own_callV XT10 hx hZ hown (hw _ (List.mem_of_getElem? (i := 13) rfl)) (hw _ (List.mem_of_getElem? (i := 14) rfl)) (hw _ (List.mem_of_getElem? (i := 16) rfl)) (hw _ (List.mem_of_getElem? (i := 15) rfl)) (hw _ (List.mem_of_getElem? (i := 17) rfl)) (hw _ (List.mem_of_getElem? (i := 5) rfl)) (by decide) eT10 (b := w2) E2 (argsL := []) (rest := []) (own_ended_met l Z a0 hw w2 w0 w1 w2 w3 w4 w5 w6 w7 h0 S) 0 (by decide) (by decide) (by rw [hml]; rfl) (lenOf pd_1 rfl) (Nat.le_of_eq rfl) (hb hby at_16) (by decide) (by decide) (st := [(.ref w2)]) rfl ?_
    intro T11 LT11 vT11 XT11 hQT11
    obtain ⟨rfl, eT11, rfl⟩ := hQT11
    show own_Go p e below _ T11 (mkF m 19 #[oI i0, oI (2 : Int32), oR w2, oI (0 : Int32), .unset] [(.int (own_ended w2 w0 w1 w2 w3 w4 w5 w6 w7))])
    rw [show own_ended w2 w0 w1 w2 w3 w4 w5 w6 w7 = (1 : Int32) by rw [own_ended, if_pos rfl]]
    show own_Go p e below _ T11 (mkF m 19 #[oI i0, oI (2 : Int32), oR w2, oI (0 : Int32), .unset] [(.int (1 : Int32))])
    refine own_by (fun t k => XS.istore XT11.here hx rfl (hb hby at_19) rfl (l' := #[oI i0, oI (2 : Int32), oR w2, oI (0 : Int32), oI (1 : Int32)]) rfl k) ?_
    show own_Go p e below _ T11 (mkF m 21 #[oI i0, oI (2 : Int32), oR w2, oI (0 : Int32), oI (1 : Int32)] [])
    refine own_by (fun t k => XS.iloadN XT11.here hx rfl (hb hby at_21) rfl  k) ?_
    show own_Go p e below _ T11 (mkF m 22 #[oI i0, oI (2 : Int32), oR w2, oI (0 : Int32), oI (1 : Int32)] [(.int (0 : Int32))])
    refine own_by (fun t k => XS.iloadN XT11.here hx rfl (hb hby at_22) rfl  k) ?_
    show own_Go p e below _ T11 (mkF m 23 #[oI i0, oI (2 : Int32), oR w2, oI (0 : Int32), oI (1 : Int32)] [(.int (2 : Int32)), (.int (0 : Int32))])
    refine own_callS XT11 hx hZ hown (hw _ (List.mem_of_getElem? (i := 26) rfl)) (hw _ (List.mem_of_getElem? (i := 27) rfl)) (hw _ (List.mem_of_getElem? (i := 2) rfl)) (hw _ (List.mem_of_getElem? (i := 28) rfl)) (by decide) eT11 (argsL := [(.int (2 : Int32))]) (rest := [(.int (0 : Int32))]) (own_expectedAwaits_met l Z a0 hw (2 : Int32) h0) 1 (by decide) (by decide) (by rw [hml]; rfl) (lenOf pd_2 rfl) (Nat.le_of_eq rfl) (hb hby at_23) (by decide) (by decide) (st := [(.int (2 : Int32)), (.int (0 : Int32))]) rfl ?_
    intro T12 LT12 vT12 XT12 hQT12
    obtain ⟨rfl, eT12, rfl⟩ := hQT12
    show own_Go p e below _ T12 (mkF m 26 #[oI i0, oI (2 : Int32), oR w2, oI (0 : Int32), oI (1 : Int32)] [(.int (own_expectedAwaits (2 : Int32) )), (.int (0 : Int32))])
    rw [show own_expectedAwaits (2 : Int32) = (0 : Int32) by rw [own_expectedAwaits, if_neg (by decide), if_neg (by decide)]]
    show own_Go p e below _ T12 (mkF m 26 #[oI i0, oI (2 : Int32), oR w2, oI (0 : Int32), oI (1 : Int32)] [(.int (0 : Int32)), (.int (0 : Int32))])
    refine own_by (fun t k => XS.icmpNo XT12.here hx rfl (hb hby at_26) rfl (XT.ii_ne_f (by decide)) k) ?_
    show own_Go p e below _ T12 (mkF m 29 #[oI i0, oI (2 : Int32), oR w2, oI (0 : Int32), oI (1 : Int32)] [])
    refine own_by (fun t k => XS.iloadN XT12.here hx rfl (hb hby at_29) rfl  k) ?_
    show own_Go p e below _ T12 (mkF m 30 #[oI i0, oI (2 : Int32), oR w2, oI (0 : Int32), oI (1 : Int32)] [(.int (0 : Int32))])
    refine own_by (fun t k => XS.ifYes XT12.here hx rfl (pc0 := 30) (pc' := 38) rfl (hb hby at_30) rfl (XT.i0_eq_t (by decide)) (by decide) (by decide) k) ?_
    show own_Go p e below _ T12 (mkF m 38 #[oI i0, oI (2 : Int32), oR w2, oI (0 : Int32), oI (1 : Int32)] [])
    refine own_by (fun t k => XT.iconstV XT12.here hx rfl (1 : Int32) (hb hby at_38) (by decide) k) ?_
    show own_Go p e below _ T12 (mkF m 39 #[oI i0, oI (2 : Int32), oR w2, oI (0 : Int32), oI (1 : Int32)] [(.int (1 : Int32))])
    refine own_by (fun t k => XS.goto XT12.here hx rfl (pc0 := 39) (pc' := 43) rfl (hb hby at_39) (by decide) (by decide) k) ?_
    show own_Go p e below _ T12 (mkF m 43 #[oI i0, oI (2 : Int32), oR w2, oI (0 : Int32), oI (1 : Int32)] [(.int (1 : Int32))])
    exact own_retN XT12 hx hlk hret (by simp) (w := (1 : Int32)) (hb hby at_43) (by decide) (by decide) (by decide) (⟨rfl, eT12, rfl⟩)
  · refine own_by (fun t k => XS.iloadN X0.here hx rfl (hb hby at_0) rfl  k) ?_
    show own_Go p e below _ T0 (mkF m 1 #[oI i0, .unset, .unset, .unset, .unset] [(.int i0)])
    refine own_by (fun t k => XT.bipushV X0.here hx rfl (7 : Int32) (hb hby at_1) (by decide) k) ?_
    show own_Go p e below _ T0 (mkF m 3 #[oI i0, .unset, .unset, .unset, .unset] [(.int (7 : Int32)), (.int i0)])
    refine own_by (fun t k => XS.iand X0.here hx rfl (hb hby at_3) rfl k) ?_
    show own_Go p e below _ T0 (mkF m 4 #[oI i0, .unset, .unset, .unset, .unset] [(.int (i0 &&& (7 : Int32)))])
    rw [hk]
    show own_Go p e below _ T0 (mkF m 4 #[oI i0, .unset, .unset, .unset, .unset] [(.int (3 : Int32))])
    refine own_by (fun t k => XS.istoreN X0.here hx rfl (hb hby at_4) rfl (l' := #[oI i0, oI (3 : Int32), .unset, .unset, .unset]) rfl k) ?_
    show own_Go p e below _ T0 (mkF m 5 #[oI i0, oI (3 : Int32), .unset, .unset, .unset] [])
    refine own_by (fun t k => XS.iloadN X0.here hx rfl (hb hby at_5) rfl  k) ?_
    show own_Go p e below _ T0 (mkF m 6 #[oI i0, oI (3 : Int32), .unset, .unset, .unset] [(.int (3 : Int32))])
    refine own_callS X0 hx hZ hown (hw _ (List.mem_of_getElem? (i := 0) rfl)) (hw _ (List.mem_of_getElem? (i := 1) rfl)) (hw _ (List.mem_of_getElem? (i := 2) rfl)) (hw _ (List.mem_of_getElem? (i := 3) rfl)) (by decide) e0 (argsL := [(.int (3 : Int32))]) (rest := []) (own_pick_met l Z a0 hw (3 : Int32) w0 w1 w2 w3 w4 w5 w6 w7 h0 S) 0 (by decide) (by decide) (by rw [hml]; rfl) (lenOf pd_0 rfl) (Nat.le_of_eq rfl) (hb hby at_6) (by decide) (by decide) (st := [(.int (3 : Int32))]) rfl ?_
    intro T13 LT13 vT13 XT13 hQT13
    obtain ⟨rfl, eT13, rfl⟩ := hQT13
    show own_Go p e below _ T13 (mkF m 9 #[oI i0, oI (3 : Int32), .unset, .unset, .unset] [(.ref (own_pick (3 : Int32) w0 w1 w2 w3 w4 w5 w6 w7))])
    rw [show own_pick (3 : Int32) w0 w1 w2 w3 w4 w5 w6 w7 = w3 by rw [own_pick, if_neg (by decide), if_neg (by decide), if_neg (by decide), if_pos (by decide)]]
    show own_Go p e below _ T13 (mkF m 9 #[oI i0, oI (3 : Int32), .unset, .unset, .unset] [(.ref w3)])
    refine own_by (fun t k => XS.astoreN XT13.here hx rfl (hb hby at_9) rfl rfl (l' := #[oI i0, oI (3 : Int32), oR w3, .unset, .unset]) rfl k) ?_
    show own_Go p e below _ T13 (mkF m 10 #[oI i0, oI (3 : Int32), oR w3, .unset, .unset] [])
    refine own_by (fun t k => XS.aloadN XT13.here hx rfl (hb hby at_10) rfl rfl  k) ?_
    show own_Go p e below _ T13 (mkF m 11 #[oI i0, oI (3 : Int32), oR w3, .unset, .unset] [(.ref w3)])
    refine own_callV XT13 hx hZ hown (hw _ (List.mem_of_getElem? (i := 7) rfl)) (hw _ (List.mem_of_getElem? (i := 8) rfl)) (hw _ (List.mem_of_getElem? (i := 10) rfl)) (hw _ (List.mem_of_getElem? (i := 9) rfl)) (hw _ (List.mem_of_getElem? (i := 11) rfl)) (hw _ (List.mem_of_getElem? (i := 5) rfl)) (by decide) eT13 (b := w3) E3 (argsL := []) (rest := []) (own_awaitsAttempt_met l Z a0 hw w3 w0 w1 w2 w3 w4 w5 w6 w7 h0 S) 0 (by decide) (by decide) (by rw [hml]; rfl) (lenOf pd_1 rfl) (Nat.le_of_eq rfl) (hb hby at_11) (by decide) (by decide) (st := [(.ref w3)]) rfl ?_
    intro T14 LT14 vT14 XT14 hQT14
    obtain ⟨rfl, eT14, rfl⟩ := hQT14
    show own_Go p e below _ T14 (mkF m 14 #[oI i0, oI (3 : Int32), oR w3, .unset, .unset] [(.int (own_awaitsAttempt w3 w0 w1 w2 w3 w4 w5 w6 w7))])
    rw [show own_awaitsAttempt w3 w0 w1 w2 w3 w4 w5 w6 w7 = (0 : Int32) by rw [own_awaitsAttempt, if_neg (F3.ne F0 (by decide)), if_neg (F3.ne F4 (by decide))]]
    show own_Go p e below _ T14 (mkF m 14 #[oI i0, oI (3 : Int32), oR w3, .unset, .unset] [(.int (0 : Int32))])
    refine own_by (fun t k => XS.istoreN XT14.here hx rfl (hb hby at_14) rfl (l' := #[oI i0, oI (3 : Int32), oR w3, oI (0 : Int32), .unset]) rfl k) ?_
    show own_Go p e below _ T14 (mkF m 15 #[oI i0, oI (3 : Int32), oR w3, oI (0 : Int32), .unset] [])
    refine own_by (fun t k => XS.aloadN XT14.here hx rfl (hb hby at_15) rfl rfl  k) ?_
    show own_Go p e below _ T14 (mkF m 16 #[oI i0, oI (3 : Int32), oR w3, oI (0 : Int32), .unset] [(.ref w3)])
    refine own_callV XT14 hx hZ hown (hw _ (List.mem_of_getElem? (i := 13) rfl)) (hw _ (List.mem_of_getElem? (i := 14) rfl)) (hw _ (List.mem_of_getElem? (i := 16) rfl)) (hw _ (List.mem_of_getElem? (i := 15) rfl)) (hw _ (List.mem_of_getElem? (i := 17) rfl)) (hw _ (List.mem_of_getElem? (i := 5) rfl)) (by decide) eT14 (b := w3) E3 (argsL := []) (rest := []) (own_ended_met l Z a0 hw w3 w0 w1 w2 w3 w4 w5 w6 w7 h0 S) 0 (by decide) (by decide) (by rw [hml]; rfl) (lenOf pd_1 rfl) (Nat.le_of_eq rfl) (hb hby at_16) (by decide) (by decide) (st := [(.ref w3)]) rfl ?_
    intro T15 LT15 vT15 XT15 hQT15
    obtain ⟨rfl, eT15, rfl⟩ := hQT15
    show own_Go p e below _ T15 (mkF m 19 #[oI i0, oI (3 : Int32), oR w3, oI (0 : Int32), .unset] [(.int (own_ended w3 w0 w1 w2 w3 w4 w5 w6 w7))])
    rw [show own_ended w3 w0 w1 w2 w3 w4 w5 w6 w7 = (1 : Int32) by rw [own_ended, if_neg (F3.ne F2 (by decide)), if_pos rfl]]
    show own_Go p e below _ T15 (mkF m 19 #[oI i0, oI (3 : Int32), oR w3, oI (0 : Int32), .unset] [(.int (1 : Int32))])
    refine own_by (fun t k => XS.istore XT15.here hx rfl (hb hby at_19) rfl (l' := #[oI i0, oI (3 : Int32), oR w3, oI (0 : Int32), oI (1 : Int32)]) rfl k) ?_
    show own_Go p e below _ T15 (mkF m 21 #[oI i0, oI (3 : Int32), oR w3, oI (0 : Int32), oI (1 : Int32)] [])
    refine own_by (fun t k => XS.iloadN XT15.here hx rfl (hb hby at_21) rfl  k) ?_
    show own_Go p e below _ T15 (mkF m 22 #[oI i0, oI (3 : Int32), oR w3, oI (0 : Int32), oI (1 : Int32)] [(.int (0 : Int32))])
    refine own_by (fun t k => XS.iloadN XT15.here hx rfl (hb hby at_22) rfl  k) ?_
    show own_Go p e below _ T15 (mkF m 23 #[oI i0, oI (3 : Int32), oR w3, oI (0 : Int32), oI (1 : Int32)] [(.int (3 : Int32)), (.int (0 : Int32))])
    refine own_callS XT15 hx hZ hown (hw _ (List.mem_of_getElem? (i := 26) rfl)) (hw _ (List.mem_of_getElem? (i := 27) rfl)) (hw _ (List.mem_of_getElem? (i := 2) rfl)) (hw _ (List.mem_of_getElem? (i := 28) rfl)) (by decide) eT15 (argsL := [(.int (3 : Int32))]) (rest := [(.int (0 : Int32))]) (own_expectedAwaits_met l Z a0 hw (3 : Int32) h0) 1 (by decide) (by decide) (by rw [hml]; rfl) (lenOf pd_2 rfl) (Nat.le_of_eq rfl) (hb hby at_23) (by decide) (by decide) (st := [(.int (3 : Int32)), (.int (0 : Int32))]) rfl ?_
    intro T16 LT16 vT16 XT16 hQT16
    obtain ⟨rfl, eT16, rfl⟩ := hQT16
    show own_Go p e below _ T16 (mkF m 26 #[oI i0, oI (3 : Int32), oR w3, oI (0 : Int32), oI (1 : Int32)] [(.int (own_expectedAwaits (3 : Int32) )), (.int (0 : Int32))])
    rw [show own_expectedAwaits (3 : Int32) = (0 : Int32) by rw [own_expectedAwaits, if_neg (by decide), if_neg (by decide)]]
    show own_Go p e below _ T16 (mkF m 26 #[oI i0, oI (3 : Int32), oR w3, oI (0 : Int32), oI (1 : Int32)] [(.int (0 : Int32)), (.int (0 : Int32))])
    refine own_by (fun t k => XS.icmpNo XT16.here hx rfl (hb hby at_26) rfl (XT.ii_ne_f (by decide)) k) ?_
    show own_Go p e below _ T16 (mkF m 29 #[oI i0, oI (3 : Int32), oR w3, oI (0 : Int32), oI (1 : Int32)] [])
    refine own_by (fun t k => XS.iloadN XT16.here hx rfl (hb hby at_29) rfl  k) ?_
    show own_Go p e below _ T16 (mkF m 30 #[oI i0, oI (3 : Int32), oR w3, oI (0 : Int32), oI (1 : Int32)] [(.int (0 : Int32))])
    refine own_by (fun t k => XS.ifYes XT16.here hx rfl (pc0 := 30) (pc' := 38) rfl (hb hby at_30) rfl (XT.i0_eq_t (by decide)) (by decide) (by decide) k) ?_
    show own_Go p e below _ T16 (mkF m 38 #[oI i0, oI (3 : Int32), oR w3, oI (0 : Int32), oI (1 : Int32)] [])
    refine own_by (fun t k => XT.iconstV XT16.here hx rfl (1 : Int32) (hb hby at_38) (by decide) k) ?_
    show own_Go p e below _ T16 (mkF m 39 #[oI i0, oI (3 : Int32), oR w3, oI (0 : Int32), oI (1 : Int32)] [(.int (1 : Int32))])
    refine own_by (fun t k => XS.goto XT16.here hx rfl (pc0 := 39) (pc' := 43) rfl (hb hby at_39) (by decide) (by decide) k) ?_
    show own_Go p e below _ T16 (mkF m 43 #[oI i0, oI (3 : Int32), oR w3, oI (0 : Int32), oI (1 : Int32)] [(.int (1 : Int32))])
    exact own_retN XT16 hx hlk hret (by simp) (w := (1 : Int32)) (hb hby at_43) (by decide) (by decide) (by decide) (⟨rfl, eT16, rfl⟩)
  · refine own_by (fun t k => XS.iloadN X0.here hx rfl (hb hby at_0) rfl  k) ?_
    show own_Go p e below _ T0 (mkF m 1 #[oI i0, .unset, .unset, .unset, .unset] [(.int i0)])
    refine own_by (fun t k => XT.bipushV X0.here hx rfl (7 : Int32) (hb hby at_1) (by decide) k) ?_
    show own_Go p e below _ T0 (mkF m 3 #[oI i0, .unset, .unset, .unset, .unset] [(.int (7 : Int32)), (.int i0)])
    refine own_by (fun t k => XS.iand X0.here hx rfl (hb hby at_3) rfl k) ?_
    show own_Go p e below _ T0 (mkF m 4 #[oI i0, .unset, .unset, .unset, .unset] [(.int (i0 &&& (7 : Int32)))])
    rw [hk]
    show own_Go p e below _ T0 (mkF m 4 #[oI i0, .unset, .unset, .unset, .unset] [(.int (4 : Int32))])
    refine own_by (fun t k => XS.istoreN X0.here hx rfl (hb hby at_4) rfl (l' := #[oI i0, oI (4 : Int32), .unset, .unset, .unset]) rfl k) ?_
    show own_Go p e below _ T0 (mkF m 5 #[oI i0, oI (4 : Int32), .unset, .unset, .unset] [])
    refine own_by (fun t k => XS.iloadN X0.here hx rfl (hb hby at_5) rfl  k) ?_
    show own_Go p e below _ T0 (mkF m 6 #[oI i0, oI (4 : Int32), .unset, .unset, .unset] [(.int (4 : Int32))])
    refine own_callS X0 hx hZ hown (hw _ (List.mem_of_getElem? (i := 0) rfl)) (hw _ (List.mem_of_getElem? (i := 1) rfl)) (hw _ (List.mem_of_getElem? (i := 2) rfl)) (hw _ (List.mem_of_getElem? (i := 3) rfl)) (by decide) e0 (argsL := [(.int (4 : Int32))]) (rest := []) (own_pick_met l Z a0 hw (4 : Int32) w0 w1 w2 w3 w4 w5 w6 w7 h0 S) 0 (by decide) (by decide) (by rw [hml]; rfl) (lenOf pd_0 rfl) (Nat.le_of_eq rfl) (hb hby at_6) (by decide) (by decide) (st := [(.int (4 : Int32))]) rfl ?_
    intro T17 LT17 vT17 XT17 hQT17
    obtain ⟨rfl, eT17, rfl⟩ := hQT17
    show own_Go p e below _ T17 (mkF m 9 #[oI i0, oI (4 : Int32), .unset, .unset, .unset] [(.ref (own_pick (4 : Int32) w0 w1 w2 w3 w4 w5 w6 w7))])
    rw [show own_pick (4 : Int32) w0 w1 w2 w3 w4 w5 w6 w7 = w4 by rw [own_pick, if_neg (by decide), if_neg (by decide), if_neg (by decide), if_neg (by decide), if_pos (by decide)]]
    show own_Go p e below _ T17 (mkF m 9 #[oI i0, oI (4 : Int32), .unset, .unset, .unset] [(.ref w4)])
    refine own_by (fun t k => XS.astoreN XT17.here hx rfl (hb hby at_9) rfl rfl (l' := #[oI i0, oI (4 : Int32), oR w4, .unset, .unset]) rfl k) ?_
    show own_Go p e below _ T17 (mkF m 10 #[oI i0, oI (4 : Int32), oR w4, .unset, .unset] [])
    refine own_by (fun t k => XS.aloadN XT17.here hx rfl (hb hby at_10) rfl rfl  k) ?_
    show own_Go p e below _ T17 (mkF m 11 #[oI i0, oI (4 : Int32), oR w4, .unset, .unset] [(.ref w4)])
    refine own_callV XT17 hx hZ hown (hw _ (List.mem_of_getElem? (i := 7) rfl)) (hw _ (List.mem_of_getElem? (i := 8) rfl)) (hw _ (List.mem_of_getElem? (i := 10) rfl)) (hw _ (List.mem_of_getElem? (i := 9) rfl)) (hw _ (List.mem_of_getElem? (i := 11) rfl)) (hw _ (List.mem_of_getElem? (i := 5) rfl)) (by decide) eT17 (b := w4) E4 (argsL := []) (rest := []) (own_awaitsAttempt_met l Z a0 hw w4 w0 w1 w2 w3 w4 w5 w6 w7 h0 S) 0 (by decide) (by decide) (by rw [hml]; rfl) (lenOf pd_1 rfl) (Nat.le_of_eq rfl) (hb hby at_11) (by decide) (by decide) (st := [(.ref w4)]) rfl ?_
    intro T18 LT18 vT18 XT18 hQT18
    obtain ⟨rfl, eT18, rfl⟩ := hQT18
    show own_Go p e below _ T18 (mkF m 14 #[oI i0, oI (4 : Int32), oR w4, .unset, .unset] [(.int (own_awaitsAttempt w4 w0 w1 w2 w3 w4 w5 w6 w7))])
    rw [show own_awaitsAttempt w4 w0 w1 w2 w3 w4 w5 w6 w7 = (1 : Int32) by rw [own_awaitsAttempt, if_neg (F4.ne F0 (by decide)), if_pos rfl]]
    show own_Go p e below _ T18 (mkF m 14 #[oI i0, oI (4 : Int32), oR w4, .unset, .unset] [(.int (1 : Int32))])
    refine own_by (fun t k => XS.istoreN XT18.here hx rfl (hb hby at_14) rfl (l' := #[oI i0, oI (4 : Int32), oR w4, oI (1 : Int32), .unset]) rfl k) ?_
    show own_Go p e below _ T18 (mkF m 15 #[oI i0, oI (4 : Int32), oR w4, oI (1 : Int32), .unset] [])
    refine own_by (fun t k => XS.aloadN XT18.here hx rfl (hb hby at_15) rfl rfl  k) ?_
    show own_Go p e below _ T18 (mkF m 16 #[oI i0, oI (4 : Int32), oR w4, oI (1 : Int32), .unset] [(.ref w4)])
    refine own_callV XT18 hx hZ hown (hw _ (List.mem_of_getElem? (i := 13) rfl)) (hw _ (List.mem_of_getElem? (i := 14) rfl)) (hw _ (List.mem_of_getElem? (i := 16) rfl)) (hw _ (List.mem_of_getElem? (i := 15) rfl)) (hw _ (List.mem_of_getElem? (i := 17) rfl)) (hw _ (List.mem_of_getElem? (i := 5) rfl)) (by decide) eT18 (b := w4) E4 (argsL := []) (rest := []) (own_ended_met l Z a0 hw w4 w0 w1 w2 w3 w4 w5 w6 w7 h0 S) 0 (by decide) (by decide) (by rw [hml]; rfl) (lenOf pd_1 rfl) (Nat.le_of_eq rfl) (hb hby at_16) (by decide) (by decide) (st := [(.ref w4)]) rfl ?_
    intro T19 LT19 vT19 XT19 hQT19
    obtain ⟨rfl, eT19, rfl⟩ := hQT19
    show own_Go p e below _ T19 (mkF m 19 #[oI i0, oI (4 : Int32), oR w4, oI (1 : Int32), .unset] [(.int (own_ended w4 w0 w1 w2 w3 w4 w5 w6 w7))])
    rw [show own_ended w4 w0 w1 w2 w3 w4 w5 w6 w7 = (0 : Int32) by rw [own_ended, if_neg (F4.ne F2 (by decide)), if_neg (F4.ne F3 (by decide)), if_neg (F4.ne F6 (by decide)), if_neg (F4.ne F7 (by decide))]]
    show own_Go p e below _ T19 (mkF m 19 #[oI i0, oI (4 : Int32), oR w4, oI (1 : Int32), .unset] [(.int (0 : Int32))])
    refine own_by (fun t k => XS.istore XT19.here hx rfl (hb hby at_19) rfl (l' := #[oI i0, oI (4 : Int32), oR w4, oI (1 : Int32), oI (0 : Int32)]) rfl k) ?_
    show own_Go p e below _ T19 (mkF m 21 #[oI i0, oI (4 : Int32), oR w4, oI (1 : Int32), oI (0 : Int32)] [])
    refine own_by (fun t k => XS.iloadN XT19.here hx rfl (hb hby at_21) rfl  k) ?_
    show own_Go p e below _ T19 (mkF m 22 #[oI i0, oI (4 : Int32), oR w4, oI (1 : Int32), oI (0 : Int32)] [(.int (1 : Int32))])
    refine own_by (fun t k => XS.iloadN XT19.here hx rfl (hb hby at_22) rfl  k) ?_
    show own_Go p e below _ T19 (mkF m 23 #[oI i0, oI (4 : Int32), oR w4, oI (1 : Int32), oI (0 : Int32)] [(.int (4 : Int32)), (.int (1 : Int32))])
    refine own_callS XT19 hx hZ hown (hw _ (List.mem_of_getElem? (i := 26) rfl)) (hw _ (List.mem_of_getElem? (i := 27) rfl)) (hw _ (List.mem_of_getElem? (i := 2) rfl)) (hw _ (List.mem_of_getElem? (i := 28) rfl)) (by decide) eT19 (argsL := [(.int (4 : Int32))]) (rest := [(.int (1 : Int32))]) (own_expectedAwaits_met l Z a0 hw (4 : Int32) h0) 1 (by decide) (by decide) (by rw [hml]; rfl) (lenOf pd_2 rfl) (Nat.le_of_eq rfl) (hb hby at_23) (by decide) (by decide) (st := [(.int (4 : Int32)), (.int (1 : Int32))]) rfl ?_
    intro T20 LT20 vT20 XT20 hQT20
    obtain ⟨rfl, eT20, rfl⟩ := hQT20
    show own_Go p e below _ T20 (mkF m 26 #[oI i0, oI (4 : Int32), oR w4, oI (1 : Int32), oI (0 : Int32)] [(.int (own_expectedAwaits (4 : Int32) )), (.int (1 : Int32))])
    rw [show own_expectedAwaits (4 : Int32) = (1 : Int32) by rw [own_expectedAwaits, if_neg (by decide), if_pos (by decide)]]
    show own_Go p e below _ T20 (mkF m 26 #[oI i0, oI (4 : Int32), oR w4, oI (1 : Int32), oI (0 : Int32)] [(.int (1 : Int32)), (.int (1 : Int32))])
    refine own_by (fun t k => XS.icmpNo XT20.here hx rfl (hb hby at_26) rfl (XT.ii_ne_f (by decide)) k) ?_
    show own_Go p e below _ T20 (mkF m 29 #[oI i0, oI (4 : Int32), oR w4, oI (1 : Int32), oI (0 : Int32)] [])
    refine own_by (fun t k => XS.iloadN XT20.here hx rfl (hb hby at_29) rfl  k) ?_
    show own_Go p e below _ T20 (mkF m 30 #[oI i0, oI (4 : Int32), oR w4, oI (1 : Int32), oI (0 : Int32)] [(.int (1 : Int32))])
    refine own_by (fun t k => XS.ifNo XT20.here hx rfl (hb hby at_30) rfl (XT.i0_eq_f (by decide)) k) ?_
    show own_Go p e below _ T20 (mkF m 33 #[oI i0, oI (4 : Int32), oR w4, oI (1 : Int32), oI (0 : Int32)] [])
    refine own_by (fun t k => XS.iload XT20.here hx rfl (hb hby at_33) rfl  k) ?_
    show own_Go p e below _ T20 (mkF m 35 #[oI i0, oI (4 : Int32), oR w4, oI (1 : Int32), oI (0 : Int32)] [(.int (0 : Int32))])
    refine own_by (fun t k => XS.ifNo XT20.here hx rfl (hb hby at_35) rfl (XT.i0_ne_f (by decide)) k) ?_
    show own_Go p e below _ T20 (mkF m 38 #[oI i0, oI (4 : Int32), oR w4, oI (1 : Int32), oI (0 : Int32)] [])
    refine own_by (fun t k => XT.iconstV XT20.here hx rfl (1 : Int32) (hb hby at_38) (by decide) k) ?_
    show own_Go p e below _ T20 (mkF m 39 #[oI i0, oI (4 : Int32), oR w4, oI (1 : Int32), oI (0 : Int32)] [(.int (1 : Int32))])
    refine own_by (fun t k => XS.goto XT20.here hx rfl (pc0 := 39) (pc' := 43) rfl (hb hby at_39) (by decide) (by decide) k) ?_
    show own_Go p e below _ T20 (mkF m 43 #[oI i0, oI (4 : Int32), oR w4, oI (1 : Int32), oI (0 : Int32)] [(.int (1 : Int32))])
    exact own_retN XT20 hx hlk hret (by simp) (w := (1 : Int32)) (hb hby at_43) (by decide) (by decide) (by decide) (⟨rfl, eT20, rfl⟩)
  · refine own_by (fun t k => XS.iloadN X0.here hx rfl (hb hby at_0) rfl  k) ?_
    show own_Go p e below _ T0 (mkF m 1 #[oI i0, .unset, .unset, .unset, .unset] [(.int i0)])
    refine own_by (fun t k => XT.bipushV X0.here hx rfl (7 : Int32) (hb hby at_1) (by decide) k) ?_
    show own_Go p e below _ T0 (mkF m 3 #[oI i0, .unset, .unset, .unset, .unset] [(.int (7 : Int32)), (.int i0)])
    refine own_by (fun t k => XS.iand X0.here hx rfl (hb hby at_3) rfl k) ?_
    show own_Go p e below _ T0 (mkF m 4 #[oI i0, .unset, .unset, .unset, .unset] [(.int (i0 &&& (7 : Int32)))])
    rw [hk]
    show own_Go p e below _ T0 (mkF m 4 #[oI i0, .unset, .unset, .unset, .unset] [(.int (5 : Int32))])
    refine own_by (fun t k => XS.istoreN X0.here hx rfl (hb hby at_4) rfl (l' := #[oI i0, oI (5 : Int32), .unset, .unset, .unset]) rfl k) ?_
    show own_Go p e below _ T0 (mkF m 5 #[oI i0, oI (5 : Int32), .unset, .unset, .unset] [])
    refine own_by (fun t k => XS.iloadN X0.here hx rfl (hb hby at_5) rfl  k) ?_
    show own_Go p e below _ T0 (mkF m 6 #[oI i0, oI (5 : Int32), .unset, .unset, .unset] [(.int (5 : Int32))])
    refine own_callS X0 hx hZ hown (hw _ (List.mem_of_getElem? (i := 0) rfl)) (hw _ (List.mem_of_getElem? (i := 1) rfl)) (hw _ (List.mem_of_getElem? (i := 2) rfl)) (hw _ (List.mem_of_getElem? (i := 3) rfl)) (by decide) e0 (argsL := [(.int (5 : Int32))]) (rest := []) (own_pick_met l Z a0 hw (5 : Int32) w0 w1 w2 w3 w4 w5 w6 w7 h0 S) 0 (by decide) (by decide) (by rw [hml]; rfl) (lenOf pd_0 rfl) (Nat.le_of_eq rfl) (hb hby at_6) (by decide) (by decide) (st := [(.int (5 : Int32))]) rfl ?_
    intro T21 LT21 vT21 XT21 hQT21
    obtain ⟨rfl, eT21, rfl⟩ := hQT21
    show own_Go p e below _ T21 (mkF m 9 #[oI i0, oI (5 : Int32), .unset, .unset, .unset] [(.ref (own_pick (5 : Int32) w0 w1 w2 w3 w4 w5 w6 w7))])
    rw [show own_pick (5 : Int32) w0 w1 w2 w3 w4 w5 w6 w7 = w5 by rw [own_pick, if_neg (by decide), if_neg (by decide), if_neg (by decide), if_neg (by decide), if_neg (by decide), if_pos (by decide)]]
    show own_Go p e below _ T21 (mkF m 9 #[oI i0, oI (5 : Int32), .unset, .unset, .unset] [(.ref w5)])
    refine own_by (fun t k => XS.astoreN XT21.here hx rfl (hb hby at_9) rfl rfl (l' := #[oI i0, oI (5 : Int32), oR w5, .unset, .unset]) rfl k) ?_
    show own_Go p e below _ T21 (mkF m 10 #[oI i0, oI (5 : Int32), oR w5, .unset, .unset] [])
    refine own_by (fun t k => XS.aloadN XT21.here hx rfl (hb hby at_10) rfl rfl  k) ?_
    show own_Go p e below _ T21 (mkF m 11 #[oI i0, oI (5 : Int32), oR w5, .unset, .unset] [(.ref w5)])
    refine own_callV XT21 hx hZ hown (hw _ (List.mem_of_getElem? (i := 7) rfl)) (hw _ (List.mem_of_getElem? (i := 8) rfl)) (hw _ (List.mem_of_getElem? (i := 10) rfl)) (hw _ (List.mem_of_getElem? (i := 9) rfl)) (hw _ (List.mem_of_getElem? (i := 11) rfl)) (hw _ (List.mem_of_getElem? (i := 5) rfl)) (by decide) eT21 (b := w5) E5 (argsL := []) (rest := []) (own_awaitsAttempt_met l Z a0 hw w5 w0 w1 w2 w3 w4 w5 w6 w7 h0 S) 0 (by decide) (by decide) (by rw [hml]; rfl) (lenOf pd_1 rfl) (Nat.le_of_eq rfl) (hb hby at_11) (by decide) (by decide) (st := [(.ref w5)]) rfl ?_
    intro T22 LT22 vT22 XT22 hQT22
    obtain ⟨rfl, eT22, rfl⟩ := hQT22
    show own_Go p e below _ T22 (mkF m 14 #[oI i0, oI (5 : Int32), oR w5, .unset, .unset] [(.int (own_awaitsAttempt w5 w0 w1 w2 w3 w4 w5 w6 w7))])
    rw [show own_awaitsAttempt w5 w0 w1 w2 w3 w4 w5 w6 w7 = (0 : Int32) by rw [own_awaitsAttempt, if_neg (F5.ne F0 (by decide)), if_neg (F5.ne F4 (by decide))]]
    show own_Go p e below _ T22 (mkF m 14 #[oI i0, oI (5 : Int32), oR w5, .unset, .unset] [(.int (0 : Int32))])
    refine own_by (fun t k => XS.istoreN XT22.here hx rfl (hb hby at_14) rfl (l' := #[oI i0, oI (5 : Int32), oR w5, oI (0 : Int32), .unset]) rfl k) ?_
    show own_Go p e below _ T22 (mkF m 15 #[oI i0, oI (5 : Int32), oR w5, oI (0 : Int32), .unset] [])
    refine own_by (fun t k => XS.aloadN XT22.here hx rfl (hb hby at_15) rfl rfl  k) ?_
    show own_Go p e below _ T22 (mkF m 16 #[oI i0, oI (5 : Int32), oR w5, oI (0 : Int32), .unset] [(.ref w5)])
    refine own_callV XT22 hx hZ hown (hw _ (List.mem_of_getElem? (i := 13) rfl)) (hw _ (List.mem_of_getElem? (i := 14) rfl)) (hw _ (List.mem_of_getElem? (i := 16) rfl)) (hw _ (List.mem_of_getElem? (i := 15) rfl)) (hw _ (List.mem_of_getElem? (i := 17) rfl)) (hw _ (List.mem_of_getElem? (i := 5) rfl)) (by decide) eT22 (b := w5) E5 (argsL := []) (rest := []) (own_ended_met l Z a0 hw w5 w0 w1 w2 w3 w4 w5 w6 w7 h0 S) 0 (by decide) (by decide) (by rw [hml]; rfl) (lenOf pd_1 rfl) (Nat.le_of_eq rfl) (hb hby at_16) (by decide) (by decide) (st := [(.ref w5)]) rfl ?_
    intro T23 LT23 vT23 XT23 hQT23
    obtain ⟨rfl, eT23, rfl⟩ := hQT23
    show own_Go p e below _ T23 (mkF m 19 #[oI i0, oI (5 : Int32), oR w5, oI (0 : Int32), .unset] [(.int (own_ended w5 w0 w1 w2 w3 w4 w5 w6 w7))])
    rw [show own_ended w5 w0 w1 w2 w3 w4 w5 w6 w7 = (0 : Int32) by rw [own_ended, if_neg (F5.ne F2 (by decide)), if_neg (F5.ne F3 (by decide)), if_neg (F5.ne F6 (by decide)), if_neg (F5.ne F7 (by decide))]]
    show own_Go p e below _ T23 (mkF m 19 #[oI i0, oI (5 : Int32), oR w5, oI (0 : Int32), .unset] [(.int (0 : Int32))])
    refine own_by (fun t k => XS.istore XT23.here hx rfl (hb hby at_19) rfl (l' := #[oI i0, oI (5 : Int32), oR w5, oI (0 : Int32), oI (0 : Int32)]) rfl k) ?_
    show own_Go p e below _ T23 (mkF m 21 #[oI i0, oI (5 : Int32), oR w5, oI (0 : Int32), oI (0 : Int32)] [])
    refine own_by (fun t k => XS.iloadN XT23.here hx rfl (hb hby at_21) rfl  k) ?_
    show own_Go p e below _ T23 (mkF m 22 #[oI i0, oI (5 : Int32), oR w5, oI (0 : Int32), oI (0 : Int32)] [(.int (0 : Int32))])
    refine own_by (fun t k => XS.iloadN XT23.here hx rfl (hb hby at_22) rfl  k) ?_
    show own_Go p e below _ T23 (mkF m 23 #[oI i0, oI (5 : Int32), oR w5, oI (0 : Int32), oI (0 : Int32)] [(.int (5 : Int32)), (.int (0 : Int32))])
    refine own_callS XT23 hx hZ hown (hw _ (List.mem_of_getElem? (i := 26) rfl)) (hw _ (List.mem_of_getElem? (i := 27) rfl)) (hw _ (List.mem_of_getElem? (i := 2) rfl)) (hw _ (List.mem_of_getElem? (i := 28) rfl)) (by decide) eT23 (argsL := [(.int (5 : Int32))]) (rest := [(.int (0 : Int32))]) (own_expectedAwaits_met l Z a0 hw (5 : Int32) h0) 1 (by decide) (by decide) (by rw [hml]; rfl) (lenOf pd_2 rfl) (Nat.le_of_eq rfl) (hb hby at_23) (by decide) (by decide) (st := [(.int (5 : Int32)), (.int (0 : Int32))]) rfl ?_
    intro T24 LT24 vT24 XT24 hQT24
    obtain ⟨rfl, eT24, rfl⟩ := hQT24
    show own_Go p e below _ T24 (mkF m 26 #[oI i0, oI (5 : Int32), oR w5, oI (0 : Int32), oI (0 : Int32)] [(.int (own_expectedAwaits (5 : Int32) )), (.int (0 : Int32))])
    rw [show own_expectedAwaits (5 : Int32) = (0 : Int32) by rw [own_expectedAwaits, if_neg (by decide), if_neg (by decide)]]
    show own_Go p e below _ T24 (mkF m 26 #[oI i0, oI (5 : Int32), oR w5, oI (0 : Int32), oI (0 : Int32)] [(.int (0 : Int32)), (.int (0 : Int32))])
    refine own_by (fun t k => XS.icmpNo XT24.here hx rfl (hb hby at_26) rfl (XT.ii_ne_f (by decide)) k) ?_
    show own_Go p e below _ T24 (mkF m 29 #[oI i0, oI (5 : Int32), oR w5, oI (0 : Int32), oI (0 : Int32)] [])
    refine own_by (fun t k => XS.iloadN XT24.here hx rfl (hb hby at_29) rfl  k) ?_
    show own_Go p e below _ T24 (mkF m 30 #[oI i0, oI (5 : Int32), oR w5, oI (0 : Int32), oI (0 : Int32)] [(.int (0 : Int32))])
    refine own_by (fun t k => XS.ifYes XT24.here hx rfl (pc0 := 30) (pc' := 38) rfl (hb hby at_30) rfl (XT.i0_eq_t (by decide)) (by decide) (by decide) k) ?_
    show own_Go p e below _ T24 (mkF m 38 #[oI i0, oI (5 : Int32), oR w5, oI (0 : Int32), oI (0 : Int32)] [])
    refine own_by (fun t k => XT.iconstV XT24.here hx rfl (1 : Int32) (hb hby at_38) (by decide) k) ?_
    show own_Go p e below _ T24 (mkF m 39 #[oI i0, oI (5 : Int32), oR w5, oI (0 : Int32), oI (0 : Int32)] [(.int (1 : Int32))])
    refine own_by (fun t k => XS.goto XT24.here hx rfl (pc0 := 39) (pc' := 43) rfl (hb hby at_39) (by decide) (by decide) k) ?_
    show own_Go p e below _ T24 (mkF m 43 #[oI i0, oI (5 : Int32), oR w5, oI (0 : Int32), oI (0 : Int32)] [(.int (1 : Int32))])
    exact own_retN XT24 hx hlk hret (by simp) (w := (1 : Int32)) (hb hby at_43) (by decide) (by decide) (by decide) (⟨rfl, eT24, rfl⟩)
  · refine own_by (fun t k => XS.iloadN X0.here hx rfl (hb hby at_0) rfl  k) ?_
    show own_Go p e below _ T0 (mkF m 1 #[oI i0, .unset, .unset, .unset, .unset] [(.int i0)])
    refine own_by (fun t k => XT.bipushV X0.here hx rfl (7 : Int32) (hb hby at_1) (by decide) k) ?_
    show own_Go p e below _ T0 (mkF m 3 #[oI i0, .unset, .unset, .unset, .unset] [(.int (7 : Int32)), (.int i0)])
    refine own_by (fun t k => XS.iand X0.here hx rfl (hb hby at_3) rfl k) ?_
    show own_Go p e below _ T0 (mkF m 4 #[oI i0, .unset, .unset, .unset, .unset] [(.int (i0 &&& (7 : Int32)))])
    rw [hk]
    show own_Go p e below _ T0 (mkF m 4 #[oI i0, .unset, .unset, .unset, .unset] [(.int (6 : Int32))])
    refine own_by (fun t k => XS.istoreN X0.here hx rfl (hb hby at_4) rfl (l' := #[oI i0, oI (6 : Int32), .unset, .unset, .unset]) rfl k) ?_
    show own_Go p e below _ T0 (mkF m 5 #[oI i0, oI (6 : Int32), .unset, .unset, .unset] [])
    refine own_by (fun t k => XS.iloadN X0.here hx rfl (hb hby at_5) rfl  k) ?_
    show own_Go p e below _ T0 (mkF m 6 #[oI i0, oI (6 : Int32), .unset, .unset, .unset] [(.int (6 : Int32))])
    refine own_callS X0 hx hZ hown (hw _ (List.mem_of_getElem? (i := 0) rfl)) (hw _ (List.mem_of_getElem? (i := 1) rfl)) (hw _ (List.mem_of_getElem? (i := 2) rfl)) (hw _ (List.mem_of_getElem? (i := 3) rfl)) (by decide) e0 (argsL := [(.int (6 : Int32))]) (rest := []) (own_pick_met l Z a0 hw (6 : Int32) w0 w1 w2 w3 w4 w5 w6 w7 h0 S) 0 (by decide) (by decide) (by rw [hml]; rfl) (lenOf pd_0 rfl) (Nat.le_of_eq rfl) (hb hby at_6) (by decide) (by decide) (st := [(.int (6 : Int32))]) rfl ?_
    intro T25 LT25 vT25 XT25 hQT25
    obtain ⟨rfl, eT25, rfl⟩ := hQT25
    show own_Go p e below _ T25 (mkF m 9 #[oI i0, oI (6 : Int32), .unset, .unset, .unset] [(.ref (own_pick (6 : Int32) w0 w1 w2 w3 w4 w5 w6 w7))])
    rw [show own_pick (6 : Int32) w0 w1 w2 w3 w4 w5 w6 w7 = w6 by rw [own_pick, if_neg (by decide), if_neg (by decide), if_neg (by decide), if_neg (by decide), if_neg (by decide), if_neg (by decide), if_pos (by decide)]]
    show own_Go p e below _ T25 (mkF m 9 #[oI i0, oI (6 : Int32), .unset, .unset, .unset] [(.ref w6)])
    refine own_by (fun t k => XS.astoreN XT25.here hx rfl (hb hby at_9) rfl rfl (l' := #[oI i0, oI (6 : Int32), oR w6, .unset, .unset]) rfl k) ?_
    show own_Go p e below _ T25 (mkF m 10 #[oI i0, oI (6 : Int32), oR w6, .unset, .unset] [])
    refine own_by (fun t k => XS.aloadN XT25.here hx rfl (hb hby at_10) rfl rfl  k) ?_
    show own_Go p e below _ T25 (mkF m 11 #[oI i0, oI (6 : Int32), oR w6, .unset, .unset] [(.ref w6)])
    refine own_callV XT25 hx hZ hown (hw _ (List.mem_of_getElem? (i := 7) rfl)) (hw _ (List.mem_of_getElem? (i := 8) rfl)) (hw _ (List.mem_of_getElem? (i := 10) rfl)) (hw _ (List.mem_of_getElem? (i := 9) rfl)) (hw _ (List.mem_of_getElem? (i := 11) rfl)) (hw _ (List.mem_of_getElem? (i := 5) rfl)) (by decide) eT25 (b := w6) E6 (argsL := []) (rest := []) (own_awaitsAttempt_met l Z a0 hw w6 w0 w1 w2 w3 w4 w5 w6 w7 h0 S) 0 (by decide) (by decide) (by rw [hml]; rfl) (lenOf pd_1 rfl) (Nat.le_of_eq rfl) (hb hby at_11) (by decide) (by decide) (st := [(.ref w6)]) rfl ?_
    intro T26 LT26 vT26 XT26 hQT26
    obtain ⟨rfl, eT26, rfl⟩ := hQT26
    show own_Go p e below _ T26 (mkF m 14 #[oI i0, oI (6 : Int32), oR w6, .unset, .unset] [(.int (own_awaitsAttempt w6 w0 w1 w2 w3 w4 w5 w6 w7))])
    rw [show own_awaitsAttempt w6 w0 w1 w2 w3 w4 w5 w6 w7 = (0 : Int32) by rw [own_awaitsAttempt, if_neg (F6.ne F0 (by decide)), if_neg (F6.ne F4 (by decide))]]
    show own_Go p e below _ T26 (mkF m 14 #[oI i0, oI (6 : Int32), oR w6, .unset, .unset] [(.int (0 : Int32))])
    refine own_by (fun t k => XS.istoreN XT26.here hx rfl (hb hby at_14) rfl (l' := #[oI i0, oI (6 : Int32), oR w6, oI (0 : Int32), .unset]) rfl k) ?_
    show own_Go p e below _ T26 (mkF m 15 #[oI i0, oI (6 : Int32), oR w6, oI (0 : Int32), .unset] [])
    refine own_by (fun t k => XS.aloadN XT26.here hx rfl (hb hby at_15) rfl rfl  k) ?_
    show own_Go p e below _ T26 (mkF m 16 #[oI i0, oI (6 : Int32), oR w6, oI (0 : Int32), .unset] [(.ref w6)])
    refine own_callV XT26 hx hZ hown (hw _ (List.mem_of_getElem? (i := 13) rfl)) (hw _ (List.mem_of_getElem? (i := 14) rfl)) (hw _ (List.mem_of_getElem? (i := 16) rfl)) (hw _ (List.mem_of_getElem? (i := 15) rfl)) (hw _ (List.mem_of_getElem? (i := 17) rfl)) (hw _ (List.mem_of_getElem? (i := 5) rfl)) (by decide) eT26 (b := w6) E6 (argsL := []) (rest := []) (own_ended_met l Z a0 hw w6 w0 w1 w2 w3 w4 w5 w6 w7 h0 S) 0 (by decide) (by decide) (by rw [hml]; rfl) (lenOf pd_1 rfl) (Nat.le_of_eq rfl) (hb hby at_16) (by decide) (by decide) (st := [(.ref w6)]) rfl ?_
    intro T27 LT27 vT27 XT27 hQT27
    obtain ⟨rfl, eT27, rfl⟩ := hQT27
    show own_Go p e below _ T27 (mkF m 19 #[oI i0, oI (6 : Int32), oR w6, oI (0 : Int32), .unset] [(.int (own_ended w6 w0 w1 w2 w3 w4 w5 w6 w7))])
    rw [show own_ended w6 w0 w1 w2 w3 w4 w5 w6 w7 = (1 : Int32) by rw [own_ended, if_neg (F6.ne F2 (by decide)), if_neg (F6.ne F3 (by decide)), if_pos rfl]]
    show own_Go p e below _ T27 (mkF m 19 #[oI i0, oI (6 : Int32), oR w6, oI (0 : Int32), .unset] [(.int (1 : Int32))])
    refine own_by (fun t k => XS.istore XT27.here hx rfl (hb hby at_19) rfl (l' := #[oI i0, oI (6 : Int32), oR w6, oI (0 : Int32), oI (1 : Int32)]) rfl k) ?_
    show own_Go p e below _ T27 (mkF m 21 #[oI i0, oI (6 : Int32), oR w6, oI (0 : Int32), oI (1 : Int32)] [])
    refine own_by (fun t k => XS.iloadN XT27.here hx rfl (hb hby at_21) rfl  k) ?_
    show own_Go p e below _ T27 (mkF m 22 #[oI i0, oI (6 : Int32), oR w6, oI (0 : Int32), oI (1 : Int32)] [(.int (0 : Int32))])
    refine own_by (fun t k => XS.iloadN XT27.here hx rfl (hb hby at_22) rfl  k) ?_
    show own_Go p e below _ T27 (mkF m 23 #[oI i0, oI (6 : Int32), oR w6, oI (0 : Int32), oI (1 : Int32)] [(.int (6 : Int32)), (.int (0 : Int32))])
    refine own_callS XT27 hx hZ hown (hw _ (List.mem_of_getElem? (i := 26) rfl)) (hw _ (List.mem_of_getElem? (i := 27) rfl)) (hw _ (List.mem_of_getElem? (i := 2) rfl)) (hw _ (List.mem_of_getElem? (i := 28) rfl)) (by decide) eT27 (argsL := [(.int (6 : Int32))]) (rest := [(.int (0 : Int32))]) (own_expectedAwaits_met l Z a0 hw (6 : Int32) h0) 1 (by decide) (by decide) (by rw [hml]; rfl) (lenOf pd_2 rfl) (Nat.le_of_eq rfl) (hb hby at_23) (by decide) (by decide) (st := [(.int (6 : Int32)), (.int (0 : Int32))]) rfl ?_
    intro T28 LT28 vT28 XT28 hQT28
    obtain ⟨rfl, eT28, rfl⟩ := hQT28
    show own_Go p e below _ T28 (mkF m 26 #[oI i0, oI (6 : Int32), oR w6, oI (0 : Int32), oI (1 : Int32)] [(.int (own_expectedAwaits (6 : Int32) )), (.int (0 : Int32))])
    rw [show own_expectedAwaits (6 : Int32) = (0 : Int32) by rw [own_expectedAwaits, if_neg (by decide), if_neg (by decide)]]
    show own_Go p e below _ T28 (mkF m 26 #[oI i0, oI (6 : Int32), oR w6, oI (0 : Int32), oI (1 : Int32)] [(.int (0 : Int32)), (.int (0 : Int32))])
    refine own_by (fun t k => XS.icmpNo XT28.here hx rfl (hb hby at_26) rfl (XT.ii_ne_f (by decide)) k) ?_
    show own_Go p e below _ T28 (mkF m 29 #[oI i0, oI (6 : Int32), oR w6, oI (0 : Int32), oI (1 : Int32)] [])
    refine own_by (fun t k => XS.iloadN XT28.here hx rfl (hb hby at_29) rfl  k) ?_
    show own_Go p e below _ T28 (mkF m 30 #[oI i0, oI (6 : Int32), oR w6, oI (0 : Int32), oI (1 : Int32)] [(.int (0 : Int32))])
    refine own_by (fun t k => XS.ifYes XT28.here hx rfl (pc0 := 30) (pc' := 38) rfl (hb hby at_30) rfl (XT.i0_eq_t (by decide)) (by decide) (by decide) k) ?_
    show own_Go p e below _ T28 (mkF m 38 #[oI i0, oI (6 : Int32), oR w6, oI (0 : Int32), oI (1 : Int32)] [])
    refine own_by (fun t k => XT.iconstV XT28.here hx rfl (1 : Int32) (hb hby at_38) (by decide) k) ?_
    show own_Go p e below _ T28 (mkF m 39 #[oI i0, oI (6 : Int32), oR w6, oI (0 : Int32), oI (1 : Int32)] [(.int (1 : Int32))])
    refine own_by (fun t k => XS.goto XT28.here hx rfl (pc0 := 39) (pc' := 43) rfl (hb hby at_39) (by decide) (by decide) k) ?_
    show own_Go p e below _ T28 (mkF m 43 #[oI i0, oI (6 : Int32), oR w6, oI (0 : Int32), oI (1 : Int32)] [(.int (1 : Int32))])
    exact own_retN XT28 hx hlk hret (by simp) (w := (1 : Int32)) (hb hby at_43) (by decide) (by decide) (by decide) (⟨rfl, eT28, rfl⟩)
  · refine own_by (fun t k => XS.iloadN X0.here hx rfl (hb hby at_0) rfl  k) ?_
    show own_Go p e below _ T0 (mkF m 1 #[oI i0, .unset, .unset, .unset, .unset] [(.int i0)])
    refine own_by (fun t k => XT.bipushV X0.here hx rfl (7 : Int32) (hb hby at_1) (by decide) k) ?_
    show own_Go p e below _ T0 (mkF m 3 #[oI i0, .unset, .unset, .unset, .unset] [(.int (7 : Int32)), (.int i0)])
    refine own_by (fun t k => XS.iand X0.here hx rfl (hb hby at_3) rfl k) ?_
    show own_Go p e below _ T0 (mkF m 4 #[oI i0, .unset, .unset, .unset, .unset] [(.int (i0 &&& (7 : Int32)))])
    rw [hk]
    show own_Go p e below _ T0 (mkF m 4 #[oI i0, .unset, .unset, .unset, .unset] [(.int (7 : Int32))])
    refine own_by (fun t k => XS.istoreN X0.here hx rfl (hb hby at_4) rfl (l' := #[oI i0, oI (7 : Int32), .unset, .unset, .unset]) rfl k) ?_
    show own_Go p e below _ T0 (mkF m 5 #[oI i0, oI (7 : Int32), .unset, .unset, .unset] [])
    refine own_by (fun t k => XS.iloadN X0.here hx rfl (hb hby at_5) rfl  k) ?_
    show own_Go p e below _ T0 (mkF m 6 #[oI i0, oI (7 : Int32), .unset, .unset, .unset] [(.int (7 : Int32))])
    refine own_callS X0 hx hZ hown (hw _ (List.mem_of_getElem? (i := 0) rfl)) (hw _ (List.mem_of_getElem? (i := 1) rfl)) (hw _ (List.mem_of_getElem? (i := 2) rfl)) (hw _ (List.mem_of_getElem? (i := 3) rfl)) (by decide) e0 (argsL := [(.int (7 : Int32))]) (rest := []) (own_pick_met l Z a0 hw (7 : Int32) w0 w1 w2 w3 w4 w5 w6 w7 h0 S) 0 (by decide) (by decide) (by rw [hml]; rfl) (lenOf pd_0 rfl) (Nat.le_of_eq rfl) (hb hby at_6) (by decide) (by decide) (st := [(.int (7 : Int32))]) rfl ?_
    intro T29 LT29 vT29 XT29 hQT29
    obtain ⟨rfl, eT29, rfl⟩ := hQT29
    show own_Go p e below _ T29 (mkF m 9 #[oI i0, oI (7 : Int32), .unset, .unset, .unset] [(.ref (own_pick (7 : Int32) w0 w1 w2 w3 w4 w5 w6 w7))])
    rw [show own_pick (7 : Int32) w0 w1 w2 w3 w4 w5 w6 w7 = w7 by rw [own_pick, if_neg (by decide), if_neg (by decide), if_neg (by decide), if_neg (by decide), if_neg (by decide), if_neg (by decide), if_neg (by decide)]]
    show own_Go p e below _ T29 (mkF m 9 #[oI i0, oI (7 : Int32), .unset, .unset, .unset] [(.ref w7)])
    refine own_by (fun t k => XS.astoreN XT29.here hx rfl (hb hby at_9) rfl rfl (l' := #[oI i0, oI (7 : Int32), oR w7, .unset, .unset]) rfl k) ?_
    show own_Go p e below _ T29 (mkF m 10 #[oI i0, oI (7 : Int32), oR w7, .unset, .unset] [])
    refine own_by (fun t k => XS.aloadN XT29.here hx rfl (hb hby at_10) rfl rfl  k) ?_
    show own_Go p e below _ T29 (mkF m 11 #[oI i0, oI (7 : Int32), oR w7, .unset, .unset] [(.ref w7)])
    refine own_callV XT29 hx hZ hown (hw _ (List.mem_of_getElem? (i := 7) rfl)) (hw _ (List.mem_of_getElem? (i := 8) rfl)) (hw _ (List.mem_of_getElem? (i := 10) rfl)) (hw _ (List.mem_of_getElem? (i := 9) rfl)) (hw _ (List.mem_of_getElem? (i := 11) rfl)) (hw _ (List.mem_of_getElem? (i := 5) rfl)) (by decide) eT29 (b := w7) E7 (argsL := []) (rest := []) (own_awaitsAttempt_met l Z a0 hw w7 w0 w1 w2 w3 w4 w5 w6 w7 h0 S) 0 (by decide) (by decide) (by rw [hml]; rfl) (lenOf pd_1 rfl) (Nat.le_of_eq rfl) (hb hby at_11) (by decide) (by decide) (st := [(.ref w7)]) rfl ?_
    intro T30 LT30 vT30 XT30 hQT30
    obtain ⟨rfl, eT30, rfl⟩ := hQT30
    show own_Go p e below _ T30 (mkF m 14 #[oI i0, oI (7 : Int32), oR w7, .unset, .unset] [(.int (own_awaitsAttempt w7 w0 w1 w2 w3 w4 w5 w6 w7))])
    rw [show own_awaitsAttempt w7 w0 w1 w2 w3 w4 w5 w6 w7 = (0 : Int32) by rw [own_awaitsAttempt, if_neg (F7.ne F0 (by decide)), if_neg (F7.ne F4 (by decide))]]
    show own_Go p e below _ T30 (mkF m 14 #[oI i0, oI (7 : Int32), oR w7, .unset, .unset] [(.int (0 : Int32))])
    refine own_by (fun t k => XS.istoreN XT30.here hx rfl (hb hby at_14) rfl (l' := #[oI i0, oI (7 : Int32), oR w7, oI (0 : Int32), .unset]) rfl k) ?_
    show own_Go p e below _ T30 (mkF m 15 #[oI i0, oI (7 : Int32), oR w7, oI (0 : Int32), .unset] [])
    refine own_by (fun t k => XS.aloadN XT30.here hx rfl (hb hby at_15) rfl rfl  k) ?_
    show own_Go p e below _ T30 (mkF m 16 #[oI i0, oI (7 : Int32), oR w7, oI (0 : Int32), .unset] [(.ref w7)])
    refine own_callV XT30 hx hZ hown (hw _ (List.mem_of_getElem? (i := 13) rfl)) (hw _ (List.mem_of_getElem? (i := 14) rfl)) (hw _ (List.mem_of_getElem? (i := 16) rfl)) (hw _ (List.mem_of_getElem? (i := 15) rfl)) (hw _ (List.mem_of_getElem? (i := 17) rfl)) (hw _ (List.mem_of_getElem? (i := 5) rfl)) (by decide) eT30 (b := w7) E7 (argsL := []) (rest := []) (own_ended_met l Z a0 hw w7 w0 w1 w2 w3 w4 w5 w6 w7 h0 S) 0 (by decide) (by decide) (by rw [hml]; rfl) (lenOf pd_1 rfl) (Nat.le_of_eq rfl) (hb hby at_16) (by decide) (by decide) (st := [(.ref w7)]) rfl ?_
    intro T31 LT31 vT31 XT31 hQT31
    obtain ⟨rfl, eT31, rfl⟩ := hQT31
    show own_Go p e below _ T31 (mkF m 19 #[oI i0, oI (7 : Int32), oR w7, oI (0 : Int32), .unset] [(.int (own_ended w7 w0 w1 w2 w3 w4 w5 w6 w7))])
    rw [show own_ended w7 w0 w1 w2 w3 w4 w5 w6 w7 = (1 : Int32) by rw [own_ended, if_neg (F7.ne F2 (by decide)), if_neg (F7.ne F3 (by decide)), if_neg (F7.ne F6 (by decide)), if_pos rfl]]
    show own_Go p e below _ T31 (mkF m 19 #[oI i0, oI (7 : Int32), oR w7, oI (0 : Int32), .unset] [(.int (1 : Int32))])
    refine own_by (fun t k => XS.istore XT31.here hx rfl (hb hby at_19) rfl (l' := #[oI i0, oI (7 : Int32), oR w7, oI (0 : Int32), oI (1 : Int32)]) rfl k) ?_
    show own_Go p e below _ T31 (mkF m 21 #[oI i0, oI (7 : Int32), oR w7, oI (0 : Int32), oI (1 : Int32)] [])
    refine own_by (fun t k => XS.iloadN XT31.here hx rfl (hb hby at_21) rfl  k) ?_
    show own_Go p e below _ T31 (mkF m 22 #[oI i0, oI (7 : Int32), oR w7, oI (0 : Int32), oI (1 : Int32)] [(.int (0 : Int32))])
    refine own_by (fun t k => XS.iloadN XT31.here hx rfl (hb hby at_22) rfl  k) ?_
    show own_Go p e below _ T31 (mkF m 23 #[oI i0, oI (7 : Int32), oR w7, oI (0 : Int32), oI (1 : Int32)] [(.int (7 : Int32)), (.int (0 : Int32))])
    refine own_callS XT31 hx hZ hown (hw _ (List.mem_of_getElem? (i := 26) rfl)) (hw _ (List.mem_of_getElem? (i := 27) rfl)) (hw _ (List.mem_of_getElem? (i := 2) rfl)) (hw _ (List.mem_of_getElem? (i := 28) rfl)) (by decide) eT31 (argsL := [(.int (7 : Int32))]) (rest := [(.int (0 : Int32))]) (own_expectedAwaits_met l Z a0 hw (7 : Int32) h0) 1 (by decide) (by decide) (by rw [hml]; rfl) (lenOf pd_2 rfl) (Nat.le_of_eq rfl) (hb hby at_23) (by decide) (by decide) (st := [(.int (7 : Int32)), (.int (0 : Int32))]) rfl ?_
    intro T32 LT32 vT32 XT32 hQT32
    obtain ⟨rfl, eT32, rfl⟩ := hQT32
    show own_Go p e below _ T32 (mkF m 26 #[oI i0, oI (7 : Int32), oR w7, oI (0 : Int32), oI (1 : Int32)] [(.int (own_expectedAwaits (7 : Int32) )), (.int (0 : Int32))])
    rw [show own_expectedAwaits (7 : Int32) = (0 : Int32) by rw [own_expectedAwaits, if_neg (by decide), if_neg (by decide)]]
    show own_Go p e below _ T32 (mkF m 26 #[oI i0, oI (7 : Int32), oR w7, oI (0 : Int32), oI (1 : Int32)] [(.int (0 : Int32)), (.int (0 : Int32))])
    refine own_by (fun t k => XS.icmpNo XT32.here hx rfl (hb hby at_26) rfl (XT.ii_ne_f (by decide)) k) ?_
    show own_Go p e below _ T32 (mkF m 29 #[oI i0, oI (7 : Int32), oR w7, oI (0 : Int32), oI (1 : Int32)] [])
    refine own_by (fun t k => XS.iloadN XT32.here hx rfl (hb hby at_29) rfl  k) ?_
    show own_Go p e below _ T32 (mkF m 30 #[oI i0, oI (7 : Int32), oR w7, oI (0 : Int32), oI (1 : Int32)] [(.int (0 : Int32))])
    refine own_by (fun t k => XS.ifYes XT32.here hx rfl (pc0 := 30) (pc' := 38) rfl (hb hby at_30) rfl (XT.i0_eq_t (by decide)) (by decide) (by decide) k) ?_
    show own_Go p e below _ T32 (mkF m 38 #[oI i0, oI (7 : Int32), oR w7, oI (0 : Int32), oI (1 : Int32)] [])
    refine own_by (fun t k => XT.iconstV XT32.here hx rfl (1 : Int32) (hb hby at_38) (by decide) k) ?_
    show own_Go p e below _ T32 (mkF m 39 #[oI i0, oI (7 : Int32), oR w7, oI (0 : Int32), oI (1 : Int32)] [(.int (1 : Int32))])
    refine own_by (fun t k => XS.goto XT32.here hx rfl (pc0 := 39) (pc' := 43) rfl (hb hby at_39) (by decide) (by decide) k) ?_
    show own_Go p e below _ T32 (mkF m 43 #[oI i0, oI (7 : Int32), oR w7, oI (0 : Int32), oI (1 : Int32)] [(.int (1 : Int32))])
    exact own_retN XT32 hx hlk hret (by simp) (w := (1 : Int32)) (hb hby at_43) (by decide) (by decide) (by decide) (⟨rfl, eT32, rfl⟩)
set_option maxRecDepth 65536 in
set_option maxHeartbeats 40000000 in
theorem comes_1 {Post : Tables → Env → Array Value → State → Outcome → State → Prop} (hpost : ∀ tb e args s v u, (limb_1_1.after args s (.returned v) u = true ∧ limb_1_2.after args s (.returned v) u = true ∧ True) → FrameEnd s (.returned v) u (Jvm.fieldLocs frame_1_writes args s ++ Jvm.arrayLocs frame_1_arrays args s ++ Jvm.staticLocs frame_1_statics s) 0 0 → Post tb e args s (.returned v) u) :
    ArmFor flags0 classFile x code maxLocals ret World_1 tables_1 room_1 Calls_1 rest_1 Pre_1 Post := by
  intro l hfl _ _ p e ha hc hk s m args below hf hA hF happ hP
  obtain ⟨hcalls, hrest, hpre⟩ := hP
  obtain ⟨-, -, -, hnamed, -, -, -, hat⟩ := (Spec.applies_iff hf).mp happ
  obtain ⟨hg, hn⟩ := and_e (Cond.before_iff.mp (show (Jvm.Cond.and given_1 narrow_1).before args s = true from hpre))
  obtain ⟨g0, rg0⟩ := and_e hg
  have g1 := rg0
  obtain ⟨w0, rfl⟩ : ∃ w0 : Value, args = #[w0] := by
    have hs : args.size = 1 := by simpa [Cond.value] using g0
    obtain ⟨L⟩ := args
    match L, hs with
    | [w0], _ => exact ⟨w0, rfl⟩
  have hw := fun d (hd : d ∈ tables_1) => atoms_spec (ws := Jvm.Cond.code x code maxLocals ret :: tables_1) hat d (List.mem_cons_of_mem _ hd)
  obtain ⟨i0, ei0⟩ := is_v g1
  obtain rfl : w0 = (.int i0) := Option.some.inj ei0
  obtain ⟨n0, rn0⟩ := and_e hn
  obtain ⟨n1, rn1⟩ := and_e rn0
  obtain ⟨n2, rn2⟩ := and_e rn1
  obtain ⟨n3, rn3⟩ := and_e rn2
  obtain ⟨n4, rn4⟩ := and_e rn3
  obtain ⟨n5, rn5⟩ := and_e rn4
  obtain ⟨n6, rn6⟩ := and_e rn5
  obtain ⟨n7, rn7⟩ := and_e rn6
  obtain ⟨n8, rn8⟩ := and_e rn7
  obtain ⟨n9, rn9⟩ := and_e rn8
  obtain ⟨n10, rn10⟩ := and_e rn9
  obtain ⟨n11, rn11⟩ := and_e rn10
  obtain ⟨n12, rn12⟩ := and_e rn11
  obtain ⟨n13, rn13⟩ := and_e rn12
  obtain ⟨n14, rn14⟩ := and_e rn13
  have n15 := rn14
  obtain ⟨w100, v0⟩ := exa_v n0
  have S0 := Sta.start v0 (Or.inr ⟨(hw _ (List.mem_of_getElem? (i := 5) rfl)), (hw _ (List.mem_of_getElem? (i := 6) rfl))⟩)
  have E0 := Exa.start v0 n0
  have F0 := Fld.start ((fld_at v0).symm.trans (own_eqi n2))
  obtain ⟨w101, v1⟩ := exa_v n12
  have S1 := Sta.start v1 (Or.inr ⟨(hw _ (List.mem_of_getElem? (i := 5) rfl)), (hw _ (List.mem_of_getElem? (i := 36) rfl))⟩)
  have E1 := Exa.start v1 n12
  have F1 := Fld.start ((fld_at v1).symm.trans (own_eqi n13))
  obtain ⟨w102, v2⟩ := exa_v n1
  have S2 := Sta.start v2 (Or.inr ⟨(hw _ (List.mem_of_getElem? (i := 5) rfl)), (hw _ (List.mem_of_getElem? (i := 19) rfl))⟩)
  have E2 := Exa.start v2 n1
  have F2 := Fld.start ((fld_at v2).symm.trans (own_eqi n3))
  obtain ⟨w103, v3⟩ := exa_v n4
  have S3 := Sta.start v3 (Or.inr ⟨(hw _ (List.mem_of_getElem? (i := 5) rfl)), (hw _ (List.mem_of_getElem? (i := 21) rfl))⟩)
  have E3 := Exa.start v3 n4
  have F3 := Fld.start ((fld_at v3).symm.trans (own_eqi n5))
  obtain ⟨w104, v4⟩ := exa_v n10
  have S4 := Sta.start v4 (Or.inr ⟨(hw _ (List.mem_of_getElem? (i := 5) rfl)), (hw _ (List.mem_of_getElem? (i := 31) rfl))⟩)
  have E4 := Exa.start v4 n10
  have F4 := Fld.start ((fld_at v4).symm.trans (own_eqi n11))
  obtain ⟨w105, v5⟩ := exa_v n14
  have S5 := Sta.start v5 (Or.inr ⟨(hw _ (List.mem_of_getElem? (i := 5) rfl)), (hw _ (List.mem_of_getElem? (i := 39) rfl))⟩)
  have E5 := Exa.start v5 n14
  have F5 := Fld.start ((fld_at v5).symm.trans (own_eqi n15))
  obtain ⟨w106, v6⟩ := exa_v n6
  have S6 := Sta.start v6 (Or.inr ⟨(hw _ (List.mem_of_getElem? (i := 5) rfl)), (hw _ (List.mem_of_getElem? (i := 23) rfl))⟩)
  have E6 := Exa.start v6 n6
  have F6 := Fld.start ((fld_at v6).symm.trans (own_eqi n7))
  obtain ⟨w107, v7⟩ := exa_v n8
  have S7 := Sta.start v7 (Or.inr ⟨(hw _ (List.mem_of_getElem? (i := 5) rfl)), (hw _ (List.mem_of_getElem? (i := 25) rfl))⟩)
  have E7 := Exa.start v7 n8
  have F7 := Fld.start ((fld_at v7).symm.trans (own_eqi n9))
  obtain ⟨n, o, h1, h2, h3, _, L, rfl, ⟨rfl, -, rfl⟩, hq⟩ := own_law l s _ hw i0 w100 w101 w102 w103 w104 w105 w106 w107 s.heap ⟨S0, S1, S2, S3, S4, S5, S6, S7⟩ E0 E1 E2 E3 E4 E5 E6 E7 F0 F1 F2 F3 F4 F5 F6 F7 p e ha hc hk s m _ below hf ((Spec.applies_iff_loose hf).mp happ).1 ⟨rfl, State.Warmed39.refl s, rfl⟩ trivial
  have N := Fr.nil s.heap.size
  refine ⟨n, _, h1, h2, h3, hpost _ _ _ _ _ _ ⟨Cond.after_iff.mpr rfl, Cond.after_iff.mpr (eq_i res_at (Term.int_eval (1)) rfl), trivial⟩ ⟨hq.1, hq.2.1, (hq.2.2.sift fun y hy => Or.inr (N y hy)).mono (by decide) (by decide)⟩⟩
theorem main_1_1 : Claimed_1_1 := comes_1 fun _ _ _ _ _ _ h hF => ⟨h.1, hF⟩
theorem main_1_2 : Claimed_1_2 := comes_1 fun _ _ _ _ _ _ h hF => ⟨h.2.1, hF⟩
end Jvm.Pilot.@@N@@
namespace Jvm.Pilot.@@N@@
open Jvm Jvm.ClassFile Sem Op Lib Jvm.Free Jvm.Stand Jvm.Pilot.@@N@@.Jvm.D
/-! MADE BY PROGRAM (witnessworld.py) out of the Statement's table words and the real class files: 12 classes; the members and pool entries that the words name. The judged class is class 1, her method 3. -/
namespace start1
open Jvm.ClassFile
def u (s : String) : CpInfo := .utf8 (stringToUtf16 s)
/-- a pool by its gaps: so many unusable entries, then the entry; so many at the end -/
def gap : Nat → List CpInfo → List CpInfo
  | 0, r => r
  | n + 1, r => .unusable :: gap n r
def poolList (es : List (Nat × CpInfo)) (last : Nat) : List CpInfo := es.foldr (fun e r => gap e.1 (e.2 :: r)) (gap last [])
def pool (es : List (Nat × CpInfo)) (last : Nat) : Array CpInfo := ⟨poolList es last⟩
def fileOf (pool : Array CpInfo) (this : Nat) (attrs : Array Attribute := #[]) (ms : Array MethodInfo := #[]) (fl : Nat := 33) (sup : Nat := 0) (ifs : Array Nat := #[]) (fds : Array FieldInfo := #[]) : ClassFile where
  minorVersion := 0
  majorVersion := 65
  constantPool := pool
  accessFlags := fl
  thisClass := this
  superClass := sup
  interfaces := ifs
  fields := fds
  methods := ms
  attributes := attrs
def plain (name : String) (sup : Option ClassId) : Class where
  name := name
  kind := .ordinary
  loader := none
  accessFlags := 33
  super := sup
  interfaces := #[]
  cf := none
  fields := #[]
  methods := #[]
  instanceTypes := #[]
  staticTypes := #[]
  resolved := #[]
  callSites := []
  init := .initialized
  statics := none
  mirror := none

def pool0 : Array CpInfo := pool [(5, u "<init>"), (0, u "()V"), (1, .class_ 10), (1, u "java/lang/Object")] 113

def k0m0 : Method := { name := "<init>", desc := "()V", sig := { parameters := [], returnType := none }, accessFlags := 1, code := none }
/-- java/lang/Object -/
def k0 : Class := { plain "java/lang/Object" none with
  accessFlags := 33
  interfaces := #[]
  cf := some (fileOf pool0 8 #[] #[{ accessFlags := 1, nameIndex := 5, descriptorIndex := 6, attributes := #[] }] 33 0 #[] #[])
  fields := #[]
  methods := #[k0m0]
  instanceTypes := #[]
  staticTypes := #[]
  resolved := Array.replicate 124 none
  statics := none }

def pool1 : Array CpInfo := pool [(2, .class_ 4), (1, u "java/lang/Object"), (0, u "<init>"), (0, u "()V"), (0, .fieldref 8 9), (0, .class_ 10), (0, .nameAndType 11 12), (0, u "com/example/deliver/deliver/JobState"), (0, u "AWAITING_SCHEDULING"), (0, u "Lcom/example/deliver/deliver/JobState;"), (0, .fieldref 8 14), (0, .nameAndType 15 12), (0, u "EXECUTING"), (0, .fieldref 8 17), (0, .nameAndType 18 12), (0, u "SUCCEEDED"), (0, .fieldref 8 20), (0, .nameAndType 21 12), (0, u "DISCARDED"), (0, .fieldref 8 23), (0, .nameAndType 24 12), (0, u "AWAITING_RETRY"), (0, .fieldref 8 26), (0, .nameAndType 27 12), (0, u "ARCHIVING"), (0, .fieldref 8 29), (0, .nameAndType 30 12), (0, u "ARCHIVED"), (0, .fieldref 8 32), (0, .nameAndType 33 12), (0, u "CANCELLED"), (0, .methodref 35 36), (0, .class_ 37), (0, .nameAndType 38 39), (0, u "com/example/deliver/deliver/JobStateAwaitsAttemptPinLaw"), (0, u "pick"), (0, u "(I)Lcom/example/deliver/deliver/JobState;"), (0, .methodref 8 41), (0, .nameAndType 42 43), (0, u "awaitsAttempt"), (0, u "()Z"), (0, .methodref 8 45), (0, .nameAndType 46 43), (0, u "ended"), (0, .methodref 35 48), (0, .nameAndType 49 50), (0, u "expectedAwaits"), (0, u "(I)Z"), (3, u "law")] 2

def k1m0 : Method := { name := "<init>", desc := "()V", sig := { parameters := [], returnType := none }, accessFlags := 2, code := none }
def k1c1 : Code := { maxStack := 2, maxLocals := 1, code := method_2_code, exceptionTable := #[], attributes := #[] }
def k1m1 : Method := { name := "pick", desc := "(I)Lcom/example/deliver/deliver/JobState;", sig := { parameters := [.int], returnType := some (.object "com/example/deliver/deliver/JobState") }, accessFlags := 10, code := some k1c1 }
def k1c2 : Code := { maxStack := 2, maxLocals := 1, code := method_3_code, exceptionTable := #[], attributes := #[] }
def k1m2 : Method := { name := "expectedAwaits", desc := "(I)Z", sig := { parameters := [.int], returnType := some .boolean }, accessFlags := 10, code := some k1c2 }
def k1c3 : Code := { maxStack := 2, maxLocals := 5, code := code, exceptionTable := #[], attributes := #[] }
def k1m3 : Method := { name := "law", desc := "(I)Z", sig := { parameters := [.int], returnType := some .boolean }, accessFlags := 9, code := some k1c3 }
/-- com/example/deliver/deliver/JobStateAwaitsAttemptPinLaw -/
def k1 : Class := { plain "com/example/deliver/deliver/JobStateAwaitsAttemptPinLaw" (some 0) with
  accessFlags := 49
  interfaces := #[]
  cf := some (fileOf pool1 35 #[] #[{ accessFlags := 2, nameIndex := 5, descriptorIndex := 6, attributes := #[] }, { accessFlags := 10, nameIndex := 38, descriptorIndex := 39, attributes := #[] }, { accessFlags := 10, nameIndex := 49, descriptorIndex := 50, attributes := #[] }, { accessFlags := 9, nameIndex := 54, descriptorIndex := 50, attributes := #[] }] 49 2 #[] #[])
  fields := #[]
  methods := #[k1m0, k1m1, k1m2, k1m3]
  instanceTypes := #[]
  staticTypes := #[]
  resolved := Array.replicate 57 none
  statics := none }

def pool2 : Array CpInfo := pool [(1, .class_ 2), (0, u "java/lang/constant/Constable"), (0, .class_ 4), (0, u "java/lang/Object")] 6

/-- java/lang/constant/Constable -/
def k2 : Class := { plain "java/lang/constant/Constable" (some 0) with
  accessFlags := 1537
  interfaces := #[]
  cf := some (fileOf pool2 1 #[] #[] 1537 3 #[] #[])
  fields := #[]
  methods := #[]
  instanceTypes := #[]
  staticTypes := #[]
  resolved := Array.replicate 11 none
  statics := none }

def pool3 : Array CpInfo := pool [(1, .class_ 2), (0, u "java/lang/Comparable"), (0, .class_ 4), (0, u "java/lang/Object")] 7

/-- java/lang/Comparable -/
def k3 : Class := { plain "java/lang/Comparable" (some 0) with
  accessFlags := 1537
  interfaces := #[]
  cf := some (fileOf pool3 1 #[] #[] 1537 3 #[] #[])
  fields := #[]
  methods := #[]
  instanceTypes := #[]
  staticTypes := #[]
  resolved := Array.replicate 12 none
  statics := none }

def pool4 : Array CpInfo := pool [(1, .class_ 2), (0, u "java/io/Serializable"), (0, .class_ 4), (0, u "java/lang/Object")] 2

/-- java/io/Serializable -/
def k4 : Class := { plain "java/io/Serializable" (some 0) with
  accessFlags := 1537
  interfaces := #[]
  cf := some (fileOf pool4 1 #[] #[] 1537 3 #[] #[])
  fields := #[]
  methods := #[]
  instanceTypes := #[]
  staticTypes := #[]
  resolved := Array.replicate 7 none
  statics := none }

def pool5 : Array CpInfo := pool [(2, .class_ 4), (1, u "java/lang/Enum"), (0, u "name"), (0, u "Ljava/lang/String;"), (2, u "ordinal"), (0, u "I"), (1, .class_ 14), (1, u "java/lang/Object"), (4, u "hash"), (86, .class_ 108), (1, u "java/lang/Enum$EnumDesc"), (2, .class_ 112), (0, u "java/lang/constant/Constable"), (0, .class_ 114), (0, u "java/lang/Comparable"), (0, .class_ 116), (0, u "java/io/Serializable")] 87

/-- java/lang/Enum -/
def k5 : Class := { plain "java/lang/Enum" (some 0) with
  accessFlags := 1057
  interfaces := #[2, 3, 4]
  cf := some (fileOf pool5 2 #[.nestMembers #[106]] #[] 1057 12 #[111, 113, 115] #[{ accessFlags := 18, nameIndex := 5, descriptorIndex := 6, attributes := #[] }, { accessFlags := 18, nameIndex := 9, descriptorIndex := 10, attributes := #[] }, { accessFlags := 2, nameIndex := 19, descriptorIndex := 10, attributes := #[] }])
  fields := #[{ name := "name", type := (.object "java/lang/String"), accessFlags := 18, slot := 0, constantValue := 0 }, { name := "ordinal", type := .int, accessFlags := 18, slot := 1, constantValue := 0 }, { name := "hash", type := .int, accessFlags := 2, slot := 2, constantValue := 0 }]
  methods := #[]
  instanceTypes := #[(.object "java/lang/String"), .int, .int]
  staticTypes := #[]
  resolved := Array.replicate 204 none
  statics := none }

def pool6 : Array CpInfo := pool [(1, .class_ 2), (0, u "com/example/deliver/deliver/JobState"), (0, .fieldref 1 4), (0, .nameAndType 5 6), (0, u "AWAITING_SCHEDULING"), (0, u "Lcom/example/deliver/deliver/JobState;"), (2, u "EXECUTING"), (0, .fieldref 1 11), (0, .nameAndType 12 6), (0, u "SUCCEEDED"), (0, .fieldref 1 14), (0, .nameAndType 15 6), (0, u "DISCARDED"), (0, .fieldref 1 17), (0, .nameAndType 18 6), (0, u "AWAITING_RETRY"), (2, u "ARCHIVING"), (0, .fieldref 1 23), (0, .nameAndType 24 6), (0, u "ARCHIVED"), (0, .fieldref 1 26), (0, .nameAndType 27 6), (0, u "CANCELLED"), (2, u "$VALUES"), (0, u "[Lcom/example/deliver/deliver/JobState;"), (6, .class_ 40), (1, u "java/lang/Enum"), (14, u "label"), (0, u "Ljava/lang/String;"), (33, u "awaitsAttempt"), (0, u "()Z"), (1, u "ended")] 26

def k6c0 : Code := { maxStack := 2, maxLocals := 1, code := prog_10_method_5_code, exceptionTable := #[], attributes := #[] }
def k6m0 : Method := { name := "awaitsAttempt", desc := "()Z", sig := { parameters := [], returnType := some .boolean }, accessFlags := 0, code := some k6c0 }
def k6c1 : Code := { maxStack := 2, maxLocals := 1, code := prog_10_method_6_code, exceptionTable := #[], attributes := #[] }
def k6m1 : Method := { name := "ended", desc := "()Z", sig := { parameters := [], returnType := some .boolean }, accessFlags := 0, code := some k6c1 }
/-- com/example/deliver/deliver/JobState -/
def k6 : Class := { plain "com/example/deliver/deliver/JobState" (some 5) with
  accessFlags := 16432
  interfaces := #[]
  cf := some (fileOf pool6 1 #[] #[{ accessFlags := 0, nameIndex := 90, descriptorIndex := 91, attributes := #[] }, { accessFlags := 0, nameIndex := 93, descriptorIndex := 91, attributes := #[] }] 16432 38 #[] #[{ accessFlags := 16409, nameIndex := 5, descriptorIndex := 6, attributes := #[] }, { accessFlags := 16409, nameIndex := 9, descriptorIndex := 6, attributes := #[] }, { accessFlags := 16409, nameIndex := 12, descriptorIndex := 6, attributes := #[] }, { accessFlags := 16409, nameIndex := 15, descriptorIndex := 6, attributes := #[] }, { accessFlags := 16409, nameIndex := 18, descriptorIndex := 6, attributes := #[] }, { accessFlags := 16409, nameIndex := 21, descriptorIndex := 6, attributes := #[] }, { accessFlags := 16409, nameIndex := 24, descriptorIndex := 6, attributes := #[] }, { accessFlags := 16409, nameIndex := 27, descriptorIndex := 6, attributes := #[] }, { accessFlags := 18, nameIndex := 55, descriptorIndex := 56, attributes := #[] }, { accessFlags := 4122, nameIndex := 30, descriptorIndex := 31, attributes := #[] }])
  fields := #[{ name := "AWAITING_SCHEDULING", type := (.object "com/example/deliver/deliver/JobState"), accessFlags := 16409, slot := 0, constantValue := 0 }, { name := "EXECUTING", type := (.object "com/example/deliver/deliver/JobState"), accessFlags := 16409, slot := 1, constantValue := 0 }, { name := "SUCCEEDED", type := (.object "com/example/deliver/deliver/JobState"), accessFlags := 16409, slot := 2, constantValue := 0 }, { name := "DISCARDED", type := (.object "com/example/deliver/deliver/JobState"), accessFlags := 16409, slot := 3, constantValue := 0 }, { name := "AWAITING_RETRY", type := (.object "com/example/deliver/deliver/JobState"), accessFlags := 16409, slot := 4, constantValue := 0 }, { name := "ARCHIVING", type := (.object "com/example/deliver/deliver/JobState"), accessFlags := 16409, slot := 5, constantValue := 0 }, { name := "ARCHIVED", type := (.object "com/example/deliver/deliver/JobState"), accessFlags := 16409, slot := 6, constantValue := 0 }, { name := "CANCELLED", type := (.object "com/example/deliver/deliver/JobState"), accessFlags := 16409, slot := 7, constantValue := 0 }, { name := "label", type := (.object "java/lang/String"), accessFlags := 18, slot := 3, constantValue := 0 }, { name := "$VALUES", type := (.array (.object "com/example/deliver/deliver/JobState")), accessFlags := 4122, slot := 8, constantValue := 0 }]
  methods := #[k6m0, k6m1]
  instanceTypes := #[(.object "java/lang/String"), .int, .int, (.object "java/lang/String")]
  staticTypes := #[(.object "com/example/deliver/deliver/JobState"), (.object "com/example/deliver/deliver/JobState"), (.object "com/example/deliver/deliver/JobState"), (.object "com/example/deliver/deliver/JobState"), (.object "com/example/deliver/deliver/JobState"), (.object "com/example/deliver/deliver/JobState"), (.object "com/example/deliver/deliver/JobState"), (.object "com/example/deliver/deliver/JobState"), (.array (.object "com/example/deliver/deliver/JobState"))]
  resolved := Array.replicate 120 none
  statics := some 0 }

def pool7 : Array CpInfo := pool [(1, u "java/lang/Cloneable"), (0, .class_ 1), (0, u "java/lang/Object"), (0, .class_ 3)] 3

/-- java/lang/Cloneable -/
def k7 : Class := { plain "java/lang/Cloneable" (some 0) with
  accessFlags := 1537
  interfaces := #[]
  cf := some (fileOf pool7 2 #[] #[] 1537 4 #[] #[])
  fields := #[]
  methods := #[]
  instanceTypes := #[]
  staticTypes := #[]
  resolved := Array.replicate 8 none
  statics := none }

/-- the primitive byte -/
def k8 : Class := { plain "byte" none with kind := .primitive 'B', accessFlags := 0x411 }
/-- [B -/
def k9 : Class := { plain "[B" (some 0) with kind := .array 8 .byte, interfaces := #[7, 4], accessFlags := 1041 }

/-- the primitive int -/
def k10 : Class := { plain "int" none with kind := .primitive 'I', accessFlags := 0x411 }
/-- [I -/
def k11 : Class := { plain "[I" (some 0) with kind := .array 10 .int, interfaces := #[7, 4], accessFlags := 1041 }

def heap : Heap := #[{ cls := 6, slots := #[.ref 1, .ref 2, .ref 3, .ref 4, .ref 5, .ref 6, .ref 7, .ref 8, .null], vm := .statics 6 },
  { cls := 6, slots := #[.null, .int 0, .int 0, .null], vm := .none },
  { cls := 6, slots := #[.null, .int 1, .int 0, .null], vm := .none },
  { cls := 6, slots := #[.null, .int 2, .int 0, .null], vm := .none },
  { cls := 6, slots := #[.null, .int 3, .int 0, .null], vm := .none },
  { cls := 6, slots := #[.null, .int 4, .int 0, .null], vm := .none },
  { cls := 6, slots := #[.null, .int 5, .int 0, .null], vm := .none },
  { cls := 6, slots := #[.null, .int 6, .int 0, .null], vm := .none },
  { cls := 6, slots := #[.null, .int 7, .int 0, .null], vm := .none }]
def classes : Array Class := #[k0, k1, k2, k3, k4, k5, k6, k7, k8, k9, k10, k11]
def interned : List (Array UInt16 × Addr) := []
def slotsUsed : Nat := 41
def theMethod : MethodId := ⟨1, 3⟩
def args0 : Array Value := #[.int 5]
def aboutOver (below : List Frame) : State where
  vm := { classes := classes, interned := interned.toArray }
  heap := heap
  slotsUsed := slotsUsed
  threads := #[{ frames := .invoking theMethod args0 :: below }]
def below0 : List Frame := [.native { method := ⟨0, 0⟩, args := #[] }]
def about1 : State := aboutOver below0
def p0 : Program := .bare "" "" ""
def e0 : Env := launch0.env 0 0 0
theorem w_frames : about1.frames = Frame.invoking theMethod args0 :: below0 := rfl
set_option maxRecDepth 65536 in
theorem w_args : argsFit about1.vm theMethod args0 = true := by decide +kernel
set_option maxRecDepth 65536 in
theorem w_heap : heapFits about1 = true := by decide +kernel
set_option maxRecDepth 65536 in
theorem w_runnable : about1.curStatus? = some .runnable := by decide +kernel
set_option maxRecDepth 65536 in
theorem w_alone : about1.alone = true := by decide +kernel
set_option maxRecDepth 65536 in
theorem w_named : about1.methodNamed? x = some theMethod := by decide +kernel
set_option maxRecDepth 65536 in
theorem w_hears : about1.hears theMethod below0 = true := by decide +kernel
set_option maxRecDepth 65536 in
theorem w_ripe : about1.ripe theMethod args0 below0 = true := by decide +kernel
theorem w_running : about1.status = .running := rfl
set_option maxRecDepth 65536 in
theorem w_room : about1.hasRoom e0.platform room_1 = true :=
  launch0.hasRoom_least _ room_1 (by decide +kernel) (by decide +kernel) (by decide +kernel) (by decide +kernel) (by decide +kernel) (by decide +kernel)
theorem allAtoms_all (ts : List Jvm.Cond) (a : Array Jvm.Value) (st : Jvm.State) : (allAtoms ts).before a st = ts.all (fun c => c.before a st) := by
  induction ts with
  | nil => rfl
  | cons c t ih =>
    show (Jvm.Cond.and c (allAtoms t)).before a st = _
    rw [Jvm.Cond.before_and, ih, List.all_cons]
def words1 : List Jvm.Cond := Jvm.Cond.code x code maxLocals ret :: tables_1
/-- a 'code' word, met by the world's own term for the bytes: nothing is compared byte by byte -/
theorem code_word {y : MethodName} {bytes : ByteArray} {mx : Nat} {rt : Option FieldType} {a : Array Value} {s : State} {m : MethodId} {meth : Method} {c : Code} (h1 : s.methodNamed? y = some m) (h2 : s.vm.method? m = some meth) (h3 : meth.code = some c) (h4 : c.code = bytes)
    (h5 : (c.maxLocals == mx && c.exceptionTable.isEmpty && decide (c.maxStack ≤ mostOperands) && decide (meth.sig.returnType = rt) && !meth.locks && decide (parseMethodDescriptor y.desc = some meth.sig)) = true) : (Jvm.Cond.code y bytes mx rt).before a s = true := by
  simp only [Bool.and_eq_true, beq_iff_eq, Bool.not_eq_true', decide_eq_true_eq] at h5
  obtain ⟨⟨⟨⟨⟨g1, g2⟩, g3⟩, g4⟩, g5⟩, g6⟩ := h5
  simp [Cond.before, Cond.holds, Cond.value, h1, h2, h3, h4, g1, g2, g3, g4, g5, g6]
def isCode : Jvm.Cond → Bool
  | .code _ _ _ _ => true
  | _ => false
theorem all_split {L : List Jvm.Cond} {P : Jvm.Cond → Bool} (h1 : L.all (fun c => isCode c || P c) = true) (h2 : ∀ c ∈ L.filter isCode, P c = true) : L.all P = true := by
  refine List.all_eq_true.mpr fun c hc => ?_
  have h := List.all_eq_true.mp h1 c hc
  rcases Bool.eq_false_or_eq_true (isCode c) with hi | hi
  · exact h2 c (List.mem_filter.mpr ⟨hc, hi⟩)
  · simpa [hi] using h
set_option maxRecDepth 65536 in
theorem w_c0 : (Jvm.Cond.code x code maxLocals ret).before args0 about1 = true := code_word (m := ⟨1, 3⟩) (meth := k1m3) (c := k1c3) (by decide +kernel) rfl rfl rfl (by decide +kernel)
set_option maxRecDepth 65536 in
theorem w_c1 : (Jvm.Cond.code ({ cls := "com/example/deliver/deliver/JobStateAwaitsAttemptPinLaw", name := "pick", desc := "(I)Lcom/example/deliver/deliver/JobState;" } : Jvm.MethodName) method_2_code (1 : Nat) (Option.some (Jvm.ClassFile.FieldType.object "com/example/deliver/deliver/JobState"))).before args0 about1 = true := code_word (m := ⟨1, 1⟩) (meth := k1m1) (c := k1c1) (by decide +kernel) rfl rfl rfl (by decide +kernel)
set_option maxRecDepth 65536 in
theorem w_c2 : (Jvm.Cond.code ({ cls := "com/example/deliver/deliver/JobState", name := "awaitsAttempt", desc := "()Z" } : Jvm.MethodName) prog_10_method_5_code (1 : Nat) (Option.some Jvm.ClassFile.FieldType.boolean)).before args0 about1 = true := code_word (m := ⟨6, 0⟩) (meth := k6m0) (c := k6c0) (by decide +kernel) rfl rfl rfl (by decide +kernel)
set_option maxRecDepth 65536 in
theorem w_c3 : (Jvm.Cond.code ({ cls := "com/example/deliver/deliver/JobState", name := "ended", desc := "()Z" } : Jvm.MethodName) prog_10_method_6_code (1 : Nat) (Option.some Jvm.ClassFile.FieldType.boolean)).before args0 about1 = true := code_word (m := ⟨6, 1⟩) (meth := k6m1) (c := k6c1) (by decide +kernel) rfl rfl rfl (by decide +kernel)
set_option maxRecDepth 65536 in
theorem w_c4 : (Jvm.Cond.code ({ cls := "com/example/deliver/deliver/JobStateAwaitsAttemptPinLaw", name := "expectedAwaits", desc := "(I)Z" } : Jvm.MethodName) method_3_code (1 : Nat) (Option.some Jvm.ClassFile.FieldType.boolean)).before args0 about1 = true := code_word (m := ⟨1, 2⟩) (meth := k1m2) (c := k1c2) (by decide +kernel) rfl rfl rfl (by decide +kernel)
def codes1 : List Jvm.Cond := [Jvm.Cond.code x code maxLocals ret, Jvm.Cond.code ({ cls := "com/example/deliver/deliver/JobStateAwaitsAttemptPinLaw", name := "pick", desc := "(I)Lcom/example/deliver/deliver/JobState;" } : Jvm.MethodName) method_2_code (1 : Nat) (Option.some (Jvm.ClassFile.FieldType.object "com/example/deliver/deliver/JobState")), Jvm.Cond.code ({ cls := "com/example/deliver/deliver/JobState", name := "awaitsAttempt", desc := "()Z" } : Jvm.MethodName) prog_10_method_5_code (1 : Nat) (Option.some Jvm.ClassFile.FieldType.boolean), Jvm.Cond.code ({ cls := "com/example/deliver/deliver/JobState", name := "ended", desc := "()Z" } : Jvm.MethodName) prog_10_method_6_code (1 : Nat) (Option.some Jvm.ClassFile.FieldType.boolean), Jvm.Cond.code ({ cls := "com/example/deliver/deliver/JobStateAwaitsAttemptPinLaw", name := "expectedAwaits", desc := "(I)Z" } : Jvm.MethodName) method_3_code (1 : Nat) (Option.some Jvm.ClassFile.FieldType.boolean)]
set_option maxRecDepth 65536 in
theorem codes_eq : words1.filter isCode = codes1 := rfl
theorem w_codes : ∀ c ∈ words1.filter isCode, c.before args0 about1 = true := by
  rw [codes_eq]
  intro c hc
  simp only [codes1, List.mem_cons, List.not_mem_nil, or_false] at hc
  rcases hc with rfl | rfl | rfl | rfl | rfl
  · exact w_c0
  · exact w_c1
  · exact w_c2
  · exact w_c3
  · exact w_c4
set_option maxRecDepth 65536 in
theorem w_t1 : (words1.take 24).all (fun c => isCode c || c.before args0 about1) = true := by decide +kernel
set_option maxRecDepth 65536 in
theorem w_t2 : (words1.drop 24).all (fun c => isCode c || c.before args0 about1) = true := by decide +kernel
theorem w_tables : (allAtoms (Jvm.Cond.code x code maxLocals ret :: tables_1)).before args0 about1 = true := by
  rw [allAtoms_all]
  show words1.all (fun c => c.before args0 about1) = true
  refine all_split ?_ w_codes
  rw [← List.take_append_drop 24 words1, List.all_append, w_t1, w_t2]
  rfl
set_option maxRecDepth 65536 in
theorem w_case : (Jvm.Cond.and given_1 narrow_1).before args0 about1 = true := by decide +kernel
theorem w_applies : (headSpec (Jvm.Cond.code x code maxLocals ret :: tables_1) room_1).applies x e0.platform about1 = true :=
  (Spec.applies_iff w_frames).mpr ⟨w_running, w_runnable, w_alone, w_named, w_hears, w_ripe, w_room, w_tables⟩
theorem atStart : AtStart classFile x code maxLocals ret World_1 tables_1 room_1 Calls_1 rest_1 Pre_1 launch0 p0 e0 about1 theMethod args0 below0 :=
  ⟨lists_1, trivial, launch0.admits_env _ _ _, launch0.least_env, fairChoices_fair.cas, fairChoices_fair.clock, w_frames, w_args, w_heap, w_applies, trivial, trivial, w_case⟩
end start1
theorem witness_1 : WitnessClaimed_1 := ⟨start1.p0, start1.e0, start1.about1, start1.theMethod, start1.args0, start1.below0, start1.atStart⟩
end Jvm.Pilot.@@N@@
