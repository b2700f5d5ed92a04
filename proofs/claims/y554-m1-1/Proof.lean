import JvmDerived
import JvmDerived.Pilot.@@N@@Statement
import JvmDerived.Pilot.@@N@@Code
set_option linter.unusedVariables false
set_option linter.unusedSimpArgs false
namespace Jvm.Pilot.@@N@@
open Jvm Jvm.ClassFile Sem Op Lib Jvm.Free Jvm.Stand Jvm.LawKit Jvm.RoadKit Bundle Jvm.Pilot.@@N@@.Jvm.D
abbrev oI (x : Int32) : Slot := .val (.int x)
abbrev oR (x : Addr) : Slot := .val (.ref x)
abbrev oD (x : UInt64) : Slot := .val (.double x)
abbrev oF (x : UInt32) : Slot := .val (.float x)
abbrev oJ (x : Int64) : Slot := .val (.long x)
section Own
variable {p : Program} {l : Launch} {e : Env} {R : Room} {s : State} {m : MethodId} {args : Array Value} {below : List Frame} {meth : Method} {c : Code} {T T' : State} {locs : List Loc} {cells slots : Nat} {Z : State} {a0 : Array Value} {h h0 : Heap} {K : State → Outcome → Prop} {Q : Option Value → Heap → List Loc → Prop}
/-- from the frame g over the state T the run comes to an end that K takes -/
def own_Go (p : Program) (e : Env) (below : List Frame) (K : State → Outcome → Prop) (T : State) (g : JFrame) : Prop :=
  ∃ s₂ o, Steps p.tables e below (T.setTop g) s₂ ∧ s₂.status = .running ∧ Ended s₂ below o ∧ K s₂ o
theorem own_by {g g' : JFrame} (h : ∀ t, Steps p.tables e below (T'.setTop g') t → Steps p.tables e below (T.setTop g) t) (k : own_Go p e below K T' g') : own_Go p e below K T g := by
  obtain ⟨s2, o, h1, h2⟩ := k
  exact ⟨s2, o, h _ h1, h2⟩
def own_K (s : State) (k n : Nat) (Q : Option Value → Heap → List Loc → Prop) (t : State) (o : Outcome) : Prop := ∃ v L, o = .returned v ∧ Q v t.heap L ∧ FrameEnd s o t L k n
def own_Met (l : Launch) (y : MethodName) (bytes : ByteArray) (mx : Nat) (ret : Option FieldType) (ws : List Jvm.Cond) (rm : Room) (Z : State) (as' : Array Value) (h0 : Heap) (Q : Option Value → Heap → List Loc → Prop) : Prop :=
  MetFree l y (head1 (Jvm.Cond.code y bytes mx ret :: ws) rm) (fun a U => a = as' ∧ Z.Warmed39 U.vm ∧ U.heap = h0) (fun _ _ _ _ _ => True) (fun _ U o U' => ∃ v L, o = .returned v ∧ Q v U'.heap L ∧ FrameEnd U o U' L rm.cells rm.slots)
theorem own_enter {y : MethodName} {bytes : ByteArray} {mx : Nat} {ret : Option FieldType} {ws : List Jvm.Cond} {rm : Room} {as' : Array Value} (hn : plainName y.cls = true)
    (body : ∀ (p : Program) (e : Env) (s : State) (m : MethodId) (below : List Frame) (meth : Method) (c : Code) (T0 : State), p.tables.exec = Jvm.exec → c.code = bytes → c.maxLocals = mx → meth.sig.returnType = ret → meth.locks = false → s.vm.findClass y.cls = some m.cls → meth.name = y.name → Z.Warmed39 s.vm →
      Stand p l e rm s m as' below meth c T0 [] 0 0 → T0.heap = h0 → own_Go p e below (own_K s rm.cells rm.slots Q) T0 (entryFrame m as' mx)) : own_Met l y bytes mx ret ws rm Z as' h0 Q := by
  refine MetFree.of_bodySF (plainFor_of_name hn) hisR ?_
  intro p e s m args below meth c s₁ Bd hml hP hK
  obtain ⟨rfl, hZ, hh⟩ := hP
  obtain ⟨s2, o, h1, h2, h3, h4⟩ := body p e s m below meth c s₁ Bd.exec Bd.bytes hml Bd.returns Bd.notSynchronized (findClass_of_methodNamed Bd.named) (name_of_methodNamed Bd.named Bd.method).1 hZ (Stand.of_body Bd) (by rw [← hh, Bd.state]; rfl)
  exact ⟨s2, o, h1, h2, h3, h4⟩
theorem own_at {g g' : JFrame} (q : g = g') (k : own_Go p e below K T g') : own_Go p e below K T g := q ▸ k
theorem own_leave (X : Stand p l e R s m args below meth c T locs cells slots) (hlk : meth.locks = false) {v : Option Value} {k n : Nat} (hv : meth.sig.returnType = none → v = none) {g : JFrame}
    (step : ∀ fs, (∀ (f : JFrame) (acts : List Action), f.method = m → f.locked = none → f.entered = [] → (doReturn e (T.setTop f) acts v).1 = T.setFrames fs) → Steps p.tables e below (T.setTop g) (T.setFrames fs)) (hk : cells ≤ k) (hn : slots ≤ n) (hQ : Q v T.heap locs) : own_Go p e below (own_K s k n Q) T g := by
  obtain ⟨fs, hr, hrun, hended, hW, hsame⟩ := X.leave (v := v) hv hlk
  exact ⟨_, _, step fs hr, hrun, hended, v, locs, rfl, hQ, ⟨_, rfl⟩, hW, hsame.mono hk hn⟩
theorem own_retI (X : Stand p l e R s m args below meth c T locs cells slots) (hx : p.tables.exec = Jvm.exec) (hlk : meth.locks = false) (hret : meth.sig.returnType = some .int) {pc : Nat} {Ls : Array Slot} {z : Int32} {rest : List Value} {k n : Nat} (hd : decode c.code pc = .ok (.ireturn, 1)) (hk : cells ≤ k) (hn : slots ≤ n) (hQ : Q (some (.int z)) T.heap locs) :
    own_Go p e below (own_K s k n Q) T (mkF m pc Ls (.int z :: rest)) := by
  refine own_leave X hlk (v := some (.int z)) (fun h => by rw [hret] at h; cases h) (fun fs hl => ?_) hk hn hQ
  have hm' : T.vm.method? m = some meth := X.method'
  have hn : narrow .int (.int z) = .int z := rfl
  show Steps p.tables e below (T.setTop { method := m, pc := pc, locals := Ls, stack := _ :: rest, locked := none }) _
  jvm_step X.here [X.here.top, hx, hd, hm', hret, hn]
  first | (intro acts; rw [hl _ acts rfl rfl rfl]) | rw [hl _ _ rfl rfl rfl]
  exact Steps.refl _
theorem own_retN (X : Stand p l e R s m args below meth c T locs cells slots) (hx : p.tables.exec = Jvm.exec) (hlk : meth.locks = false) {t : FieldType} (hret : meth.sig.returnType = some t) (ht : t = .boolean ∨ t = .byte ∨ t = .char ∨ t = .short) {pc : Nat} {Ls : Array Slot} {z w : Int32} {rest : List Value} {k n : Nat} (hd : decode c.code pc = .ok (.ireturn, 1)) (hw : nar t z = w) (hk : cells ≤ k) (hn : slots ≤ n) (hQ : Q (some (.int w)) T.heap locs) :
    own_Go p e below (own_K s k n Q) T (mkF m pc Ls (.int z :: rest)) := by
  subst hw
  exact own_leave X hlk (v := some (.int (nar t z))) (fun h => by rw [hret] at h; cases h) (fun fs hl => retN X hx hret ht hd hl) hk hn hQ
theorem own_retA (X : Stand p l e R s m args below meth c T locs cells slots) (hx : p.tables.exec = Jvm.exec) (hlk : meth.locks = false) {t : FieldType} (hret : meth.sig.returnType = some t) (ht : t.isReference = true) {pc : Nat} {Ls : Array Slot} {v : Value} (hv : v.isRef = true) {rest : List Value} {k n : Nat} (hd : decode c.code pc = .ok (.areturn, 1)) (hk : cells ≤ k) (hn : slots ≤ n) (hQ : Q (some v) T.heap locs) :
    own_Go p e below (own_K s k n Q) T (mkF m pc Ls (v :: rest)) :=
  own_leave X hlk (v := some v) (fun h => by rw [hret] at h; cases h) (fun fs hl => retOut X hx hret (by cases t <;> first | (cases ht; done) | (rcases ref_cases hv with rfl | ⟨a, rfl⟩ <;> rfl)) (Or.inr (Or.inr (Or.inr (Or.inr ⟨rfl, ht, hv⟩)))) hd hl) hk hn hQ
theorem own_retV (X : Stand p l e R s m args below meth c T locs cells slots) (hx : p.tables.exec = Jvm.exec) (hlk : meth.locks = false) (hret : meth.sig.returnType = none) {pc : Nat} {Ls : Array Slot} {k n : Nat} (hd : decode c.code pc = .ok (.return_, 1)) (hk : cells ≤ k) (hn : slots ≤ n) (hQ : Q none T.heap locs) :
    own_Go p e below (own_K s k n Q) T (mkF m pc Ls []) :=
  own_leave X hlk (v := none) (fun _ => rfl) (fun fs hl => X.returnOut hx hret hd hl) hk hn hQ
theorem own_callS (X : Stand p l e R s m args below meth c T locs cells slots) (hx : p.tables.exec = Jvm.exec) (hZ : Z.Warmed39 s.vm) {own : String} {index : Nat} {y : MethodName} {bytes : ByteArray} {mx : Nat} {ret : Option FieldType} {rm : Room} (hown : s.vm.findClass own = some m.cls) (w1 : (Jvm.Cond.methodLink own index y).before a0 Z = true) (w2 : (Jvm.Cond.static y).before a0 Z = true) (w3 : (Jvm.Cond.initialized y.cls).before a0 Z = true) (w4 : (Jvm.Cond.code y bytes mx ret).before a0 Z = true)
    (hy : y.cls ≠ "java/lang/invoke/MethodHandle" ∧ y.cls ≠ "java/lang/invoke/VarHandle") (eT : T.heap = h) {argsL rest : List Value} (M : own_Met l y bytes mx ret [] rm Z argsL.toArray h Q) (W : Nat) (hf : rm.frames + 1 ≤ R.frames) (hl : W + (mx + 11) + rm.locals ≤ R.locals) {pc : Nat} {Ls : Array Slot} (hsize : Ls.size = c.maxLocals)
    (hlen : ∀ sig, parseMethodDescriptor y.desc = some sig → argsL.length = sig.parameters.length) (hW : (rest.map fun v => v.category).sum ≤ W) (hd : decode c.code pc = .ok (.invokestatic index, 3)) (hc : cells + rm.cells ≤ R.cells) (hs : slots + rm.slots ≤ R.slots) {st : List Value} (hst : st = argsL.reverse ++ rest)
    (k : ∀ (T' : State) (L : List Loc) (v : Option Value), Stand p l e R s m args below meth c T' (locs ++ L) (cells + rm.cells) (slots + rm.slots) → Q v T'.heap L → own_Go p e below K T' (mkF m (pc + 3) Ls (v.toList ++ rest))) : own_Go p e below K T (mkF m pc Ls st) := by
  obtain ⟨v, _, ⟨T1, L1, k1, n1⟩, -, X1, ⟨Lc, hQ, l1, y1, z1⟩, stp⟩ := Jvm.LawKit.callS X hx hown (mvT hZ w1) (mvT hZ w2) (mvT hZ w3) (mvT hZ w4) hy (backOf (W := W) M hZ w4 w3 hf hl) (g := mkF m pc Ls st) rfl hsize (argsL := argsL) (rest := rest) hlen hst (by show 2 * 0 + _ ≤ _; omega) hd (fun _ _ => ⟨rfl, eT, hc, hs⟩)
  dsimp only [Pt.U, Pt.locs, Pt.cells, Pt.slots] at X1 l1 y1 z1 stp hQ
  subst l1 y1 z1
  exact own_by stp (k T1 Lc v X1 hQ)
theorem own_callV (X : Stand p l e R s m args below meth c T locs cells slots) (hx : p.tables.exec = Jvm.exec) (hZ : Z.Warmed39 s.vm) {own C : String} {index : Nat} {y : MethodName} {bytes : ByteArray} {mx : Nat} {ret : Option FieldType} {rm : Room} (hown : s.vm.findClass own = some m.cls) (w1 : (Jvm.Cond.methodLink own index y).before a0 Z = true) (w2 : (Jvm.Cond.declares y).before a0 Z = true) (w3 : (Jvm.Cond.selects C y y).before a0 Z = true) (w4 : (Jvm.Cond.instanceMethod y).before a0 Z = true) (w5 : (Jvm.Cond.code y bytes mx ret).before a0 Z = true) (w6 : (Jvm.Cond.initialized y.cls).before a0 Z = true)
    (hy : y.cls ≠ "java/lang/invoke/MethodHandle" ∧ y.cls ≠ "java/lang/invoke/VarHandle") (eT : T.heap = h) {b : Addr} (E : Exa Z h b C) {argsL rest : List Value} (M : own_Met l y bytes mx ret [] rm Z (.ref b :: argsL).toArray h Q) (W : Nat) (hf : rm.frames + 1 ≤ R.frames) (hl : W + (mx + 11) + rm.locals ≤ R.locals) {pc : Nat} {Ls : Array Slot} (hsize : Ls.size = c.maxLocals)
    (hlen : ∀ sig, parseMethodDescriptor y.desc = some sig → argsL.length = sig.parameters.length) (hW : (rest.map fun v => v.category).sum ≤ W) (hd : decode c.code pc = .ok (.invokevirtual index, 3)) (hc : cells + rm.cells ≤ R.cells) (hs : slots + rm.slots ≤ R.slots) {st : List Value} (hst : st = argsL.reverse ++ .ref b :: rest)
    (k : ∀ (T' : State) (L : List Loc) (v : Option Value), Stand p l e R s m args below meth c T' (locs ++ L) (cells + rm.cells) (slots + rm.slots) → Q v T'.heap L → own_Go p e below K T' (mkF m (pc + 3) Ls (v.toList ++ rest))) : own_Go p e below K T (mkF m pc Ls st) := by
  obtain ⟨cq, kq, qa, qb, qc⟩ := isOf (T := T) hZ eT E
  obtain ⟨v, _, ⟨T1, L1, k1, n1⟩, -, X1, ⟨Lc, hQ, l1, y1, z1⟩, stp⟩ := X.virtualBack hx hown (mvT hZ w1) (mvT hZ w2) (notFace_of_selects (args := #[]) (mvT hZ w3)) (mvT hZ w3) (mvT hZ w4) hy (backOf (W := W) M hZ w5 w6 hf hl) qa qc (g := mkF m pc Ls st) rfl hsize (Steps.refl _) (argsL := argsL) (rest := rest) hlen hst (by show 2 * 0 + _ ≤ _; omega) hd (fun _ _ => ⟨rfl, eT, hc, hs⟩)
  dsimp only [Pt.U, Pt.locs, Pt.cells, Pt.slots] at X1 l1 y1 z1 stp hQ
  subst l1 y1 z1
  exact own_by (fun t q => stp.trans q) (k T1 Lc v X1 hQ)
theorem own_callN (X : Stand p l e R s m args below meth c T locs cells slots) (hx : p.tables.exec = Jvm.exec) (hZ : Z.Warmed39 s.vm) {own : String} {index : Nat} {y : MethodName} {bytes : ByteArray} {mx : Nat} {rm : Room} (hy1 : y.name = "<init>") (hown : s.vm.findClass own = some m.cls) (w1 : (Jvm.Cond.methodLink own index y).before a0 Z = true) (w2 : (Jvm.Cond.instanceMethod y).before a0 Z = true) (w3 : (Jvm.Cond.code y bytes mx none).before a0 Z = true) (w4 : (Jvm.Cond.initialized y.cls).before a0 Z = true)
    (hy : y.cls ≠ "java/lang/invoke/MethodHandle" ∧ y.cls ≠ "java/lang/invoke/VarHandle") (eT : T.heap = h) {b : Addr} {argsL rest : List Value} (M : own_Met l y bytes mx none [] rm Z (.ref b :: argsL).toArray h Q) (W : Nat) (hf : rm.frames + 1 ≤ R.frames) (hl : W + (mx + 11) + rm.locals ≤ R.locals) {pc : Nat} {Ls : Array Slot} (hsize : Ls.size = c.maxLocals)
    (hlen : ∀ sig, parseMethodDescriptor y.desc = some sig → argsL.length = sig.parameters.length) (hW : (rest.map fun v => v.category).sum ≤ W) (hd : decode c.code pc = .ok (.invokespecial index, 3)) (hc : cells + rm.cells ≤ R.cells) (hs : slots + rm.slots ≤ R.slots) {st : List Value} (hst : st = argsL.reverse ++ .ref b :: rest)
    (k : ∀ (T' : State) (L : List Loc) (v : Option Value), Stand p l e R s m args below meth c T' (locs ++ L) (cells + rm.cells) (slots + rm.slots) → Q v T'.heap L → own_Go p e below K T' (mkF m (pc + 3) Ls (v.toList ++ rest))) : own_Go p e below K T (mkF m pc Ls st) := by
  obtain ⟨v, _, ⟨T1, L1, k1, n1⟩, -, X1, ⟨Lc, hQ, l1, y1, z1⟩, stp⟩ := X.specialBack hx hy1 hown (mvT hZ w1) (mvT hZ w2) (mvT hZ w3) hy (backOf (W := W) M hZ w3 w4 hf hl) (g := mkF m pc Ls st) rfl hsize (Steps.refl _) (a := b) (argsL := argsL) (rest := rest) hlen hst (by show 2 * 0 + _ ≤ _; omega) hd (fun _ _ => ⟨rfl, eT, hc, hs⟩)
  dsimp only [Pt.U, Pt.locs, Pt.cells, Pt.slots] at X1 l1 y1 z1 stp hQ
  subst l1 y1 z1
  exact own_by (fun t q => stp.trans q) (k T1 Lc v X1 hQ)
end Own
def own_S (Z : State) (h : Heap) (w0 w1 w2 w3 : Addr) : Prop := Sta Z h "com/example/nimble_gate/nimblegate/decision/Decision" "PERMIT" "Lcom/example/nimble_gate/nimblegate/decision/Decision;" (.ref w0) ∧ Sta Z h "com/example/nimble_gate/nimblegate/decision/Decision" "DENY" "Lcom/example/nimble_gate/nimblegate/decision/Decision;" (.ref w1) ∧ Sta Z h "com/example/nimble_gate/nimblegate/decision/Decision" "NOT_APPLICABLE" "Lcom/example/nimble_gate/nimblegate/decision/Decision;" (.ref w2) ∧ Sta Z h "com/example/nimble_gate/nimblegate/decision/Decision" "INDETERMINATE" "Lcom/example/nimble_gate/nimblegate/decision/Decision;" (.ref w3)
theorem own_eqi {args : Array Value} {s : State} {t : Term} {k : Int32} (h : (Jvm.Cond.eq t (.int k)).value args s none s [] = some true) : t.eval args s none [] s = some (.int k) := by
  have hk : (Term.int k).eval args s none [] s = some (.int k) := Term.int_eval k
  cases ht : t.eval args s none [] s with
  | none => simp [Cond.value, ht] at h
  | some y => cases y <;> simp [Cond.value, ht, hk] at h ⊢; exact h
theorem own_mask (x : Int32) : x &&& (3 : Int32) = (0 : Int32) ∨ x &&& (3 : Int32) = (1 : Int32) ∨ x &&& (3 : Int32) = (2 : Int32) ∨ x &&& (3 : Int32) = (3 : Int32) := by
  have h := c_mask x (3 : Int32) 2 (by decide) (by decide)
  have h2 : (x &&& (3 : Int32)).toInt = 0 ∨ (x &&& (3 : Int32)).toInt = 1 ∨ (x &&& (3 : Int32)).toInt = 2 ∨ (x &&& (3 : Int32)).toInt = 3 := by omega
  rcases h2 with q | q | q | q
  · exact Or.inl (Int32.toInt_inj.mp (q.trans (by decide)))
  · exact Or.inr (Or.inl (Int32.toInt_inj.mp (q.trans (by decide))))
  · exact Or.inr (Or.inr (Or.inl (Int32.toInt_inj.mp (q.trans (by decide)))))
  · exact Or.inr (Or.inr (Or.inr ((Int32.toInt_inj.mp (q.trans (by decide))))))
def own_pick (k : Int32) (w0 w1 w2 w3 : Addr) : Addr := (if k = (0 : Int32) then w0 else (if k = (1 : Int32) then w1 else (if k = (2 : Int32) then w2 else w3)))
theorem pn_0 : plainName "com/example/nimble_gate/nimblegate/decision/DecisionGrantsAccessPinLaw" = true := by first | (simp [plainName, overriddenIn]; done) | decide +kernel
theorem d1_0 : decode method_2_code 0 = .ok (.iload_n 0, 1) := by decide +kernel
theorem d1_1 : decode method_2_code 1 = .ok (.ifCond .ne 7, 3) := by decide +kernel
theorem d1_4 : decode method_2_code 4 = .ok (.getstatic 7, 3) := by decide +kernel
theorem d1_7 : decode method_2_code 7 = .ok (.areturn, 1) := by decide +kernel
theorem d1_8 : decode method_2_code 8 = .ok (.iload_n 0, 1) := by decide +kernel
theorem d1_9 : decode method_2_code 9 = .ok (.iconst 1, 1) := by decide +kernel
theorem d1_10 : decode method_2_code 10 = .ok (.if_icmp .ne 7, 3) := by decide +kernel
theorem d1_13 : decode method_2_code 13 = .ok (.getstatic 13, 3) := by decide +kernel
theorem d1_16 : decode method_2_code 16 = .ok (.areturn, 1) := by decide +kernel
theorem d1_17 : decode method_2_code 17 = .ok (.iload_n 0, 1) := by decide +kernel
theorem d1_18 : decode method_2_code 18 = .ok (.iconst 2, 1) := by decide +kernel
theorem d1_19 : decode method_2_code 19 = .ok (.if_icmp .ne 7, 3) := by decide +kernel
theorem d1_22 : decode method_2_code 22 = .ok (.getstatic 16, 3) := by decide +kernel
theorem d1_25 : decode method_2_code 25 = .ok (.areturn, 1) := by decide +kernel
theorem d1_26 : decode method_2_code 26 = .ok (.getstatic 19, 3) := by decide +kernel
theorem d1_29 : decode method_2_code 29 = .ok (.areturn, 1) := by decide +kernel
set_option maxRecDepth 65536 in
set_option maxHeartbeats 40000000 in
theorem own_pick_met (l : Launch) (Z : State) (a0 : Array Value) (hw : ∀ d ∈ tables_1, d.before a0 Z = true) (k : Int32) (w0 w1 w2 w3 : Addr) (h0 : Heap) (S : own_S Z h0 w0 w1 w2 w3) :
    own_Met l (⟨"com/example/nimble_gate/nimblegate/decision/DecisionGrantsAccessPinLaw", "pick", "(I)Lcom/example/nimble_gate/nimblegate/decision/Decision;"⟩ : MethodName) method_2_code 1 (some (.object "com/example/nimble_gate/nimblegate/decision/Decision")) [] ({ frames := 0, cells := 0, slots := 0, locals := 0 } : Room) Z #[(.int k)] h0 (fun v h L => v = some (.ref (own_pick k w0 w1 w2 w3)) ∧ h = h0 ∧ L = []) := by
  obtain ⟨S0, S1, S2, S3⟩ := S
  refine own_enter pn_0 ?_
  intro p e s m below meth c T0 hx hby hml hret hlk hown hnm hZ X0 e0
  refine own_at (g' := (mkF m 0 #[oI k] [])) (by first | rfl | (simp [entryFrame, mkF, argsToLocals, Value.category]; done)) ?_
  show own_Go p e below _ T0 (mkF m 0 #[oI k] [])
  refine own_by (fun t k => XS.iloadN X0.here hx rfl (hb hby d1_0) rfl  k) ?_
  show own_Go p e below _ T0 (mkF m 1 #[oI k] [(.int k)])
  by_cases c1_0 : k = (0 : Int32)
  · refine own_by (fun t k => XS.ifNo X0.here hx rfl (hb hby d1_1) rfl (XT.i0_ne_f c1_0) k) ?_
    show own_Go p e below _ T0 (mkF m 4 #[oI k] [])
    obtain ⟨T2, XT2, eT2, stT2⟩ := getS2 X0 hx hZ hown (host := "") (Or.inl (hw _ (List.mem_of_getElem? (i := 4) rfl))) Via.refl e0 S0 (g := (mkF m 4 #[oI k] [])) rfl (hb hby d1_4)
    refine own_by stT2 ?_
    show own_Go p e below _ T2 (mkF m 7 #[oI k] [(.ref w0)])
    exact own_retA XT2 hx hlk hret rfl rfl (hb hby d1_7) (by decide) (by decide) (⟨by rw [own_pick, if_pos c1_0], eT2, rfl⟩)
  · refine own_by (fun t k => XS.ifYes X0.here hx rfl (pc0 := 1) (pc' := 8) rfl (hb hby d1_1) rfl (XT.i0_ne_t c1_0) (by decide) (by decide) k) ?_
    show own_Go p e below _ T0 (mkF m 8 #[oI k] [])
    refine own_by (fun t k => XS.iloadN X0.here hx rfl (hb hby d1_8) rfl  k) ?_
    show own_Go p e below _ T0 (mkF m 9 #[oI k] [(.int k)])
    refine own_by (fun t k => XT.iconstV X0.here hx rfl (1 : Int32) (hb hby d1_9) (by decide) k) ?_
    show own_Go p e below _ T0 (mkF m 10 #[oI k] [(.int (1 : Int32)), (.int k)])
    by_cases c10_2 : k = (1 : Int32)
    · refine own_by (fun t k => XS.icmpNo X0.here hx rfl (hb hby d1_10) rfl (XT.ii_ne_f c10_2) k) ?_
      show own_Go p e below _ T0 (mkF m 13 #[oI k] [])
      obtain ⟨T4, XT4, eT4, stT4⟩ := getS2 X0 hx hZ hown (host := "") (Or.inl (hw _ (List.mem_of_getElem? (i := 20) rfl))) Via.refl e0 S1 (g := (mkF m 13 #[oI k] [])) rfl (hb hby d1_13)
      refine own_by stT4 ?_
      show own_Go p e below _ T4 (mkF m 16 #[oI k] [(.ref w1)])
      exact own_retA XT4 hx hlk hret rfl rfl (hb hby d1_16) (by decide) (by decide) (⟨by rw [own_pick, if_neg c1_0, if_pos c10_2], eT4, rfl⟩)
    · refine own_by (fun t k => XS.icmpYes X0.here hx rfl (pc0 := 10) (pc' := 17) rfl (hb hby d1_10) rfl (XT.ii_ne_t c10_2) (by decide) (by decide) k) ?_
      show own_Go p e below _ T0 (mkF m 17 #[oI k] [])
      refine own_by (fun t k => XS.iloadN X0.here hx rfl (hb hby d1_17) rfl  k) ?_
      show own_Go p e below _ T0 (mkF m 18 #[oI k] [(.int k)])
      refine own_by (fun t k => XT.iconstV X0.here hx rfl (2 : Int32) (hb hby d1_18) (by decide) k) ?_
      show own_Go p e below _ T0 (mkF m 19 #[oI k] [(.int (2 : Int32)), (.int k)])
      by_cases c19_4 : k = (2 : Int32)
      · refine own_by (fun t k => XS.icmpNo X0.here hx rfl (hb hby d1_19) rfl (XT.ii_ne_f c19_4) k) ?_
        show own_Go p e below _ T0 (mkF m 22 #[oI k] [])
        obtain ⟨T6, XT6, eT6, stT6⟩ := getS2 X0 hx hZ hown (host := "") (Or.inl (hw _ (List.mem_of_getElem? (i := 18) rfl))) Via.refl e0 S2 (g := (mkF m 22 #[oI k] [])) rfl (hb hby d1_22)
        refine own_by stT6 ?_
        show own_Go p e below _ T6 (mkF m 25 #[oI k] [(.ref w2)])
        exact own_retA XT6 hx hlk hret rfl rfl (hb hby d1_25) (by decide) (by decide) (⟨by rw [own_pick, if_neg c1_0, if_neg c10_2, if_pos c19_4], eT6, rfl⟩)
      · refine own_by (fun t k => XS.icmpYes X0.here hx rfl (pc0 := 19) (pc' := 26) rfl (hb hby d1_19) rfl (XT.ii_ne_t c19_4) (by decide) (by decide) k) ?_
        show own_Go p e below _ T0 (mkF m 26 #[oI k] [])
        obtain ⟨T7, XT7, eT7, stT7⟩ := getS2 X0 hx hZ hown (host := "") (Or.inl (hw _ (List.mem_of_getElem? (i := 16) rfl))) Via.refl e0 S3 (g := (mkF m 26 #[oI k] [])) rfl (hb hby d1_26)
        refine own_by stT7 ?_
        show own_Go p e below _ T7 (mkF m 29 #[oI k] [(.ref w3)])
        exact own_retA XT7 hx hlk hret rfl rfl (hb hby d1_29) (by decide) (by decide) (⟨by rw [own_pick, if_neg c1_0, if_neg c10_2, if_neg c19_4], eT7, rfl⟩)
def own_grantsAccess (a : Addr) (w0 w1 w2 w3 : Addr) : Int32 := (if a = w0 then (1 : Int32) else (0 : Int32))
theorem pn_1 : plainName "com/example/nimble_gate/nimblegate/decision/Decision" = true := by first | (simp [plainName, overriddenIn]; done) | decide +kernel
theorem d2_0 : decode prog_1_method_4_code 0 = .ok (.aload_n 0, 1) := by decide +kernel
theorem d2_1 : decode prog_1_method_4_code 1 = .ok (.getstatic 3, 3) := by decide +kernel
theorem d2_4 : decode prog_1_method_4_code 4 = .ok (.if_acmp .ne 7, 3) := by decide +kernel
theorem d2_7 : decode prog_1_method_4_code 7 = .ok (.iconst 1, 1) := by decide +kernel
theorem d2_8 : decode prog_1_method_4_code 8 = .ok (.goto 4, 3) := by decide +kernel
theorem d2_12 : decode prog_1_method_4_code 12 = .ok (.ireturn, 1) := by decide +kernel
theorem d2_11 : decode prog_1_method_4_code 11 = .ok (.iconst 0, 1) := by decide +kernel
set_option maxRecDepth 65536 in
set_option maxHeartbeats 40000000 in
theorem own_grantsAccess_met (l : Launch) (Z : State) (a0 : Array Value) (hw : ∀ d ∈ tables_1, d.before a0 Z = true) (a : Addr) (w0 w1 w2 w3 : Addr) (h0 : Heap) (S : own_S Z h0 w0 w1 w2 w3) :
    own_Met l (⟨"com/example/nimble_gate/nimblegate/decision/Decision", "grantsAccess", "()Z"⟩ : MethodName) prog_1_method_4_code 1 (some .boolean) [] ({ frames := 0, cells := 0, slots := 0, locals := 0 } : Room) Z #[(.ref a)] h0 (fun v h L => v = some (.int (own_grantsAccess a w0 w1 w2 w3)) ∧ h = h0 ∧ L = []) := by
  obtain ⟨S0, S1, S2, S3⟩ := S
  refine own_enter pn_1 ?_
  intro p e s m below meth c T0 hx hby hml hret hlk hown hnm hZ X0 e0
  refine own_at (g' := (mkF m 0 #[oR a] [])) (by first | rfl | (simp [entryFrame, mkF, argsToLocals, Value.category]; done)) ?_
  show own_Go p e below _ T0 (mkF m 0 #[oR a] [])
  refine own_by (fun t k => XS.aloadN X0.here hx rfl (hb hby d2_0) rfl rfl  k) ?_
  show own_Go p e below _ T0 (mkF m 1 #[oR a] [(.ref a)])
  obtain ⟨T1, XT1, eT1, stT1⟩ := getS2 X0 hx hZ hown (host := "") (Or.inl (hw _ (List.mem_of_getElem? (i := 12) rfl))) Via.refl e0 S0 (g := (mkF m 1 #[oR a] [(.ref a)])) rfl (hb hby d2_1)
  refine own_by stT1 ?_
  show own_Go p e below _ T1 (mkF m 4 #[oR a] [(.ref w0), (.ref a)])
  by_cases c4_1 : a = w0
  · refine own_by (fun t k => Jvm.RoadKit.acmp (g := (mkF m 4 #[oR a] [(.ref w0), (.ref a)])) XT1 hx rfl rfl rfl (pc0 := 4) (pc' := 7) (same := true) rfl (hb hby d2_4) rfl (decide_eq_true (congrArg Value.ref (c4_1))) (by decide) (by decide) k) ?_
    show own_Go p e below _ T1 (mkF m 7 #[oR a] [])
    refine own_by (fun t k => XT.iconstV XT1.here hx rfl (1 : Int32) (hb hby d2_7) (by decide) k) ?_
    show own_Go p e below _ T1 (mkF m 8 #[oR a] [(.int (1 : Int32))])
    refine own_by (fun t k => XS.goto XT1.here hx rfl (pc0 := 8) (pc' := 12) rfl (hb hby d2_8) (by decide) (by decide) k) ?_
    show own_Go p e below _ T1 (mkF m 12 #[oR a] [(.int (1 : Int32))])
    exact own_retN XT1 hx hlk hret (by simp) (w := (1 : Int32)) (hb hby d2_12) (by decide) (by decide) (by decide) (⟨by rw [own_grantsAccess, if_pos c4_1], eT1, rfl⟩)
  · refine own_by (fun t k => Jvm.RoadKit.acmp (g := (mkF m 4 #[oR a] [(.ref w0), (.ref a)])) XT1 hx rfl rfl rfl (pc0 := 4) (pc' := 11) (same := false) rfl (hb hby d2_4) rfl (decide_eq_false fun q => (c4_1) (Value.ref.inj q)) (by decide) (by decide) k) ?_
    show own_Go p e below _ T1 (mkF m 11 #[oR a] [])
    refine own_by (fun t k => XT.iconstV XT1.here hx rfl (0 : Int32) (hb hby d2_11) (by decide) k) ?_
    show own_Go p e below _ T1 (mkF m 12 #[oR a] [(.int (0 : Int32))])
    exact own_retN XT1 hx hlk hret (by simp) (w := (0 : Int32)) (hb hby d2_12) (by decide) (by decide) (by decide) (⟨by rw [own_grantsAccess, if_neg c4_1], eT1, rfl⟩)
def own_expected (k : Int32)  : Int32 := (if k = (0 : Int32) then (1 : Int32) else (if k = (1 : Int32) then (0 : Int32) else (if k = (2 : Int32) then (0 : Int32) else (0 : Int32))))
theorem d3_0 : decode method_3_code 0 = .ok (.iload_n 0, 1) := by decide +kernel
theorem d3_1 : decode method_3_code 1 = .ok (.ifCond .ne 5, 3) := by decide +kernel
theorem d3_4 : decode method_3_code 4 = .ok (.iconst 1, 1) := by decide +kernel
theorem d3_5 : decode method_3_code 5 = .ok (.ireturn, 1) := by decide +kernel
theorem d3_6 : decode method_3_code 6 = .ok (.iload_n 0, 1) := by decide +kernel
theorem d3_7 : decode method_3_code 7 = .ok (.iconst 1, 1) := by decide +kernel
theorem d3_8 : decode method_3_code 8 = .ok (.if_icmp .ne 5, 3) := by decide +kernel
theorem d3_11 : decode method_3_code 11 = .ok (.iconst 0, 1) := by decide +kernel
theorem d3_12 : decode method_3_code 12 = .ok (.ireturn, 1) := by decide +kernel
theorem d3_13 : decode method_3_code 13 = .ok (.iload_n 0, 1) := by decide +kernel
theorem d3_14 : decode method_3_code 14 = .ok (.iconst 2, 1) := by decide +kernel
theorem d3_15 : decode method_3_code 15 = .ok (.if_icmp .ne 5, 3) := by decide +kernel
theorem d3_18 : decode method_3_code 18 = .ok (.iconst 0, 1) := by decide +kernel
theorem d3_19 : decode method_3_code 19 = .ok (.ireturn, 1) := by decide +kernel
theorem d3_20 : decode method_3_code 20 = .ok (.iconst 0, 1) := by decide +kernel
theorem d3_21 : decode method_3_code 21 = .ok (.ireturn, 1) := by decide +kernel
set_option maxRecDepth 65536 in
set_option maxHeartbeats 40000000 in
theorem own_expected_met (l : Launch) (Z : State) (a0 : Array Value) (hw : ∀ d ∈ tables_1, d.before a0 Z = true) (k : Int32)  (h0 : Heap)  :
    own_Met l (⟨"com/example/nimble_gate/nimblegate/decision/DecisionGrantsAccessPinLaw", "expected", "(I)Z"⟩ : MethodName) method_3_code 1 (some .boolean) [] ({ frames := 0, cells := 0, slots := 0, locals := 0 } : Room) Z #[(.int k)] h0 (fun v h L => v = some (.int (own_expected k )) ∧ h = h0 ∧ L = []) := by
  refine own_enter pn_0 ?_
  intro p e s m below meth c T0 hx hby hml hret hlk hown hnm hZ X0 e0
  refine own_at (g' := (mkF m 0 #[oI k] [])) (by first | rfl | (simp [entryFrame, mkF, argsToLocals, Value.category]; done)) ?_
  show own_Go p e below _ T0 (mkF m 0 #[oI k] [])
  refine own_by (fun t k => XS.iloadN X0.here hx rfl (hb hby d3_0) rfl  k) ?_
  show own_Go p e below _ T0 (mkF m 1 #[oI k] [(.int k)])
  by_cases c1_0 : k = (0 : Int32)
  · refine own_by (fun t k => XS.ifNo X0.here hx rfl (hb hby d3_1) rfl (XT.i0_ne_f c1_0) k) ?_
    show own_Go p e below _ T0 (mkF m 4 #[oI k] [])
    refine own_by (fun t k => XT.iconstV X0.here hx rfl (1 : Int32) (hb hby d3_4) (by decide) k) ?_
    show own_Go p e below _ T0 (mkF m 5 #[oI k] [(.int (1 : Int32))])
    exact own_retN X0 hx hlk hret (by simp) (w := (1 : Int32)) (hb hby d3_5) (by decide) (by decide) (by decide) (⟨by rw [own_expected, if_pos c1_0], e0, rfl⟩)
  · refine own_by (fun t k => XS.ifYes X0.here hx rfl (pc0 := 1) (pc' := 6) rfl (hb hby d3_1) rfl (XT.i0_ne_t c1_0) (by decide) (by decide) k) ?_
    show own_Go p e below _ T0 (mkF m 6 #[oI k] [])
    refine own_by (fun t k => XS.iloadN X0.here hx rfl (hb hby d3_6) rfl  k) ?_
    show own_Go p e below _ T0 (mkF m 7 #[oI k] [(.int k)])
    refine own_by (fun t k => XT.iconstV X0.here hx rfl (1 : Int32) (hb hby d3_7) (by decide) k) ?_
    show own_Go p e below _ T0 (mkF m 8 #[oI k] [(.int (1 : Int32)), (.int k)])
    by_cases c8_1 : k = (1 : Int32)
    · refine own_by (fun t k => XS.icmpNo X0.here hx rfl (hb hby d3_8) rfl (XT.ii_ne_f c8_1) k) ?_
      show own_Go p e below _ T0 (mkF m 11 #[oI k] [])
      refine own_by (fun t k => XT.iconstV X0.here hx rfl (0 : Int32) (hb hby d3_11) (by decide) k) ?_
      show own_Go p e below _ T0 (mkF m 12 #[oI k] [(.int (0 : Int32))])
      exact own_retN X0 hx hlk hret (by simp) (w := (0 : Int32)) (hb hby d3_12) (by decide) (by decide) (by decide) (⟨by rw [own_expected, if_neg c1_0, if_pos c8_1], e0, rfl⟩)
    · refine own_by (fun t k => XS.icmpYes X0.here hx rfl (pc0 := 8) (pc' := 13) rfl (hb hby d3_8) rfl (XT.ii_ne_t c8_1) (by decide) (by decide) k) ?_
      show own_Go p e below _ T0 (mkF m 13 #[oI k] [])
      refine own_by (fun t k => XS.iloadN X0.here hx rfl (hb hby d3_13) rfl  k) ?_
      show own_Go p e below _ T0 (mkF m 14 #[oI k] [(.int k)])
      refine own_by (fun t k => XT.iconstV X0.here hx rfl (2 : Int32) (hb hby d3_14) (by decide) k) ?_
      show own_Go p e below _ T0 (mkF m 15 #[oI k] [(.int (2 : Int32)), (.int k)])
      by_cases c15_2 : k = (2 : Int32)
      · refine own_by (fun t k => XS.icmpNo X0.here hx rfl (hb hby d3_15) rfl (XT.ii_ne_f c15_2) k) ?_
        show own_Go p e below _ T0 (mkF m 18 #[oI k] [])
        refine own_by (fun t k => XT.iconstV X0.here hx rfl (0 : Int32) (hb hby d3_18) (by decide) k) ?_
        show own_Go p e below _ T0 (mkF m 19 #[oI k] [(.int (0 : Int32))])
        exact own_retN X0 hx hlk hret (by simp) (w := (0 : Int32)) (hb hby d3_19) (by decide) (by decide) (by decide) (⟨by rw [own_expected, if_neg c1_0, if_neg c8_1, if_pos c15_2], e0, rfl⟩)
      · refine own_by (fun t k => XS.icmpYes X0.here hx rfl (pc0 := 15) (pc' := 20) rfl (hb hby d3_15) rfl (XT.ii_ne_t c15_2) (by decide) (by decide) k) ?_
        show own_Go p e below _ T0 (mkF m 20 #[oI k] [])
        refine own_by (fun t k => XT.iconstV X0.here hx rfl (0 : Int32) (hb hby d3_20) (by decide) k) ?_
        show own_Go p e below _ T0 (mkF m 21 #[oI k] [(.int (0 : Int32))])
        exact own_retN X0 hx hlk hret (by simp) (w := (0 : Int32)) (hb hby d3_21) (by decide) (by decide) (by decide) (⟨by rw [own_expected, if_neg c1_0, if_neg c8_1, if_neg c15_2], e0, rfl⟩)
theorem pd_0 : parseMethodDescriptor "(I)Lcom/example/nimble_gate/nimblegate/decision/Decision;" = some ⟨[.int], some (.object "com/example/nimble_gate/nimblegate/decision/Decision")⟩ := by decide +kernel
theorem pd_1 : parseMethodDescriptor "()Z" = some ⟨[], some .boolean⟩ := by decide +kernel
theorem pd_2 : parseMethodDescriptor "(I)Z" = some ⟨[.int], some .boolean⟩ := by decide +kernel
set_option maxRecDepth 65536 in
set_option maxHeartbeats 40000000 in
theorem own_law (l : Launch) (Z : State) (a0 : Array Value) (hw : ∀ d ∈ tables_1, d.before a0 Z = true) (i0 : Int32) (w0 w1 w2 w3 : Addr) (h0 : Heap) (S : own_S Z h0 w0 w1 w2 w3) (E0 : Exa Z h0 w0 "com/example/nimble_gate/nimblegate/decision/Decision") (E1 : Exa Z h0 w1 "com/example/nimble_gate/nimblegate/decision/Decision") (E2 : Exa Z h0 w2 "com/example/nimble_gate/nimblegate/decision/Decision") (E3 : Exa Z h0 w3 "com/example/nimble_gate/nimblegate/decision/Decision") (F0 : Fld Z h0 w0 "java/lang/Enum" "ordinal" "I" (.int (0 : Int32))) (F1 : Fld Z h0 w1 "java/lang/Enum" "ordinal" "I" (.int (1 : Int32))) (F2 : Fld Z h0 w2 "java/lang/Enum" "ordinal" "I" (.int (2 : Int32))) (F3 : Fld Z h0 w3 "java/lang/Enum" "ordinal" "I" (.int (3 : Int32))) :
    own_Met l x code maxLocals ret tables_1 room_1 Z #[(.int i0)] h0 (fun v h L => v = some (.int (1 : Int32)) ∧ h = h0 ∧ L = []) := by
  refine own_enter pn_0 ?_
  intro p e s m below meth c T0 hx hby hml hret hlk hown hnm hZ X0 e0
  refine own_at (g' := (mkF m 0 #[oI i0, .unset, .unset] [])) (by first | rfl | (simp [entryFrame, mkF, argsToLocals, Value.category, maxLocals]; done)) ?_
  show own_Go p e below _ T0 (mkF m 0 #[oI i0, .unset, .unset] [])
  rcases own_mask i0 with hk | hk | hk | hk
  · refine own_by (fun t k => XS.iloadN X0.here hx rfl (hb hby at_0) rfl  k) ?_
    show own_Go p e below _ T0 (mkF m 1 #[oI i0, .unset, .unset] [(.int i0)])
    refine own_by (fun t k => XT.iconstV X0.here hx rfl (3 : Int32) (hb hby at_1) (by decide) k) ?_
    show own_Go p e below _ T0 (mkF m 2 #[oI i0, .unset, .unset] [(.int (3 : Int32)), (.int i0)])
    refine own_by (fun t k => XS.iand X0.here hx rfl (hb hby at_2) rfl k) ?_
    show own_Go p e below _ T0 (mkF m 3 #[oI i0, .unset, .unset] [(.int (i0 &&& (3 : Int32)))])
    rw [hk]
    show own_Go p e below _ T0 (mkF m 3 #[oI i0, .unset, .unset] [(.int (0 : Int32))])
    refine own_by (fun t k => XS.istoreN X0.here hx rfl (hb hby at_3) rfl (l' := #[oI i0, oI (0 : Int32), .unset]) rfl k) ?_
    show own_Go p e below _ T0 (mkF m 4 #[oI i0, oI (0 : Int32), .unset] [])
    refine own_by (fun t k => XS.iloadN X0.here hx rfl (hb hby at_4) rfl  k) ?_
    show own_Go p e below _ T0 (mkF m 5 #[oI i0, oI (0 : Int32), .unset] [(.int (0 : Int32))])
    refine own_callS X0 hx hZ hown (hw _ (List.mem_of_getElem? (i := 0) rfl)) (hw _ (List.mem_of_getElem? (i := 1) rfl)) (hw _ (List.mem_of_getElem? (i := 2) rfl)) (hw _ (List.mem_of_getElem? (i := 3) rfl)) (by decide) e0 (argsL := [(.int (0 : Int32))]) (rest := []) (own_pick_met l Z a0 hw (0 : Int32) w0 w1 w2 w3 h0 S) 0 (by decide) (by decide) (by rw [hml]; rfl) (lenOf pd_0 rfl) (Nat.le_of_eq rfl) (hb hby at_5) (by decide) (by decide) (st := [(.int (0 : Int32))]) rfl ?_
    intro T1 LT1 vT1 XT1 hQT1
    obtain ⟨rfl, eT1, rfl⟩ := hQT1
    show own_Go p e below _ T1 (mkF m 8 #[oI i0, oI (0 : Int32), .unset] [(.ref (own_pick (0 : Int32) w0 w1 w2 w3))])
    rw [show own_pick (0 : Int32) w0 w1 w2 w3 = w0 by rw [own_pick, if_pos (by decide)]]
    show own_Go p e below _ T1 (mkF m 8 #[oI i0, oI (0 : Int32), .unset] [(.ref w0)])
    refine own_by (fun t k => XS.astoreN XT1.here hx rfl (hb hby at_8) rfl rfl (l' := #[oI i0, oI (0 : Int32), oR w0]) rfl k) ?_
    show own_Go p e below _ T1 (mkF m 9 #[oI i0, oI (0 : Int32), oR w0] [])
    refine own_by (fun t k => XS.aloadN XT1.here hx rfl (hb hby at_9) rfl rfl  k) ?_
    show own_Go p e below _ T1 (mkF m 10 #[oI i0, oI (0 : Int32), oR w0] [(.ref w0)])
    refine own_callV XT1 hx hZ hown (hw _ (List.mem_of_getElem? (i := 7) rfl)) (hw _ (List.mem_of_getElem? (i := 8) rfl)) (hw _ (List.mem_of_getElem? (i := 10) rfl)) (hw _ (List.mem_of_getElem? (i := 9) rfl)) (hw _ (List.mem_of_getElem? (i := 11) rfl)) (hw _ (List.mem_of_getElem? (i := 5) rfl)) (by decide) eT1 (b := w0) E0 (argsL := []) (rest := []) (own_grantsAccess_met l Z a0 hw w0 w0 w1 w2 w3 h0 S) 0 (by decide) (by decide) (by rw [hml]; rfl) (lenOf pd_1 rfl) (Nat.le_of_eq rfl) (hb hby at_10) (by decide) (by decide) (st := [(.ref w0)]) rfl ?_
    intro T2 LT2 vT2 XT2 hQT2
    obtain ⟨rfl, eT2, rfl⟩ := hQT2
    show own_Go p e below _ T2 (mkF m 13 #[oI i0, oI (0 : Int32), oR w0] [(.int (own_grantsAccess w0 w0 w1 w2 w3))])
    rw [show own_grantsAccess w0 w0 w1 w2 w3 = (1 : Int32) by rw [own_grantsAccess, if_pos rfl]]
    show own_Go p e below _ T2 (mkF m 13 #[oI i0, oI (0 : Int32), oR w0] [(.int (1 : Int32))])
    refine own_by (fun t k => XS.iloadN XT2.here hx rfl (hb hby at_13) rfl  k) ?_
    show own_Go p e below _ T2 (mkF m 14 #[oI i0, oI (0 : Int32), oR w0] [(.int (0 : Int32)), (.int (1 : Int32))])
    refine own_callS XT2 hx hZ hown (hw _ (List.mem_of_getElem? (i := 13) rfl)) (hw _ (List.mem_of_getElem? (i := 14) rfl)) (hw _ (List.mem_of_getElem? (i := 2) rfl)) (hw _ (List.mem_of_getElem? (i := 15) rfl)) (by decide) eT2 (argsL := [(.int (0 : Int32))]) (rest := [(.int (1 : Int32))]) (own_expected_met l Z a0 hw (0 : Int32) h0) 1 (by decide) (by decide) (by rw [hml]; rfl) (lenOf pd_2 rfl) (Nat.le_of_eq rfl) (hb hby at_14) (by decide) (by decide) (st := [(.int (0 : Int32)), (.int (1 : Int32))]) rfl ?_
    intro T3 LT3 vT3 XT3 hQT3
    obtain ⟨rfl, eT3, rfl⟩ := hQT3
    show own_Go p e below _ T3 (mkF m 17 #[oI i0, oI (0 : Int32), oR w0] [(.int (own_expected (0 : Int32) )), (.int (1 : Int32))])
    rw [show own_expected (0 : Int32) = (1 : Int32) by rw [own_expected, if_pos (by decide)]]
    show own_Go p e below _ T3 (mkF m 17 #[oI i0, oI (0 : Int32), oR w0] [(.int (1 : Int32)), (.int (1 : Int32))])
    refine own_by (fun t k => XS.icmpNo XT3.here hx rfl (hb hby at_17) rfl (XT.ii_ne_f (by decide)) k) ?_
    show own_Go p e below _ T3 (mkF m 20 #[oI i0, oI (0 : Int32), oR w0] [])
    refine own_by (fun t k => XT.iconstV XT3.here hx rfl (1 : Int32) (hb hby at_20) (by decide) k) ?_
    show own_Go p e below _ T3 (mkF m 21 #[oI i0, oI (0 : Int32), oR w0] [(.int (1 : Int32))])
    refine own_by (fun t k => XS.goto XT3.here hx rfl (pc0 := 21) (pc' := 25) rfl (hb hby at_21) (by decide) (by decide) k) ?_
    show own_Go p e below _ T3 (mkF m 25 #[oI i0, oI (0 : Int32), oR w0] [(.int (1 : Int32))])
    exact own_retN XT3 hx hlk hret (by simp) (w := (1 : Int32)) (hb hby at_25) (by decide) (by decide) (by decide) (⟨rfl, eT3, rfl⟩)
  · refine own_by (fun t k => XS.iloadN X0.here hx rfl (hb hby at_0) rfl  k) ?_
    show own_Go p e below _ T0 (mkF m 1 #[oI i0, .unset, .unset] [(.int i0)])
    refine own_by (fun t k => XT.iconstV X0.here hx rfl (3 : Int32) (hb hby at_1) (by decide) k) ?_
    show own_Go p e below _ T0 (mkF m 2 #[oI i0, .unset, .unset] [(.int (3 : Int32)), (.int i0)])
    refine own_by (fun t k => XS.iand X0.here hx rfl (hb hby at_2) rfl k) ?_
    show own_Go p e below _ T0 (mkF m 3 #[oI i0, .unset, .unset] [(.int (i0 &&& (3 : Int32)))])
    rw [hk]
    show own_Go p e below _ T0 (mkF m 3 #[oI i0, .unset, .unset] [(.int (1 : Int32))])
    refine own_by (fun t k => XS.istoreN X0.here hx rfl (hb hby at_3) rfl (l' := #[oI i0, oI (1 : Int32), .unset]) rfl k) ?_
    show own_Go p e below _ T0 (mkF m 4 #[oI i0, oI (1 : Int32), .unset] [])
    refine own_by (fun t k => XS.iloadN X0.here hx rfl (hb hby at_4) rfl  k) ?_
    show own_Go p e below _ T0 (mkF m 5 #[oI i0, oI (1 : Int32), .unset] [(.int (1 : Int32))])
    refine own_callS X0 hx hZ hown (hw _ (List.mem_of_getElem? (i := 0) rfl)) (hw _ (List.mem_of_getElem? (i := 1) rfl)) (hw _ (List.mem_of_getElem? (i := 2) rfl)) (hw _ (List.mem_of_getElem? (i := 3) rfl)) (by decide) e0 (argsL := [(.int (1 : Int32))]) (rest := []) (own_pick_met l Z a0 hw (1 : Int32) w0 w1 w2 w3 h0 S) 0 (by decide) (by decide) (by rw [hml]; rfl) (lenOf pd_0 rfl) (Nat.le_of_eq rfl) (hb hby at_5) (by decide) (by decide) (st := [(.int (1 : Int32))]) rfl ?_
    intro T4 LT4 vT4 XT4 hQT4
    obtain ⟨rfl, eT4, rfl⟩ := hQT4
    show own_Go p e below _ T4 (mkF m 8 #[oI i0, oI (1 : Int32), .unset] [(.ref (own_pick (1 : Int32) w0 w1 w2 w3))])
    rw [show own_pick (1 : Int32) w0 w1 w2 w3 = w1 by rw [own_pick, if_neg (by decide), if_pos (by decide)]]
    show own_Go p e below _ T4 (mkF m 8 #[oI i0, oI (1 : Int32), .unset] [(.ref w1)])
    refine own_by (fun t k => XS.astoreN XT4.here hx rfl (hb hby at_8) rfl rfl (l' := #[oI i0, oI (1 : Int32), oR w1]) rfl k) ?_
    show own_Go p e below _ T4 (mkF m 9 #[oI i0, oI (1 : Int32), oR w1] [])
    refine own_by (fun t k => XS.aloadN XT4.here hx rfl (hb hby at_9) rfl rfl  k) ?_
    show own_Go p e below _ T4 (mkF m 10 #[oI i0, oI (1 : Int32), oR w1] [(.ref w1)])
    refine own_callV XT4 hx hZ hown (hw _ (List.mem_of_getElem? (i := 7) rfl)) (hw _ (List.mem_of_getElem? (i := 8) rfl)) (hw _ (List.mem_of_getElem? (i := 10) rfl)) (hw _ (List.mem_of_getElem? (i := 9) rfl)) (hw _ (List.mem_of_getElem? (i := 11) rfl)) (hw _ (List.mem_of_getElem? (i := 5) rfl)) (by decide) eT4 (b := w1) E1 (argsL := []) (rest := []) (own_grantsAccess_met l Z a0 hw w1 w0 w1 w2 w3 h0 S) 0 (by decide) (by decide) (by rw [hml]; rfl) (lenOf pd_1 rfl) (Nat.le_of_eq rfl) (hb hby at_10) (by decide) (by decide) (st := [(.ref w1)]) rfl ?_
    intro T5 LT5 vT5 XT5 hQT5
    obtain ⟨rfl, eT5, rfl⟩ := hQT5
    show own_Go p e below _ T5 (mkF m 13 #[oI i0, oI (1 : Int32), oR w1] [(.int (own_grantsAccess w1 w0 w1 w2 w3))])
    rw [show own_grantsAccess w1 w0 w1 w2 w3 = (0 : Int32) by rw [own_grantsAccess, if_neg (F1.ne F0 (by decide))]]
    show own_Go p e below _ T5 (mkF m 13 #[oI i0, oI (1 : Int32), oR w1] [(.int (0 : Int32))])
    refine own_by (fun t k => XS.iloadN XT5.here hx rfl (hb hby at_13) rfl  k) ?_
    show own_Go p e below _ T5 (mkF m 14 #[oI i0, oI (1 : Int32), oR w1] [(.int (1 : Int32)), (.int (0 : Int32))])
    refine own_callS XT5 hx hZ hown (hw _ (List.mem_of_getElem? (i := 13) rfl)) (hw _ (List.mem_of_getElem? (i := 14) rfl)) (hw _ (List.mem_of_getElem? (i := 2) rfl)) (hw _ (List.mem_of_getElem? (i := 15) rfl)) (by decide) eT5 (argsL := [(.int (1 : Int32))]) (rest := [(.int (0 : Int32))]) (own_expected_met l Z a0 hw (1 : Int32) h0) 1 (by decide) (by decide) (by rw [hml]; rfl) (lenOf pd_2 rfl) (Nat.le_of_eq rfl) (hb hby at_14) (by decide) (by decide) (st := [(.int (1 : Int32)), (.int (0 : Int32))]) rfl ?_
    intro T6 LT6 vT6 XT6 hQT6
    obtain ⟨rfl, eT6, rfl⟩ := hQT6
    show own_Go p e below _ T6 (mkF m 17 #[oI i0, oI (1 : Int32), oR w1] [(.int (own_expected (1 : Int32) )), (.int (0 : Int32))])
    rw [show own_expected (1 : Int32) = (0 : Int32) by rw [own_expected, if_neg (by decide), if_pos (by decide)]]
    show own_Go p e below _ T6 (mkF m 17 #[oI i0, oI (1 : Int32), oR w1] [(.int (0 : Int32)), (.int (0 : Int32))])
    refine own_by (fun t k => XS.icmpNo XT6.here hx rfl (hb hby at_17) rfl (XT.ii_ne_f (by decide)) k) ?_
    show own_Go p e below _ T6 (mkF m 20 #[oI i0, oI (1 : Int32), oR w1] [])
    refine own_by (fun t k => XT.iconstV XT6.here hx rfl (1 : Int32) (hb hby at_20) (by decide) k) ?_
    show own_Go p e below _ T6 (mkF m 21 #[oI i0, oI (1 : Int32), oR w1] [(.int (1 : Int32))])
    refine own_by (fun t k => XS.goto XT6.here hx rfl (pc0 := 21) (pc' := 25) rfl (hb hby at_21) (by decide) (by decide) k) ?_
    show own_Go p e below _ T6 (mkF m 25 #[oI i0, oI (1 : Int32), oR w1] [(.int (1 : Int32))])
    exact own_retN XT6 hx hlk hret (by simp) (w := (1 : Int32)) (hb hby at_25) (by decide) (by decide) (by decide) (⟨rfl, eT6, rfl⟩)
  · refine own_by (fun t k => XS.iloadN X0.here hx rfl (hb hby at_0) rfl  k) ?_
    show own_Go p e below _ T0 (mkF m 1 #[oI i0, .unset, .unset] [(.int i0)])
    refine own_by (fun t k => XT.iconstV X0.here hx rfl (3 : Int32) (hb hby at_1) (by decide) k) ?_
    show own_Go p e below _ T0 (mkF m 2 #[oI i0, .unset, .unset] [(.int (3 : Int32)), (.int i0)])
    refine own_by (fun t k => XS.iand X0.here hx rfl (hb hby at_2) rfl k) ?_
    show own_Go p e below _ T0 (mkF m 3 #[oI i0, .unset, .unset] [(.int (i0 &&& (3 : Int32)))])
    rw [hk]
    show own_Go p e below _ T0 (mkF m 3 #[oI i0, .unset, .unset] [(.int (2 : Int32))])
    refine own_by (fun t k => XS.istoreN X0.here hx rfl (hb hby at_3) rfl (l' := #[oI i0, oI (2 : Int32), .unset]) rfl k) ?_
    show own_Go p e below _ T0 (mkF m 4 #[oI i0, oI (2 : Int32), .unset] [])
    refine own_by (fun t k => XS.iloadN X0.here hx rfl (hb hby at_4) rfl  k) ?_
    show own_Go p e below _ T0 (mkF m 5 #[oI i0, oI (2 : Int32), .unset] [(.int (2 : Int32))])
    refine own_callS X0 hx hZ hown (hw _ (List.mem_of_getElem? (i := 0) rfl)) (hw _ (List.mem_of_getElem? (i := 1) rfl)) (hw _ (List.mem_of_getElem? (i := 2) rfl)) (hw _ (List.mem_of_getElem? (i := 3) rfl)) (by decide) e0 (argsL := [(.int (2 : Int32))]) (rest := []) (own_pick_met l Z a0 hw (2 : Int32) w0 w1 w2 w3 h0 S) 0 (by decide) (by decide) (by rw [hml]; rfl) (lenOf pd_0 rfl) (Nat.le_of_eq rfl) (hb hby at_5) (by decide) (by decide) (st := [(.int (2 : Int32))]) rfl ?_
    intro T7 LT7 vT7 XT7 hQT7
    obtain ⟨rfl, eT7, rfl⟩ := hQT7
    show own_Go p e below _ T7 (mkF m 8 #[oI i0, oI (2 : Int32), .unset] [(.ref (own_pick (2 : Int32) w0 w1 w2 w3))])
    rw [show own_pick (2 : Int32) w0 w1 w2 w3 = w2 by rw [own_pick, if_neg (by decide), if_neg (by decide), if_pos (by decide)]]
    show own_Go p e below _ T7 (mkF m 8 #[oI i0, oI (2 : Int32), .unset] [(.ref w2)])
    refine own_by (fun t k => XS.astoreN XT7.here hx rfl (hb hby at_8) rfl rfl (l' := #[oI i0, oI (2 : Int32), oR w2]) rfl k) ?_
    show own_Go p e below _ T7 (mkF m 9 #[oI i0, oI (2 : Int32), oR w2] [])
    refine own_by (fun t k => XS.aloadN XT7.here hx rfl (hb hby at_9) rfl rfl  k) ?_
    show own_Go p e below _ T7 (mkF m 10 #[oI i0, oI (2 : Int32), oR w2] [(.ref w2)])
    refine own_callV XT7 hx hZ hown (hw _ (List.mem_of_getElem? (i := 7) rfl)) (hw _ (List.mem_of_getElem? (i := 8) rfl)) (hw _ (List.mem_of_getElem? (i := 10) rfl)) (hw _ (List.mem_of_getElem? (i := 9) rfl)) (hw _ (List.mem_of_getElem? (i := 11) rfl)) (hw _ (List.mem_of_getElem? (i := 5) rfl)) (by decide) eT7 (b := w2) E2 (argsL := []) (rest := []) (own_grantsAccess_met l Z a0 hw w2 w0 w1 w2 w3 h0 S) 0 (by decide) (by decide) (by rw [hml]; rfl) (lenOf pd_1 rfl) (Nat.le_of_eq rfl) (hb hby at_10) (by decide) (by decide) (st := [(.ref w2)]) rfl ?_
    intro T8 LT8 vT8 XT8 hQT8
    obtain ⟨rfl, eT8, rfl⟩ := hQT8
    show own_Go p e below _ T8 (mkF m 13 #[oI i0, oI (2 : Int32), oR w2] [(.int (own_grantsAccess w2 w0 w1 w2 w3))])
    rw [show own_grantsAccess w2 w0 w1 w2 w3 = (0 : Int32) by rw [own_grantsAccess, if_neg (F2.ne F0 (by decide))]]
    show own_Go p e below _ T8 (mkF m 13 #[oI i0, oI (2 : Int32), oR w2] [(.int (0 : Int32))])
    refine own_by (fun t k => XS.iloadN XT8.here hx rfl (hb hby at_13) rfl  k) ?_
    show own_Go p e below _ T8 (mkF m 14 #[oI i0, oI (2 : Int32), oR w2] [(.int (2 : Int32)), (.int (0 : Int32))])
    refine own_callS XT8 hx hZ hown (hw _ (List.mem_of_getElem? (i := 13) rfl)) (hw _ (List.mem_of_getElem? (i := 14) rfl)) (hw _ (List.mem_of_getElem? (i := 2) rfl)) (hw _ (List.mem_of_getElem? (i := 15) rfl)) (by decide) eT8 (argsL := [(.int (2 : Int32))]) (rest := [(.int (0 : Int32))]) (own_expected_met l Z a0 hw (2 : Int32) h0) 1 (by decide) (by decide) (by rw [hml]; rfl) (lenOf pd_2 rfl) (Nat.le_of_eq rfl) (hb hby at_14) (by decide) (by decide) (st := [(.int (2 : Int32)), (.int (0 : Int32))]) rfl ?_
    intro T9 LT9 vT9 XT9 hQT9
    obtain ⟨rfl, eT9, rfl⟩ := hQT9
    show own_Go p e below _ T9 (mkF m 17 #[oI i0, oI (2 : Int32), oR w2] [(.int (own_expected (2 : Int32) )), (.int (0 : Int32))])
    rw [show own_expected (2 : Int32) = (0 : Int32) by rw [own_expected, if_neg (by decide), if_neg (by decide), if_pos (by decide)]]
    show own_Go p e below _ T9 (mkF m 17 #[oI i0, oI (2 : Int32), oR w2] [(.int (0 : Int32)), (.int (0 : Int32))])
    refine own_by (fun t k => XS.icmpNo XT9.here hx rfl (hb hby at_17) rfl (XT.ii_ne_f (by decide)) k) ?_
    show own_Go p e below _ T9 (mkF m 20 #[oI i0, oI (2 : Int32), oR w2] [])
    refine own_by (fun t k => XT.iconstV XT9.here hx rfl (1 : Int32) (hb hby at_20) (by decide) k) ?_
    show own_Go p e below _ T9 (mkF m 21 #[oI i0, oI (2 : Int32), oR w2] [(.int (1 : Int32))])
    refine own_by (fun t k => XS.goto XT9.here hx rfl (pc0 := 21) (pc' := 25) rfl (hb hby at_21) (by decide) (by decide) k) ?_
    show own_Go p e below _ T9 (mkF m 25 #[oI i0, oI (2 : Int32), oR w2] [(.int (1 : Int32))])
    exact own_retN XT9 hx hlk hret (by simp) (w := (1 : Int32)) (hb hby at_25) (by decide) (by decide) (by decide) (⟨rfl, eT9, rfl⟩)
  · refine own_by (fun t k => XS.iloadN X0.here hx rfl (hb hby at_0) rfl  k) ?_
    show own_Go p e below _ T0 (mkF m 1 #[oI i0, .unset, .unset] [(.int i0)])
    refine own_by (fun t k => XT.iconstV X0.here hx rfl (3 : Int32) (hb hby at_1) (by decide) k) ?_
    show own_Go p e below _ T0 (mkF m 2 #[oI i0, .unset, .unset] [(.int (3 : Int32)), (.int i0)])
    refine own_by (fun t k => XS.iand X0.here hx rfl (hb hby at_2) rfl k) ?_
    show own_Go p e below _ T0 (mkF m 3 #[oI i0, .unset, .unset] [(.int (i0 &&& (3 : Int32)))])
    rw [hk]
    show own_Go p e below _ T0 (mkF m 3 #[oI i0, .unset, .unset] [(.int (3 : Int32))])
    refine own_by (fun t k => XS.istoreN X0.here hx rfl (hb hby at_3) rfl (l' := #[oI i0, oI (3 : Int32), .unset]) rfl k) ?_
    show own_Go p e below _ T0 (mkF m 4 #[oI i0, oI (3 : Int32), .unset] [])
    refine own_by (fun t k => XS.iloadN X0.here hx rfl (hb hby at_4) rfl  k) ?_
    show own_Go p e below _ T0 (mkF m 5 #[oI i0, oI (3 : Int32), .unset] [(.int (3 : Int32))])
    refine own_callS X0 hx hZ hown (hw _ (List.mem_of_getElem? (i := 0) rfl)) (hw _ (List.mem_of_getElem? (i := 1) rfl)) (hw _ (List.mem_of_getElem? (i := 2) rfl)) (hw _ (List.mem_of_getElem? (i := 3) rfl)) (by decide) e0 (argsL := [(.int (3 : Int32))]) (rest := []) (own_pick_met l Z a0 hw (3 : Int32) w0 w1 w2 w3 h0 S) 0 (by decide) (by decide) (by rw [hml]; rfl) (lenOf pd_0 rfl) (Nat.le_of_eq rfl) (hb hby at_5) (by decide) (by decide) (st := [(.int (3 : Int32))]) rfl ?_
    intro T10 LT10 vT10 XT10 hQT10
    obtain ⟨rfl, eT10, rfl⟩ := hQT10
    show own_Go p e below _ T10 (mkF m 8 #[oI i0, oI (3 : Int32), .unset] [(.ref (own_pick (3 : Int32) w0 w1 w2 w3))])
    rw [show own_pick (3 : Int32) w0 w1 w2 w3 = w3 by rw [own_pick, if_neg (by decide), if_neg (by decide), if_neg (by decide)]]
    show own_Go p e below _ T10 (mkF m 8 #[oI i0, oI (3 : Int32), .unset] [(.ref w3)])
    refine own_by (fun t k => XS.astoreN XT10.here hx rfl (hb hby at_8) rfl rfl (l' := #[oI i0, oI (3 : Int32), oR w3]) rfl k) ?_
    show own_Go p e below _ T10 (mkF m 9 #[oI i0, oI (3 : Int32), oR w3] [])
    refine own_by (fun t k => XS.aloadN XT10.here hx rfl (hb hby at_9) rfl rfl  k) ?_
    show own_Go p e below _ T10 (mkF m 10 #[oI i0, oI (3 : Int32), oR w3] [(.ref w3)])
    refine own_callV XT10 hx hZ hown (hw _ (List.mem_of_getElem? (i := 7) rfl)) (hw _ (List.mem_of_getElem? (i := 8) rfl)) (hw _ (List.mem_of_getElem? (i := 10) rfl)) (hw _ (List.mem_of_getElem? (i := 9) rfl)) (hw _ (List.mem_of_getElem? (i := 11) rfl)) (hw _ (List.mem_of_getElem? (i := 5) rfl)) (by decide) eT10 (b := w3) E3 (argsL := []) (rest := []) (own_grantsAccess_met l Z a0 hw w3 w0 w1 w2 w3 h0 S) 0 (by decide) (by decide) (by rw [hml]; rfl) (lenOf pd_1 rfl) (Nat.le_of_eq rfl) (hb hby at_10) (by decide) (by decide) (st := [(.ref w3)]) rfl ?_
    intro T11 LT11 vT11 XT11 hQT11
    obtain ⟨rfl, eT11, rfl⟩ := hQT11
    show own_Go p e below _ T11 (mkF m 13 #[oI i0, oI (3 : Int32), oR w3] [(.int (own_grantsAccess w3 w0 w1 w2 w3))])
    rw [show own_grantsAccess w3 w0 w1 w2 w3 = (0 : Int32) by rw [own_grantsAccess, if_neg (F3.ne F0 (by decide))]]
    show own_Go p e below _ T11 (mkF m 13 #[oI i0, oI (3 : Int32), oR w3] [(.int (0 : Int32))])
    refine own_by (fun t k => XS.iloadN XT11.here hx rfl (hb hby at_13) rfl  k) ?_
    show own_Go p e below _ T11 (mkF m 14 #[oI i0, oI (3 : Int32), oR w3] [(.int (3 : Int32)), (.int (0 : Int32))])
    refine own_callS XT11 hx hZ hown (hw _ (List.mem_of_getElem? (i := 13) rfl)) (hw _ (List.mem_of_getElem? (i := 14) rfl)) (hw _ (List.mem_of_getElem? (i := 2) rfl)) (hw _ (List.mem_of_getElem? (i := 15) rfl)) (by decide) eT11 (argsL := [(.int (3 : Int32))]) (rest := [(.int (0 : Int32))]) (own_expected_met l Z a0 hw (3 : Int32) h0) 1 (by decide) (by decide) (by rw [hml]; rfl) (lenOf pd_2 rfl) (Nat.le_of_eq rfl) (hb hby at_14) (by decide) (by decide) (st := [(.int (3 : Int32)), (.int (0 : Int32))]) rfl ?_
    intro T12 LT12 vT12 XT12 hQT12
    obtain ⟨rfl, eT12, rfl⟩ := hQT12
    show own_Go p e below _ T12 (mkF m 17 #[oI i0, oI (3 : Int32), oR w3] [(.int (own_expected (3 : Int32) )), (.int (0 : Int32))])
    rw [show own_expected (3 : Int32) = (0 : Int32) by rw [own_expected, if_neg (by decide), if_neg (by decide), if_neg (by decide)]]
    show own_Go p e below _ T12 (mkF m 17 #[oI i0, oI (3 : Int32), oR w3] [(.int (0 : Int32)), (.int (0 : Int32))])
    refine own_by (fun t k => XS.icmpNo XT12.here hx rfl (hb hby at_17) rfl (XT.ii_ne_f (by decide)) k) ?_
    show own_Go p e below _ T12 (mkF m 20 #[oI i0, oI (3 : Int32), oR w3] [])
    refine own_by (fun t k => XT.iconstV XT12.here hx rfl (1 : Int32) (hb hby at_20) (by decide) k) ?_
    show own_Go p e below _ T12 (mkF m 21 #[oI i0, oI (3 : Int32), oR w3] [(.int (1 : Int32))])
    refine own_by (fun t k => XS.goto XT12.here hx rfl (pc0 := 21) (pc' := 25) rfl (hb hby at_21) (by decide) (by decide) k) ?_
    show own_Go p e below _ T12 (mkF m 25 #[oI i0, oI (3 : Int32), oR w3] [(.int (1 : Int32))])
    exact own_retN XT12 hx hlk hret (by simp) (w := (1 : Int32)) (hb hby at_25) (by decide) (by decide) (by decide) (⟨rfl, eT12, rfl⟩)
set_option maxRecDepth 65536 in
set_option maxHeartbeats 40000000 in
theorem comes_1 {Post : Tables → Env → Array Value → State → Outcome → State → Prop} (hpost : ∀ tb e args s v u, (limb_1_1.after args s (.returned v) u = true ∧ limb_1_2.after args s (.returned v) u = true ∧ True) → FrameEnd s (.returned v) u (Jvm.fieldLocs frame_1_writes args s ++ Jvm.arrayLocs frame_1_arrays args s ++ Jvm.staticLocs frame_1_statics s) 0 0 → Post tb e args s (.returned v) u) :
    ArmFor flags0 classFile x code maxLocals ret World_1 tables_1 room_1 Calls_1 rest_1 Pre_1 Post := by
  intro l hfl _ _ p e ha hc hk s m args below hf hA hF happ hP
  obtain ⟨hcalls, hrest, hpre⟩ := hP
  obtain ⟨-, -, -, hnamed, -, -, -, hat⟩ := (Spec.applies_iff hf).mp happ
  obtain ⟨hg, hn⟩ := and_e (Cond.before_iff.mp (show (Jvm.Cond.and given_1 narrow_1).before args s = true from hpre))
  obtain ⟨g0, rg0⟩ := and_e hg
  have g1 := rg0
  obtain ⟨w0, rfl⟩ : ∃ w0 : Value, args = #[w0] := by
    have hs : args.size = 1 := by simpa [Cond.value] using g0
    obtain ⟨L⟩ := args
    match L, hs with
    | [w0], _ => exact ⟨w0, rfl⟩
  have hw := fun d (hd : d ∈ tables_1) => atoms_spec (ws := Jvm.Cond.code x code maxLocals ret :: tables_1) hat d (List.mem_cons_of_mem _ hd)
  obtain ⟨i0, ei0⟩ := is_v g1
  obtain rfl : w0 = (.int i0) := Option.some.inj ei0
  obtain ⟨n0, rn0⟩ := and_e hn
  obtain ⟨n1, rn1⟩ := and_e rn0
  obtain ⟨n2, rn2⟩ := and_e rn1
  obtain ⟨n3, rn3⟩ := and_e rn2
  obtain ⟨n4, rn4⟩ := and_e rn3
  obtain ⟨n5, rn5⟩ := and_e rn4
  obtain ⟨n6, rn6⟩ := and_e rn5
  have n7 := rn6
  obtain ⟨w100, v0⟩ := exa_v n0
  have S0 := Sta.start v0 (Or.inr ⟨(hw _ (List.mem_of_getElem? (i := 5) rfl)), (hw _ (List.mem_of_getElem? (i := 6) rfl))⟩)
  have E0 := Exa.start v0 n0
  have F0 := Fld.start ((fld_at v0).symm.trans (own_eqi n3))
  obtain ⟨w101, v1⟩ := exa_v n6
  have S1 := Sta.start v1 (Or.inr ⟨(hw _ (List.mem_of_getElem? (i := 5) rfl)), (hw _ (List.mem_of_getElem? (i := 21) rfl))⟩)
  have E1 := Exa.start v1 n6
  have F1 := Fld.start ((fld_at v1).symm.trans (own_eqi n7))
  obtain ⟨w102, v2⟩ := exa_v n4
  have S2 := Sta.start v2 (Or.inr ⟨(hw _ (List.mem_of_getElem? (i := 5) rfl)), (hw _ (List.mem_of_getElem? (i := 19) rfl))⟩)
  have E2 := Exa.start v2 n4
  have F2 := Fld.start ((fld_at v2).symm.trans (own_eqi n5))
  obtain ⟨w103, v3⟩ := exa_v n1
  have S3 := Sta.start v3 (Or.inr ⟨(hw _ (List.mem_of_getElem? (i := 5) rfl)), (hw _ (List.mem_of_getElem? (i := 17) rfl))⟩)
  have E3 := Exa.start v3 n1
  have F3 := Fld.start ((fld_at v3).symm.trans (own_eqi n2))
  obtain ⟨n, o, h1, h2, h3, _, L, rfl, ⟨rfl, -, rfl⟩, hq⟩ := own_law l s _ hw i0 w100 w101 w102 w103 s.heap ⟨S0, S1, S2, S3⟩ E0 E1 E2 E3 F0 F1 F2 F3 p e ha hc hk s m _ below hf ((Spec.applies_iff_loose hf).mp happ).1 ⟨rfl, State.Warmed39.refl s, rfl⟩ trivial
  have N := Fr.nil s.heap.size
  refine ⟨n, _, h1, h2, h3, hpost _ _ _ _ _ _ ⟨Cond.after_iff.mpr rfl, Cond.after_iff.mpr (eq_i res_at (Term.int_eval (1)) rfl), trivial⟩ ⟨hq.1, hq.2.1, (hq.2.2.sift fun y hy => Or.inr (N y hy)).mono (by decide) (by decide)⟩⟩
theorem main_1_1 : Claimed_1_1 := comes_1 fun _ _ _ _ _ _ h hF => ⟨h.1, hF⟩
theorem main_1_2 : Claimed_1_2 := comes_1 fun _ _ _ _ _ _ h hF => ⟨h.2.1, hF⟩
end Jvm.Pilot.@@N@@
namespace Jvm.Pilot.@@N@@
open Jvm Jvm.ClassFile Sem Op Lib Jvm.Free Jvm.Stand Jvm.Pilot.@@N@@.Jvm.D
/-! MADE BY PROGRAM (witnessworld.py) out of the Statement's table words and the real class files: 12 classes; the members and pool entries that the words name. The judged class is class 1, her method 3. -/
namespace start1
open Jvm.ClassFile
def u (s : String) : CpInfo := .utf8 (stringToUtf16 s)
/-- a pool by its gaps: so many unusable entries, then the entry; so many at the end -/
def gap : Nat → List CpInfo → List CpInfo
  | 0, r => r
  | n + 1, r => .unusable :: gap n r
def poolList (es : List (Nat × CpInfo)) (last : Nat) : List CpInfo := es.foldr (fun e r => gap e.1 (e.2 :: r)) (gap last [])
def pool (es : List (Nat × CpInfo)) (last : Nat) : Array CpInfo := ⟨poolList es last⟩
def fileOf (pool : Array CpInfo) (this : Nat) (attrs : Array Attribute := #[]) (ms : Array MethodInfo := #[]) (fl : Nat := 33) (sup : Nat := 0) (ifs : Array Nat := #[]) (fds : Array FieldInfo := #[]) : ClassFile where
  minorVersion := 0
  majorVersion := 65
  constantPool := pool
  accessFlags := fl
  thisClass := this
  superClass := sup
  interfaces := ifs
  fields := fds
  methods := ms
  attributes := attrs
def plain (name : String) (sup : Option ClassId) : Class where
  name := name
  kind := .ordinary
  loader := none
  accessFlags := 33
  super := sup
  interfaces := #[]
  cf := none
  fields := #[]
  methods := #[]
  instanceTypes := #[]
  staticTypes := #[]
  resolved := #[]
  callSites := []
  init := .initialized
  statics := none
  mirror := none

def pool0 : Array CpInfo := pool [(5, u "<init>"), (0, u "()V"), (1, .class_ 10), (1, u "java/lang/Object")] 113

def k0m0 : Method := { name := "<init>", desc := "()V", sig := { parameters := [], returnType := none }, accessFlags := 1, code := none }
/-- java/lang/Object -/
def k0 : Class := { plain "java/lang/Object" none with
  accessFlags := 33
  interfaces := #[]
  cf := some (fileOf pool0 8 #[] #[{ accessFlags := 1, nameIndex := 5, descriptorIndex := 6, attributes := #[] }] 33 0 #[] #[])
  fields := #[]
  methods := #[k0m0]
  instanceTypes := #[]
  staticTypes := #[]
  resolved := Array.replicate 124 none
  statics := none }

def pool1 : Array CpInfo := pool [(2, .class_ 4), (1, u "java/lang/Object"), (0, u "<init>"), (0, u "()V"), (0, .fieldref 8 9), (0, .class_ 10), (0, .nameAndType 11 12), (0, u "com/example/nimble_gate/nimblegate/decision/Decision"), (0, u "PERMIT"), (0, u "Lcom/example/nimble_gate/nimblegate/decision/Decision;"), (0, .fieldref 8 14), (0, .nameAndType 15 12), (0, u "DENY"), (0, .fieldref 8 17), (0, .nameAndType 18 12), (0, u "NOT_APPLICABLE"), (0, .fieldref 8 20), (0, .nameAndType 21 12), (0, u "INDETERMINATE"), (0, .methodref 23 24), (0, .class_ 25), (0, .nameAndType 26 27), (0, u "com/example/nimble_gate/nimblegate/decision/DecisionGrantsAccessPinLaw"), (0, u "pick"), (0, u "(I)Lcom/example/nimble_gate/nimblegate/decision/Decision;"), (0, .methodref 8 29), (0, .nameAndType 30 31), (0, u "grantsAccess"), (0, u "()Z"), (0, .methodref 23 33), (0, .nameAndType 34 35), (0, u "expected"), (0, u "(I)Z"), (3, u "law")] 2

def k1m0 : Method := { name := "<init>", desc := "()V", sig := { parameters := [], returnType := none }, accessFlags := 2, code := none }
def k1c1 : Code := { maxStack := 2, maxLocals := 1, code := method_2_code, exceptionTable := #[], attributes := #[] }
def k1m1 : Method := { name := "pick", desc := "(I)Lcom/example/nimble_gate/nimblegate/decision/Decision;", sig := { parameters := [.int], returnType := some (.object "com/example/nimble_gate/nimblegate/decision/Decision") }, accessFlags := 10, code := some k1c1 }
def k1c2 : Code := { maxStack := 2, maxLocals := 1, code := method_3_code, exceptionTable := #[], attributes := #[] }
def k1m2 : Method := { name := "expected", desc := "(I)Z", sig := { parameters := [.int], returnType := some .boolean }, accessFlags := 10, code := some k1c2 }
def k1c3 : Code := { maxStack := 2, maxLocals := 3, code := code, exceptionTable := #[], attributes := #[] }
def k1m3 : Method := { name := "law", desc := "(I)Z", sig := { parameters := [.int], returnType := some .boolean }, accessFlags := 9, code := some k1c3 }
/-- com/example/nimble_gate/nimblegate/decision/DecisionGrantsAccessPinLaw -/
def k1 : Class := { plain "com/example/nimble_gate/nimblegate/decision/DecisionGrantsAccessPinLaw" (some 0) with
  accessFlags := 49
  interfaces := #[]
  cf := some (fileOf pool1 23 #[] #[{ accessFlags := 2, nameIndex := 5, descriptorIndex := 6, attributes := #[] }, { accessFlags := 10, nameIndex := 26, descriptorIndex := 27, attributes := #[] }, { accessFlags := 10, nameIndex := 34, descriptorIndex := 35, attributes := #[] }, { accessFlags := 9, nameIndex := 39, descriptorIndex := 35, attributes := #[] }] 49 2 #[] #[])
  fields := #[]
  methods := #[k1m0, k1m1, k1m2, k1m3]
  instanceTypes := #[]
  staticTypes := #[]
  resolved := Array.replicate 42 none
  statics := none }

def pool2 : Array CpInfo := pool [(1, .class_ 2), (0, u "java/lang/constant/Constable"), (0, .class_ 4), (0, u "java/lang/Object")] 6

/-- java/lang/constant/Constable -/
def k2 : Class := { plain "java/lang/constant/Constable" (some 0) with
  accessFlags := 1537
  interfaces := #[]
  cf := some (fileOf pool2 1 #[] #[] 1537 3 #[] #[])
  fields := #[]
  methods := #[]
  instanceTypes := #[]
  staticTypes := #[]
  resolved := Array.replicate 11 none
  statics := none }

def pool3 : Array CpInfo := pool [(1, .class_ 2), (0, u "java/lang/Comparable"), (0, .class_ 4), (0, u "java/lang/Object")] 7

/-- java/lang/Comparable -/
def k3 : Class := { plain "java/lang/Comparable" (some 0) with
  accessFlags := 1537
  interfaces := #[]
  cf := some (fileOf pool3 1 #[] #[] 1537 3 #[] #[])
  fields := #[]
  methods := #[]
  instanceTypes := #[]
  staticTypes := #[]
  resolved := Array.replicate 12 none
  statics := none }

def pool4 : Array CpInfo := pool [(1, .class_ 2), (0, u "java/io/Serializable"), (0, .class_ 4), (0, u "java/lang/Object")] 2

/-- java/io/Serializable -/
def k4 : Class := { plain "java/io/Serializable" (some 0) with
  accessFlags := 1537
  interfaces := #[]
  cf := some (fileOf pool4 1 #[] #[] 1537 3 #[] #[])
  fields := #[]
  methods := #[]
  instanceTypes := #[]
  staticTypes := #[]
  resolved := Array.replicate 7 none
  statics := none }

def pool5 : Array CpInfo := pool [(2, .class_ 4), (1, u "java/lang/Enum"), (0, u "name"), (0, u "Ljava/lang/String;"), (2, u "ordinal"), (0, u "I"), (1, .class_ 14), (1, u "java/lang/Object"), (4, u "hash"), (86, .class_ 108), (1, u "java/lang/Enum$EnumDesc"), (2, .class_ 112), (0, u "java/lang/constant/Constable"), (0, .class_ 114), (0, u "java/lang/Comparable"), (0, .class_ 116), (0, u "java/io/Serializable")] 87

/-- java/lang/Enum -/
def k5 : Class := { plain "java/lang/Enum" (some 0) with
  accessFlags := 1057
  interfaces := #[2, 3, 4]
  cf := some (fileOf pool5 2 #[.nestMembers #[106]] #[] 1057 12 #[111, 113, 115] #[{ accessFlags := 18, nameIndex := 5, descriptorIndex := 6, attributes := #[] }, { accessFlags := 18, nameIndex := 9, descriptorIndex := 10, attributes := #[] }, { accessFlags := 2, nameIndex := 19, descriptorIndex := 10, attributes := #[] }])
  fields := #[{ name := "name", type := (.object "java/lang/String"), accessFlags := 18, slot := 0, constantValue := 0 }, { name := "ordinal", type := .int, accessFlags := 18, slot := 1, constantValue := 0 }, { name := "hash", type := .int, accessFlags := 2, slot := 2, constantValue := 0 }]
  methods := #[]
  instanceTypes := #[(.object "java/lang/String"), .int, .int]
  staticTypes := #[]
  resolved := Array.replicate 204 none
  statics := none }

def pool6 : Array CpInfo := pool [(1, .class_ 2), (0, u "com/example/nimble_gate/nimblegate/decision/Decision"), (0, .fieldref 1 4), (0, .nameAndType 5 6), (0, u "PERMIT"), (0, u "Lcom/example/nimble_gate/nimblegate/decision/Decision;"), (2, u "DENY"), (2, u "NOT_APPLICABLE"), (2, u "INDETERMINATE"), (2, u "$VALUES"), (0, u "[Lcom/example/nimble_gate/nimblegate/decision/Decision;"), (6, .class_ 28), (1, u "java/lang/Enum"), (22, u "grantsAccess"), (0, u "()Z")] 5

def k6c0 : Code := { maxStack := 2, maxLocals := 1, code := prog_1_method_4_code, exceptionTable := #[], attributes := #[] }
def k6m0 : Method := { name := "grantsAccess", desc := "()Z", sig := { parameters := [], returnType := some .boolean }, accessFlags := 1, code := some k6c0 }
/-- com/example/nimble_gate/nimblegate/decision/Decision -/
def k6 : Class := { plain "com/example/nimble_gate/nimblegate/decision/Decision" (some 5) with
  accessFlags := 16433
  interfaces := #[]
  cf := some (fileOf pool6 1 #[] #[{ accessFlags := 1, nameIndex := 51, descriptorIndex := 52, attributes := #[] }] 16433 26 #[] #[{ accessFlags := 16409, nameIndex := 5, descriptorIndex := 6, attributes := #[] }, { accessFlags := 16409, nameIndex := 9, descriptorIndex := 6, attributes := #[] }, { accessFlags := 16409, nameIndex := 12, descriptorIndex := 6, attributes := #[] }, { accessFlags := 16409, nameIndex := 15, descriptorIndex := 6, attributes := #[] }, { accessFlags := 4122, nameIndex := 18, descriptorIndex := 19, attributes := #[] }])
  fields := #[{ name := "PERMIT", type := (.object "com/example/nimble_gate/nimblegate/decision/Decision"), accessFlags := 16409, slot := 0, constantValue := 0 }, { name := "DENY", type := (.object "com/example/nimble_gate/nimblegate/decision/Decision"), accessFlags := 16409, slot := 1, constantValue := 0 }, { name := "NOT_APPLICABLE", type := (.object "com/example/nimble_gate/nimblegate/decision/Decision"), accessFlags := 16409, slot := 2, constantValue := 0 }, { name := "INDETERMINATE", type := (.object "com/example/nimble_gate/nimblegate/decision/Decision"), accessFlags := 16409, slot := 3, constantValue := 0 }, { name := "$VALUES", type := (.array (.object "com/example/nimble_gate/nimblegate/decision/Decision")), accessFlags := 4122, slot := 4, constantValue := 0 }]
  methods := #[k6m0]
  instanceTypes := #[(.object "java/lang/String"), .int, .int]
  staticTypes := #[(.object "com/example/nimble_gate/nimblegate/decision/Decision"), (.object "com/example/nimble_gate/nimblegate/decision/Decision"), (.object "com/example/nimble_gate/nimblegate/decision/Decision"), (.object "com/example/nimble_gate/nimblegate/decision/Decision"), (.array (.object "com/example/nimble_gate/nimblegate/decision/Decision"))]
  resolved := Array.replicate 58 none
  statics := some 0 }

def pool7 : Array CpInfo := pool [(1, u "java/lang/Cloneable"), (0, .class_ 1), (0, u "java/lang/Object"), (0, .class_ 3)] 3

/-- java/lang/Cloneable -/
def k7 : Class := { plain "java/lang/Cloneable" (some 0) with
  accessFlags := 1537
  interfaces := #[]
  cf := some (fileOf pool7 2 #[] #[] 1537 4 #[] #[])
  fields := #[]
  methods := #[]
  instanceTypes := #[]
  staticTypes := #[]
  resolved := Array.replicate 8 none
  statics := none }

/-- the primitive byte -/
def k8 : Class := { plain "byte" none with kind := .primitive 'B', accessFlags := 0x411 }
/-- [B -/
def k9 : Class := { plain "[B" (some 0) with kind := .array 8 .byte, interfaces := #[7, 4], accessFlags := 1041 }

/-- the primitive int -/
def k10 : Class := { plain "int" none with kind := .primitive 'I', accessFlags := 0x411 }
/-- [I -/
def k11 : Class := { plain "[I" (some 0) with kind := .array 10 .int, interfaces := #[7, 4], accessFlags := 1041 }

def heap : Heap := #[{ cls := 6, slots := #[.ref 1, .ref 2, .ref 3, .ref 4, .null], vm := .statics 6 },
  { cls := 6, slots := #[.null, .int 0, .int 0], vm := .none },
  { cls := 6, slots := #[.null, .int 1, .int 0], vm := .none },
  { cls := 6, slots := #[.null, .int 2, .int 0], vm := .none },
  { cls := 6, slots := #[.null, .int 3, .int 0], vm := .none }]
def classes : Array Class := #[k0, k1, k2, k3, k4, k5, k6, k7, k8, k9, k10, k11]
def interned : List (Array UInt16 × Addr) := []
def slotsUsed : Nat := 17
def theMethod : MethodId := ⟨1, 3⟩
def args0 : Array Value := #[.int 5]
def aboutOver (below : List Frame) : State where
  vm := { classes := classes, interned := interned.toArray }
  heap := heap
  slotsUsed := slotsUsed
  threads := #[{ frames := .invoking theMethod args0 :: below }]
def below0 : List Frame := [.native { method := ⟨0, 0⟩, args := #[] }]
def about1 : State := aboutOver below0
def p0 : Program := .bare "" "" ""
def e0 : Env := launch0.env 0 0 0
theorem w_frames : about1.frames = Frame.invoking theMethod args0 :: below0 := rfl
set_option maxRecDepth 65536 in
theorem w_args : argsFit about1.vm theMethod args0 = true := by decide +kernel
set_option maxRecDepth 65536 in
theorem w_heap : heapFits about1 = true := by decide +kernel
set_option maxRecDepth 65536 in
theorem w_runnable : about1.curStatus? = some .runnable := by decide +kernel
set_option maxRecDepth 65536 in
theorem w_alone : about1.alone = true := by decide +kernel
set_option maxRecDepth 65536 in
theorem w_named : about1.methodNamed? x = some theMethod := by decide +kernel
set_option maxRecDepth 65536 in
theorem w_hears : about1.hears theMethod below0 = true := by decide +kernel
set_option maxRecDepth 65536 in
theorem w_ripe : about1.ripe theMethod args0 below0 = true := by decide +kernel
theorem w_running : about1.status = .running := rfl
set_option maxRecDepth 65536 in
theorem w_room : about1.hasRoom e0.platform room_1 = true :=
  launch0.hasRoom_least _ room_1 (by decide +kernel) (by decide +kernel) (by decide +kernel) (by decide +kernel) (by decide +kernel) (by decide +kernel)
theorem allAtoms_all (ts : List Jvm.Cond) (a : Array Jvm.Value) (st : Jvm.State) : (allAtoms ts).before a st = ts.all (fun c => c.before a st) := by
  induction ts with
  | nil => rfl
  | cons c t ih =>
    show (Jvm.Cond.and c (allAtoms t)).before a st = _
    rw [Jvm.Cond.before_and, ih, List.all_cons]
def words1 : List Jvm.Cond := Jvm.Cond.code x code maxLocals ret :: tables_1
/-- a 'code' word, met by the world's own term for the bytes: nothing is compared byte by byte -/
theorem code_word {y : MethodName} {bytes : ByteArray} {mx : Nat} {rt : Option FieldType} {a : Array Value} {s : State} {m : MethodId} {meth : Method} {c : Code} (h1 : s.methodNamed? y = some m) (h2 : s.vm.method? m = some meth) (h3 : meth.code = some c) (h4 : c.code = bytes)
    (h5 : (c.maxLocals == mx && c.exceptionTable.isEmpty && decide (c.maxStack ≤ mostOperands) && decide (meth.sig.returnType = rt) && !meth.locks && decide (parseMethodDescriptor y.desc = some meth.sig)) = true) : (Jvm.Cond.code y bytes mx rt).before a s = true := by
  simp only [Bool.and_eq_true, beq_iff_eq, Bool.not_eq_true', decide_eq_true_eq] at h5
  obtain ⟨⟨⟨⟨⟨g1, g2⟩, g3⟩, g4⟩, g5⟩, g6⟩ := h5
  simp [Cond.before, Cond.holds, Cond.value, h1, h2, h3, h4, g1, g2, g3, g4, g5, g6]
def isCode : Jvm.Cond → Bool
  | .code _ _ _ _ => true
  | _ => false
theorem all_split {L : List Jvm.Cond} {P : Jvm.Cond → Bool} (h1 : L.all (fun c => isCode c || P c) = true) (h2 : ∀ c ∈ L.filter isCode, P c = true) : L.all P = true := by
  refine List.all_eq_true.mpr fun c hc => ?_
  have h := List.all_eq_true.mp h1 c hc
  rcases Bool.eq_false_or_eq_true (isCode c) with hi | hi
  · exact h2 c (List.mem_filter.mpr ⟨hc, hi⟩)
  · simpa [hi] using h
set_option maxRecDepth 65536 in
theorem w_c0 : (Jvm.Cond.code x code maxLocals ret).before args0 about1 = true := code_word (m := ⟨1, 3⟩) (meth := k1m3) (c := k1c3) (by decide +kernel) rfl rfl rfl (by decide +kernel)
set_option maxRecDepth 65536 in
theorem w_c1 : (Jvm.Cond.code ({ cls := "com/example/nimble_gate/nimblegate/decision/DecisionGrantsAccessPinLaw", name := "pick", desc := "(I)Lcom/example/nimble_gate/nimblegate/decision/Decision;" } : Jvm.MethodName) method_2_code (1 : Nat) (Option.some (Jvm.ClassFile.FieldType.object "com/example/nimble_gate/nimblegate/decision/Decision"))).before args0 about1 = true := code_word (m := ⟨1, 1⟩) (meth := k1m1) (c := k1c1) (by decide +kernel) rfl rfl rfl (by decide +kernel)
set_option maxRecDepth 65536 in
theorem w_c2 : (Jvm.Cond.code ({ cls := "com/example/nimble_gate/nimblegate/decision/Decision", name := "grantsAccess", desc := "()Z" } : Jvm.MethodName) prog_1_method_4_code (1 : Nat) (Option.some Jvm.ClassFile.FieldType.boolean)).before args0 about1 = true := code_word (m := ⟨6, 0⟩) (meth := k6m0) (c := k6c0) (by decide +kernel) rfl rfl rfl (by decide +kernel)
set_option maxRecDepth 65536 in
theorem w_c3 : (Jvm.Cond.code ({ cls := "com/example/nimble_gate/nimblegate/decision/DecisionGrantsAccessPinLaw", name := "expected", desc := "(I)Z" } : Jvm.MethodName) method_3_code (1 : Nat) (Option.some Jvm.ClassFile.FieldType.boolean)).before args0 about1 = true := code_word (m := ⟨1, 2⟩) (meth := k1m2) (c := k1c2) (by decide +kernel) rfl rfl rfl (by decide +kernel)
def codes1 : List Jvm.Cond := [Jvm.Cond.code x code maxLocals ret, Jvm.Cond.code ({ cls := "com/example/nimble_gate/nimblegate/decision/DecisionGrantsAccessPinLaw", name := "pick", desc := "(I)Lcom/example/nimble_gate/nimblegate/decision/Decision;" } : Jvm.MethodName) method_2_code (1 : Nat) (Option.some (Jvm.ClassFile.FieldType.object "com/example/nimble_gate/nimblegate/decision/Decision")), Jvm.Cond.code ({ cls := "com/example/nimble_gate/nimblegate/decision/Decision", name := "grantsAccess", desc := "()Z" } : Jvm.MethodName) prog_1_method_4_code (1 : Nat) (Option.some Jvm.ClassFile.FieldType.boolean), Jvm.Cond.code ({ cls := "com/example/nimble_gate/nimblegate/decision/DecisionGrantsAccessPinLaw", name := "expected", desc := "(I)Z" } : Jvm.MethodName) method_3_code (1 : Nat) (Option.some Jvm.ClassFile.FieldType.boolean)]
set_option maxRecDepth 65536 in
theorem codes_eq : words1.filter isCode = codes1 := rfl
theorem w_codes : ∀ c ∈ words1.filter isCode, c.before args0 about1 = true := by
  rw [codes_eq]
  intro c hc
  simp only [codes1, List.mem_cons, List.not_mem_nil, or_false] at hc
  rcases hc with rfl | rfl | rfl | rfl
  · exact w_c0
  · exact w_c1
  · exact w_c2
  · exact w_c3
set_option maxRecDepth 65536 in
theorem w_t1 : words1.all (fun c => isCode c || c.before args0 about1) = true := by decide +kernel
theorem w_tables : (allAtoms (Jvm.Cond.code x code maxLocals ret :: tables_1)).before args0 about1 = true := by
  rw [allAtoms_all]
  show words1.all (fun c => c.before args0 about1) = true
  refine all_split ?_ w_codes
  rw [w_t1]
set_option maxRecDepth 65536 in
theorem w_case : (Jvm.Cond.and given_1 narrow_1).before args0 about1 = true := by decide +kernel
theorem w_applies : (headSpec (Jvm.Cond.code x code maxLocals ret :: tables_1) room_1).applies x e0.platform about1 = true :=
  (Spec.applies_iff w_frames).mpr ⟨w_running, w_runnable, w_alone, w_named, w_hears, w_ripe, w_room, w_tables⟩
theorem atStart : AtStart classFile x code maxLocals ret World_1 tables_1 room_1 Calls_1 rest_1 Pre_1 launch0 p0 e0 about1 theMethod args0 below0 :=
  ⟨lists_1, trivial, launch0.admits_env _ _ _, launch0.least_env, fairChoices_fair.cas, fairChoices_fair.clock, w_frames, w_args, w_heap, w_applies, trivial, trivial, w_case⟩
end start1
theorem witness_1 : WitnessClaimed_1 := ⟨start1.p0, start1.e0, start1.about1, start1.theMethod, start1.args0, start1.below0, start1.atStart⟩
end Jvm.Pilot.@@N@@
