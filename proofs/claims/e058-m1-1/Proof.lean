import JvmDerived
import JvmDerived.Pilot.@@N@@Statement
import JvmDerived.Pilot.@@N@@Code
set_option linter.unusedVariables false
set_option linter.unusedSimpArgs false
@@BLOCK:NumsL.lean.txt@@
namespace Jvm.Pilot.@@N@@
open Jvm Jvm.ClassFile Sem Op Lib Jvm.Free Jvm.Stand Jvm.LawKit Jvm.RoadKit Bundle Jvm.Pilot.@@N@@.Jvm.D
/-! The own kit: a walk forwards. 'Goes .. S': from S the body runs to its end, and Q holds there. -/
def Goes (p : Program) (e : Env) (below : List Frame) (P : Outcome → State → Prop) (S : State) : Prop :=
  ∃ s₂ o, Steps p.tables e below S s₂ ∧ s₂.status = .running ∧ Ended s₂ below o ∧ P o s₂
abbrev EndQ (s : State) (Q : Option Value → Heap → List Loc → Prop) (k n : Nat) : Outcome → State → Prop := fun o U => ∃ v L, o = .returned v ∧ Q v U.heap L ∧ FrameEnd s o U L k n
abbrev Ctr (l : Launch) (Z : State) (y : MethodName) (bytes : ByteArray) (maxL : Nat) (ret : Option FieldType) (ws : List Jvm.Cond) (rm : Room) (as' : Array Value) (h0 : Heap) (Q : Option Value → Heap → List Loc → Prop) : Prop :=
  MetFree l y (head1 (Jvm.Cond.code y bytes maxL ret :: ws) rm) (fun a U => a = as' ∧ Z.Warmed39 U.vm ∧ U.heap = h0) (fun _ _ _ _ _ => True) (fun _ U o U' => ∃ v L, o = .returned v ∧ Q v U'.heap L ∧ FrameEnd U o U' L rm.cells rm.slots)
abbrev CtrW (l : Launch) (Z : State) (y : MethodName) (bytes : ByteArray) (maxL : Nat) (ret : Option FieldType) (ws : List Jvm.Cond) (rm : Room) (as' : Array Value) (h0 : Heap) (Q : Option Value → Heap → List Loc → Prop) : Prop :=
  MetFree l y (head1 (Jvm.Cond.code y bytes maxL ret :: ws) rm) (fun a U => a = as' ∧ Z.Warmed39 U.vm ∧ U.heap = h0 ∧ U.vm = Z.vm) (fun _ _ _ _ _ => True) (fun _ U o U' => ∃ v L, o = .returned v ∧ Q v U'.heap L ∧ ReturnedEndW U o U' L rm.cells rm.slots)
section Own
variable {p : Program} {l : Launch} {e : Env} {R : Room} {s : State} {m : MethodId} {args : Array Value} {below : List Frame} {meth : Method} {c : Code} {T : State} {locs : List Loc} {cells slots : Nat} {Z : State} {a0 : Array Value} {h : Heap}
variable {Q : Option Value → Heap → List Loc → Prop} {k n : Nat} {S S' : State} {P : Outcome → State → Prop}
theorem Goes.pre (hs : ∀ t, Steps p.tables e below S' t → Steps p.tables e below S t) (g : Goes p e below P S') : Goes p e below P S := by
  obtain ⟨s₂, o, a, b⟩ := g
  exact ⟨s₂, o, hs _ a, b⟩
theorem Goes.via (hs : Steps p.tables e below S S') (g : Goes p e below P S') : Goes p e below P S := by
  obtain ⟨s₂, o, a, b⟩ := g
  exact ⟨s₂, o, hs.trans a, b⟩
theorem Goes.out (X : Stand p l e R s m args below meth c T locs cells slots) {v : Option Value} (hv : meth.sig.returnType = none → v = none) (hlocks : meth.locks = false) (hq : Q v T.heap locs) (hk : cells ≤ k) (hn : slots ≤ n)
    (hs : ∀ fs, (∀ (f : JFrame) (acts : List Action), f.method = m → f.locked = none → f.entered = [] → (doReturn e (T.setTop f) acts v).1 = T.setFrames fs) → Steps p.tables e below S (T.setFrames fs)) : Goes p e below (EndQ s Q k n) S := by
  obtain ⟨fs, hr, hrun, hended, hW, hsame⟩ := X.leave (v := v) hv hlocks
  exact ⟨_, _, hs fs hr, hrun, hended, _, _, rfl, hq, ⟨_, rfl⟩, hW, hsame.mono hk hn⟩
/-- ireturn of a boolean, byte, char, short -/
theorem Goes.retN (X : Stand p l e R s m args below meth c T locs cells slots) (hx : p.tables.exec = Jvm.exec) (hlocks : meth.locks = false) {t : FieldType} (hret : meth.sig.returnType = some t) (ht : t = .boolean ∨ t = .byte ∨ t = .char ∨ t = .short) {pc : Nat} (hd : decode c.code pc = .ok (.ireturn, 1)) {Ls : Array Slot} {z : Int32} {rest : List Value}
    (hq : Q (some (.int (nar t z))) T.heap locs) (hk : cells ≤ k) (hn : slots ≤ n) : Goes p e below (EndQ s Q k n) (T.setTop (mkF m pc Ls (.int z :: rest))) :=
  Goes.out X (v := some (.int (nar t z))) (fun q => by rw [hret] at q; cases q) hlocks hq hk hn fun _ hr => Jvm.RoadKit.retN X hx (t := t) hret ht hd hr
/-- ireturn of an int, areturn, lreturn -/
theorem Goes.ret (X : Stand p l e R s m args below meth c T locs cells slots) (hx : p.tables.exec = Jvm.exec) (hlocks : meth.locks = false) {t : FieldType} (hret : meth.sig.returnType = some t) {w : Value} (hnw : narrow t w = w) {i : Instr}
    (hi : (i = .ireturn ∧ (t = .int ∨ t = .boolean ∨ t = .byte ∨ t = .char ∨ t = .short) ∧ ∃ z, w = .int z) ∨ (i = .lreturn ∧ t = .long ∧ ∃ z, w = .long z) ∨ (i = .dreturn ∧ t = .double ∧ ∃ z, w = .double z) ∨ (i = .freturn ∧ t = .float ∧ ∃ z, w = .float z) ∨ (i = .areturn ∧ t.isReference = true ∧ w.isRef = true))
    {pc : Nat} (hd : decode c.code pc = .ok (i, 1)) {Ls : Array Slot} {rest : List Value}
    (hq : Q (some w) T.heap locs) (hk : cells ≤ k) (hn : slots ≤ n) : Goes p e below (EndQ s Q k n) (T.setTop (mkF m pc Ls (w :: rest))) :=
  Goes.out X (v := some w) (fun q => by rw [hret] at q; cases q) hlocks hq hk hn fun _ hr => retOut X hx hret hnw hi hd hr
theorem Goes.retV (X : Stand p l e R s m args below meth c T locs cells slots) (hx : p.tables.exec = Jvm.exec) (hlocks : meth.locks = false) (hret : meth.sig.returnType = none) {pc : Nat} (hd : decode c.code pc = .ok (.return_, 1)) {Ls : Array Slot}
    (hq : Q none T.heap locs) (hk : cells ≤ k) (hn : slots ≤ n) : Goes p e below (EndQ s Q k n) (T.setTop (mkF m pc Ls [])) :=
  Goes.out X (v := none) (fun _ => rfl) hlocks hq hk hn fun _ hr => X.returnOut hx hret hd hr
/-- the end of a walk that may have interned -/
abbrev EndW (s : State) (Q : Option Value → Heap → List Loc → Prop) (k n : Nat) : Outcome → State → Prop := fun o U => ∃ v L, o = .returned v ∧ Q v U.heap L ∧ ReturnedEndW s o U L k n
theorem Goes.retNW {vm₁ : Vm} (X : Stand p l e R (s.setVm vm₁) m args below meth c T locs cells slots) {j : Nat} (hS : s.Since vm₁ j) (hj : j ≤ T.heap.size) (hx : p.tables.exec = Jvm.exec) (hlocks : meth.locks = false) {t : FieldType} (hret : meth.sig.returnType = some t) (ht : t = .boolean ∨ t = .byte ∨ t = .char ∨ t = .short) {pc : Nat} (hd : decode c.code pc = .ok (.ireturn, 1)) {Ls : Array Slot} {z : Int32} {rest : List Value}
    (hq : Q (some (.int (nar t z))) T.heap locs) (hk : cells ≤ k) (hn : slots ≤ n) : Goes p e below (EndW s Q k n) (T.setTop (mkF m pc Ls (.int z :: rest))) := by
  obtain ⟨fs, hr, hrun, hended, h1, h2, h3, h4⟩ := X.leaveW hS hj (v := some (.int (nar t z))) (fun q => by rw [hret] at q; cases q) hlocks
  exact ⟨_, _, Jvm.RoadKit.retN X hx (t := t) hret ht hd hr, hrun, hended, _, _, rfl, hq, h1, h2, h3, h4.mono hk hn⟩
/-- a static call by its contract -/
theorem Goes.callS {y : MethodName} {bytes : ByteArray} {maxL : Nat} {ret : Option FieldType} {rm : Room} {as' : Array Value} {Qc : Option Value → Heap → List Loc → Prop}
    (X : Stand p l e R s m args below meth c T locs cells slots) (hx : p.tables.exec = Jvm.exec) (hZ : Z.Warmed39 s.vm) {own : String} {index : Nat} (hown : s.vm.findClass own = some m.cls)
    (w1 : (Jvm.Cond.methodLink own index y).before a0 Z = true) (w2 : (Jvm.Cond.static y).before a0 Z = true) (w3 : (Jvm.Cond.initialized y.cls).before a0 Z = true) (w4 : (Jvm.Cond.code y bytes maxL ret).before a0 Z = true)
    (hy : y.cls ≠ "java/lang/invoke/MethodHandle" ∧ y.cls ≠ "java/lang/invoke/VarHandle") (eT : T.heap = h) (hM : Ctr l Z y bytes maxL ret [] rm as' h Qc)
    {pc : Nat} {Ls : Array Slot} {stk : List Value} (hsize : Ls.size = c.maxLocals) (argsL rest : List Value) {ps : List FieldType} {r : Option FieldType} (hpd : parseMethodDescriptor y.desc = some ⟨ps, r⟩) (hlen : argsL.length = ps.length)
    (hstk : stk = argsL.reverse ++ rest) (has : argsL.toArray = as') (hd : decode c.code pc = .ok (.invokestatic index, 3))
    (hf : rm.frames + 1 ≤ R.frames) (hl : (rest.map fun v => v.category).sum + (maxL + 11) + rm.locals ≤ R.locals) (hc : cells + rm.cells ≤ R.cells) (hs : slots + rm.slots ≤ R.slots)
    (g : ∀ (T' : State) (v : Option Value) (L : List Loc), Stand p l e R s m args below meth c T' (locs ++ L) (cells + rm.cells) (slots + rm.slots) → Qc v T'.heap L → Goes p e below P (T'.setTop (mkF m (pc + 3) Ls (v.toList ++ rest)))) :
    Goes p e below P (T.setTop (mkF m pc Ls stk)) := by
  subst has
  obtain ⟨v, _, ⟨T', L', k', n'⟩, -, X', ⟨Lc, hQ, l1, l2, l3⟩, st⟩ := Jvm.LawKit.callS X hx (y := y) hown (mvT hZ w1) (mvT hZ w2) (mvT hZ w3) (mvT hZ w4) hy (backOf (W := (rest.map fun v => v.category).sum) hM hZ w4 w3 hf hl) (g := mkF m pc Ls stk) rfl hsize (argsL := argsL) (rest := rest) (lenOf hpd hlen) hstk (by show 2 * 0 + _ ≤ _; omega) hd (fun _ _ => ⟨rfl, eT, hc, hs⟩)
  dsimp only [Pt.U, Pt.locs, Pt.cells, Pt.slots] at X' l1 l2 l3 st hQ
  subst l1 l2 l3
  exact Goes.pre st (g T' v Lc X' hQ)
/-- a constructor by its contract -/
theorem Goes.init {y : MethodName} {bytes : ByteArray} {maxL : Nat} {rm : Room} {as' : Array Value} {Qc : Option Value → Heap → List Loc → Prop}
    (X : Stand p l e R s m args below meth c T locs cells slots) (hx : p.tables.exec = Jvm.exec) (hZ : Z.Warmed39 s.vm) {own : String} {index : Nat} (hown : s.vm.findClass own = some m.cls) (hnm : y.name = "<init>")
    (w1 : (Jvm.Cond.methodLink own index y).before a0 Z = true) (w2 : (Jvm.Cond.instanceMethod y).before a0 Z = true) (w3 : (Jvm.Cond.initialized y.cls).before a0 Z = true) (w4 : (Jvm.Cond.code y bytes maxL none).before a0 Z = true)
    (hy : y.cls ≠ "java/lang/invoke/MethodHandle" ∧ y.cls ≠ "java/lang/invoke/VarHandle") (eT : T.heap = h) (hM : Ctr l Z y bytes maxL none [] rm as' h Qc)
    {pc : Nat} {Ls : Array Slot} {stk : List Value} (hsize : Ls.size = c.maxLocals) (a : Addr) (argsL rest : List Value) {ps : List FieldType} {r : Option FieldType} (hpd : parseMethodDescriptor y.desc = some ⟨ps, r⟩) (hlen : argsL.length = ps.length)
    (hstk : stk = argsL.reverse ++ .ref a :: rest) (has : (.ref a :: argsL).toArray = as') (hd : decode c.code pc = .ok (.invokespecial index, 3))
    (hf : rm.frames + 1 ≤ R.frames) (hl : (rest.map fun v => v.category).sum + (maxL + 11) + rm.locals ≤ R.locals) (hc : cells + rm.cells ≤ R.cells) (hs : slots + rm.slots ≤ R.slots)
    (g : ∀ (T' : State) (v : Option Value) (L : List Loc), Stand p l e R s m args below meth c T' (locs ++ L) (cells + rm.cells) (slots + rm.slots) → Qc v T'.heap L → Goes p e below P (T'.setTop (mkF m (pc + 3) Ls (v.toList ++ rest)))) :
    Goes p e below P (T.setTop (mkF m pc Ls stk)) := by
  subst has
  obtain ⟨v, _, ⟨T', L', k', n'⟩, -, X', ⟨Lc, hQ, l1, l2, l3⟩, st⟩ := X.specialBack hx (y := y) hnm hown (mvT hZ w1) (mvT hZ w2) (mvT hZ w4) hy (backOf (W := (rest.map fun v => v.category).sum) hM hZ w4 w3 hf hl) (g := mkF m pc Ls stk) rfl hsize (Steps.refl _) (a := a) (argsL := argsL) (rest := rest) (lenOf hpd hlen) hstk (by show 2 * 0 + _ ≤ _; omega) hd (fun _ _ => ⟨rfl, eT, hc, hs⟩)
  dsimp only [Pt.U, Pt.locs, Pt.cells, Pt.slots] at X' l1 l2 l3 st hQ
  subst l1 l2 l3
  exact Goes.via st (g T' v Lc X' hQ)
/-- an instance method by its contract -/
theorem Goes.callV {y : MethodName} {C : String} {bytes : ByteArray} {maxL : Nat} {ret : Option FieldType} {rm : Room} {as' : Array Value} {Qc : Option Value → Heap → List Loc → Prop}
    (X : Stand p l e R s m args below meth c T locs cells slots) (hx : p.tables.exec = Jvm.exec) (hZ : Z.Warmed39 s.vm) {own : String} {index : Nat} (hown : s.vm.findClass own = some m.cls)
    (w1 : (Jvm.Cond.methodLink own index y).before a0 Z = true) (w2 : (Jvm.Cond.declares y).before a0 Z = true) (w5 : (Jvm.Cond.selects C y y).before a0 Z = true) (w6 : (Jvm.Cond.instanceMethod y).before a0 Z = true) (w3 : (Jvm.Cond.initialized y.cls).before a0 Z = true) (w4 : (Jvm.Cond.code y bytes maxL ret).before a0 Z = true)
    (hy : y.cls ≠ "java/lang/invoke/MethodHandle" ∧ y.cls ≠ "java/lang/invoke/VarHandle") (eT : T.heap = h) {a : Addr} (E : Exa Z h a C) (hM : Ctr l Z y bytes maxL ret [] rm as' h Qc)
    {pc : Nat} {Ls : Array Slot} {stk : List Value} (hsize : Ls.size = c.maxLocals) (argsL rest : List Value) {ps : List FieldType} {r : Option FieldType} (hpd : parseMethodDescriptor y.desc = some ⟨ps, r⟩) (hlen : argsL.length = ps.length)
    (hstk : stk = argsL.reverse ++ .ref a :: rest) (has : (.ref a :: argsL).toArray = as') (hd : decode c.code pc = .ok (.invokevirtual index, 3))
    (hf : rm.frames + 1 ≤ R.frames) (hl : (rest.map fun v => v.category).sum + (maxL + 11) + rm.locals ≤ R.locals) (hc : cells + rm.cells ≤ R.cells) (hs : slots + rm.slots ≤ R.slots)
    (g : ∀ (T' : State) (v : Option Value) (L : List Loc), Stand p l e R s m args below meth c T' (locs ++ L) (cells + rm.cells) (slots + rm.slots) → Qc v T'.heap L → Goes p e below P (T'.setTop (mkF m (pc + 3) Ls (v.toList ++ rest)))) :
    Goes p e below P (T.setTop (mkF m pc Ls stk)) := by
  subst has
  obtain ⟨cB, kB, q1, -, q3⟩ := isOf hZ eT E
  obtain ⟨v, _, ⟨T', L', k', n'⟩, -, X', ⟨Lc, hQ, l1, l2, l3⟩, st⟩ := X.virtualBack hx (y := y) (z := y) hown (mvT hZ w1) (mvT hZ w2) (notFace_of_selects (args := #[]) (mvT hZ w5)) (mvT hZ w5) (mvT hZ w6) hy (backOf (W := (rest.map fun v => v.category).sum) hM hZ w4 w3 hf hl) q1 q3 (g := mkF m pc Ls stk) rfl hsize (Steps.refl _) (argsL := argsL) (rest := rest) (lenOf hpd hlen) hstk (by show 2 * 0 + _ ≤ _; omega) hd (fun _ _ => ⟨rfl, eT, hc, hs⟩)
  dsimp only [Pt.U, Pt.locs, Pt.cells, Pt.slots] at X' l1 l2 l3 st hQ
  subst l1 l2 l3
  exact Goes.via st (g T' v Lc X' hQ)
theorem Goes.iaload (X : Stand p l e R s m args below meth c T locs cells slots) (hx : p.tables.exec = Jvm.exec) (hZ : Z.Warmed39 s.vm) (eT : T.heap = h) {a : Addr} {kc : ClassId} {z : Int32} {vs : List Value} {dv : Value} (V : Arv Z h a kc .int z vs dv) {j : Int32} (hj : ¬ j < 0 ∧ j < z) {w : Value} (hw : vs.getD j.toNatClampNeg dv = w)
    {pc : Nat} {Ls : Array Slot} {rest : List Value} (hd : decode c.code pc = .ok (.iaload, 1)) (g : Goes p e below P (T.setTop (mkF m (pc + 1) Ls (w :: rest)))) : Goes p e below P (T.setTop (mkF m pc Ls (.int j :: .ref a :: rest))) := by
  obtain ⟨cl, A, -, S, -, H, -⟩ := V
  exact Goes.pre (fun t kk => X.iaload hx (by rw [eT]; exact A.1) (State.isArrayOf_alike hZ.alike A.2.1) A.2.2 (inb_of S hj) (H.at (inb_of S hj) hw) (g := mkF m pc Ls (.int j :: .ref a :: rest)) rfl rfl hd t kk) g
theorem Goes.baloadZ (X : Stand p l e R s m args below meth c T locs cells slots) (hx : p.tables.exec = Jvm.exec) (hZ : Z.Warmed39 s.vm) (eT : T.heap = h) {a : Addr} {kc : ClassId} {z : Int32} {vs : List Value} {dv : Value} (V : Arv Z h a kc .boolean z vs dv) {j : Int32} (hj : ¬ j < 0 ∧ j < z) {w : Value} (hw : vs.getD j.toNatClampNeg dv = w)
    {pc : Nat} {Ls : Array Slot} {rest : List Value} (hd : decode c.code pc = .ok (.baload, 1)) (g : Goes p e below P (T.setTop (mkF m (pc + 1) Ls (w :: rest)))) : Goes p e below P (T.setTop (mkF m pc Ls (.int j :: .ref a :: rest))) := by
  obtain ⟨cl, A, -, S, -, H, -⟩ := V
  exact Goes.pre (fun t kk => X.baloadBooleans hx (by rw [eT]; exact A.1) (State.isArrayOf_alike hZ.alike A.2.1) A.2.2 (inb_of S hj) (H.at (inb_of S hj) hw) (g := mkF m pc Ls (.int j :: .ref a :: rest)) rfl rfl hd t kk) g
theorem Goes.baloadB (X : Stand p l e R s m args below meth c T locs cells slots) (hx : p.tables.exec = Jvm.exec) (hZ : Z.Warmed39 s.vm) (eT : T.heap = h) {a : Addr} {kc : ClassId} {z : Int32} {vs : List Value} {dv : Value} (V : Arv Z h a kc .byte z vs dv) {j : Int32} (hj : ¬ j < 0 ∧ j < z) {w : Value} (hw : vs.getD j.toNatClampNeg dv = w)
    {pc : Nat} {Ls : Array Slot} {rest : List Value} (hd : decode c.code pc = .ok (.baload, 1)) (g : Goes p e below P (T.setTop (mkF m (pc + 1) Ls (w :: rest)))) : Goes p e below P (T.setTop (mkF m pc Ls (.int j :: .ref a :: rest))) := by
  obtain ⟨cl, A, -, S, -, H, -⟩ := V
  exact Goes.pre (fun t kk => X.baloadBytes hx (by rw [eT]; exact A.1) (State.isArrayOf_alike hZ.alike A.2.1) A.2.2 (inb_of S hj) (H.at (inb_of S hj) hw) (g := mkF m pc Ls (.int j :: .ref a :: rest)) rfl rfl hd t kk) g
theorem Goes.aaload (X : Stand p l e R s m args below meth c T locs cells slots) (hx : p.tables.exec = Jvm.exec) (hZ : Z.Warmed39 s.vm) (eT : T.heap = h) {a : Addr} {kc : ClassId} {ty : FieldType} (hty : ty.isReference = true) {z : Int32} {vs : List Value} {dv : Value} (V : Arv Z h a kc ty z vs dv) {j : Int32} (hj : ¬ j < 0 ∧ j < z) {w : Value} (hw : vs.getD j.toNatClampNeg dv = w)
    {pc : Nat} {Ls : Array Slot} {rest : List Value} (hd : decode c.code pc = .ok (.aaload, 1)) (g : Goes p e below P (T.setTop (mkF m (pc + 1) Ls (w :: rest)))) : Goes p e below P (T.setTop (mkF m pc Ls (.int j :: .ref a :: rest))) := by
  obtain ⟨cl, A, -, S, -, H, -⟩ := V
  exact Goes.pre (fun t kk => X.aaload hx (by rw [eT]; exact A.1) (State.isArrayOf_alike hZ.alike A.2.1) hty A.2.2 (inb_of S hj) (H.at (inb_of S hj) hw) (g := mkF m pc Ls (.int j :: .ref a :: rest)) rfl rfl hd t kk) g
theorem Goes.alen (X : Stand p l e R s m args below meth c T locs cells slots) (hx : p.tables.exec = Jvm.exec) (hZ : Z.Warmed39 s.vm) (eT : T.heap = h) {a : Addr} {kc : ClassId} {ty : FieldType} {z : Int32} {vs : List Value} {dv : Value} (V : Arv Z h a kc ty z vs dv)
    {pc : Nat} {Ls : Array Slot} {rest : List Value} (hd : decode c.code pc = .ok (.arraylength, 1)) (g : Goes p e below P (T.setTop (mkF m (pc + 1) Ls (.int z :: rest)))) : Goes p e below P (T.setTop (mkF m pc Ls (.ref a :: rest))) := by
  obtain ⟨cl, A, -, S, M, -, -⟩ := V
  rw [← len_of S M] at g
  exact Goes.pre (fun t kk => X.arraylength hx (cell := cl) (by rw [eT]; exact A.1) (State.isArrayOf_alike hZ.alike A.2.1) (g := mkF m pc Ls (.ref a :: rest)) rfl rfl hd t kk) g
end Own
theorem own_ltI {a b : Int32} : a < b ↔ a.toInt < b.toInt := Int32.lt_iff_toInt_lt
theorem own_eqI {a b : Int32} : a = b ↔ a.toInt = b.toInt := Int32.toInt_inj.symm
theorem own_ints (xs : List Int32) (i : Nat) : (xs.map Value.int).getD i (.int 0) = .int (xs.getD i 0) := by
  induction xs generalizing i with
  | nil => rfl
  | cons x xs ih => cases i with
    | zero => rfl
    | succ i => exact ih i
theorem own_mask31 (x : Int32) : ¬ (x &&& 2147483647) < 0 := by
  rw [own_ltI, Jvm.Kit.i32_mask x 2147483647 (k := 31) (by decide) (by decide), show (0 : Int32).toInt = 0 from rfl]
  omega
theorem own_rem (x y : Int32) (hx : ¬ x < 0) (hy : 0 < y) : ¬ x % y < 0 ∧ x % y < y := by
  rw [own_ltI, show (0 : Int32).toInt = 0 from rfl] at hx hy
  have e := Jvm.Kit.i32_rem_nonneg (x := x) (y := y) (by omega)
  rw [own_ltI, own_ltI, e, show (0 : Int32).toInt = 0 from rfl]
  have a := Int.emod_nonneg x.toInt (show y.toInt ≠ 0 by omega)
  have b := Int.emod_lt_of_pos x.toInt hy
  omega
theorem own_len {Z : State} {args : Array Value} {t : Term} {a : Addr} {cl : Cell} {ty : FieldType} {z : Int32} (ev : t.eval args Z none [] Z = some (.ref a)) (A : Arr Z Z.heap a cl ty) (h : (Term.length t).eval args Z none [] Z = some (.int z)) : cl.slots.size < 2 ^ 31 ∧ cl.slots.size.toInt32 = z := by
  have hA : Z.arrayAt? a = some cl := Arr.fin (State.Warmed39.refl Z).alike A
  simp [Term.eval, ev, hA] at h
  exact h
theorem own_eqvR {Z : State} {args : Array Value} {X F : Term} {idx : List Nat} {x : Addr} (hF : F.eval args Z none idx Z = some (.ref x)) (h : (Cond.eq X F).value args Z none Z idx = some true) : X.eval args Z none idx Z = some (.ref x) := by
  obtain ⟨u, y, hu, hy, k1, k2⟩ := cmp_v (Or.inl h)
  cases hF.symm.trans hy
  have hr : u.isRef = true := k2.2
  have q := gotT (eq_R hu hy hr rfl) h
  rw [hu, q]
theorem own_StaKeep {Z : State} {h h' : Heap} {C n d : String} {v : Value} (F : Sta Z h C n d v) (K : Keep h h' []) : Sta Z h' C n d v := by
  obtain ⟨cf, i, k, f, st, cell, h1, h2, h3, h4, h5, r⟩ := F
  exact ⟨cf, i, k, f, st, cell, h1, h2, h3, h4, K.2.1 _ _ h5 nin0, r⟩
theorem own_neLt {a b n : Nat} (h : a < n) (h2 : n ≤ b) : a ≠ b := Nat.ne_of_lt (Nat.lt_of_lt_of_le h h2)
theorem own_six {c : Int32} (h0 : ¬ c < 0) (h6 : c < 6) : c = 0 ∨ c = 1 ∨ c = 2 ∨ c = 3 ∨ c = 4 ∨ c = 5 := by
  simp only [own_ltI, own_eqI] at *
  rw [show (0 : Int32).toInt = 0 from rfl] at *
  rw [show (6 : Int32).toInt = 6 from rfl] at h6
  rw [show (1 : Int32).toInt = 1 from rfl, show (2 : Int32).toInt = 2 from rfl, show (3 : Int32).toInt = 3 from rfl, show (4 : Int32).toInt = 4 from rfl, show (5 : Int32).toInt = 5 from rfl]
  omega
theorem own_pos1 {c : Int32} (h0 : ¬ c < 0) (h6 : c < 6) : c + 1 ≠ 0 ∧ 0 < c + 1 := by
  rcases own_six h0 h6 with rfl | rfl | rfl | rfl | rfl | rfl <;> decide
theorem own_m7 (x : Int32) : ¬ (x &&& 7) < 0 := by
  rw [own_ltI, Jvm.Kit.i32_mask x 7 (k := 3) (by decide) (by decide), show (0 : Int32).toInt = 0 from rfl]
  omega
/-- the last place below j that holds the key, or -1 -/
def own_ix (ys : List Int32) (key : Int32) : Nat → Int32
  | 0 => -1
  | j + 1 => if ys.getD j 0 = key then Int32.ofNat j else own_ix ys key j
theorem own_le5 {t c : Int32} (h0 : ¬ t < 0) (h1 : t < c + 1) (hc : ¬ c < 0) (h6 : c < 6) : ∃ n : Nat, n ≤ c.toNatClampNeg ∧ n ≤ 5 ∧ t = Int32.ofNat n := by
  rcases own_six hc h6 with rfl | rfl | rfl | rfl | rfl | rfl
  all_goals
    rcases own_six h0 (by
      simp only [own_ltI] at *
      refine Int.lt_of_lt_of_le h1 ?_
      decide) with rfl | rfl | rfl | rfl | rfl | rfl
  all_goals first
    | exact absurd h1 (by decide)
    | exact ⟨0, by decide, by decide, rfl⟩
    | exact ⟨1, by decide, by decide, rfl⟩
    | exact ⟨2, by decide, by decide, rfl⟩
    | exact ⟨3, by decide, by decide, rfl⟩
    | exact ⟨4, by decide, by decide, rfl⟩
    | exact ⟨5, by decide, by decide, rfl⟩
theorem own_idx5 (x : Int32) : ¬ ((x &&& 2147483647) % 5) < 0 ∧ ((x &&& 2147483647) % 5) < 5 := own_rem _ _ (own_mask31 x) (by decide)
theorem own_back {j : Nat} (hj : j < 5) : Int32.ofNat (j + 1) - 1 = Int32.ofNat j ∧ ¬ Int32.ofNat j < 0 ∧ (Int32.ofNat j).toNatClampNeg = j ∧ Int32.ofNat j + (-1) = Int32.ofNat j - 1 := by
  match j, hj with
  | 0, _ => decide
  | 1, _ => decide
  | 2, _ => decide
  | 3, _ => decide
  | 4, _ => decide

theorem din_0 : decode prog_15_method_1_code 0 = .ok (.aload_n 0, 1) := by decide +kernel
theorem din_1 : decode prog_15_method_1_code 1 = .ok (.invokespecial 1, 3) := by decide +kernel
theorem din_4 : decode prog_15_method_1_code 4 = .ok (.aload_n 0, 1) := by decide +kernel
theorem din_5 : decode prog_15_method_1_code 5 = .ok (.getstatic 7, 3) := by decide +kernel
theorem din_8 : decode prog_15_method_1_code 8 = .ok (.putfield 13, 3) := by decide +kernel
theorem din_11 : decode prog_15_method_1_code 11 = .ok (.return_, 1) := by decide +kernel
theorem pd_in : parseMethodDescriptor "()V" = some ⟨[], none⟩ := by decide +kernel
theorem pn_in : plainName "com/example/clear_plan/clearplan/grounding/FactList" = true := by first | (simp [plainName, overriddenIn]; done) | decide +kernel
def Q_in (Z : State) (a bn : Addr) (h0 : Heap) (n0 : Nat) (v : Option Value) (h : Heap) (L : List Loc) : Prop := v = none ∧ Fr n0 L ∧ Keep h0 h [a] ∧ Fld Z h a "com/example/clear_plan/clearplan/grounding/FactList" "numbers" "[I" (.ref bn) ∧ Fld Z h a "com/example/clear_plan/clearplan/grounding/FactList" "size" "I" (.int (0 : Int32))
theorem ef_in (m : MethodId) (a : Addr) : entryFrame m #[(.ref a)] 1 = mkF m 0 #[.val (.ref a)] [] := by first | (simp [entryFrame, mkF, argsToLocals, Value.category]; done) | rfl
set_option maxRecDepth 65536 in
set_option maxHeartbeats 40000000 in
theorem rm_in (l : Launch) (Z : State) (a0 : Array Value) (hw : ∀ d ∈ tables_1, d.before a0 Z = true) (ws : List Jvm.Cond) (a : Addr) (bn : Addr) (h0 : Heap) (n0 : Nat) (Z0 : n0 ≤ h0.size) (SN : Sta Z h0 "com/example/clear_plan/clearplan/grounding/FactList" "NONE" "[I" (.ref bn)) (F1 : Fld Z h0 a "com/example/clear_plan/clearplan/grounding/FactList" "numbers" "[I" .null) (F2 : Fld Z h0 a "com/example/clear_plan/clearplan/grounding/FactList" "size" "I" (.int (0 : Int32))) (E0 : Exa Z h0 a "com/example/clear_plan/clearplan/grounding/FactList") (ga : n0 ≤ a) :
    Ctr l Z (⟨"com/example/clear_plan/clearplan/grounding/FactList", "<init>", "()V"⟩ : MethodName) prog_15_method_1_code 1 (none : Option FieldType) ws ({ frames := 1, cells := 0, slots := 0, locals := 12 } : Room) #[(.ref a)] h0 (Q_in Z a bn h0 n0) := by
  refine MetFree.of_bodySF (plainFor_of_name pn_in) hisR ?_
  intro p e s m args below meth c s₁ Bd hml0 hP hK
  obtain ⟨rfl, hZ, hh⟩ := hP
  have hx := Bd.exec
  have hby := Bd.bytes
  have hlk : meth.locks = false := Bd.notSynchronized
  have hml : c.maxLocals = 1 := hml0
  have hown : s.vm.findClass "com/example/clear_plan/clearplan/grounding/FactList" = some m.cls := findClass_of_methodNamed Bd.named
  have hnm := (name_of_methodNamed Bd.named Bd.method).1
  have X0 : Stand p l e ({ frames := 1, cells := 0, slots := 0, locals := 12 } : Room) s m #[(.ref a)] below meth c s₁ [] 0 0 := Stand.of_body Bd
  have e0 : s₁.heap = h0 := by rw [← hh, Bd.state]; rfl
  have N0 := Fr.nil n0
  show Goes p e below (EndQ s (Q_in Z a bn h0 n0) ({ frames := 1, cells := 0, slots := 0, locals := 12 } : Room).cells ({ frames := 1, cells := 0, slots := 0, locals := 12 } : Room).slots) (s₁.setTop (entryFrame m #[(.ref a)] 1))
  refine Goes.pre (S' := (s₁.setTop (mkF m 0 #[.val (.ref a)] []))) (fun _ k => castTop (ef_in m a) k) ?_
  refine Goes.pre (S' := (s₁.setTop (mkF m 1 #[.val (.ref a)] [(.ref a)]))) (fun _ k => XS.aloadN X0.here hx rfl (hb hby din_0) rfl rfl k) ?_
  obtain ⟨T1, X1, e1, st1⟩ := initO X0 hx hZ hown (hw _ (List.mem_of_getElem? (i := 7) rfl)) (hw _ (List.mem_of_getElem? (i := 8) rfl)) (hw _ (List.mem_of_getElem? (i := 9) rfl)) e0 (g := (mkF m 1 #[.val (.ref a)] [(.ref a)])) rfl (by rw [hml]; rfl) rfl (hb hby din_1) (by decide) (W := 0) (by show 2 * 0 + _ ≤ _; exact Nat.le_of_eq rfl) (by decide)
  refine Goes.pre (S' := (T1.setTop (mkF m 4 #[.val (.ref a)] []))) st1 ?_
  refine Goes.pre (S' := (T1.setTop (mkF m 5 #[.val (.ref a)] [(.ref a)]))) (fun _ k => XS.aloadN X1.here hx rfl (hb hby din_4) rfl rfl k) ?_
  obtain ⟨T2, X2, e2, st2⟩ := getS (host := "") X1 hx hZ hown (hw _ (List.mem_of_getElem? (i := 10) rfl)) Via.refl e1 SN (g := (mkF m 5 #[.val (.ref a)] [(.ref a)])) rfl (hb hby din_5)
  refine Goes.pre (S' := (T2.setTop (mkF m 8 #[.val (.ref a)] [(.ref bn), (.ref a)]))) st2 ?_
  obtain ⟨T3, h3, X3, e3, W3, st3⟩ := putF X2 hx hZ hown (host := "") (Or.inl (hw _ (List.mem_of_getElem? (i := 12) rfl))) Via.refl e2 F1 E0 (Or.inl (hw _ (List.mem_of_getElem? (i := 13) rfl))) (hw _ (List.mem_of_getElem? (i := 2) rfl)) (ty := (.array .int)) (by decide) rfl rfl (g := (mkF m 8 #[.val (.ref a)] [(.ref bn), (.ref a)])) rfl rfl (hb hby din_8)
  have N3 := Fr.snoc X3 N0 ga
  have Zn3 : n0 ≤ h3.size := Nat.le_trans Z0 (Nat.le_of_eq W3.size.symm)
  refine Goes.pre (S' := (T3.setTop (mkF m 11 #[.val (.ref a)] []))) st3 ?_
  have sne := slot_ne (Z := Z) (a0 := a0) (Or.inl (hw _ (List.mem_of_getElem? (i := 13) rfl))) (Or.inl (hw _ (List.mem_of_getElem? (i := 20) rfl))) (by decide) (t := .array .int) (t' := .int) (by decide) (by decide)
  exact Goes.retV X3 hx hlk Bd.returns (hb hby din_11) (by rw [e3]; exact ⟨rfl, N3, Keep.of_wr W3, F1.same W3, F2.other W3 (Or.inr sne.symm)⟩) (by first | decide | exact Nat.le_of_ble_eq_true rfl | assumption | (simp [Value.category]; done)) (by first | decide | exact Nat.le_of_ble_eq_true rfl | assumption | (simp [Value.category]; done))
theorem dtr_0 : decode prog_15_method_6_code 0 = .ok (.aload_n 0, 1) := by decide +kernel
theorem dtr_1 : decode prog_15_method_6_code 1 = .ok (.iload_n 1, 1) := by decide +kernel
theorem dtr_2 : decode prog_15_method_6_code 2 = .ok (.putfield 16, 3) := by decide +kernel
theorem dtr_5 : decode prog_15_method_6_code 5 = .ok (.return_, 1) := by decide +kernel
theorem pd_tr : parseMethodDescriptor "(I)V" = some ⟨[.int], none⟩ := by decide +kernel
theorem pn_tr : plainName "com/example/clear_plan/clearplan/grounding/FactList" = true := by first | (simp [plainName, overriddenIn]; done) | decide +kernel
def Q_tr (Z : State) (a : Addr) (t : Int32) (h0 : Heap) (n0 : Nat) (v : Option Value) (h : Heap) (L : List Loc) : Prop := v = none ∧ Fr n0 L ∧ Keep h0 h [a] ∧ Fld Z h a "com/example/clear_plan/clearplan/grounding/FactList" "size" "I" (.int t) ∧ ∀ b, Fld Z h0 a "com/example/clear_plan/clearplan/grounding/FactList" "numbers" "[I" (.ref b) → Fld Z h a "com/example/clear_plan/clearplan/grounding/FactList" "numbers" "[I" (.ref b)
theorem ef_tr (m : MethodId) (a : Addr) (t : Int32) : entryFrame m #[(.ref a), (.int t)] 2 = mkF m 0 #[.val (.ref a), .val (.int t)] [] := by first | (simp [entryFrame, mkF, argsToLocals, Value.category]; done) | rfl
set_option maxRecDepth 65536 in
set_option maxHeartbeats 40000000 in
theorem rm_tr (l : Launch) (Z : State) (a0 : Array Value) (hw : ∀ d ∈ tables_1, d.before a0 Z = true) (ws : List Jvm.Cond) (a : Addr) (t : Int32) (z : Int32) (h0 : Heap) (n0 : Nat) (Z0 : n0 ≤ h0.size) (F2 : Fld Z h0 a "com/example/clear_plan/clearplan/grounding/FactList" "size" "I" (.int z)) (E0 : Exa Z h0 a "com/example/clear_plan/clearplan/grounding/FactList") (ga : n0 ≤ a) :
    Ctr l Z (⟨"com/example/clear_plan/clearplan/grounding/FactList", "truncate", "(I)V"⟩ : MethodName) prog_15_method_6_code 2 (none : Option FieldType) ws ({ frames := 0, cells := 0, slots := 0, locals := 0 } : Room) #[(.ref a), (.int t)] h0 (Q_tr Z a t h0 n0) := by
  refine MetFree.of_bodySF (plainFor_of_name pn_tr) hisR ?_
  intro p e s m args below meth c s₁ Bd hml0 hP hK
  obtain ⟨rfl, hZ, hh⟩ := hP
  have hx := Bd.exec
  have hby := Bd.bytes
  have hlk : meth.locks = false := Bd.notSynchronized
  have hml : c.maxLocals = 2 := hml0
  have hown : s.vm.findClass "com/example/clear_plan/clearplan/grounding/FactList" = some m.cls := findClass_of_methodNamed Bd.named
  have hnm := (name_of_methodNamed Bd.named Bd.method).1
  have X0 : Stand p l e ({ frames := 0, cells := 0, slots := 0, locals := 0 } : Room) s m #[(.ref a), (.int t)] below meth c s₁ [] 0 0 := Stand.of_body Bd
  have e0 : s₁.heap = h0 := by rw [← hh, Bd.state]; rfl
  have N0 := Fr.nil n0
  show Goes p e below (EndQ s (Q_tr Z a t h0 n0) ({ frames := 0, cells := 0, slots := 0, locals := 0 } : Room).cells ({ frames := 0, cells := 0, slots := 0, locals := 0 } : Room).slots) (s₁.setTop (entryFrame m #[(.ref a), (.int t)] 2))
  refine Goes.pre (S' := (s₁.setTop (mkF m 0 #[.val (.ref a), .val (.int t)] []))) (fun _ k => castTop (ef_tr m a t) k) ?_
  refine Goes.pre (S' := (s₁.setTop (mkF m 1 #[.val (.ref a), .val (.int t)] [(.ref a)]))) (fun _ k => XS.aloadN X0.here hx rfl (hb hby dtr_0) rfl rfl k) ?_
  refine Goes.pre (S' := (s₁.setTop (mkF m 2 #[.val (.ref a), .val (.int t)] [(.int t), (.ref a)]))) (fun _ k => XS.iloadN X0.here hx rfl (hb hby dtr_1) rfl k) ?_
  obtain ⟨T1, h1, X1, e1, W1, st1⟩ := putF X0 hx hZ hown (host := "") (Or.inl (hw _ (List.mem_of_getElem? (i := 19) rfl))) Via.refl e0 F2 E0 (Or.inl (hw _ (List.mem_of_getElem? (i := 20) rfl))) (hw _ (List.mem_of_getElem? (i := 2) rfl)) (ty := .int) (by decide) rfl rfl (g := (mkF m 2 #[.val (.ref a), .val (.int t)] [(.int t), (.ref a)])) rfl rfl (hb hby dtr_2)
  have N1 := Fr.snoc X1 N0 ga
  have Zn1 : n0 ≤ h1.size := Nat.le_trans Z0 (Nat.le_of_eq W1.size.symm)
  refine Goes.pre (S' := (T1.setTop (mkF m 5 #[.val (.ref a), .val (.int t)] []))) st1 ?_
  have sne := slot_ne (Z := Z) (a0 := a0) (Or.inl (hw _ (List.mem_of_getElem? (i := 13) rfl))) (Or.inl (hw _ (List.mem_of_getElem? (i := 20) rfl))) (by decide) (t := .array .int) (t' := .int) (by decide) (by decide)
  exact Goes.retV X1 hx hlk Bd.returns (hb hby dtr_5) (by rw [e1]; exact ⟨rfl, N1, Keep.of_wr W1, F2.same W1, fun b G => G.other W1 (Or.inr sne)⟩) (by first | decide | exact Nat.le_of_ble_eq_true rfl | assumption | (simp [Value.category]; done)) (by first | decide | exact Nat.le_of_ble_eq_true rfl | assumption | (simp [Value.category]; done))
theorem dmi_0 : decode jdk_29_method_69_code 0 = .ok (.iload_n 0, 1) := by decide +kernel
theorem dmi_1 : decode jdk_29_method_69_code 1 = .ok (.iload_n 1, 1) := by decide +kernel
theorem dmi_2 : decode jdk_29_method_69_code 2 = .ok (.if_icmp .gt 7, 3) := by decide +kernel
theorem dmi_5 : decode jdk_29_method_69_code 5 = .ok (.iload_n 0, 1) := by decide +kernel
theorem dmi_6 : decode jdk_29_method_69_code 6 = .ok (.goto 4, 3) := by decide +kernel
theorem dmi_9 : decode jdk_29_method_69_code 9 = .ok (.iload_n 1, 1) := by decide +kernel
theorem dmi_10 : decode jdk_29_method_69_code 10 = .ok (.ireturn, 1) := by decide +kernel
theorem pd_mi : parseMethodDescriptor "(II)I" = some ⟨[.int, .int], some .int⟩ := by decide +kernel
theorem pn_mi : plainFor (⟨"java/lang/Math", "min", "(II)I"⟩ : MethodName) = true := by decide +kernel
def Q_mi (x : Int32) (h0 : Heap) (n0 : Nat) (v : Option Value) (h : Heap) (L : List Loc) : Prop := v = some (.int x) ∧ Fr n0 L ∧ h = h0
theorem ef_mi (m : MethodId) (x : Int32) (y : Int32) : entryFrame m #[(.int x), (.int y)] 2 = mkF m 0 #[.val (.int x), .val (.int y)] [] := by first | (simp [entryFrame, mkF, argsToLocals, Value.category]; done) | rfl
set_option maxRecDepth 65536 in
set_option maxHeartbeats 40000000 in
theorem rm_mi (l : Launch) (Z : State) (a0 : Array Value) (hw : ∀ d ∈ tables_1, d.before a0 Z = true) (ws : List Jvm.Cond) (x : Int32) (y : Int32)  (h0 : Heap) (n0 : Nat) (Z0 : n0 ≤ h0.size) (hxy : ¬ y < x) :
    Ctr l Z (⟨"java/lang/Math", "min", "(II)I"⟩ : MethodName) jdk_29_method_69_code 2 (some .int) ws ({ frames := 0, cells := 0, slots := 0, locals := 0 } : Room) #[(.int x), (.int y)] h0 (Q_mi x h0 n0) := by
  refine MetFree.of_bodySF pn_mi hisR ?_
  intro p e s m args below meth c s₁ Bd hml0 hP hK
  obtain ⟨rfl, hZ, hh⟩ := hP
  have hx := Bd.exec
  have hby := Bd.bytes
  have hlk : meth.locks = false := Bd.notSynchronized
  have hml : c.maxLocals = 2 := hml0
  have hown : s.vm.findClass "java/lang/Math" = some m.cls := findClass_of_methodNamed Bd.named
  have hnm := (name_of_methodNamed Bd.named Bd.method).1
  have X0 : Stand p l e ({ frames := 0, cells := 0, slots := 0, locals := 0 } : Room) s m #[(.int x), (.int y)] below meth c s₁ [] 0 0 := Stand.of_body Bd
  have e0 : s₁.heap = h0 := by rw [← hh, Bd.state]; rfl
  have N0 := Fr.nil n0
  show Goes p e below (EndQ s (Q_mi x h0 n0) ({ frames := 0, cells := 0, slots := 0, locals := 0 } : Room).cells ({ frames := 0, cells := 0, slots := 0, locals := 0 } : Room).slots) (s₁.setTop (entryFrame m #[(.int x), (.int y)] 2))
  refine Goes.pre (S' := (s₁.setTop (mkF m 0 #[.val (.int x), .val (.int y)] []))) (fun _ k => castTop (ef_mi m x y) k) ?_
  refine Goes.pre (S' := (s₁.setTop (mkF m 1 #[.val (.int x), .val (.int y)] [(.int x)]))) (fun _ k => XS.iloadN X0.here hx rfl (hb hby dmi_0) rfl k) ?_
  refine Goes.pre (S' := (s₁.setTop (mkF m 2 #[.val (.int x), .val (.int y)] [(.int y), (.int x)]))) (fun _ k => XS.iloadN X0.here hx rfl (hb hby dmi_1) rfl k) ?_
  refine Goes.pre (S' := (s₁.setTop (mkF m 5 #[.val (.int x), .val (.int y)] []))) (fun _ k => XS.icmpNo X0.here hx rfl (hb hby dmi_2) rfl (XT.ii_gt_f hxy) k) ?_
  refine Goes.pre (S' := (s₁.setTop (mkF m 6 #[.val (.int x), .val (.int y)] [(.int x)]))) (fun _ k => XS.iloadN X0.here hx rfl (hb hby dmi_5) rfl k) ?_
  refine Goes.pre (S' := (s₁.setTop (mkF m 10 #[.val (.int x), .val (.int y)] [(.int x)]))) (fun _ k => XS.goto X0.here hx rfl (pc0 := 6) (pc' := 10) rfl (hb hby dmi_6) (by decide) (by decide) k) ?_
  exact Goes.ret X0 hx hlk (t := .int) Bd.returns rfl (Or.inl ⟨rfl, Or.inl rfl, _, rfl⟩) (hb hby dmi_10) ⟨rfl, N0, e0⟩ (by first | decide | exact Nat.le_of_ble_eq_true rfl | assumption | (simp [Value.category]; done)) (by first | decide | exact Nat.le_of_ble_eq_true rfl | assumption | (simp [Value.category]; done))
theorem dco_0 : decode jdk_65_method_123_code 0 = .ok (.iload_n 1, 1) := by decide +kernel
theorem dco_1 : decode jdk_65_method_123_code 1 = .ok (.aload_n 0, 1) := by decide +kernel
theorem dco_2 : decode jdk_65_method_123_code 2 = .ok (.arraylength, 1) := by decide +kernel
theorem dco_3 : decode jdk_65_method_123_code 3 = .ok (.if_icmp .ne 11, 3) := by decide +kernel
theorem dco_6 : decode jdk_65_method_123_code 6 = .ok (.aload_n 0, 1) := by decide +kernel
theorem dco_7 : decode jdk_65_method_123_code 7 = .ok (.invokevirtual 316, 3) := by decide +kernel
theorem dco_10 : decode jdk_65_method_123_code 10 = .ok (.checkcast 317, 3) := by decide +kernel
theorem dco_13 : decode jdk_65_method_123_code 13 = .ok (.areturn, 1) := by decide +kernel
theorem dco_14 : decode jdk_65_method_123_code 14 = .ok (.iload_n 1, 1) := by decide +kernel
theorem dco_15 : decode jdk_65_method_123_code 15 = .ok (.newarray .int, 2) := by decide +kernel
theorem dco_17 : decode jdk_65_method_123_code 17 = .ok (.astore_n 2, 1) := by decide +kernel
theorem dco_18 : decode jdk_65_method_123_code 18 = .ok (.aload_n 0, 1) := by decide +kernel
theorem dco_19 : decode jdk_65_method_123_code 19 = .ok (.iconst 0, 1) := by decide +kernel
theorem dco_20 : decode jdk_65_method_123_code 20 = .ok (.aload_n 2, 1) := by decide +kernel
theorem dco_21 : decode jdk_65_method_123_code 21 = .ok (.iconst 0, 1) := by decide +kernel
theorem dco_22 : decode jdk_65_method_123_code 22 = .ok (.aload_n 0, 1) := by decide +kernel
theorem dco_23 : decode jdk_65_method_123_code 23 = .ok (.arraylength, 1) := by decide +kernel
theorem dco_24 : decode jdk_65_method_123_code 24 = .ok (.iload_n 1, 1) := by decide +kernel
theorem dco_25 : decode jdk_65_method_123_code 25 = .ok (.invokestatic 304, 3) := by decide +kernel
theorem dco_28 : decode jdk_65_method_123_code 28 = .ok (.invokestatic 150, 3) := by decide +kernel
theorem dco_31 : decode jdk_65_method_123_code 31 = .ok (.aload_n 2, 1) := by decide +kernel
theorem dco_32 : decode jdk_65_method_123_code 32 = .ok (.areturn, 1) := by decide +kernel
theorem pd_co : parseMethodDescriptor "([II)[I" = some ⟨[(.array .int), .int], some (.array .int)⟩ := by decide +kernel
theorem pn_co : plainName "java/util/Arrays" = true := by first | (simp [plainName, overriddenIn]; done) | decide +kernel
def Q_co (Z : State) (y0 y1 y2 y3 : Value) (h0 : Heap) (n0 : Nat) (v : Option Value) (h : Heap) (L : List Loc) : Prop := ∃ (b : Addr) (k : ClassId), v = some (.ref b) ∧ Fr n0 L ∧ Keep h0 h [] ∧ h0.size ≤ b ∧ Arv Z h b k .int 8 ([y0, y1, y2, y3, .int 0, .int 0, .int 0, .int 0] : List Value) (.int 0)
theorem ef_co (m : MethodId) (r : Addr) (n : Int32) : entryFrame m #[(.ref r), (.int n)] 3 = mkF m 0 #[.val (.ref r), .val (.int n), .unset] [] := by first | (simp [entryFrame, mkF, argsToLocals, Value.category]; done) | rfl
set_option maxRecDepth 65536 in
set_option maxHeartbeats 40000000 in
theorem rm_co (l : Launch) (Z : State) (a0 : Array Value) (hw : ∀ d ∈ tables_1, d.before a0 Z = true) (ws : List Jvm.Cond) (r : Addr) (n : Int32) (kr : ClassId) (y0 y1 y2 y3 : Value) (h0 : Heap) (n0 : Nat) (Z0 : n0 ≤ h0.size) (hn : n = 8) (V : Arv Z h0 r kr .int 4 [y0, y1, y2, y3] (.int 0)) :
    Ctr l Z (⟨"java/util/Arrays", "copyOf", "([II)[I"⟩ : MethodName) jdk_65_method_123_code 3 (some (.array .int)) ws ({ frames := 1, cells := 1, slots := 8, locals := 40 } : Room) #[(.ref r), (.int n)] h0 (Q_co Z y0 y1 y2 y3 h0 n0) := by
  refine MetFree.of_bodySF (plainFor_of_name pn_co) hisR ?_
  intro p e s m args below meth c s₁ Bd hml0 hP hK
  obtain ⟨rfl, hZ, hh⟩ := hP
  have hx := Bd.exec
  have hby := Bd.bytes
  have hlk : meth.locks = false := Bd.notSynchronized
  have hml : c.maxLocals = 3 := hml0
  have hown : s.vm.findClass "java/util/Arrays" = some m.cls := findClass_of_methodNamed Bd.named
  have hnm := (name_of_methodNamed Bd.named Bd.method).1
  have X0 : Stand p l e ({ frames := 1, cells := 1, slots := 8, locals := 40 } : Room) s m #[(.ref r), (.int n)] below meth c s₁ [] 0 0 := Stand.of_body Bd
  have e0 : s₁.heap = h0 := by rw [← hh, Bd.state]; rfl
  have N0 := Fr.nil n0
  show Goes p e below (EndQ s (Q_co Z y0 y1 y2 y3 h0 n0) ({ frames := 1, cells := 1, slots := 8, locals := 40 } : Room).cells ({ frames := 1, cells := 1, slots := 8, locals := 40 } : Room).slots) (s₁.setTop (entryFrame m #[(.ref r), (.int n)] 3))
  refine Goes.pre (S' := (s₁.setTop (mkF m 0 #[.val (.ref r), .val (.int n), .unset] []))) (fun _ k => castTop (ef_co m r n) k) ?_
  subst hn
  show Goes p e below _ (s₁.setTop (mkF m 0 #[.val (.ref r), .val (.int (8 : Int32)), .unset] []))
  have K0 : Keep h0 h0 [] := Keep.refl h0 []
  refine Goes.pre (S' := (s₁.setTop (mkF m 1 #[.val (.ref r), .val (.int (8 : Int32)), .unset] [(.int (8 : Int32))]))) (fun _ k => XS.iloadN X0.here hx rfl (hb hby dco_0) rfl k) ?_
  refine Goes.pre (S' := (s₁.setTop (mkF m 2 #[.val (.ref r), .val (.int (8 : Int32)), .unset] [(.ref r), (.int (8 : Int32))]))) (fun _ k => XS.aloadN X0.here hx rfl (hb hby dco_1) rfl rfl k) ?_
  refine Goes.alen X0 hx hZ e0 V (hb hby dco_2) ?_
  show Goes p e below _ (s₁.setTop (mkF m 3 #[.val (.ref r), .val (.int (8 : Int32)), .unset] [(.int (4 : Int32)), (.int (8 : Int32))]))
  refine Goes.pre (S' := (s₁.setTop (mkF m 14 #[.val (.ref r), .val (.int (8 : Int32)), .unset] []))) (fun _ k => XS.icmpYes X0.here hx rfl (pc0 := 3) (pc' := 14) rfl (hb hby dco_3) rfl (XT.ii_ne_t (by decide)) (by decide) (by decide) k) ?_
  refine Goes.pre (S' := (s₁.setTop (mkF m 15 #[.val (.ref r), .val (.int (8 : Int32)), .unset] [(.int (8 : Int32))]))) (fun _ k => XS.iloadN X0.here hx rfl (hb hby dco_14) rfl k) ?_
  obtain ⟨T1, h1, k1, X1, e1, E1, A1, st1⟩ := newP X0 hx hZ (hw _ (List.mem_of_getElem? (i := 0) rfl)) e0 (g := (mkF m 15 #[.val (.ref r), .val (.int (8 : Int32)), .unset] [(.int (8 : Int32))])) rfl (hb hby dco_15) rfl (by decide) (cap := 8) (by decide) (by decide) (by decide) (by decide)
  obtain ⟨b1, g1⟩ : ∃ z, z = h0.size := ⟨_, rfl⟩
  rw [← g1] at A1 st1
  have V1 : Arv Z h1 b1 k1 .int (8 : Int32) [(.int (0 : Int32)), (.int (0 : Int32)), (.int (0 : Int32)), (.int (0 : Int32)), (.int (0 : Int32)), (.int (0 : Int32)), (.int (0 : Int32)), (.int (0 : Int32))] (.int (0 : Int32)) := (Arv.new A1 (by decide)).pad (pad_rep [] (.int (0 : Int32)) 8)
  have gb1 : n0 ≤ b1 := Nat.le_trans Z0 (Nat.le_of_eq g1.symm)
  have Zn1 : n0 ≤ h1.size := Nat.le_trans Z0 E1.1
  have szb1 : h0.size ≤ b1 := Nat.le_trans K0.1 (Nat.le_of_eq g1.symm)
  have K1 : Keep h0 h1 [] := K0.ext E1
  refine Goes.pre (S' := (T1.setTop (mkF m 17 #[.val (.ref r), .val (.int (8 : Int32)), .unset] [(.ref b1)]))) st1 ?_
  refine Goes.pre (S' := (T1.setTop (mkF m 18 #[.val (.ref r), .val (.int (8 : Int32)), .val (.ref b1)] []))) (fun _ k => XS.astoreN X1.here hx rfl (hb hby dco_17) rfl rfl (l' := #[.val (.ref r), .val (.int (8 : Int32)), .val (.ref b1)]) rfl k) ?_
  refine Goes.pre (S' := (T1.setTop (mkF m 19 #[.val (.ref r), .val (.int (8 : Int32)), .val (.ref b1)] [(.ref r)]))) (fun _ k => XS.aloadN X1.here hx rfl (hb hby dco_18) rfl rfl k) ?_
  refine Goes.pre (S' := (T1.setTop (mkF m 20 #[.val (.ref r), .val (.int (8 : Int32)), .val (.ref b1)] [(.int (0 : Int32)), (.ref r)]))) (fun _ k => XS.iconst X1.here hx rfl (hb hby dco_19) k) ?_
  refine Goes.pre (S' := (T1.setTop (mkF m 21 #[.val (.ref r), .val (.int (8 : Int32)), .val (.ref b1)] [(.ref b1), (.int (0 : Int32)), (.ref r)]))) (fun _ k => XS.aloadN X1.here hx rfl (hb hby dco_20) rfl rfl k) ?_
  refine Goes.pre (S' := (T1.setTop (mkF m 22 #[.val (.ref r), .val (.int (8 : Int32)), .val (.ref b1)] [(.int (0 : Int32)), (.ref b1), (.int (0 : Int32)), (.ref r)]))) (fun _ k => XS.iconst X1.here hx rfl (hb hby dco_21) k) ?_
  refine Goes.pre (S' := (T1.setTop (mkF m 23 #[.val (.ref r), .val (.int (8 : Int32)), .val (.ref b1)] [(.ref r), (.int (0 : Int32)), (.ref b1), (.int (0 : Int32)), (.ref r)]))) (fun _ k => XS.aloadN X1.here hx rfl (hb hby dco_22) rfl rfl k) ?_
  refine Goes.alen X1 hx hZ e1 (V.ext E1) (hb hby dco_23) ?_
  show Goes p e below _ (T1.setTop (mkF m 24 #[.val (.ref r), .val (.int (8 : Int32)), .val (.ref b1)] [(.int (4 : Int32)), (.int (0 : Int32)), (.ref b1), (.int (0 : Int32)), (.ref r)]))
  refine Goes.pre (S' := (T1.setTop (mkF m 25 #[.val (.ref r), .val (.int (8 : Int32)), .val (.ref b1)] [(.int (8 : Int32)), (.int (4 : Int32)), (.int (0 : Int32)), (.ref b1), (.int (0 : Int32)), (.ref r)]))) (fun _ k => XS.iloadN X1.here hx rfl (hb hby dco_24) rfl k) ?_
  refine Goes.callS (y := (⟨"java/lang/Math", "min", "(II)I"⟩ : MethodName)) X1 hx hZ hown (hw _ (List.mem_of_getElem? (i := 40) rfl)) (hw _ (List.mem_of_getElem? (i := 41) rfl)) (hw _ (List.mem_of_getElem? (i := 42) rfl)) (hw _ (List.mem_of_getElem? (i := 43) rfl)) (by decide) e1 (rm_mi l Z a0 hw [] (4 : Int32) (8 : Int32) h1 n0 Zn1 (by decide)) (by rw [hml]; rfl) [(.int (4 : Int32)), (.int (8 : Int32))] [(.int (0 : Int32)), (.ref b1), (.int (0 : Int32)), (.ref r)] pd_mi rfl rfl rfl (hb hby dco_25) (by decide) (by first | decide | exact Nat.le_of_ble_eq_true rfl | assumption | (simp [Value.category]; done)) (by first | decide | exact Nat.le_of_ble_eq_true rfl | assumption | (simp [Value.category]; done)) (by first | decide | exact Nat.le_of_ble_eq_true rfl | assumption | (simp [Value.category]; done)) ?_
  intro T2 v2 L2 X2 q2
  obtain ⟨rfl, N2a, e2⟩ := q2
  have N2 := Fr.app N0 N2a
  show Goes p e below _ (T2.setTop (mkF m 28 #[.val (.ref r), .val (.int (8 : Int32)), .val (.ref b1)] [(.int (4 : Int32)), (.int (0 : Int32)), (.ref b1), (.int (0 : Int32)), (.ref r)]))
  obtain ⟨T3, h3, L3, X3, e3, N3, K3a, V3, st3⟩ := cpA X2 hx hZ hown (hw _ (List.mem_of_getElem? (i := 44) rfl)) (hw _ (List.mem_of_getElem? (i := 47) rfl)) (hw _ (List.mem_of_getElem? (i := 45) rfl)) (hw _ (List.mem_of_getElem? (i := 46) rfl)) e2 (V.ext E1) V1 (Or.inl ⟨rfl, rfl⟩) (by decide) (by decide) (by decide) (by decide) (by decide) (us := [y0, y1, y2, y3]) rfl (by decide) N2 gb1 (g := (mkF m 28 #[.val (.ref r), .val (.int (8 : Int32)), .val (.ref b1)] [(.int (4 : Int32)), (.int (0 : Int32)), (.ref b1), (.int (0 : Int32)), (.ref r)])) rfl (by rw [hml]; rfl) rfl (hb hby dco_28) (by decide) (W := 0) (by show 2 * 0 + _ ≤ _; exact Nat.le_of_eq rfl) (by decide)
  have K3 : Keep h0 h3 [] := K1.trans K3a (allS (Or.inr szb1) all0)
  refine Goes.pre (S' := (T3.setTop (mkF m 31 #[.val (.ref r), .val (.int (8 : Int32)), .val (.ref b1)] []))) st3 ?_
  refine Goes.pre (S' := (T3.setTop (mkF m 32 #[.val (.ref r), .val (.int (8 : Int32)), .val (.ref b1)] [(.ref b1)]))) (fun _ k => XS.aloadN X3.here hx rfl (hb hby dco_31) rfl rfl k) ?_
  exact Goes.ret X3 hx hlk (t := (.array .int)) Bd.returns rfl (Or.inr (Or.inr (Or.inr (Or.inr ⟨rfl, rfl, rfl⟩)))) (hb hby dco_32) (by rw [e3]; exact ⟨b1, k1, rfl, N3, K3, szb1, V3⟩) (by first | decide | exact Nat.le_of_ble_eq_true rfl | assumption | (simp [Value.category]; done)) (by first | decide | exact Nat.le_of_ble_eq_true rfl | assumption | (simp [Value.category]; done))
theorem own_KeepMono {h0 h : Heap} {a : Addr} (K : Keep h0 h []) : Keep h0 h [a] := ⟨K.1, fun x c q _ => K.2.1 x c q nin0, K.2.2⟩
theorem own_setEnd (vs : List Value) (x d : Value) : (vs ++ List.replicate 1 d).set vs.length x = vs ++ [x] := by simp [List.set_append]
theorem da0_0 : decode prog_15_method_5_code 0 = .ok (.aload_n 0, 1) := by decide +kernel
theorem da0_1 : decode prog_15_method_5_code 1 = .ok (.getfield 16, 3) := by decide +kernel
theorem da0_4 : decode prog_15_method_5_code 4 = .ok (.aload_n 0, 1) := by decide +kernel
theorem da0_5 : decode prog_15_method_5_code 5 = .ok (.getfield 13, 3) := by decide +kernel
theorem da0_8 : decode prog_15_method_5_code 8 = .ok (.arraylength, 1) := by decide +kernel
theorem da0_9 : decode prog_15_method_5_code 9 = .ok (.if_icmp .ne 33, 3) := by decide +kernel
theorem da0_12 : decode prog_15_method_5_code 12 = .ok (.aload_n 0, 1) := by decide +kernel
theorem da0_13 : decode prog_15_method_5_code 13 = .ok (.aload_n 0, 1) := by decide +kernel
theorem da0_14 : decode prog_15_method_5_code 14 = .ok (.getfield 16, 3) := by decide +kernel
theorem da0_17 : decode prog_15_method_5_code 17 = .ok (.ifCond .ne 9, 3) := by decide +kernel
theorem da0_20 : decode prog_15_method_5_code 20 = .ok (.iconst 4, 1) := by decide +kernel
theorem da0_21 : decode prog_15_method_5_code 21 = .ok (.newarray .int, 2) := by decide +kernel
theorem da0_23 : decode prog_15_method_5_code 23 = .ok (.goto 16, 3) := by decide +kernel
theorem da0_26 : decode prog_15_method_5_code 26 = .ok (.aload_n 0, 1) := by decide +kernel
theorem da0_27 : decode prog_15_method_5_code 27 = .ok (.getfield 13, 3) := by decide +kernel
theorem da0_30 : decode prog_15_method_5_code 30 = .ok (.iconst 2, 1) := by decide +kernel
theorem da0_31 : decode prog_15_method_5_code 31 = .ok (.aload_n 0, 1) := by decide +kernel
theorem da0_32 : decode prog_15_method_5_code 32 = .ok (.getfield 16, 3) := by decide +kernel
theorem da0_35 : decode prog_15_method_5_code 35 = .ok (.imul, 1) := by decide +kernel
theorem da0_36 : decode prog_15_method_5_code 36 = .ok (.invokestatic 25, 3) := by decide +kernel
theorem da0_39 : decode prog_15_method_5_code 39 = .ok (.putfield 13, 3) := by decide +kernel
theorem da0_42 : decode prog_15_method_5_code 42 = .ok (.aload_n 0, 1) := by decide +kernel
theorem da0_43 : decode prog_15_method_5_code 43 = .ok (.getfield 13, 3) := by decide +kernel
theorem da0_46 : decode prog_15_method_5_code 46 = .ok (.aload_n 0, 1) := by decide +kernel
theorem da0_47 : decode prog_15_method_5_code 47 = .ok (.dup, 1) := by decide +kernel
theorem da0_48 : decode prog_15_method_5_code 48 = .ok (.getfield 16, 3) := by decide +kernel
theorem da0_51 : decode prog_15_method_5_code 51 = .ok (.dup_x1, 1) := by decide +kernel
theorem da0_52 : decode prog_15_method_5_code 52 = .ok (.iconst 1, 1) := by decide +kernel
theorem da0_53 : decode prog_15_method_5_code 53 = .ok (.iadd, 1) := by decide +kernel
theorem da0_54 : decode prog_15_method_5_code 54 = .ok (.putfield 16, 3) := by decide +kernel
theorem da0_57 : decode prog_15_method_5_code 57 = .ok (.iload_n 1, 1) := by decide +kernel
theorem da0_58 : decode prog_15_method_5_code 58 = .ok (.iastore, 1) := by decide +kernel
theorem da0_59 : decode prog_15_method_5_code 59 = .ok (.return_, 1) := by decide +kernel
theorem pd_a0 : parseMethodDescriptor "(I)V" = some ⟨[.int], none⟩ := by decide +kernel
theorem pn_a0 : plainName "com/example/clear_plan/clearplan/grounding/FactList" = true := by first | (simp [plainName, overriddenIn]; done) | decide +kernel
def Q_a0 (Z : State) (a : Addr) (x : Int32) (h0 : Heap) (n0 : Nat) (v : Option Value) (h : Heap) (L : List Loc) : Prop := ∃ (b : Addr) (k : ClassId), v = none ∧ Fr n0 L ∧ Keep h0 h [a] ∧ h0.size ≤ b ∧ Fld Z h a "com/example/clear_plan/clearplan/grounding/FactList" "numbers" "[I" (.ref b) ∧ Fld Z h a "com/example/clear_plan/clearplan/grounding/FactList" "size" "I" (.int (1 : Int32)) ∧ Arv Z h b k .int 4 [.int x] (.int 0)
theorem ef_a0 (m : MethodId) (a : Addr) (x : Int32) : entryFrame m #[(.ref a), (.int x)] 2 = mkF m 0 #[.val (.ref a), .val (.int x)] [] := by first | (simp [entryFrame, mkF, argsToLocals, Value.category]; done) | rfl
set_option maxRecDepth 65536 in
set_option maxHeartbeats 40000000 in
theorem rm_a0 (l : Launch) (Z : State) (a0 : Array Value) (hw : ∀ d ∈ tables_1, d.before a0 Z = true) (ws : List Jvm.Cond) (a : Addr) (x : Int32) (bn : Addr) (kn : ClassId) (h0 : Heap) (n0 : Nat) (Z0 : n0 ≤ h0.size) (F1 : Fld Z h0 a "com/example/clear_plan/clearplan/grounding/FactList" "numbers" "[I" (.ref bn)) (F2 : Fld Z h0 a "com/example/clear_plan/clearplan/grounding/FactList" "size" "I" (.int (0 : Int32))) (V : Arv Z h0 bn kn .int 0 [] (.int 0)) (E0 : Exa Z h0 a "com/example/clear_plan/clearplan/grounding/FactList") (ga : n0 ≤ a) :
    Ctr l Z (⟨"com/example/clear_plan/clearplan/grounding/FactList", "add", "(I)V"⟩ : MethodName) prog_15_method_5_code 2 (none : Option FieldType) ws ({ frames := 2, cells := 1, slots := 4, locals := 60 } : Room) #[(.ref a), (.int x)] h0 (Q_a0 Z a x h0 n0) := by
  refine MetFree.of_bodySF (plainFor_of_name pn_a0) hisR ?_
  intro p e s m args below meth c s₁ Bd hml0 hP hK
  obtain ⟨rfl, hZ, hh⟩ := hP
  have hx := Bd.exec
  have hby := Bd.bytes
  have hlk : meth.locks = false := Bd.notSynchronized
  have hml : c.maxLocals = 2 := hml0
  have hown : s.vm.findClass "com/example/clear_plan/clearplan/grounding/FactList" = some m.cls := findClass_of_methodNamed Bd.named
  have hnm := (name_of_methodNamed Bd.named Bd.method).1
  have X0 : Stand p l e ({ frames := 2, cells := 1, slots := 4, locals := 60 } : Room) s m #[(.ref a), (.int x)] below meth c s₁ [] 0 0 := Stand.of_body Bd
  have e0 : s₁.heap = h0 := by rw [← hh, Bd.state]; rfl
  have N0 := Fr.nil n0
  show Goes p e below (EndQ s (Q_a0 Z a x h0 n0) ({ frames := 2, cells := 1, slots := 4, locals := 60 } : Room).cells ({ frames := 2, cells := 1, slots := 4, locals := 60 } : Room).slots) (s₁.setTop (entryFrame m #[(.ref a), (.int x)] 2))
  refine Goes.pre (S' := (s₁.setTop (mkF m 0 #[.val (.ref a), .val (.int x)] []))) (fun _ k => castTop (ef_a0 m a x) k) ?_
  have sne := slot_ne (Z := Z) (a0 := a0) (Or.inl (hw _ (List.mem_of_getElem? (i := 13) rfl))) (Or.inl (hw _ (List.mem_of_getElem? (i := 20) rfl))) (by decide) (t := .array .int) (t' := .int) (by decide) (by decide)
  have K0 : Keep h0 h0 [] := Keep.refl h0 []
  refine Goes.pre (S' := (s₁.setTop (mkF m 1 #[.val (.ref a), .val (.int x)] [(.ref a)]))) (fun _ k => XS.aloadN X0.here hx rfl (hb hby da0_0) rfl rfl k) ?_
  obtain ⟨T1, X1, e1, st1⟩ := getF X0 hx hZ hown (host := "") (Or.inl (hw _ (List.mem_of_getElem? (i := 19) rfl))) Via.refl e0 F2 (g := (mkF m 1 #[.val (.ref a), .val (.int x)] [(.ref a)])) rfl rfl (hb hby da0_1)
  refine Goes.pre (S' := (T1.setTop (mkF m 4 #[.val (.ref a), .val (.int x)] [(.int (0 : Int32))]))) st1 ?_
  refine Goes.pre (S' := (T1.setTop (mkF m 5 #[.val (.ref a), .val (.int x)] [(.ref a), (.int (0 : Int32))]))) (fun _ k => XS.aloadN X1.here hx rfl (hb hby da0_4) rfl rfl k) ?_
  obtain ⟨T2, X2, e2, st2⟩ := getF X1 hx hZ hown (host := "") (Or.inl (hw _ (List.mem_of_getElem? (i := 12) rfl))) Via.refl e1 F1 (g := (mkF m 5 #[.val (.ref a), .val (.int x)] [(.ref a), (.int (0 : Int32))])) rfl rfl (hb hby da0_5)
  refine Goes.pre (S' := (T2.setTop (mkF m 8 #[.val (.ref a), .val (.int x)] [(.ref bn), (.int (0 : Int32))]))) st2 ?_
  refine Goes.alen X2 hx hZ e2 V (hb hby da0_8) ?_
  show Goes p e below _ (T2.setTop (mkF m 9 #[.val (.ref a), .val (.int x)] [(.int (0 : Int32)), (.int (0 : Int32))]))
  refine Goes.pre (S' := (T2.setTop (mkF m 12 #[.val (.ref a), .val (.int x)] []))) (fun _ k => XS.icmpNo X2.here hx rfl (hb hby da0_9) rfl (XT.ii_ne_f rfl) k) ?_
  refine Goes.pre (S' := (T2.setTop (mkF m 13 #[.val (.ref a), .val (.int x)] [(.ref a)]))) (fun _ k => XS.aloadN X2.here hx rfl (hb hby da0_12) rfl rfl k) ?_
  refine Goes.pre (S' := (T2.setTop (mkF m 14 #[.val (.ref a), .val (.int x)] [(.ref a), (.ref a)]))) (fun _ k => XS.aloadN X2.here hx rfl (hb hby da0_13) rfl rfl k) ?_
  obtain ⟨T3, X3, e3, st3⟩ := getF X2 hx hZ hown (host := "") (Or.inl (hw _ (List.mem_of_getElem? (i := 19) rfl))) Via.refl e2 F2 (g := (mkF m 14 #[.val (.ref a), .val (.int x)] [(.ref a), (.ref a)])) rfl rfl (hb hby da0_14)
  refine Goes.pre (S' := (T3.setTop (mkF m 17 #[.val (.ref a), .val (.int x)] [(.int (0 : Int32)), (.ref a)]))) st3 ?_
  refine Goes.pre (S' := (T3.setTop (mkF m 20 #[.val (.ref a), .val (.int x)] [(.ref a)]))) (fun _ k => XS.ifNo X3.here hx rfl (hb hby da0_17) rfl (XT.i0_ne_f rfl) k) ?_
  refine Goes.pre (S' := (T3.setTop (mkF m 21 #[.val (.ref a), .val (.int x)] [(.int (4 : Int32)), (.ref a)]))) (fun _ k => XS.iconst X3.here hx rfl (hb hby da0_20) k) ?_
  obtain ⟨T4, h4, k4, X4, e4, E4, A4, st4⟩ := newP X3 hx hZ (hw _ (List.mem_of_getElem? (i := 0) rfl)) e3 (g := (mkF m 21 #[.val (.ref a), .val (.int x)] [(.int (4 : Int32)), (.ref a)])) rfl (hb hby da0_21) rfl (by decide) (cap := 4) (by decide) (by decide) (by decide) (by decide)
  obtain ⟨b4, g4⟩ : ∃ z, z = h0.size := ⟨_, rfl⟩
  rw [← g4] at A4 st4
  have V4 : Arv Z h4 b4 k4 .int (4 : Int32) [(.int (0 : Int32)), (.int (0 : Int32)), (.int (0 : Int32)), (.int (0 : Int32))] (.int (0 : Int32)) := (Arv.new A4 (by decide)).pad (pad_rep [] (.int (0 : Int32)) 4)
  have gb4 : n0 ≤ b4 := Nat.le_trans Z0 (Nat.le_of_eq g4.symm)
  have Zn4 : n0 ≤ h4.size := Nat.le_trans Z0 E4.1
  have szb4 : h0.size ≤ b4 := Nat.le_trans K0.1 (Nat.le_of_eq g4.symm)
  have K4 : Keep h0 h4 [] := K0.ext E4
  refine Goes.pre (S' := (T4.setTop (mkF m 23 #[.val (.ref a), .val (.int x)] [(.ref b4), (.ref a)]))) st4 ?_
  refine Goes.pre (S' := (T4.setTop (mkF m 39 #[.val (.ref a), .val (.int x)] [(.ref b4), (.ref a)]))) (fun _ k => XS.goto X4.here hx rfl (pc0 := 23) (pc' := 39) rfl (hb hby da0_23) (by decide) (by decide) k) ?_
  have hab : a ≠ b4 := own_neLt F1.lt szb4
  obtain ⟨T5, h5, X5, e5, W5, st5⟩ := putF X4 hx hZ hown (host := "") (Or.inl (hw _ (List.mem_of_getElem? (i := 12) rfl))) Via.refl e4 (F1.ext E4) (E0.ext E4) (Or.inl (hw _ (List.mem_of_getElem? (i := 13) rfl))) (hw _ (List.mem_of_getElem? (i := 2) rfl)) (ty := (.array .int)) (by decide) rfl rfl (g := (mkF m 39 #[.val (.ref a), .val (.int x)] [(.ref b4), (.ref a)])) rfl rfl (hb hby da0_39)
  have N5 := Fr.snoc X5 N0 ga
  have Zn5 : n0 ≤ h5.size := Nat.le_trans Zn4 (Nat.le_of_eq W5.size.symm)
  refine Goes.pre (S' := (T5.setTop (mkF m 42 #[.val (.ref a), .val (.int x)] []))) st5 ?_
  have Fn1 := (F1.ext E4).same W5
  have Fs1 := (F2.ext E4).other W5 (Or.inr sne.symm)
  have Ex1 := (E0.ext E4).wr W5
  have V1 := V4.other W5 (Ne.symm hab)
  have Ka : Keep h0 h5 [a] := (own_KeepMono K4).wr W5 (Or.inl (List.mem_singleton.mpr rfl))
  refine Goes.pre (S' := (T5.setTop (mkF m 43 #[.val (.ref a), .val (.int x)] [(.ref a)]))) (fun _ k => XS.aloadN X5.here hx rfl (hb hby da0_42) rfl rfl k) ?_
  obtain ⟨T6, X6, e6, st6⟩ := getF X5 hx hZ hown (host := "") (Or.inl (hw _ (List.mem_of_getElem? (i := 12) rfl))) Via.refl e5 Fn1 (g := (mkF m 43 #[.val (.ref a), .val (.int x)] [(.ref a)])) rfl rfl (hb hby da0_43)
  refine Goes.pre (S' := (T6.setTop (mkF m 46 #[.val (.ref a), .val (.int x)] [(.ref b4)]))) st6 ?_
  refine Goes.pre (S' := (T6.setTop (mkF m 47 #[.val (.ref a), .val (.int x)] [(.ref a), (.ref b4)]))) (fun _ k => XS.aloadN X6.here hx rfl (hb hby da0_46) rfl rfl k) ?_
  refine Goes.pre (S' := (T6.setTop (mkF m 48 #[.val (.ref a), .val (.int x)] [(.ref a), (.ref a), (.ref b4)]))) (fun _ k => XS.dup X6.here hx rfl (hb hby da0_47) rfl rfl k) ?_
  obtain ⟨T7, X7, e7, st7⟩ := getF X6 hx hZ hown (host := "") (Or.inl (hw _ (List.mem_of_getElem? (i := 19) rfl))) Via.refl e6 Fs1 (g := (mkF m 48 #[.val (.ref a), .val (.int x)] [(.ref a), (.ref a), (.ref b4)])) rfl rfl (hb hby da0_48)
  refine Goes.pre (S' := (T7.setTop (mkF m 51 #[.val (.ref a), .val (.int x)] [(.int (0 : Int32)), (.ref a), (.ref b4)]))) st7 ?_
  refine Goes.pre (S' := (T7.setTop (mkF m 52 #[.val (.ref a), .val (.int x)] [(.int (0 : Int32)), (.ref a), (.int (0 : Int32)), (.ref b4)]))) (fun _ k => XT.dupX1 X7.here hx rfl (hb hby da0_51) rfl rfl rfl k) ?_
  refine Goes.pre (S' := (T7.setTop (mkF m 53 #[.val (.ref a), .val (.int x)] [(.int (1 : Int32)), (.int (0 : Int32)), (.ref a), (.int (0 : Int32)), (.ref b4)]))) (fun _ k => XS.iconst X7.here hx rfl (hb hby da0_52) k) ?_
  refine Goes.pre (S' := (T7.setTop (mkF m 54 #[.val (.ref a), .val (.int x)] [(.int (1 : Int32)), (.ref a), (.int (0 : Int32)), (.ref b4)]))) (fun _ k => XS.iadd X7.here hx rfl (hb hby da0_53) rfl k) ?_
  obtain ⟨T8, h8, X8, e8, W8, st8⟩ := putF X7 hx hZ hown (host := "") (Or.inl (hw _ (List.mem_of_getElem? (i := 19) rfl))) Via.refl e7 Fs1 Ex1 (Or.inl (hw _ (List.mem_of_getElem? (i := 20) rfl))) (hw _ (List.mem_of_getElem? (i := 2) rfl)) (ty := .int) (by decide) rfl rfl (g := (mkF m 54 #[.val (.ref a), .val (.int x)] [(.int (1 : Int32)), (.ref a), (.int (0 : Int32)), (.ref b4)])) rfl rfl (hb hby da0_54)
  have N8 := Fr.snoc X8 N5 ga
  have Zn8 : n0 ≤ h8.size := Nat.le_trans Zn5 (Nat.le_of_eq W8.size.symm)
  refine Goes.pre (S' := (T8.setTop (mkF m 57 #[.val (.ref a), .val (.int x)] [(.int (0 : Int32)), (.ref b4)]))) st8 ?_
  have Fn2 := Fn1.other W8 (Or.inr sne)
  have Fs2 := Fs1.same W8
  have V2 := V1.other W8 (Ne.symm hab)
  refine Goes.pre (S' := (T8.setTop (mkF m 58 #[.val (.ref a), .val (.int x)] [(.int x), (.int (0 : Int32)), (.ref b4)]))) (fun _ k => XS.iloadN X8.here hx rfl (hb hby da0_57) rfl k) ?_
  have V3 := V2
  obtain ⟨cl9, Ar9, q9, S9, M9, H9, G9⟩ := V3
  obtain ⟨T9, h9, X9, e9, W9, st9⟩ := stI X8 hx hZ e8 Ar9 (j := (0 : Int32)) (inb_of S9 ⟨by decide, by decide⟩) (g := (mkF m 58 #[.val (.ref a), .val (.int x)] [(.int x), (.int (0 : Int32)), (.ref b4)])) rfl rfl (hb hby da0_58)
  have N9 := Fr.snoc X9 N8 gb4
  refine Goes.pre (S' := (T9.setTop (mkF m 59 #[.val (.ref a), .val (.int x)] []))) st9 ?_
  have Fn3 := Fn2.other W9 (Or.inl hab)
  have Fs3 := Fs2.other W9 (Or.inl hab)
  have V4 := Arv.set Ar9 q9 S9 M9 H9 G9 rfl W9 0 rfl (Nat.le_of_ble_eq_true rfl)
  have V5 : Arv Z h9 b4 k4 .int 4 [.int x] (.int 0) := V4.pad (fun i => (pad_rep [.int x] (.int 0) 3 i).symm)
  have Kf : Keep h0 h9 [a] := (Ka.wr W8 (Or.inl (List.mem_singleton.mpr rfl))).wr W9 (Or.inr szb4)
  exact Goes.retV X9 hx hlk Bd.returns (hb hby da0_59) (by rw [e9]; exact ⟨b4, k4, rfl, N9, Kf, szb4, Fn3, Fs3, V5⟩) (by first | decide | exact Nat.le_of_ble_eq_true rfl | assumption | (simp [Value.category]; done)) (by first | decide | exact Nat.le_of_ble_eq_true rfl | assumption | (simp [Value.category]; done))
theorem dak_0 : decode prog_15_method_5_code 0 = .ok (.aload_n 0, 1) := by decide +kernel
theorem dak_1 : decode prog_15_method_5_code 1 = .ok (.getfield 16, 3) := by decide +kernel
theorem dak_4 : decode prog_15_method_5_code 4 = .ok (.aload_n 0, 1) := by decide +kernel
theorem dak_5 : decode prog_15_method_5_code 5 = .ok (.getfield 13, 3) := by decide +kernel
theorem dak_8 : decode prog_15_method_5_code 8 = .ok (.arraylength, 1) := by decide +kernel
theorem dak_9 : decode prog_15_method_5_code 9 = .ok (.if_icmp .ne 33, 3) := by decide +kernel
theorem dak_12 : decode prog_15_method_5_code 12 = .ok (.aload_n 0, 1) := by decide +kernel
theorem dak_13 : decode prog_15_method_5_code 13 = .ok (.aload_n 0, 1) := by decide +kernel
theorem dak_14 : decode prog_15_method_5_code 14 = .ok (.getfield 16, 3) := by decide +kernel
theorem dak_17 : decode prog_15_method_5_code 17 = .ok (.ifCond .ne 9, 3) := by decide +kernel
theorem dak_20 : decode prog_15_method_5_code 20 = .ok (.iconst 4, 1) := by decide +kernel
theorem dak_21 : decode prog_15_method_5_code 21 = .ok (.newarray .int, 2) := by decide +kernel
theorem dak_23 : decode prog_15_method_5_code 23 = .ok (.goto 16, 3) := by decide +kernel
theorem dak_26 : decode prog_15_method_5_code 26 = .ok (.aload_n 0, 1) := by decide +kernel
theorem dak_27 : decode prog_15_method_5_code 27 = .ok (.getfield 13, 3) := by decide +kernel
theorem dak_30 : decode prog_15_method_5_code 30 = .ok (.iconst 2, 1) := by decide +kernel
theorem dak_31 : decode prog_15_method_5_code 31 = .ok (.aload_n 0, 1) := by decide +kernel
theorem dak_32 : decode prog_15_method_5_code 32 = .ok (.getfield 16, 3) := by decide +kernel
theorem dak_35 : decode prog_15_method_5_code 35 = .ok (.imul, 1) := by decide +kernel
theorem dak_36 : decode prog_15_method_5_code 36 = .ok (.invokestatic 25, 3) := by decide +kernel
theorem dak_39 : decode prog_15_method_5_code 39 = .ok (.putfield 13, 3) := by decide +kernel
theorem dak_42 : decode prog_15_method_5_code 42 = .ok (.aload_n 0, 1) := by decide +kernel
theorem dak_43 : decode prog_15_method_5_code 43 = .ok (.getfield 13, 3) := by decide +kernel
theorem dak_46 : decode prog_15_method_5_code 46 = .ok (.aload_n 0, 1) := by decide +kernel
theorem dak_47 : decode prog_15_method_5_code 47 = .ok (.dup, 1) := by decide +kernel
theorem dak_48 : decode prog_15_method_5_code 48 = .ok (.getfield 16, 3) := by decide +kernel
theorem dak_51 : decode prog_15_method_5_code 51 = .ok (.dup_x1, 1) := by decide +kernel
theorem dak_52 : decode prog_15_method_5_code 52 = .ok (.iconst 1, 1) := by decide +kernel
theorem dak_53 : decode prog_15_method_5_code 53 = .ok (.iadd, 1) := by decide +kernel
theorem dak_54 : decode prog_15_method_5_code 54 = .ok (.putfield 16, 3) := by decide +kernel
theorem dak_57 : decode prog_15_method_5_code 57 = .ok (.iload_n 1, 1) := by decide +kernel
theorem dak_58 : decode prog_15_method_5_code 58 = .ok (.iastore, 1) := by decide +kernel
theorem dak_59 : decode prog_15_method_5_code 59 = .ok (.return_, 1) := by decide +kernel
theorem pd_ak : parseMethodDescriptor "(I)V" = some ⟨[.int], none⟩ := by decide +kernel
theorem pn_ak : plainName "com/example/clear_plan/clearplan/grounding/FactList" = true := by first | (simp [plainName, overriddenIn]; done) | decide +kernel
def Q_ak (Z : State) (a : Addr) (x : Int32) (bn : Addr) (kn : ClassId) (n : Int32) (vs : List Value) (h0 : Heap) (n0 : Nat) (v : Option Value) (h : Heap) (L : List Loc) : Prop := v = none ∧ Fr n0 L ∧ Keep h0 h [a, bn] ∧ Fld Z h a "com/example/clear_plan/clearplan/grounding/FactList" "numbers" "[I" (.ref bn) ∧ Fld Z h a "com/example/clear_plan/clearplan/grounding/FactList" "size" "I" (.int (n + 1)) ∧ Arv Z h bn kn .int 4 (vs ++ [.int x]) (.int 0)
theorem ef_ak (m : MethodId) (a : Addr) (x : Int32) : entryFrame m #[(.ref a), (.int x)] 2 = mkF m 0 #[.val (.ref a), .val (.int x)] [] := by first | (simp [entryFrame, mkF, argsToLocals, Value.category]; done) | rfl
set_option maxRecDepth 65536 in
set_option maxHeartbeats 40000000 in
theorem rm_ak (l : Launch) (Z : State) (a0 : Array Value) (hw : ∀ d ∈ tables_1, d.before a0 Z = true) (ws : List Jvm.Cond) (a : Addr) (x : Int32) (bn : Addr) (kn : ClassId) (n : Int32) (vs : List Value) (h0 : Heap) (n0 : Nat) (Z0 : n0 ≤ h0.size) (hn : ¬ n < 0 ∧ n < 4) (hl : n.toNatClampNeg = vs.length) (F1 : Fld Z h0 a "com/example/clear_plan/clearplan/grounding/FactList" "numbers" "[I" (.ref bn)) (F2 : Fld Z h0 a "com/example/clear_plan/clearplan/grounding/FactList" "size" "I" (.int n)) (V : Arv Z h0 bn kn .int 4 vs (.int 0)) (E0 : Exa Z h0 a "com/example/clear_plan/clearplan/grounding/FactList") (ga : n0 ≤ a) (gb : n0 ≤ bn) (hab : a ≠ bn) :
    Ctr l Z (⟨"com/example/clear_plan/clearplan/grounding/FactList", "add", "(I)V"⟩ : MethodName) prog_15_method_5_code 2 (none : Option FieldType) ws ({ frames := 2, cells := 0, slots := 0, locals := 60 } : Room) #[(.ref a), (.int x)] h0 (Q_ak Z a x bn kn n vs h0 n0) := by
  refine MetFree.of_bodySF (plainFor_of_name pn_ak) hisR ?_
  intro p e s m args below meth c s₁ Bd hml0 hP hK
  obtain ⟨rfl, hZ, hh⟩ := hP
  have hx := Bd.exec
  have hby := Bd.bytes
  have hlk : meth.locks = false := Bd.notSynchronized
  have hml : c.maxLocals = 2 := hml0
  have hown : s.vm.findClass "com/example/clear_plan/clearplan/grounding/FactList" = some m.cls := findClass_of_methodNamed Bd.named
  have hnm := (name_of_methodNamed Bd.named Bd.method).1
  have X0 : Stand p l e ({ frames := 2, cells := 0, slots := 0, locals := 60 } : Room) s m #[(.ref a), (.int x)] below meth c s₁ [] 0 0 := Stand.of_body Bd
  have e0 : s₁.heap = h0 := by rw [← hh, Bd.state]; rfl
  have N0 := Fr.nil n0
  show Goes p e below (EndQ s (Q_ak Z a x bn kn n vs h0 n0) ({ frames := 2, cells := 0, slots := 0, locals := 60 } : Room).cells ({ frames := 2, cells := 0, slots := 0, locals := 60 } : Room).slots) (s₁.setTop (entryFrame m #[(.ref a), (.int x)] 2))
  refine Goes.pre (S' := (s₁.setTop (mkF m 0 #[.val (.ref a), .val (.int x)] []))) (fun _ k => castTop (ef_ak m a x) k) ?_
  have sne := slot_ne (Z := Z) (a0 := a0) (Or.inl (hw _ (List.mem_of_getElem? (i := 13) rfl))) (Or.inl (hw _ (List.mem_of_getElem? (i := 20) rfl))) (by decide) (t := .array .int) (t' := .int) (by decide) (by decide)
  have K0 : Keep h0 h0 [] := Keep.refl h0 []
  refine Goes.pre (S' := (s₁.setTop (mkF m 1 #[.val (.ref a), .val (.int x)] [(.ref a)]))) (fun _ k => XS.aloadN X0.here hx rfl (hb hby dak_0) rfl rfl k) ?_
  obtain ⟨T1, X1, e1, st1⟩ := getF X0 hx hZ hown (host := "") (Or.inl (hw _ (List.mem_of_getElem? (i := 19) rfl))) Via.refl e0 F2 (g := (mkF m 1 #[.val (.ref a), .val (.int x)] [(.ref a)])) rfl rfl (hb hby dak_1)
  refine Goes.pre (S' := (T1.setTop (mkF m 4 #[.val (.ref a), .val (.int x)] [(.int n)]))) st1 ?_
  refine Goes.pre (S' := (T1.setTop (mkF m 5 #[.val (.ref a), .val (.int x)] [(.ref a), (.int n)]))) (fun _ k => XS.aloadN X1.here hx rfl (hb hby dak_4) rfl rfl k) ?_
  obtain ⟨T2, X2, e2, st2⟩ := getF X1 hx hZ hown (host := "") (Or.inl (hw _ (List.mem_of_getElem? (i := 12) rfl))) Via.refl e1 F1 (g := (mkF m 5 #[.val (.ref a), .val (.int x)] [(.ref a), (.int n)])) rfl rfl (hb hby dak_5)
  refine Goes.pre (S' := (T2.setTop (mkF m 8 #[.val (.ref a), .val (.int x)] [(.ref bn), (.int n)]))) st2 ?_
  refine Goes.alen X2 hx hZ e2 V (hb hby dak_8) ?_
  show Goes p e below _ (T2.setTop (mkF m 9 #[.val (.ref a), .val (.int x)] [(.int (4 : Int32)), (.int n)]))
  refine Goes.pre (S' := (T2.setTop (mkF m 42 #[.val (.ref a), .val (.int x)] []))) (fun _ k => XS.icmpYes X2.here hx rfl (pc0 := 9) (pc' := 42) rfl (hb hby dak_9) rfl (XT.ii_ne_t (fun q => by rw [q] at hn; exact absurd hn.2 (by decide))) (by decide) (by decide) k) ?_
  refine Goes.pre (S' := (T2.setTop (mkF m 43 #[.val (.ref a), .val (.int x)] [(.ref a)]))) (fun _ k => XS.aloadN X2.here hx rfl (hb hby dak_42) rfl rfl k) ?_
  obtain ⟨T3, X3, e3, st3⟩ := getF X2 hx hZ hown (host := "") (Or.inl (hw _ (List.mem_of_getElem? (i := 12) rfl))) Via.refl e2 F1 (g := (mkF m 43 #[.val (.ref a), .val (.int x)] [(.ref a)])) rfl rfl (hb hby dak_43)
  refine Goes.pre (S' := (T3.setTop (mkF m 46 #[.val (.ref a), .val (.int x)] [(.ref bn)]))) st3 ?_
  refine Goes.pre (S' := (T3.setTop (mkF m 47 #[.val (.ref a), .val (.int x)] [(.ref a), (.ref bn)]))) (fun _ k => XS.aloadN X3.here hx rfl (hb hby dak_46) rfl rfl k) ?_
  refine Goes.pre (S' := (T3.setTop (mkF m 48 #[.val (.ref a), .val (.int x)] [(.ref a), (.ref a), (.ref bn)]))) (fun _ k => XS.dup X3.here hx rfl (hb hby dak_47) rfl rfl k) ?_
  obtain ⟨T4, X4, e4, st4⟩ := getF X3 hx hZ hown (host := "") (Or.inl (hw _ (List.mem_of_getElem? (i := 19) rfl))) Via.refl e3 F2 (g := (mkF m 48 #[.val (.ref a), .val (.int x)] [(.ref a), (.ref a), (.ref bn)])) rfl rfl (hb hby dak_48)
  refine Goes.pre (S' := (T4.setTop (mkF m 51 #[.val (.ref a), .val (.int x)] [(.int n), (.ref a), (.ref bn)]))) st4 ?_
  refine Goes.pre (S' := (T4.setTop (mkF m 52 #[.val (.ref a), .val (.int x)] [(.int n), (.ref a), (.int n), (.ref bn)]))) (fun _ k => XT.dupX1 X4.here hx rfl (hb hby dak_51) rfl rfl rfl k) ?_
  refine Goes.pre (S' := (T4.setTop (mkF m 53 #[.val (.ref a), .val (.int x)] [(.int (1 : Int32)), (.int n), (.ref a), (.int n), (.ref bn)]))) (fun _ k => XS.iconst X4.here hx rfl (hb hby dak_52) k) ?_
  refine Goes.pre (S' := (T4.setTop (mkF m 54 #[.val (.ref a), .val (.int x)] [(.int (n + (1 : Int32))), (.ref a), (.int n), (.ref bn)]))) (fun _ k => XS.iadd X4.here hx rfl (hb hby dak_53) rfl k) ?_
  obtain ⟨T5, h5, X5, e5, W5, st5⟩ := putF X4 hx hZ hown (host := "") (Or.inl (hw _ (List.mem_of_getElem? (i := 19) rfl))) Via.refl e4 F2 E0 (Or.inl (hw _ (List.mem_of_getElem? (i := 20) rfl))) (hw _ (List.mem_of_getElem? (i := 2) rfl)) (ty := .int) (by decide) rfl rfl (g := (mkF m 54 #[.val (.ref a), .val (.int x)] [(.int (n + (1 : Int32))), (.ref a), (.int n), (.ref bn)])) rfl rfl (hb hby dak_54)
  have N5 := Fr.snoc X5 N0 ga
  have Zn5 : n0 ≤ h5.size := Nat.le_trans Z0 (Nat.le_of_eq W5.size.symm)
  refine Goes.pre (S' := (T5.setTop (mkF m 57 #[.val (.ref a), .val (.int x)] [(.int n), (.ref bn)]))) st5 ?_
  have Fn2 := F1.other W5 (Or.inr sne)
  have Fs2 := F2.same W5
  have V2 := V.other W5 (Ne.symm hab)
  refine Goes.pre (S' := (T5.setTop (mkF m 58 #[.val (.ref a), .val (.int x)] [(.int x), (.int n), (.ref bn)]))) (fun _ k => XS.iloadN X5.here hx rfl (hb hby dak_57) rfl k) ?_
  have V3 := V2.pad (pad_rep vs (.int 0) 1)
  obtain ⟨cl6, Ar6, q6, S6, M6, H6, G6⟩ := V3
  obtain ⟨T6, h6, X6, e6, W6, st6⟩ := stI X5 hx hZ e5 Ar6 (j := n) (inb_of S6 hn) (g := (mkF m 58 #[.val (.ref a), .val (.int x)] [(.int x), (.int n), (.ref bn)])) rfl rfl (hb hby dak_58)
  have N6 := Fr.snoc X6 N5 gb
  refine Goes.pre (S' := (T6.setTop (mkF m 59 #[.val (.ref a), .val (.int x)] []))) st6 ?_
  have Fn3 := Fn2.other W6 (Or.inl hab)
  have Fs3 := Fs2.other W6 (Or.inl hab)
  have V4 := Arv.set Ar6 q6 S6 M6 H6 G6 rfl W6 vs.length hl (by simp)
  rw [own_setEnd] at V4
  have Kf : Keep h0 h6 [a, bn] := ((Keep.refl h0 _).wr W5 (Or.inl (List.mem_of_getElem? (i := 0) rfl))).wr W6 (Or.inl (List.mem_of_getElem? (i := 1) rfl))
  exact Goes.retV X6 hx hlk Bd.returns (hb hby dak_59) (by rw [e6]; exact ⟨rfl, N6, Kf, Fn3, Fs3, V4⟩) (by first | decide | exact Nat.le_of_ble_eq_true rfl | assumption | (simp [Value.category]; done)) (by first | decide | exact Nat.le_of_ble_eq_true rfl | assumption | (simp [Value.category]; done))
theorem da4_0 : decode prog_15_method_5_code 0 = .ok (.aload_n 0, 1) := by decide +kernel
theorem da4_1 : decode prog_15_method_5_code 1 = .ok (.getfield 16, 3) := by decide +kernel
theorem da4_4 : decode prog_15_method_5_code 4 = .ok (.aload_n 0, 1) := by decide +kernel
theorem da4_5 : decode prog_15_method_5_code 5 = .ok (.getfield 13, 3) := by decide +kernel
theorem da4_8 : decode prog_15_method_5_code 8 = .ok (.arraylength, 1) := by decide +kernel
theorem da4_9 : decode prog_15_method_5_code 9 = .ok (.if_icmp .ne 33, 3) := by decide +kernel
theorem da4_12 : decode prog_15_method_5_code 12 = .ok (.aload_n 0, 1) := by decide +kernel
theorem da4_13 : decode prog_15_method_5_code 13 = .ok (.aload_n 0, 1) := by decide +kernel
theorem da4_14 : decode prog_15_method_5_code 14 = .ok (.getfield 16, 3) := by decide +kernel
theorem da4_17 : decode prog_15_method_5_code 17 = .ok (.ifCond .ne 9, 3) := by decide +kernel
theorem da4_20 : decode prog_15_method_5_code 20 = .ok (.iconst 4, 1) := by decide +kernel
theorem da4_21 : decode prog_15_method_5_code 21 = .ok (.newarray .int, 2) := by decide +kernel
theorem da4_23 : decode prog_15_method_5_code 23 = .ok (.goto 16, 3) := by decide +kernel
theorem da4_26 : decode prog_15_method_5_code 26 = .ok (.aload_n 0, 1) := by decide +kernel
theorem da4_27 : decode prog_15_method_5_code 27 = .ok (.getfield 13, 3) := by decide +kernel
theorem da4_30 : decode prog_15_method_5_code 30 = .ok (.iconst 2, 1) := by decide +kernel
theorem da4_31 : decode prog_15_method_5_code 31 = .ok (.aload_n 0, 1) := by decide +kernel
theorem da4_32 : decode prog_15_method_5_code 32 = .ok (.getfield 16, 3) := by decide +kernel
theorem da4_35 : decode prog_15_method_5_code 35 = .ok (.imul, 1) := by decide +kernel
theorem da4_36 : decode prog_15_method_5_code 36 = .ok (.invokestatic 25, 3) := by decide +kernel
theorem da4_39 : decode prog_15_method_5_code 39 = .ok (.putfield 13, 3) := by decide +kernel
theorem da4_42 : decode prog_15_method_5_code 42 = .ok (.aload_n 0, 1) := by decide +kernel
theorem da4_43 : decode prog_15_method_5_code 43 = .ok (.getfield 13, 3) := by decide +kernel
theorem da4_46 : decode prog_15_method_5_code 46 = .ok (.aload_n 0, 1) := by decide +kernel
theorem da4_47 : decode prog_15_method_5_code 47 = .ok (.dup, 1) := by decide +kernel
theorem da4_48 : decode prog_15_method_5_code 48 = .ok (.getfield 16, 3) := by decide +kernel
theorem da4_51 : decode prog_15_method_5_code 51 = .ok (.dup_x1, 1) := by decide +kernel
theorem da4_52 : decode prog_15_method_5_code 52 = .ok (.iconst 1, 1) := by decide +kernel
theorem da4_53 : decode prog_15_method_5_code 53 = .ok (.iadd, 1) := by decide +kernel
theorem da4_54 : decode prog_15_method_5_code 54 = .ok (.putfield 16, 3) := by decide +kernel
theorem da4_57 : decode prog_15_method_5_code 57 = .ok (.iload_n 1, 1) := by decide +kernel
theorem da4_58 : decode prog_15_method_5_code 58 = .ok (.iastore, 1) := by decide +kernel
theorem da4_59 : decode prog_15_method_5_code 59 = .ok (.return_, 1) := by decide +kernel
theorem pd_a4 : parseMethodDescriptor "(I)V" = some ⟨[.int], none⟩ := by decide +kernel
theorem pn_a4 : plainName "com/example/clear_plan/clearplan/grounding/FactList" = true := by first | (simp [plainName, overriddenIn]; done) | decide +kernel
def Q_a4 (Z : State) (a : Addr) (x : Int32) (y0 y1 y2 y3 : Value) (h0 : Heap) (n0 : Nat) (v : Option Value) (h : Heap) (L : List Loc) : Prop := ∃ (b : Addr) (k : ClassId), v = none ∧ Fr n0 L ∧ Keep h0 h [a] ∧ h0.size ≤ b ∧ Fld Z h a "com/example/clear_plan/clearplan/grounding/FactList" "numbers" "[I" (.ref b) ∧ Fld Z h a "com/example/clear_plan/clearplan/grounding/FactList" "size" "I" (.int (5 : Int32)) ∧ Arv Z h b k .int 8 ([y0, y1, y2, y3, .int x, .int 0, .int 0, .int 0] : List Value) (.int 0)
theorem ef_a4 (m : MethodId) (a : Addr) (x : Int32) : entryFrame m #[(.ref a), (.int x)] 2 = mkF m 0 #[.val (.ref a), .val (.int x)] [] := by first | (simp [entryFrame, mkF, argsToLocals, Value.category]; done) | rfl
set_option maxRecDepth 65536 in
set_option maxHeartbeats 40000000 in
theorem rm_a4 (l : Launch) (Z : State) (a0 : Array Value) (hw : ∀ d ∈ tables_1, d.before a0 Z = true) (ws : List Jvm.Cond) (a : Addr) (x : Int32) (bn : Addr) (kn : ClassId) (y0 y1 y2 y3 : Value) (h0 : Heap) (n0 : Nat) (Z0 : n0 ≤ h0.size) (F1 : Fld Z h0 a "com/example/clear_plan/clearplan/grounding/FactList" "numbers" "[I" (.ref bn)) (F2 : Fld Z h0 a "com/example/clear_plan/clearplan/grounding/FactList" "size" "I" (.int (4 : Int32))) (V : Arv Z h0 bn kn .int 4 [y0, y1, y2, y3] (.int 0)) (E0 : Exa Z h0 a "com/example/clear_plan/clearplan/grounding/FactList") (ga : n0 ≤ a) :
    Ctr l Z (⟨"com/example/clear_plan/clearplan/grounding/FactList", "add", "(I)V"⟩ : MethodName) prog_15_method_5_code 2 (none : Option FieldType) ws ({ frames := 2, cells := 1, slots := 8, locals := 60 } : Room) #[(.ref a), (.int x)] h0 (Q_a4 Z a x y0 y1 y2 y3 h0 n0) := by
  refine MetFree.of_bodySF (plainFor_of_name pn_a4) hisR ?_
  intro p e s m args below meth c s₁ Bd hml0 hP hK
  obtain ⟨rfl, hZ, hh⟩ := hP
  have hx := Bd.exec
  have hby := Bd.bytes
  have hlk : meth.locks = false := Bd.notSynchronized
  have hml : c.maxLocals = 2 := hml0
  have hown : s.vm.findClass "com/example/clear_plan/clearplan/grounding/FactList" = some m.cls := findClass_of_methodNamed Bd.named
  have hnm := (name_of_methodNamed Bd.named Bd.method).1
  have X0 : Stand p l e ({ frames := 2, cells := 1, slots := 8, locals := 60 } : Room) s m #[(.ref a), (.int x)] below meth c s₁ [] 0 0 := Stand.of_body Bd
  have e0 : s₁.heap = h0 := by rw [← hh, Bd.state]; rfl
  have N0 := Fr.nil n0
  show Goes p e below (EndQ s (Q_a4 Z a x y0 y1 y2 y3 h0 n0) ({ frames := 2, cells := 1, slots := 8, locals := 60 } : Room).cells ({ frames := 2, cells := 1, slots := 8, locals := 60 } : Room).slots) (s₁.setTop (entryFrame m #[(.ref a), (.int x)] 2))
  refine Goes.pre (S' := (s₁.setTop (mkF m 0 #[.val (.ref a), .val (.int x)] []))) (fun _ k => castTop (ef_a4 m a x) k) ?_
  have sne := slot_ne (Z := Z) (a0 := a0) (Or.inl (hw _ (List.mem_of_getElem? (i := 13) rfl))) (Or.inl (hw _ (List.mem_of_getElem? (i := 20) rfl))) (by decide) (t := .array .int) (t' := .int) (by decide) (by decide)
  have K0 : Keep h0 h0 [] := Keep.refl h0 []
  refine Goes.pre (S' := (s₁.setTop (mkF m 1 #[.val (.ref a), .val (.int x)] [(.ref a)]))) (fun _ k => XS.aloadN X0.here hx rfl (hb hby da4_0) rfl rfl k) ?_
  obtain ⟨T1, X1, e1, st1⟩ := getF X0 hx hZ hown (host := "") (Or.inl (hw _ (List.mem_of_getElem? (i := 19) rfl))) Via.refl e0 F2 (g := (mkF m 1 #[.val (.ref a), .val (.int x)] [(.ref a)])) rfl rfl (hb hby da4_1)
  refine Goes.pre (S' := (T1.setTop (mkF m 4 #[.val (.ref a), .val (.int x)] [(.int (4 : Int32))]))) st1 ?_
  refine Goes.pre (S' := (T1.setTop (mkF m 5 #[.val (.ref a), .val (.int x)] [(.ref a), (.int (4 : Int32))]))) (fun _ k => XS.aloadN X1.here hx rfl (hb hby da4_4) rfl rfl k) ?_
  obtain ⟨T2, X2, e2, st2⟩ := getF X1 hx hZ hown (host := "") (Or.inl (hw _ (List.mem_of_getElem? (i := 12) rfl))) Via.refl e1 F1 (g := (mkF m 5 #[.val (.ref a), .val (.int x)] [(.ref a), (.int (4 : Int32))])) rfl rfl (hb hby da4_5)
  refine Goes.pre (S' := (T2.setTop (mkF m 8 #[.val (.ref a), .val (.int x)] [(.ref bn), (.int (4 : Int32))]))) st2 ?_
  refine Goes.alen X2 hx hZ e2 V (hb hby da4_8) ?_
  show Goes p e below _ (T2.setTop (mkF m 9 #[.val (.ref a), .val (.int x)] [(.int (4 : Int32)), (.int (4 : Int32))]))
  refine Goes.pre (S' := (T2.setTop (mkF m 12 #[.val (.ref a), .val (.int x)] []))) (fun _ k => XS.icmpNo X2.here hx rfl (hb hby da4_9) rfl (XT.ii_ne_f rfl) k) ?_
  refine Goes.pre (S' := (T2.setTop (mkF m 13 #[.val (.ref a), .val (.int x)] [(.ref a)]))) (fun _ k => XS.aloadN X2.here hx rfl (hb hby da4_12) rfl rfl k) ?_
  refine Goes.pre (S' := (T2.setTop (mkF m 14 #[.val (.ref a), .val (.int x)] [(.ref a), (.ref a)]))) (fun _ k => XS.aloadN X2.here hx rfl (hb hby da4_13) rfl rfl k) ?_
  obtain ⟨T3, X3, e3, st3⟩ := getF X2 hx hZ hown (host := "") (Or.inl (hw _ (List.mem_of_getElem? (i := 19) rfl))) Via.refl e2 F2 (g := (mkF m 14 #[.val (.ref a), .val (.int x)] [(.ref a), (.ref a)])) rfl rfl (hb hby da4_14)
  refine Goes.pre (S' := (T3.setTop (mkF m 17 #[.val (.ref a), .val (.int x)] [(.int (4 : Int32)), (.ref a)]))) st3 ?_
  refine Goes.pre (S' := (T3.setTop (mkF m 26 #[.val (.ref a), .val (.int x)] [(.ref a)]))) (fun _ k => XS.ifYes X3.here hx rfl (pc0 := 17) (pc' := 26) rfl (hb hby da4_17) rfl (XT.i0_ne_t (by decide)) (by decide) (by decide) k) ?_
  refine Goes.pre (S' := (T3.setTop (mkF m 27 #[.val (.ref a), .val (.int x)] [(.ref a), (.ref a)]))) (fun _ k => XS.aloadN X3.here hx rfl (hb hby da4_26) rfl rfl k) ?_
  obtain ⟨T4, X4, e4, st4⟩ := getF X3 hx hZ hown (host := "") (Or.inl (hw _ (List.mem_of_getElem? (i := 12) rfl))) Via.refl e3 F1 (g := (mkF m 27 #[.val (.ref a), .val (.int x)] [(.ref a), (.ref a)])) rfl rfl (hb hby da4_27)
  refine Goes.pre (S' := (T4.setTop (mkF m 30 #[.val (.ref a), .val (.int x)] [(.ref bn), (.ref a)]))) st4 ?_
  refine Goes.pre (S' := (T4.setTop (mkF m 31 #[.val (.ref a), .val (.int x)] [(.int (2 : Int32)), (.ref bn), (.ref a)]))) (fun _ k => XS.iconst X4.here hx rfl (hb hby da4_30) k) ?_
  refine Goes.pre (S' := (T4.setTop (mkF m 32 #[.val (.ref a), .val (.int x)] [(.ref a), (.int (2 : Int32)), (.ref bn), (.ref a)]))) (fun _ k => XS.aloadN X4.here hx rfl (hb hby da4_31) rfl rfl k) ?_
  obtain ⟨T5, X5, e5, st5⟩ := getF X4 hx hZ hown (host := "") (Or.inl (hw _ (List.mem_of_getElem? (i := 19) rfl))) Via.refl e4 F2 (g := (mkF m 32 #[.val (.ref a), .val (.int x)] [(.ref a), (.int (2 : Int32)), (.ref bn), (.ref a)])) rfl rfl (hb hby da4_32)
  refine Goes.pre (S' := (T5.setTop (mkF m 35 #[.val (.ref a), .val (.int x)] [(.int (4 : Int32)), (.int (2 : Int32)), (.ref bn), (.ref a)]))) st5 ?_
  refine Goes.pre (S' := (T5.setTop (mkF m 36 #[.val (.ref a), .val (.int x)] [(.int (8 : Int32)), (.ref bn), (.ref a)]))) (fun _ k => XS.imul X5.here hx rfl (hb hby da4_35) rfl k) ?_
  refine Goes.callS (y := (⟨"java/util/Arrays", "copyOf", "([II)[I"⟩ : MethodName)) X5 hx hZ hown (hw _ (List.mem_of_getElem? (i := 36) rfl)) (hw _ (List.mem_of_getElem? (i := 37) rfl)) (hw _ (List.mem_of_getElem? (i := 38) rfl)) (hw _ (List.mem_of_getElem? (i := 39) rfl)) (by decide) e5 (rm_co l Z a0 hw [] bn (8 : Int32) kn y0 y1 y2 y3 h0 n0 Z0 rfl V) (by rw [hml]; rfl) [(.ref bn), (.int (8 : Int32))] [(.ref a)] pd_co rfl rfl rfl (hb hby da4_36) (by decide) (by first | decide | exact Nat.le_of_ble_eq_true rfl | assumption | (simp [Value.category]; done)) (by first | decide | exact Nat.le_of_ble_eq_true rfl | assumption | (simp [Value.category]; done)) (by first | decide | exact Nat.le_of_ble_eq_true rfl | assumption | (simp [Value.category]; done)) ?_
  intro T6 v6 L6 X6 q6
  obtain ⟨b6, k6, rfl, N6a, K6, szb6, V6⟩ := q6
  have N6 := Fr.app N0 N6a
  have gb6 : n0 ≤ b6 := Nat.le_trans Z0 szb6
  have Zn6 : n0 ≤ T6.heap.size := Nat.le_trans Z0 K6.1
  show Goes p e below _ (T6.setTop (mkF m 39 #[.val (.ref a), .val (.int x)] [(.ref b6), (.ref a)]))
  have hab : a ≠ b6 := own_neLt F1.lt szb6
  obtain ⟨T7, h7, X7, e7, W7, st7⟩ := putF X6 hx hZ hown (host := "") (Or.inl (hw _ (List.mem_of_getElem? (i := 12) rfl))) Via.refl rfl (F1.keep K6 nin0) (E0.keep K6) (Or.inl (hw _ (List.mem_of_getElem? (i := 13) rfl))) (hw _ (List.mem_of_getElem? (i := 2) rfl)) (ty := (.array .int)) (by decide) rfl rfl (g := (mkF m 39 #[.val (.ref a), .val (.int x)] [(.ref b6), (.ref a)])) rfl rfl (hb hby da4_39)
  have N7 := Fr.snoc X7 N6 ga
  have Zn7 : n0 ≤ h7.size := Nat.le_trans Zn6 (Nat.le_of_eq W7.size.symm)
  refine Goes.pre (S' := (T7.setTop (mkF m 42 #[.val (.ref a), .val (.int x)] []))) st7 ?_
  have Fn1 := (F1.keep K6 nin0).same W7
  have Fs1 := (F2.keep K6 nin0).other W7 (Or.inr sne.symm)
  have Ex1 := (E0.keep K6).wr W7
  have V1 := V6.other W7 (Ne.symm hab)
  have Ka : Keep h0 h7 [a] := (own_KeepMono K6).wr W7 (Or.inl (List.mem_singleton.mpr rfl))
  refine Goes.pre (S' := (T7.setTop (mkF m 43 #[.val (.ref a), .val (.int x)] [(.ref a)]))) (fun _ k => XS.aloadN X7.here hx rfl (hb hby da4_42) rfl rfl k) ?_
  obtain ⟨T8, X8, e8, st8⟩ := getF X7 hx hZ hown (host := "") (Or.inl (hw _ (List.mem_of_getElem? (i := 12) rfl))) Via.refl e7 Fn1 (g := (mkF m 43 #[.val (.ref a), .val (.int x)] [(.ref a)])) rfl rfl (hb hby da4_43)
  refine Goes.pre (S' := (T8.setTop (mkF m 46 #[.val (.ref a), .val (.int x)] [(.ref b6)]))) st8 ?_
  refine Goes.pre (S' := (T8.setTop (mkF m 47 #[.val (.ref a), .val (.int x)] [(.ref a), (.ref b6)]))) (fun _ k => XS.aloadN X8.here hx rfl (hb hby da4_46) rfl rfl k) ?_
  refine Goes.pre (S' := (T8.setTop (mkF m 48 #[.val (.ref a), .val (.int x)] [(.ref a), (.ref a), (.ref b6)]))) (fun _ k => XS.dup X8.here hx rfl (hb hby da4_47) rfl rfl k) ?_
  obtain ⟨T9, X9, e9, st9⟩ := getF X8 hx hZ hown (host := "") (Or.inl (hw _ (List.mem_of_getElem? (i := 19) rfl))) Via.refl e8 Fs1 (g := (mkF m 48 #[.val (.ref a), .val (.int x)] [(.ref a), (.ref a), (.ref b6)])) rfl rfl (hb hby da4_48)
  refine Goes.pre (S' := (T9.setTop (mkF m 51 #[.val (.ref a), .val (.int x)] [(.int (4 : Int32)), (.ref a), (.ref b6)]))) st9 ?_
  refine Goes.pre (S' := (T9.setTop (mkF m 52 #[.val (.ref a), .val (.int x)] [(.int (4 : Int32)), (.ref a), (.int (4 : Int32)), (.ref b6)]))) (fun _ k => XT.dupX1 X9.here hx rfl (hb hby da4_51) rfl rfl rfl k) ?_
  refine Goes.pre (S' := (T9.setTop (mkF m 53 #[.val (.ref a), .val (.int x)] [(.int (1 : Int32)), (.int (4 : Int32)), (.ref a), (.int (4 : Int32)), (.ref b6)]))) (fun _ k => XS.iconst X9.here hx rfl (hb hby da4_52) k) ?_
  refine Goes.pre (S' := (T9.setTop (mkF m 54 #[.val (.ref a), .val (.int x)] [(.int (5 : Int32)), (.ref a), (.int (4 : Int32)), (.ref b6)]))) (fun _ k => XS.iadd X9.here hx rfl (hb hby da4_53) rfl k) ?_
  obtain ⟨T10, h10, X10, e10, W10, st10⟩ := putF X9 hx hZ hown (host := "") (Or.inl (hw _ (List.mem_of_getElem? (i := 19) rfl))) Via.refl e9 Fs1 Ex1 (Or.inl (hw _ (List.mem_of_getElem? (i := 20) rfl))) (hw _ (List.mem_of_getElem? (i := 2) rfl)) (ty := .int) (by decide) rfl rfl (g := (mkF m 54 #[.val (.ref a), .val (.int x)] [(.int (5 : Int32)), (.ref a), (.int (4 : Int32)), (.ref b6)])) rfl rfl (hb hby da4_54)
  have N10 := Fr.snoc X10 N7 ga
  have Zn10 : n0 ≤ h10.size := Nat.le_trans Zn7 (Nat.le_of_eq W10.size.symm)
  refine Goes.pre (S' := (T10.setTop (mkF m 57 #[.val (.ref a), .val (.int x)] [(.int (4 : Int32)), (.ref b6)]))) st10 ?_
  have Fn2 := Fn1.other W10 (Or.inr sne)
  have Fs2 := Fs1.same W10
  have V2 := V1.other W10 (Ne.symm hab)
  refine Goes.pre (S' := (T10.setTop (mkF m 58 #[.val (.ref a), .val (.int x)] [(.int x), (.int (4 : Int32)), (.ref b6)]))) (fun _ k => XS.iloadN X10.here hx rfl (hb hby da4_57) rfl k) ?_
  have V3 := V2
  obtain ⟨cl11, Ar11, q11, S11, M11, H11, G11⟩ := V3
  obtain ⟨T11, h11, X11, e11, W11, st11⟩ := stI X10 hx hZ e10 Ar11 (j := (4 : Int32)) (inb_of S11 ⟨by decide, by decide⟩) (g := (mkF m 58 #[.val (.ref a), .val (.int x)] [(.int x), (.int (4 : Int32)), (.ref b6)])) rfl rfl (hb hby da4_58)
  have N11 := Fr.snoc X11 N10 gb6
  refine Goes.pre (S' := (T11.setTop (mkF m 59 #[.val (.ref a), .val (.int x)] []))) st11 ?_
  have Fn3 := Fn2.other W11 (Or.inl hab)
  have Fs3 := Fs2.other W11 (Or.inl hab)
  have V4 := Arv.set Ar11 q11 S11 M11 H11 G11 rfl W11 4 rfl (Nat.le_of_ble_eq_true rfl)
  have V5 := V4
  have Kf : Keep h0 h11 [a] := (Ka.wr W10 (Or.inl (List.mem_singleton.mpr rfl))).wr W11 (Or.inr szb6)
  exact Goes.retV X11 hx hlk Bd.returns (hb hby da4_59) (by rw [e11]; exact ⟨b6, k6, rfl, N11, Kf, szb6, Fn3, Fs3, V5⟩) (by first | decide | exact Nat.le_of_ble_eq_true rfl | assumption | (simp [Value.category]; done)) (by first | decide | exact Nat.le_of_ble_eq_true rfl | assumption | (simp [Value.category]; done))
theorem dio_0 : decode prog_15_method_7_code 0 = .ok (.aload_n 0, 1) := by decide +kernel
theorem dio_1 : decode prog_15_method_7_code 1 = .ok (.getfield 16, 3) := by decide +kernel
theorem dio_4 : decode prog_15_method_7_code 4 = .ok (.iconst 1, 1) := by decide +kernel
theorem dio_5 : decode prog_15_method_7_code 5 = .ok (.isub, 1) := by decide +kernel
theorem dio_6 : decode prog_15_method_7_code 6 = .ok (.istore_n 2, 1) := by decide +kernel
theorem dio_7 : decode prog_15_method_7_code 7 = .ok (.iload_n 2, 1) := by decide +kernel
theorem dio_8 : decode prog_15_method_7_code 8 = .ok (.ifCond .lt 19, 3) := by decide +kernel
theorem dio_11 : decode prog_15_method_7_code 11 = .ok (.aload_n 0, 1) := by decide +kernel
theorem dio_12 : decode prog_15_method_7_code 12 = .ok (.getfield 13, 3) := by decide +kernel
theorem dio_15 : decode prog_15_method_7_code 15 = .ok (.iload_n 2, 1) := by decide +kernel
theorem dio_16 : decode prog_15_method_7_code 16 = .ok (.iaload, 1) := by decide +kernel
theorem dio_17 : decode prog_15_method_7_code 17 = .ok (.iload_n 1, 1) := by decide +kernel
theorem dio_18 : decode prog_15_method_7_code 18 = .ok (.if_icmp .eq 9, 3) := by decide +kernel
theorem dio_21 : decode prog_15_method_7_code 21 = .ok (.iinc 2 (-1), 3) := by decide +kernel
theorem dio_24 : decode prog_15_method_7_code 24 = .ok (.goto (-17), 3) := by decide +kernel
theorem dio_27 : decode prog_15_method_7_code 27 = .ok (.iload_n 2, 1) := by decide +kernel
theorem dio_28 : decode prog_15_method_7_code 28 = .ok (.ireturn, 1) := by decide +kernel
theorem pd_io : parseMethodDescriptor "(I)I" = some ⟨[.int], some .int⟩ := by decide +kernel
theorem pn_io : plainName "com/example/clear_plan/clearplan/grounding/FactList" = true := by first | (simp [plainName, overriddenIn]; done) | decide +kernel
def Q_io (ys : List Int32) (key : Int32) (t : Nat) (h0 : Heap) (n0 : Nat) (v : Option Value) (h : Heap) (L : List Loc) : Prop := v = some (.int (own_ix ys key t)) ∧ Fr n0 L ∧ h = h0
theorem ef_io (m : MethodId) (a : Addr) (key : Int32) : entryFrame m #[(.ref a), (.int key)] 3 = mkF m 0 #[.val (.ref a), .val (.int key), .unset] [] := by first | (simp [entryFrame, mkF, argsToLocals, Value.category]; done) | rfl
set_option maxRecDepth 65536 in
set_option maxHeartbeats 40000000 in
theorem rm_io (l : Launch) (Z : State) (a0 : Array Value) (hw : ∀ d ∈ tables_1, d.before a0 Z = true) (ws : List Jvm.Cond) (a : Addr) (key : Int32) (t : Nat) (b : Addr) (kb : ClassId) (N : Int32) (vs : List Value) (ys : List Int32) (h0 : Heap) (n0 : Nat) (Z0 : n0 ≤ h0.size) (ht : t ≤ 5) (hN : N = 0 ∨ N = 4 ∨ N = 8) (hts : ∀ j, j < t → Int32.ofNat j < N) (hv : ∀ j, j < t → vs.getD j (.int 0) = .int (ys.getD j 0)) (F1 : Fld Z h0 a "com/example/clear_plan/clearplan/grounding/FactList" "numbers" "[I" (.ref b)) (F2 : Fld Z h0 a "com/example/clear_plan/clearplan/grounding/FactList" "size" "I" (.int (Int32.ofNat t))) (V : Arv Z h0 b kb .int N vs (.int 0)) :
    Ctr l Z (⟨"com/example/clear_plan/clearplan/grounding/FactList", "indexOf", "(I)I"⟩ : MethodName) prog_15_method_7_code 3 (some .int) ws ({ frames := 0, cells := 0, slots := 0, locals := 0 } : Room) #[(.ref a), (.int key)] h0 (Q_io ys key t h0 n0) := by
  refine MetFree.of_bodySF (plainFor_of_name pn_io) hisR ?_
  intro p e s m args below meth c s₁ Bd hml0 hP hK
  obtain ⟨rfl, hZ, hh⟩ := hP
  have hx := Bd.exec
  have hby := Bd.bytes
  have hlk : meth.locks = false := Bd.notSynchronized
  have hml : c.maxLocals = 3 := hml0
  have hown : s.vm.findClass "com/example/clear_plan/clearplan/grounding/FactList" = some m.cls := findClass_of_methodNamed Bd.named
  have hnm := (name_of_methodNamed Bd.named Bd.method).1
  have X0 : Stand p l e ({ frames := 0, cells := 0, slots := 0, locals := 0 } : Room) s m #[(.ref a), (.int key)] below meth c s₁ [] 0 0 := Stand.of_body Bd
  have e0 : s₁.heap = h0 := by rw [← hh, Bd.state]; rfl
  have N0 := Fr.nil n0
  show Goes p e below (EndQ s (Q_io ys key t h0 n0) ({ frames := 0, cells := 0, slots := 0, locals := 0 } : Room).cells ({ frames := 0, cells := 0, slots := 0, locals := 0 } : Room).slots) (s₁.setTop (entryFrame m #[(.ref a), (.int key)] 3))
  refine Goes.pre (S' := (s₁.setTop (mkF m 0 #[.val (.ref a), .val (.int key), .unset] []))) (fun _ k => castTop (ef_io m a key) k) ?_
  have loop : ∀ (j : Nat), j ≤ t → own_ix ys key t = own_ix ys key j → ∀ (TT : State) (LL : List Loc), Stand p l e ({ frames := 0, cells := 0, slots := 0, locals := 0 } : Room) s m #[(.ref a), (.int key)] below meth c TT LL 0 0 → TT.heap = h0 → Fr n0 LL → Goes p e below (EndQ s (Q_io ys key t h0 n0) ({ frames := 0, cells := 0, slots := 0, locals := 0 } : Room).cells ({ frames := 0, cells := 0, slots := 0, locals := 0 } : Room).slots) (TT.setTop (mkF m 7 #[.val (.ref a), .val (.int key), .val (.int (Int32.ofNat j - (1 : Int32)))] [])) := by
    intro j
    induction j with
    | zero =>
      intro hj hix TT LL XX eX NX
      show Goes p e below _ (TT.setTop (mkF m 7 #[.val (.ref a), .val (.int key), .val (.int (-1 : Int32))] []))
      refine Goes.pre (S' := (TT.setTop (mkF m 8 #[.val (.ref a), .val (.int key), .val (.int (-1 : Int32))] [(.int (-1 : Int32))]))) (fun _ k => XS.iloadN XX.here hx rfl (hb hby dio_7) rfl k) ?_
      refine Goes.pre (S' := (TT.setTop (mkF m 27 #[.val (.ref a), .val (.int key), .val (.int (-1 : Int32))] []))) (fun _ k => XS.ifYes XX.here hx rfl (pc0 := 8) (pc' := 27) rfl (hb hby dio_8) rfl (XT.i0_lt_t (by decide)) (by decide) (by decide) k) ?_
      refine Goes.pre (S' := (TT.setTop (mkF m 28 #[.val (.ref a), .val (.int key), .val (.int (-1 : Int32))] [(.int (-1 : Int32))]))) (fun _ k => XS.iloadN XX.here hx rfl (hb hby dio_27) rfl k) ?_
      exact Goes.ret XX hx hlk (t := .int) Bd.returns rfl (Or.inl ⟨rfl, Or.inl rfl, _, rfl⟩) (hb hby dio_28) ⟨by rw [hix]; rfl, NX, eX⟩ (by first | decide | exact Nat.le_of_ble_eq_true rfl | assumption | (simp [Value.category]; done)) (by first | decide | exact Nat.le_of_ble_eq_true rfl | assumption | (simp [Value.category]; done))
    | succ j ih =>
      intro hj hix TT LL XX eX NX
      obtain ⟨hb1, hb2, hb3, hb4⟩ := own_back (j := j) (by omega)
      rw [hb1]
      show Goes p e below _ (TT.setTop (mkF m 7 #[.val (.ref a), .val (.int key), .val (.int (Int32.ofNat j))] []))
      refine Goes.pre (S' := (TT.setTop (mkF m 8 #[.val (.ref a), .val (.int key), .val (.int (Int32.ofNat j))] [(.int (Int32.ofNat j))]))) (fun _ k => XS.iloadN XX.here hx rfl (hb hby dio_7) rfl k) ?_
      refine Goes.pre (S' := (TT.setTop (mkF m 11 #[.val (.ref a), .val (.int key), .val (.int (Int32.ofNat j))] []))) (fun _ k => XS.ifNo XX.here hx rfl (hb hby dio_8) rfl (XT.i0_lt_f hb2) k) ?_
      refine Goes.pre (S' := (TT.setTop (mkF m 12 #[.val (.ref a), .val (.int key), .val (.int (Int32.ofNat j))] [(.ref a)]))) (fun _ k => XS.aloadN XX.here hx rfl (hb hby dio_11) rfl rfl k) ?_
      obtain ⟨T1, X1, e1, st1⟩ := getF XX hx hZ hown (host := "") (Or.inl (hw _ (List.mem_of_getElem? (i := 12) rfl))) Via.refl eX F1 (g := (mkF m 12 #[.val (.ref a), .val (.int key), .val (.int (Int32.ofNat j))] [(.ref a)])) rfl rfl (hb hby dio_12)
      refine Goes.pre (S' := (T1.setTop (mkF m 15 #[.val (.ref a), .val (.int key), .val (.int (Int32.ofNat j))] [(.ref b)]))) st1 ?_
      refine Goes.pre (S' := (T1.setTop (mkF m 16 #[.val (.ref a), .val (.int key), .val (.int (Int32.ofNat j))] [(.int (Int32.ofNat j)), (.ref b)]))) (fun _ k => XS.iloadN X1.here hx rfl (hb hby dio_15) rfl k) ?_
      refine Goes.iaload X1 hx hZ e1 V (j := Int32.ofNat j) ⟨hb2, hts j (by omega)⟩ (w := .int (ys.getD j 0)) (by rw [hb3]; exact hv j (by omega)) (hb hby dio_16) ?_
      show Goes p e below _ (T1.setTop (mkF m 17 #[.val (.ref a), .val (.int key), .val (.int (Int32.ofNat j))] [(.int (ys.getD j 0))]))
      refine Goes.pre (S' := (T1.setTop (mkF m 18 #[.val (.ref a), .val (.int key), .val (.int (Int32.ofNat j))] [(.int key), (.int (ys.getD j 0))]))) (fun _ k => XS.iloadN X1.here hx rfl (hb hby dio_17) rfl k) ?_
      by_cases c18 : (ys.getD j 0) = key
      · skip
        refine Goes.pre (S' := (T1.setTop (mkF m 27 #[.val (.ref a), .val (.int key), .val (.int (Int32.ofNat j))] []))) (fun _ k => XS.icmpYes X1.here hx rfl (pc0 := 18) (pc' := 27) rfl (hb hby dio_18) rfl (XT.ii_eq_t c18) (by decide) (by decide) k) ?_
        refine Goes.pre (S' := (T1.setTop (mkF m 28 #[.val (.ref a), .val (.int key), .val (.int (Int32.ofNat j))] [(.int (Int32.ofNat j))]))) (fun _ k => XS.iloadN X1.here hx rfl (hb hby dio_27) rfl k) ?_
        exact Goes.ret X1 hx hlk (t := .int) Bd.returns rfl (Or.inl ⟨rfl, Or.inl rfl, _, rfl⟩) (hb hby dio_28) ⟨by rw [hix, own_ix, if_pos c18], NX, e1⟩ (by first | decide | exact Nat.le_of_ble_eq_true rfl | assumption | (simp [Value.category]; done)) (by first | decide | exact Nat.le_of_ble_eq_true rfl | assumption | (simp [Value.category]; done))
      · skip
        refine Goes.pre (S' := (T1.setTop (mkF m 21 #[.val (.ref a), .val (.int key), .val (.int (Int32.ofNat j))] []))) (fun _ k => XS.icmpNo X1.here hx rfl (hb hby dio_18) rfl (XT.ii_eq_f c18) k) ?_
        have hix2 : own_ix ys key t = own_ix ys key j := by rw [hix, own_ix, if_neg c18]
        refine Goes.pre (S' := (T1.setTop (mkF m 24 #[.val (.ref a), .val (.int key), .val (.int ((Int32.ofNat j) + (-1 : Int32)))] []))) (fun _ k => XT.iincV X1.here hx rfl (-1 : Int32) (hb hby dio_21) rfl rfl (l' := #[.val (.ref a), .val (.int key), .val (.int ((Int32.ofNat j) + (-1 : Int32)))]) rfl k) ?_
        refine Goes.pre (S' := (T1.setTop (mkF m 7 #[.val (.ref a), .val (.int key), .val (.int ((Int32.ofNat j) + (-1 : Int32)))] []))) (fun _ k => XS.goto X1.here hx rfl (pc0 := 24) (pc' := 7) rfl (hb hby dio_24) (by decide) (by decide) k) ?_
        rw [hb4]
        exact ih (by omega) hix2 _ _ X1 e1 NX
  refine Goes.pre (S' := (s₁.setTop (mkF m 1 #[.val (.ref a), .val (.int key), .unset] [(.ref a)]))) (fun _ k => XS.aloadN X0.here hx rfl (hb hby dio_0) rfl rfl k) ?_
  obtain ⟨T2, X2, e2, st2⟩ := getF X0 hx hZ hown (host := "") (Or.inl (hw _ (List.mem_of_getElem? (i := 19) rfl))) Via.refl e0 F2 (g := (mkF m 1 #[.val (.ref a), .val (.int key), .unset] [(.ref a)])) rfl rfl (hb hby dio_1)
  refine Goes.pre (S' := (T2.setTop (mkF m 4 #[.val (.ref a), .val (.int key), .unset] [(.int (Int32.ofNat t))]))) st2 ?_
  refine Goes.pre (S' := (T2.setTop (mkF m 5 #[.val (.ref a), .val (.int key), .unset] [(.int (1 : Int32)), (.int (Int32.ofNat t))]))) (fun _ k => XS.iconst X2.here hx rfl (hb hby dio_4) k) ?_
  refine Goes.pre (S' := (T2.setTop (mkF m 6 #[.val (.ref a), .val (.int key), .unset] [(.int ((Int32.ofNat t) - (1 : Int32)))]))) (fun _ k => XS.isub X2.here hx rfl (hb hby dio_5) rfl k) ?_
  refine Goes.pre (S' := (T2.setTop (mkF m 7 #[.val (.ref a), .val (.int key), .val (.int ((Int32.ofNat t) - (1 : Int32)))] []))) (fun _ k => XS.istoreN X2.here hx rfl (hb hby dio_6) rfl (l' := #[.val (.ref a), .val (.int key), .val (.int ((Int32.ofNat t) - (1 : Int32)))]) rfl k) ?_
  exact loop t (Nat.le_refl t) rfl _ _ X2 e2 N0
theorem dex_0 : decode method_2_code 0 = .ok (.iload_n 1, 1) := by decide +kernel
theorem dex_1 : decode method_2_code 1 = .ok (.iconst 4, 1) := by decide +kernel
theorem dex_2 : decode method_2_code 2 = .ok (.if_icmp .le 12, 3) := by decide +kernel
theorem dex_5 : decode method_2_code 5 = .ok (.aload_n 0, 1) := by decide +kernel
theorem dex_6 : decode method_2_code 6 = .ok (.iconst 4, 1) := by decide +kernel
theorem dex_7 : decode method_2_code 7 = .ok (.iaload, 1) := by decide +kernel
theorem dex_8 : decode method_2_code 8 = .ok (.iload_n 2, 1) := by decide +kernel
theorem dex_9 : decode method_2_code 9 = .ok (.if_icmp .ne 5, 3) := by decide +kernel
theorem dex_12 : decode method_2_code 12 = .ok (.iconst 4, 1) := by decide +kernel
theorem dex_13 : decode method_2_code 13 = .ok (.ireturn, 1) := by decide +kernel
theorem dex_14 : decode method_2_code 14 = .ok (.iload_n 1, 1) := by decide +kernel
theorem dex_15 : decode method_2_code 15 = .ok (.iconst 3, 1) := by decide +kernel
theorem dex_16 : decode method_2_code 16 = .ok (.if_icmp .le 12, 3) := by decide +kernel
theorem dex_19 : decode method_2_code 19 = .ok (.aload_n 0, 1) := by decide +kernel
theorem dex_20 : decode method_2_code 20 = .ok (.iconst 3, 1) := by decide +kernel
theorem dex_21 : decode method_2_code 21 = .ok (.iaload, 1) := by decide +kernel
theorem dex_22 : decode method_2_code 22 = .ok (.iload_n 2, 1) := by decide +kernel
theorem dex_23 : decode method_2_code 23 = .ok (.if_icmp .ne 5, 3) := by decide +kernel
theorem dex_26 : decode method_2_code 26 = .ok (.iconst 3, 1) := by decide +kernel
theorem dex_27 : decode method_2_code 27 = .ok (.ireturn, 1) := by decide +kernel
theorem dex_28 : decode method_2_code 28 = .ok (.iload_n 1, 1) := by decide +kernel
theorem dex_29 : decode method_2_code 29 = .ok (.iconst 2, 1) := by decide +kernel
theorem dex_30 : decode method_2_code 30 = .ok (.if_icmp .le 12, 3) := by decide +kernel
theorem dex_33 : decode method_2_code 33 = .ok (.aload_n 0, 1) := by decide +kernel
theorem dex_34 : decode method_2_code 34 = .ok (.iconst 2, 1) := by decide +kernel
theorem dex_35 : decode method_2_code 35 = .ok (.iaload, 1) := by decide +kernel
theorem dex_36 : decode method_2_code 36 = .ok (.iload_n 2, 1) := by decide +kernel
theorem dex_37 : decode method_2_code 37 = .ok (.if_icmp .ne 5, 3) := by decide +kernel
theorem dex_40 : decode method_2_code 40 = .ok (.iconst 2, 1) := by decide +kernel
theorem dex_41 : decode method_2_code 41 = .ok (.ireturn, 1) := by decide +kernel
theorem dex_42 : decode method_2_code 42 = .ok (.iload_n 1, 1) := by decide +kernel
theorem dex_43 : decode method_2_code 43 = .ok (.iconst 1, 1) := by decide +kernel
theorem dex_44 : decode method_2_code 44 = .ok (.if_icmp .le 12, 3) := by decide +kernel
theorem dex_47 : decode method_2_code 47 = .ok (.aload_n 0, 1) := by decide +kernel
theorem dex_48 : decode method_2_code 48 = .ok (.iconst 1, 1) := by decide +kernel
theorem dex_49 : decode method_2_code 49 = .ok (.iaload, 1) := by decide +kernel
theorem dex_50 : decode method_2_code 50 = .ok (.iload_n 2, 1) := by decide +kernel
theorem dex_51 : decode method_2_code 51 = .ok (.if_icmp .ne 5, 3) := by decide +kernel
theorem dex_54 : decode method_2_code 54 = .ok (.iconst 1, 1) := by decide +kernel
theorem dex_55 : decode method_2_code 55 = .ok (.ireturn, 1) := by decide +kernel
theorem dex_56 : decode method_2_code 56 = .ok (.iload_n 1, 1) := by decide +kernel
theorem dex_57 : decode method_2_code 57 = .ok (.ifCond .le 12, 3) := by decide +kernel
theorem dex_60 : decode method_2_code 60 = .ok (.aload_n 0, 1) := by decide +kernel
theorem dex_61 : decode method_2_code 61 = .ok (.iconst 0, 1) := by decide +kernel
theorem dex_62 : decode method_2_code 62 = .ok (.iaload, 1) := by decide +kernel
theorem dex_63 : decode method_2_code 63 = .ok (.iload_n 2, 1) := by decide +kernel
theorem dex_64 : decode method_2_code 64 = .ok (.if_icmp .ne 5, 3) := by decide +kernel
theorem dex_67 : decode method_2_code 67 = .ok (.iconst 0, 1) := by decide +kernel
theorem dex_68 : decode method_2_code 68 = .ok (.ireturn, 1) := by decide +kernel
theorem dex_69 : decode method_2_code 69 = .ok (.iconst (-1), 1) := by decide +kernel
theorem dex_70 : decode method_2_code 70 = .ok (.ireturn, 1) := by decide +kernel
theorem pd_ex : parseMethodDescriptor "([III)I" = some ⟨[(.array .int), .int, .int], some .int⟩ := by decide +kernel
theorem pn_ex : plainName "com/example/clear_plan/clearplan/grounding/FactListIndexOfPinLaw" = true := by first | (simp [plainName, overriddenIn]; done) | decide +kernel
def Q_ex (ys : List Int32) (key : Int32) (t : Nat) (h0 : Heap) (n0 : Nat) (v : Option Value) (h : Heap) (L : List Loc) : Prop := v = some (.int (own_ix ys key t)) ∧ Fr n0 L ∧ h = h0
theorem ef_ex (m : MethodId) (r : Addr) (tt : Int32) (key : Int32) : entryFrame m #[(.ref r), (.int tt), (.int key)] 3 = mkF m 0 #[.val (.ref r), .val (.int tt), .val (.int key)] [] := by first | (simp [entryFrame, mkF, argsToLocals, Value.category]; done) | rfl
set_option maxRecDepth 65536 in
set_option maxHeartbeats 40000000 in
theorem rm_ex (l : Launch) (Z : State) (a0 : Array Value) (hw : ∀ d ∈ tables_1, d.before a0 Z = true) (ws : List Jvm.Cond) (r : Addr) (tt : Int32) (key : Int32) (t : Nat) (kr : ClassId) (y0 y1 y2 y3 y4 : Int32) (h0 : Heap) (n0 : Nat) (Z0 : n0 ≤ h0.size) (ht : t ≤ 5) (htt : tt = Int32.ofNat t) (V : Arv Z h0 r kr .int 5 [.int y0, .int y1, .int y2, .int y3, .int y4] (.int 0)) :
    Ctr l Z (⟨"com/example/clear_plan/clearplan/grounding/FactListIndexOfPinLaw", "expected", "([III)I"⟩ : MethodName) method_2_code 3 (some .int) ws ({ frames := 0, cells := 0, slots := 0, locals := 0 } : Room) #[(.ref r), (.int tt), (.int key)] h0 (Q_ex [y0, y1, y2, y3, y4] key t h0 n0) := by
  refine MetFree.of_bodySF (plainFor_of_name pn_ex) hisR ?_
  intro p e s m args below meth c s₁ Bd hml0 hP hK
  obtain ⟨rfl, hZ, hh⟩ := hP
  have hx := Bd.exec
  have hby := Bd.bytes
  have hlk : meth.locks = false := Bd.notSynchronized
  have hml : c.maxLocals = 3 := hml0
  have hown : s.vm.findClass "com/example/clear_plan/clearplan/grounding/FactListIndexOfPinLaw" = some m.cls := findClass_of_methodNamed Bd.named
  have hnm := (name_of_methodNamed Bd.named Bd.method).1
  have X0 : Stand p l e ({ frames := 0, cells := 0, slots := 0, locals := 0 } : Room) s m #[(.ref r), (.int tt), (.int key)] below meth c s₁ [] 0 0 := Stand.of_body Bd
  have e0 : s₁.heap = h0 := by rw [← hh, Bd.state]; rfl
  have N0 := Fr.nil n0
  show Goes p e below (EndQ s (Q_ex [y0, y1, y2, y3, y4] key t h0 n0) ({ frames := 0, cells := 0, slots := 0, locals := 0 } : Room).cells ({ frames := 0, cells := 0, slots := 0, locals := 0 } : Room).slots) (s₁.setTop (entryFrame m #[(.ref r), (.int tt), (.int key)] 3))
  refine Goes.pre (S' := (s₁.setTop (mkF m 0 #[.val (.ref r), .val (.int tt), .val (.int key)] []))) (fun _ k => castTop (ef_ex m r tt key) k) ?_
  subst htt
  have t6 : t = 0 ∨ t = 1 ∨ t = 2 ∨ t = 3 ∨ t = 4 ∨ t = 5 := by omega
  rcases t6 with rfl | rfl | rfl | rfl | rfl | rfl
  · skip
    show Goes p e below _ (s₁.setTop (mkF m 0 #[.val (.ref r), .val (.int (0 : Int32)), .val (.int key)] []))
    refine Goes.pre (S' := (s₁.setTop (mkF m 1 #[.val (.ref r), .val (.int (0 : Int32)), .val (.int key)] [(.int (0 : Int32))]))) (fun _ k => XS.iloadN X0.here hx rfl (hb hby dex_0) rfl k) ?_
    refine Goes.pre (S' := (s₁.setTop (mkF m 2 #[.val (.ref r), .val (.int (0 : Int32)), .val (.int key)] [(.int (4 : Int32)), (.int (0 : Int32))]))) (fun _ k => XS.iconst X0.here hx rfl (hb hby dex_1) k) ?_
    refine Goes.pre (S' := (s₁.setTop (mkF m 14 #[.val (.ref r), .val (.int (0 : Int32)), .val (.int key)] []))) (fun _ k => XS.icmpYes X0.here hx rfl (pc0 := 2) (pc' := 14) rfl (hb hby dex_2) rfl (XT.ii_le_t (by decide)) (by decide) (by decide) k) ?_
    refine Goes.pre (S' := (s₁.setTop (mkF m 15 #[.val (.ref r), .val (.int (0 : Int32)), .val (.int key)] [(.int (0 : Int32))]))) (fun _ k => XS.iloadN X0.here hx rfl (hb hby dex_14) rfl k) ?_
    refine Goes.pre (S' := (s₁.setTop (mkF m 16 #[.val (.ref r), .val (.int (0 : Int32)), .val (.int key)] [(.int (3 : Int32)), (.int (0 : Int32))]))) (fun _ k => XS.iconst X0.here hx rfl (hb hby dex_15) k) ?_
    refine Goes.pre (S' := (s₁.setTop (mkF m 28 #[.val (.ref r), .val (.int (0 : Int32)), .val (.int key)] []))) (fun _ k => XS.icmpYes X0.here hx rfl (pc0 := 16) (pc' := 28) rfl (hb hby dex_16) rfl (XT.ii_le_t (by decide)) (by decide) (by decide) k) ?_
    refine Goes.pre (S' := (s₁.setTop (mkF m 29 #[.val (.ref r), .val (.int (0 : Int32)), .val (.int key)] [(.int (0 : Int32))]))) (fun _ k => XS.iloadN X0.here hx rfl (hb hby dex_28) rfl k) ?_
    refine Goes.pre (S' := (s₁.setTop (mkF m 30 #[.val (.ref r), .val (.int (0 : Int32)), .val (.int key)] [(.int (2 : Int32)), (.int (0 : Int32))]))) (fun _ k => XS.iconst X0.here hx rfl (hb hby dex_29) k) ?_
    refine Goes.pre (S' := (s₁.setTop (mkF m 42 #[.val (.ref r), .val (.int (0 : Int32)), .val (.int key)] []))) (fun _ k => XS.icmpYes X0.here hx rfl (pc0 := 30) (pc' := 42) rfl (hb hby dex_30) rfl (XT.ii_le_t (by decide)) (by decide) (by decide) k) ?_
    refine Goes.pre (S' := (s₁.setTop (mkF m 43 #[.val (.ref r), .val (.int (0 : Int32)), .val (.int key)] [(.int (0 : Int32))]))) (fun _ k => XS.iloadN X0.here hx rfl (hb hby dex_42) rfl k) ?_
    refine Goes.pre (S' := (s₁.setTop (mkF m 44 #[.val (.ref r), .val (.int (0 : Int32)), .val (.int key)] [(.int (1 : Int32)), (.int (0 : Int32))]))) (fun _ k => XS.iconst X0.here hx rfl (hb hby dex_43) k) ?_
    refine Goes.pre (S' := (s₁.setTop (mkF m 56 #[.val (.ref r), .val (.int (0 : Int32)), .val (.int key)] []))) (fun _ k => XS.icmpYes X0.here hx rfl (pc0 := 44) (pc' := 56) rfl (hb hby dex_44) rfl (XT.ii_le_t (by decide)) (by decide) (by decide) k) ?_
    refine Goes.pre (S' := (s₁.setTop (mkF m 57 #[.val (.ref r), .val (.int (0 : Int32)), .val (.int key)] [(.int (0 : Int32))]))) (fun _ k => XS.iloadN X0.here hx rfl (hb hby dex_56) rfl k) ?_
    refine Goes.pre (S' := (s₁.setTop (mkF m 69 #[.val (.ref r), .val (.int (0 : Int32)), .val (.int key)] []))) (fun _ k => XS.ifYes X0.here hx rfl (pc0 := 57) (pc' := 69) rfl (hb hby dex_57) rfl (XT.i0_le_t (by decide)) (by decide) (by decide) k) ?_
    refine Goes.pre (S' := (s₁.setTop (mkF m 70 #[.val (.ref r), .val (.int (0 : Int32)), .val (.int key)] [(.int (-1 : Int32))]))) (fun _ k => XS.iconst X0.here hx rfl (hb hby dex_69) k) ?_
    exact Goes.ret X0 hx hlk (t := .int) Bd.returns rfl (Or.inl ⟨rfl, Or.inl rfl, _, rfl⟩) (hb hby dex_70) ⟨by simp [own_ix]; try rfl, N0, e0⟩ (by first | decide | exact Nat.le_of_ble_eq_true rfl | assumption | (simp [Value.category]; done)) (by first | decide | exact Nat.le_of_ble_eq_true rfl | assumption | (simp [Value.category]; done))
  · skip
    show Goes p e below _ (s₁.setTop (mkF m 0 #[.val (.ref r), .val (.int (1 : Int32)), .val (.int key)] []))
    refine Goes.pre (S' := (s₁.setTop (mkF m 1 #[.val (.ref r), .val (.int (1 : Int32)), .val (.int key)] [(.int (1 : Int32))]))) (fun _ k => XS.iloadN X0.here hx rfl (hb hby dex_0) rfl k) ?_
    refine Goes.pre (S' := (s₁.setTop (mkF m 2 #[.val (.ref r), .val (.int (1 : Int32)), .val (.int key)] [(.int (4 : Int32)), (.int (1 : Int32))]))) (fun _ k => XS.iconst X0.here hx rfl (hb hby dex_1) k) ?_
    refine Goes.pre (S' := (s₁.setTop (mkF m 14 #[.val (.ref r), .val (.int (1 : Int32)), .val (.int key)] []))) (fun _ k => XS.icmpYes X0.here hx rfl (pc0 := 2) (pc' := 14) rfl (hb hby dex_2) rfl (XT.ii_le_t (by decide)) (by decide) (by decide) k) ?_
    refine Goes.pre (S' := (s₁.setTop (mkF m 15 #[.val (.ref r), .val (.int (1 : Int32)), .val (.int key)] [(.int (1 : Int32))]))) (fun _ k => XS.iloadN X0.here hx rfl (hb hby dex_14) rfl k) ?_
    refine Goes.pre (S' := (s₁.setTop (mkF m 16 #[.val (.ref r), .val (.int (1 : Int32)), .val (.int key)] [(.int (3 : Int32)), (.int (1 : Int32))]))) (fun _ k => XS.iconst X0.here hx rfl (hb hby dex_15) k) ?_
    refine Goes.pre (S' := (s₁.setTop (mkF m 28 #[.val (.ref r), .val (.int (1 : Int32)), .val (.int key)] []))) (fun _ k => XS.icmpYes X0.here hx rfl (pc0 := 16) (pc' := 28) rfl (hb hby dex_16) rfl (XT.ii_le_t (by decide)) (by decide) (by decide) k) ?_
    refine Goes.pre (S' := (s₁.setTop (mkF m 29 #[.val (.ref r), .val (.int (1 : Int32)), .val (.int key)] [(.int (1 : Int32))]))) (fun _ k => XS.iloadN X0.here hx rfl (hb hby dex_28) rfl k) ?_
    refine Goes.pre (S' := (s₁.setTop (mkF m 30 #[.val (.ref r), .val (.int (1 : Int32)), .val (.int key)] [(.int (2 : Int32)), (.int (1 : Int32))]))) (fun _ k => XS.iconst X0.here hx rfl (hb hby dex_29) k) ?_
    refine Goes.pre (S' := (s₁.setTop (mkF m 42 #[.val (.ref r), .val (.int (1 : Int32)), .val (.int key)] []))) (fun _ k => XS.icmpYes X0.here hx rfl (pc0 := 30) (pc' := 42) rfl (hb hby dex_30) rfl (XT.ii_le_t (by decide)) (by decide) (by decide) k) ?_
    refine Goes.pre (S' := (s₁.setTop (mkF m 43 #[.val (.ref r), .val (.int (1 : Int32)), .val (.int key)] [(.int (1 : Int32))]))) (fun _ k => XS.iloadN X0.here hx rfl (hb hby dex_42) rfl k) ?_
    refine Goes.pre (S' := (s₁.setTop (mkF m 44 #[.val (.ref r), .val (.int (1 : Int32)), .val (.int key)] [(.int (1 : Int32)), (.int (1 : Int32))]))) (fun _ k => XS.iconst X0.here hx rfl (hb hby dex_43) k) ?_
    refine Goes.pre (S' := (s₁.setTop (mkF m 56 #[.val (.ref r), .val (.int (1 : Int32)), .val (.int key)] []))) (fun _ k => XS.icmpYes X0.here hx rfl (pc0 := 44) (pc' := 56) rfl (hb hby dex_44) rfl (XT.ii_le_t (by decide)) (by decide) (by decide) k) ?_
    refine Goes.pre (S' := (s₁.setTop (mkF m 57 #[.val (.ref r), .val (.int (1 : Int32)), .val (.int key)] [(.int (1 : Int32))]))) (fun _ k => XS.iloadN X0.here hx rfl (hb hby dex_56) rfl k) ?_
    refine Goes.pre (S' := (s₁.setTop (mkF m 60 #[.val (.ref r), .val (.int (1 : Int32)), .val (.int key)] []))) (fun _ k => XS.ifNo X0.here hx rfl (hb hby dex_57) rfl (XT.i0_le_f (by decide)) k) ?_
    refine Goes.pre (S' := (s₁.setTop (mkF m 61 #[.val (.ref r), .val (.int (1 : Int32)), .val (.int key)] [(.ref r)]))) (fun _ k => XS.aloadN X0.here hx rfl (hb hby dex_60) rfl rfl k) ?_
    refine Goes.pre (S' := (s₁.setTop (mkF m 62 #[.val (.ref r), .val (.int (1 : Int32)), .val (.int key)] [(.int (0 : Int32)), (.ref r)]))) (fun _ k => XS.iconst X0.here hx rfl (hb hby dex_61) k) ?_
    refine Goes.iaload X0 hx hZ e0 V (j := (0 : Int32)) ⟨by decide, by decide⟩ (w := .int y0) rfl (hb hby dex_62) ?_
    show Goes p e below _ (s₁.setTop (mkF m 63 #[.val (.ref r), .val (.int (1 : Int32)), .val (.int key)] [(.int y0)]))
    refine Goes.pre (S' := (s₁.setTop (mkF m 64 #[.val (.ref r), .val (.int (1 : Int32)), .val (.int key)] [(.int key), (.int y0)]))) (fun _ k => XS.iloadN X0.here hx rfl (hb hby dex_63) rfl k) ?_
    by_cases c_0 : y0 = key
    · skip
      refine Goes.pre (S' := (s₁.setTop (mkF m 67 #[.val (.ref r), .val (.int (1 : Int32)), .val (.int key)] []))) (fun _ k => XS.icmpNo X0.here hx rfl (hb hby dex_64) rfl (XT.ii_ne_f c_0) k) ?_
      refine Goes.pre (S' := (s₁.setTop (mkF m 68 #[.val (.ref r), .val (.int (1 : Int32)), .val (.int key)] [(.int (0 : Int32))]))) (fun _ k => XS.iconst X0.here hx rfl (hb hby dex_67) k) ?_
      exact Goes.ret X0 hx hlk (t := .int) Bd.returns rfl (Or.inl ⟨rfl, Or.inl rfl, _, rfl⟩) (hb hby dex_68) ⟨by simp [own_ix, c_0]; try rfl, N0, e0⟩ (by first | decide | exact Nat.le_of_ble_eq_true rfl | assumption | (simp [Value.category]; done)) (by first | decide | exact Nat.le_of_ble_eq_true rfl | assumption | (simp [Value.category]; done))
    · skip
      refine Goes.pre (S' := (s₁.setTop (mkF m 69 #[.val (.ref r), .val (.int (1 : Int32)), .val (.int key)] []))) (fun _ k => XS.icmpYes X0.here hx rfl (pc0 := 64) (pc' := 69) rfl (hb hby dex_64) rfl (XT.ii_ne_t c_0) (by decide) (by decide) k) ?_
      refine Goes.pre (S' := (s₁.setTop (mkF m 70 #[.val (.ref r), .val (.int (1 : Int32)), .val (.int key)] [(.int (-1 : Int32))]))) (fun _ k => XS.iconst X0.here hx rfl (hb hby dex_69) k) ?_
      exact Goes.ret X0 hx hlk (t := .int) Bd.returns rfl (Or.inl ⟨rfl, Or.inl rfl, _, rfl⟩) (hb hby dex_70) ⟨by simp [own_ix, c_0]; try rfl, N0, e0⟩ (by first | decide | exact Nat.le_of_ble_eq_true rfl | assumption | (simp [Value.category]; done)) (by first | decide | exact Nat.le_of_ble_eq_true rfl | assumption | (simp [Value.category]; done))
  · skip
    show Goes p e below _ (s₁.setTop (mkF m 0 #[.val (.ref r), .val (.int (2 : Int32)), .val (.int key)] []))
    refine Goes.pre (S' := (s₁.setTop (mkF m 1 #[.val (.ref r), .val (.int (2 : Int32)), .val (.int key)] [(.int (2 : Int32))]))) (fun _ k => XS.iloadN X0.here hx rfl (hb hby dex_0) rfl k) ?_
    refine Goes.pre (S' := (s₁.setTop (mkF m 2 #[.val (.ref r), .val (.int (2 : Int32)), .val (.int key)] [(.int (4 : Int32)), (.int (2 : Int32))]))) (fun _ k => XS.iconst X0.here hx rfl (hb hby dex_1) k) ?_
    refine Goes.pre (S' := (s₁.setTop (mkF m 14 #[.val (.ref r), .val (.int (2 : Int32)), .val (.int key)] []))) (fun _ k => XS.icmpYes X0.here hx rfl (pc0 := 2) (pc' := 14) rfl (hb hby dex_2) rfl (XT.ii_le_t (by decide)) (by decide) (by decide) k) ?_
    refine Goes.pre (S' := (s₁.setTop (mkF m 15 #[.val (.ref r), .val (.int (2 : Int32)), .val (.int key)] [(.int (2 : Int32))]))) (fun _ k => XS.iloadN X0.here hx rfl (hb hby dex_14) rfl k) ?_
    refine Goes.pre (S' := (s₁.setTop (mkF m 16 #[.val (.ref r), .val (.int (2 : Int32)), .val (.int key)] [(.int (3 : Int32)), (.int (2 : Int32))]))) (fun _ k => XS.iconst X0.here hx rfl (hb hby dex_15) k) ?_
    refine Goes.pre (S' := (s₁.setTop (mkF m 28 #[.val (.ref r), .val (.int (2 : Int32)), .val (.int key)] []))) (fun _ k => XS.icmpYes X0.here hx rfl (pc0 := 16) (pc' := 28) rfl (hb hby dex_16) rfl (XT.ii_le_t (by decide)) (by decide) (by decide) k) ?_
    refine Goes.pre (S' := (s₁.setTop (mkF m 29 #[.val (.ref r), .val (.int (2 : Int32)), .val (.int key)] [(.int (2 : Int32))]))) (fun _ k => XS.iloadN X0.here hx rfl (hb hby dex_28) rfl k) ?_
    refine Goes.pre (S' := (s₁.setTop (mkF m 30 #[.val (.ref r), .val (.int (2 : Int32)), .val (.int key)] [(.int (2 : Int32)), (.int (2 : Int32))]))) (fun _ k => XS.iconst X0.here hx rfl (hb hby dex_29) k) ?_
    refine Goes.pre (S' := (s₁.setTop (mkF m 42 #[.val (.ref r), .val (.int (2 : Int32)), .val (.int key)] []))) (fun _ k => XS.icmpYes X0.here hx rfl (pc0 := 30) (pc' := 42) rfl (hb hby dex_30) rfl (XT.ii_le_t (by decide)) (by decide) (by decide) k) ?_
    refine Goes.pre (S' := (s₁.setTop (mkF m 43 #[.val (.ref r), .val (.int (2 : Int32)), .val (.int key)] [(.int (2 : Int32))]))) (fun _ k => XS.iloadN X0.here hx rfl (hb hby dex_42) rfl k) ?_
    refine Goes.pre (S' := (s₁.setTop (mkF m 44 #[.val (.ref r), .val (.int (2 : Int32)), .val (.int key)] [(.int (1 : Int32)), (.int (2 : Int32))]))) (fun _ k => XS.iconst X0.here hx rfl (hb hby dex_43) k) ?_
    refine Goes.pre (S' := (s₁.setTop (mkF m 47 #[.val (.ref r), .val (.int (2 : Int32)), .val (.int key)] []))) (fun _ k => XS.icmpNo X0.here hx rfl (hb hby dex_44) rfl (XT.ii_le_f (by decide)) k) ?_
    refine Goes.pre (S' := (s₁.setTop (mkF m 48 #[.val (.ref r), .val (.int (2 : Int32)), .val (.int key)] [(.ref r)]))) (fun _ k => XS.aloadN X0.here hx rfl (hb hby dex_47) rfl rfl k) ?_
    refine Goes.pre (S' := (s₁.setTop (mkF m 49 #[.val (.ref r), .val (.int (2 : Int32)), .val (.int key)] [(.int (1 : Int32)), (.ref r)]))) (fun _ k => XS.iconst X0.here hx rfl (hb hby dex_48) k) ?_
    refine Goes.iaload X0 hx hZ e0 V (j := (1 : Int32)) ⟨by decide, by decide⟩ (w := .int y1) rfl (hb hby dex_49) ?_
    show Goes p e below _ (s₁.setTop (mkF m 50 #[.val (.ref r), .val (.int (2 : Int32)), .val (.int key)] [(.int y1)]))
    refine Goes.pre (S' := (s₁.setTop (mkF m 51 #[.val (.ref r), .val (.int (2 : Int32)), .val (.int key)] [(.int key), (.int y1)]))) (fun _ k => XS.iloadN X0.here hx rfl (hb hby dex_50) rfl k) ?_
    by_cases c_1 : y1 = key
    · skip
      refine Goes.pre (S' := (s₁.setTop (mkF m 54 #[.val (.ref r), .val (.int (2 : Int32)), .val (.int key)] []))) (fun _ k => XS.icmpNo X0.here hx rfl (hb hby dex_51) rfl (XT.ii_ne_f c_1) k) ?_
      refine Goes.pre (S' := (s₁.setTop (mkF m 55 #[.val (.ref r), .val (.int (2 : Int32)), .val (.int key)] [(.int (1 : Int32))]))) (fun _ k => XS.iconst X0.here hx rfl (hb hby dex_54) k) ?_
      exact Goes.ret X0 hx hlk (t := .int) Bd.returns rfl (Or.inl ⟨rfl, Or.inl rfl, _, rfl⟩) (hb hby dex_55) ⟨by simp [own_ix, c_1]; try rfl, N0, e0⟩ (by first | decide | exact Nat.le_of_ble_eq_true rfl | assumption | (simp [Value.category]; done)) (by first | decide | exact Nat.le_of_ble_eq_true rfl | assumption | (simp [Value.category]; done))
    · skip
      refine Goes.pre (S' := (s₁.setTop (mkF m 56 #[.val (.ref r), .val (.int (2 : Int32)), .val (.int key)] []))) (fun _ k => XS.icmpYes X0.here hx rfl (pc0 := 51) (pc' := 56) rfl (hb hby dex_51) rfl (XT.ii_ne_t c_1) (by decide) (by decide) k) ?_
      refine Goes.pre (S' := (s₁.setTop (mkF m 57 #[.val (.ref r), .val (.int (2 : Int32)), .val (.int key)] [(.int (2 : Int32))]))) (fun _ k => XS.iloadN X0.here hx rfl (hb hby dex_56) rfl k) ?_
      refine Goes.pre (S' := (s₁.setTop (mkF m 60 #[.val (.ref r), .val (.int (2 : Int32)), .val (.int key)] []))) (fun _ k => XS.ifNo X0.here hx rfl (hb hby dex_57) rfl (XT.i0_le_f (by decide)) k) ?_
      refine Goes.pre (S' := (s₁.setTop (mkF m 61 #[.val (.ref r), .val (.int (2 : Int32)), .val (.int key)] [(.ref r)]))) (fun _ k => XS.aloadN X0.here hx rfl (hb hby dex_60) rfl rfl k) ?_
      refine Goes.pre (S' := (s₁.setTop (mkF m 62 #[.val (.ref r), .val (.int (2 : Int32)), .val (.int key)] [(.int (0 : Int32)), (.ref r)]))) (fun _ k => XS.iconst X0.here hx rfl (hb hby dex_61) k) ?_
      refine Goes.iaload X0 hx hZ e0 V (j := (0 : Int32)) ⟨by decide, by decide⟩ (w := .int y0) rfl (hb hby dex_62) ?_
      show Goes p e below _ (s₁.setTop (mkF m 63 #[.val (.ref r), .val (.int (2 : Int32)), .val (.int key)] [(.int y0)]))
      refine Goes.pre (S' := (s₁.setTop (mkF m 64 #[.val (.ref r), .val (.int (2 : Int32)), .val (.int key)] [(.int key), (.int y0)]))) (fun _ k => XS.iloadN X0.here hx rfl (hb hby dex_63) rfl k) ?_
      by_cases c_0 : y0 = key
      · skip
        refine Goes.pre (S' := (s₁.setTop (mkF m 67 #[.val (.ref r), .val (.int (2 : Int32)), .val (.int key)] []))) (fun _ k => XS.icmpNo X0.here hx rfl (hb hby dex_64) rfl (XT.ii_ne_f c_0) k) ?_
        refine Goes.pre (S' := (s₁.setTop (mkF m 68 #[.val (.ref r), .val (.int (2 : Int32)), .val (.int key)] [(.int (0 : Int32))]))) (fun _ k => XS.iconst X0.here hx rfl (hb hby dex_67) k) ?_
        exact Goes.ret X0 hx hlk (t := .int) Bd.returns rfl (Or.inl ⟨rfl, Or.inl rfl, _, rfl⟩) (hb hby dex_68) ⟨by simp [own_ix, c_1, c_0]; try rfl, N0, e0⟩ (by first | decide | exact Nat.le_of_ble_eq_true rfl | assumption | (simp [Value.category]; done)) (by first | decide | exact Nat.le_of_ble_eq_true rfl | assumption | (simp [Value.category]; done))
      · skip
        refine Goes.pre (S' := (s₁.setTop (mkF m 69 #[.val (.ref r), .val (.int (2 : Int32)), .val (.int key)] []))) (fun _ k => XS.icmpYes X0.here hx rfl (pc0 := 64) (pc' := 69) rfl (hb hby dex_64) rfl (XT.ii_ne_t c_0) (by decide) (by decide) k) ?_
        refine Goes.pre (S' := (s₁.setTop (mkF m 70 #[.val (.ref r), .val (.int (2 : Int32)), .val (.int key)] [(.int (-1 : Int32))]))) (fun _ k => XS.iconst X0.here hx rfl (hb hby dex_69) k) ?_
        exact Goes.ret X0 hx hlk (t := .int) Bd.returns rfl (Or.inl ⟨rfl, Or.inl rfl, _, rfl⟩) (hb hby dex_70) ⟨by simp [own_ix, c_1, c_0]; try rfl, N0, e0⟩ (by first | decide | exact Nat.le_of_ble_eq_true rfl | assumption | (simp [Value.category]; done)) (by first | decide | exact Nat.le_of_ble_eq_true rfl | assumption | (simp [Value.category]; done))
  · skip
    show Goes p e below _ (s₁.setTop (mkF m 0 #[.val (.ref r), .val (.int (3 : Int32)), .val (.int key)] []))
    refine Goes.pre (S' := (s₁.setTop (mkF m 1 #[.val (.ref r), .val (.int (3 : Int32)), .val (.int key)] [(.int (3 : Int32))]))) (fun _ k => XS.iloadN X0.here hx rfl (hb hby dex_0) rfl k) ?_
    refine Goes.pre (S' := (s₁.setTop (mkF m 2 #[.val (.ref r), .val (.int (3 : Int32)), .val (.int key)] [(.int (4 : Int32)), (.int (3 : Int32))]))) (fun _ k => XS.iconst X0.here hx rfl (hb hby dex_1) k) ?_
    refine Goes.pre (S' := (s₁.setTop (mkF m 14 #[.val (.ref r), .val (.int (3 : Int32)), .val (.int key)] []))) (fun _ k => XS.icmpYes X0.here hx rfl (pc0 := 2) (pc' := 14) rfl (hb hby dex_2) rfl (XT.ii_le_t (by decide)) (by decide) (by decide) k) ?_
    refine Goes.pre (S' := (s₁.setTop (mkF m 15 #[.val (.ref r), .val (.int (3 : Int32)), .val (.int key)] [(.int (3 : Int32))]))) (fun _ k => XS.iloadN X0.here hx rfl (hb hby dex_14) rfl k) ?_
    refine Goes.pre (S' := (s₁.setTop (mkF m 16 #[.val (.ref r), .val (.int (3 : Int32)), .val (.int key)] [(.int (3 : Int32)), (.int (3 : Int32))]))) (fun _ k => XS.iconst X0.here hx rfl (hb hby dex_15) k) ?_
    refine Goes.pre (S' := (s₁.setTop (mkF m 28 #[.val (.ref r), .val (.int (3 : Int32)), .val (.int key)] []))) (fun _ k => XS.icmpYes X0.here hx rfl (pc0 := 16) (pc' := 28) rfl (hb hby dex_16) rfl (XT.ii_le_t (by decide)) (by decide) (by decide) k) ?_
    refine Goes.pre (S' := (s₁.setTop (mkF m 29 #[.val (.ref r), .val (.int (3 : Int32)), .val (.int key)] [(.int (3 : Int32))]))) (fun _ k => XS.iloadN X0.here hx rfl (hb hby dex_28) rfl k) ?_
    refine Goes.pre (S' := (s₁.setTop (mkF m 30 #[.val (.ref r), .val (.int (3 : Int32)), .val (.int key)] [(.int (2 : Int32)), (.int (3 : Int32))]))) (fun _ k => XS.iconst X0.here hx rfl (hb hby dex_29) k) ?_
    refine Goes.pre (S' := (s₁.setTop (mkF m 33 #[.val (.ref r), .val (.int (3 : Int32)), .val (.int key)] []))) (fun _ k => XS.icmpNo X0.here hx rfl (hb hby dex_30) rfl (XT.ii_le_f (by decide)) k) ?_
    refine Goes.pre (S' := (s₁.setTop (mkF m 34 #[.val (.ref r), .val (.int (3 : Int32)), .val (.int key)] [(.ref r)]))) (fun _ k => XS.aloadN X0.here hx rfl (hb hby dex_33) rfl rfl k) ?_
    refine Goes.pre (S' := (s₁.setTop (mkF m 35 #[.val (.ref r), .val (.int (3 : Int32)), .val (.int key)] [(.int (2 : Int32)), (.ref r)]))) (fun _ k => XS.iconst X0.here hx rfl (hb hby dex_34) k) ?_
    refine Goes.iaload X0 hx hZ e0 V (j := (2 : Int32)) ⟨by decide, by decide⟩ (w := .int y2) rfl (hb hby dex_35) ?_
    show Goes p e below _ (s₁.setTop (mkF m 36 #[.val (.ref r), .val (.int (3 : Int32)), .val (.int key)] [(.int y2)]))
    refine Goes.pre (S' := (s₁.setTop (mkF m 37 #[.val (.ref r), .val (.int (3 : Int32)), .val (.int key)] [(.int key), (.int y2)]))) (fun _ k => XS.iloadN X0.here hx rfl (hb hby dex_36) rfl k) ?_
    by_cases c_2 : y2 = key
    · skip
      refine Goes.pre (S' := (s₁.setTop (mkF m 40 #[.val (.ref r), .val (.int (3 : Int32)), .val (.int key)] []))) (fun _ k => XS.icmpNo X0.here hx rfl (hb hby dex_37) rfl (XT.ii_ne_f c_2) k) ?_
      refine Goes.pre (S' := (s₁.setTop (mkF m 41 #[.val (.ref r), .val (.int (3 : Int32)), .val (.int key)] [(.int (2 : Int32))]))) (fun _ k => XS.iconst X0.here hx rfl (hb hby dex_40) k) ?_
      exact Goes.ret X0 hx hlk (t := .int) Bd.returns rfl (Or.inl ⟨rfl, Or.inl rfl, _, rfl⟩) (hb hby dex_41) ⟨by simp [own_ix, c_2]; try rfl, N0, e0⟩ (by first | decide | exact Nat.le_of_ble_eq_true rfl | assumption | (simp [Value.category]; done)) (by first | decide | exact Nat.le_of_ble_eq_true rfl | assumption | (simp [Value.category]; done))
    · skip
      refine Goes.pre (S' := (s₁.setTop (mkF m 42 #[.val (.ref r), .val (.int (3 : Int32)), .val (.int key)] []))) (fun _ k => XS.icmpYes X0.here hx rfl (pc0 := 37) (pc' := 42) rfl (hb hby dex_37) rfl (XT.ii_ne_t c_2) (by decide) (by decide) k) ?_
      refine Goes.pre (S' := (s₁.setTop (mkF m 43 #[.val (.ref r), .val (.int (3 : Int32)), .val (.int key)] [(.int (3 : Int32))]))) (fun _ k => XS.iloadN X0.here hx rfl (hb hby dex_42) rfl k) ?_
      refine Goes.pre (S' := (s₁.setTop (mkF m 44 #[.val (.ref r), .val (.int (3 : Int32)), .val (.int key)] [(.int (1 : Int32)), (.int (3 : Int32))]))) (fun _ k => XS.iconst X0.here hx rfl (hb hby dex_43) k) ?_
      refine Goes.pre (S' := (s₁.setTop (mkF m 47 #[.val (.ref r), .val (.int (3 : Int32)), .val (.int key)] []))) (fun _ k => XS.icmpNo X0.here hx rfl (hb hby dex_44) rfl (XT.ii_le_f (by decide)) k) ?_
      refine Goes.pre (S' := (s₁.setTop (mkF m 48 #[.val (.ref r), .val (.int (3 : Int32)), .val (.int key)] [(.ref r)]))) (fun _ k => XS.aloadN X0.here hx rfl (hb hby dex_47) rfl rfl k) ?_
      refine Goes.pre (S' := (s₁.setTop (mkF m 49 #[.val (.ref r), .val (.int (3 : Int32)), .val (.int key)] [(.int (1 : Int32)), (.ref r)]))) (fun _ k => XS.iconst X0.here hx rfl (hb hby dex_48) k) ?_
      refine Goes.iaload X0 hx hZ e0 V (j := (1 : Int32)) ⟨by decide, by decide⟩ (w := .int y1) rfl (hb hby dex_49) ?_
      show Goes p e below _ (s₁.setTop (mkF m 50 #[.val (.ref r), .val (.int (3 : Int32)), .val (.int key)] [(.int y1)]))
      refine Goes.pre (S' := (s₁.setTop (mkF m 51 #[.val (.ref r), .val (.int (3 : Int32)), .val (.int key)] [(.int key), (.int y1)]))) (fun _ k => XS.iloadN X0.here hx rfl (hb hby dex_50) rfl k) ?_
      by_cases c_1 : y1 = key
      · skip
        refine Goes.pre (S' := (s₁.setTop (mkF m 54 #[.val (.ref r), .val (.int (3 : Int32)), .val (.int key)] []))) (fun _ k => XS.icmpNo X0.here hx rfl (hb hby dex_51) rfl (XT.ii_ne_f c_1) k) ?_
        refine Goes.pre (S' := (s₁.setTop (mkF m 55 #[.val (.ref r), .val (.int (3 : Int32)), .val (.int key)] [(.int (1 : Int32))]))) (fun _ k => XS.iconst X0.here hx rfl (hb hby dex_54) k) ?_
        exact Goes.ret X0 hx hlk (t := .int) Bd.returns rfl (Or.inl ⟨rfl, Or.inl rfl, _, rfl⟩) (hb hby dex_55) ⟨by simp [own_ix, c_2, c_1]; try rfl, N0, e0⟩ (by first | decide | exact Nat.le_of_ble_eq_true rfl | assumption | (simp [Value.category]; done)) (by first | decide | exact Nat.le_of_ble_eq_true rfl | assumption | (simp [Value.category]; done))
      · skip
        refine Goes.pre (S' := (s₁.setTop (mkF m 56 #[.val (.ref r), .val (.int (3 : Int32)), .val (.int key)] []))) (fun _ k => XS.icmpYes X0.here hx rfl (pc0 := 51) (pc' := 56) rfl (hb hby dex_51) rfl (XT.ii_ne_t c_1) (by decide) (by decide) k) ?_
        refine Goes.pre (S' := (s₁.setTop (mkF m 57 #[.val (.ref r), .val (.int (3 : Int32)), .val (.int key)] [(.int (3 : Int32))]))) (fun _ k => XS.iloadN X0.here hx rfl (hb hby dex_56) rfl k) ?_
        refine Goes.pre (S' := (s₁.setTop (mkF m 60 #[.val (.ref r), .val (.int (3 : Int32)), .val (.int key)] []))) (fun _ k => XS.ifNo X0.here hx rfl (hb hby dex_57) rfl (XT.i0_le_f (by decide)) k) ?_
        refine Goes.pre (S' := (s₁.setTop (mkF m 61 #[.val (.ref r), .val (.int (3 : Int32)), .val (.int key)] [(.ref r)]))) (fun _ k => XS.aloadN X0.here hx rfl (hb hby dex_60) rfl rfl k) ?_
        refine Goes.pre (S' := (s₁.setTop (mkF m 62 #[.val (.ref r), .val (.int (3 : Int32)), .val (.int key)] [(.int (0 : Int32)), (.ref r)]))) (fun _ k => XS.iconst X0.here hx rfl (hb hby dex_61) k) ?_
        refine Goes.iaload X0 hx hZ e0 V (j := (0 : Int32)) ⟨by decide, by decide⟩ (w := .int y0) rfl (hb hby dex_62) ?_
        show Goes p e below _ (s₁.setTop (mkF m 63 #[.val (.ref r), .val (.int (3 : Int32)), .val (.int key)] [(.int y0)]))
        refine Goes.pre (S' := (s₁.setTop (mkF m 64 #[.val (.ref r), .val (.int (3 : Int32)), .val (.int key)] [(.int key), (.int y0)]))) (fun _ k => XS.iloadN X0.here hx rfl (hb hby dex_63) rfl k) ?_
        by_cases c_0 : y0 = key
        · skip
          refine Goes.pre (S' := (s₁.setTop (mkF m 67 #[.val (.ref r), .val (.int (3 : Int32)), .val (.int key)] []))) (fun _ k => XS.icmpNo X0.here hx rfl (hb hby dex_64) rfl (XT.ii_ne_f c_0) k) ?_
          refine Goes.pre (S' := (s₁.setTop (mkF m 68 #[.val (.ref r), .val (.int (3 : Int32)), .val (.int key)] [(.int (0 : Int32))]))) (fun _ k => XS.iconst X0.here hx rfl (hb hby dex_67) k) ?_
          exact Goes.ret X0 hx hlk (t := .int) Bd.returns rfl (Or.inl ⟨rfl, Or.inl rfl, _, rfl⟩) (hb hby dex_68) ⟨by simp [own_ix, c_2, c_1, c_0]; try rfl, N0, e0⟩ (by first | decide | exact Nat.le_of_ble_eq_true rfl | assumption | (simp [Value.category]; done)) (by first | decide | exact Nat.le_of_ble_eq_true rfl | assumption | (simp [Value.category]; done))
        · skip
          refine Goes.pre (S' := (s₁.setTop (mkF m 69 #[.val (.ref r), .val (.int (3 : Int32)), .val (.int key)] []))) (fun _ k => XS.icmpYes X0.here hx rfl (pc0 := 64) (pc' := 69) rfl (hb hby dex_64) rfl (XT.ii_ne_t c_0) (by decide) (by decide) k) ?_
          refine Goes.pre (S' := (s₁.setTop (mkF m 70 #[.val (.ref r), .val (.int (3 : Int32)), .val (.int key)] [(.int (-1 : Int32))]))) (fun _ k => XS.iconst X0.here hx rfl (hb hby dex_69) k) ?_
          exact Goes.ret X0 hx hlk (t := .int) Bd.returns rfl (Or.inl ⟨rfl, Or.inl rfl, _, rfl⟩) (hb hby dex_70) ⟨by simp [own_ix, c_2, c_1, c_0]; try rfl, N0, e0⟩ (by first | decide | exact Nat.le_of_ble_eq_true rfl | assumption | (simp [Value.category]; done)) (by first | decide | exact Nat.le_of_ble_eq_true rfl | assumption | (simp [Value.category]; done))
  · skip
    show Goes p e below _ (s₁.setTop (mkF m 0 #[.val (.ref r), .val (.int (4 : Int32)), .val (.int key)] []))
    refine Goes.pre (S' := (s₁.setTop (mkF m 1 #[.val (.ref r), .val (.int (4 : Int32)), .val (.int key)] [(.int (4 : Int32))]))) (fun _ k => XS.iloadN X0.here hx rfl (hb hby dex_0) rfl k) ?_
    refine Goes.pre (S' := (s₁.setTop (mkF m 2 #[.val (.ref r), .val (.int (4 : Int32)), .val (.int key)] [(.int (4 : Int32)), (.int (4 : Int32))]))) (fun _ k => XS.iconst X0.here hx rfl (hb hby dex_1) k) ?_
    refine Goes.pre (S' := (s₁.setTop (mkF m 14 #[.val (.ref r), .val (.int (4 : Int32)), .val (.int key)] []))) (fun _ k => XS.icmpYes X0.here hx rfl (pc0 := 2) (pc' := 14) rfl (hb hby dex_2) rfl (XT.ii_le_t (by decide)) (by decide) (by decide) k) ?_
    refine Goes.pre (S' := (s₁.setTop (mkF m 15 #[.val (.ref r), .val (.int (4 : Int32)), .val (.int key)] [(.int (4 : Int32))]))) (fun _ k => XS.iloadN X0.here hx rfl (hb hby dex_14) rfl k) ?_
    refine Goes.pre (S' := (s₁.setTop (mkF m 16 #[.val (.ref r), .val (.int (4 : Int32)), .val (.int key)] [(.int (3 : Int32)), (.int (4 : Int32))]))) (fun _ k => XS.iconst X0.here hx rfl (hb hby dex_15) k) ?_
    refine Goes.pre (S' := (s₁.setTop (mkF m 19 #[.val (.ref r), .val (.int (4 : Int32)), .val (.int key)] []))) (fun _ k => XS.icmpNo X0.here hx rfl (hb hby dex_16) rfl (XT.ii_le_f (by decide)) k) ?_
    refine Goes.pre (S' := (s₁.setTop (mkF m 20 #[.val (.ref r), .val (.int (4 : Int32)), .val (.int key)] [(.ref r)]))) (fun _ k => XS.aloadN X0.here hx rfl (hb hby dex_19) rfl rfl k) ?_
    refine Goes.pre (S' := (s₁.setTop (mkF m 21 #[.val (.ref r), .val (.int (4 : Int32)), .val (.int key)] [(.int (3 : Int32)), (.ref r)]))) (fun _ k => XS.iconst X0.here hx rfl (hb hby dex_20) k) ?_
    refine Goes.iaload X0 hx hZ e0 V (j := (3 : Int32)) ⟨by decide, by decide⟩ (w := .int y3) rfl (hb hby dex_21) ?_
    show Goes p e below _ (s₁.setTop (mkF m 22 #[.val (.ref r), .val (.int (4 : Int32)), .val (.int key)] [(.int y3)]))
    refine Goes.pre (S' := (s₁.setTop (mkF m 23 #[.val (.ref r), .val (.int (4 : Int32)), .val (.int key)] [(.int key), (.int y3)]))) (fun _ k => XS.iloadN X0.here hx rfl (hb hby dex_22) rfl k) ?_
    by_cases c_3 : y3 = key
    · skip
      refine Goes.pre (S' := (s₁.setTop (mkF m 26 #[.val (.ref r), .val (.int (4 : Int32)), .val (.int key)] []))) (fun _ k => XS.icmpNo X0.here hx rfl (hb hby dex_23) rfl (XT.ii_ne_f c_3) k) ?_
      refine Goes.pre (S' := (s₁.setTop (mkF m 27 #[.val (.ref r), .val (.int (4 : Int32)), .val (.int key)] [(.int (3 : Int32))]))) (fun _ k => XS.iconst X0.here hx rfl (hb hby dex_26) k) ?_
      exact Goes.ret X0 hx hlk (t := .int) Bd.returns rfl (Or.inl ⟨rfl, Or.inl rfl, _, rfl⟩) (hb hby dex_27) ⟨by simp [own_ix, c_3]; try rfl, N0, e0⟩ (by first | decide | exact Nat.le_of_ble_eq_true rfl | assumption | (simp [Value.category]; done)) (by first | decide | exact Nat.le_of_ble_eq_true rfl | assumption | (simp [Value.category]; done))
    · skip
      refine Goes.pre (S' := (s₁.setTop (mkF m 28 #[.val (.ref r), .val (.int (4 : Int32)), .val (.int key)] []))) (fun _ k => XS.icmpYes X0.here hx rfl (pc0 := 23) (pc' := 28) rfl (hb hby dex_23) rfl (XT.ii_ne_t c_3) (by decide) (by decide) k) ?_
      refine Goes.pre (S' := (s₁.setTop (mkF m 29 #[.val (.ref r), .val (.int (4 : Int32)), .val (.int key)] [(.int (4 : Int32))]))) (fun _ k => XS.iloadN X0.here hx rfl (hb hby dex_28) rfl k) ?_
      refine Goes.pre (S' := (s₁.setTop (mkF m 30 #[.val (.ref r), .val (.int (4 : Int32)), .val (.int key)] [(.int (2 : Int32)), (.int (4 : Int32))]))) (fun _ k => XS.iconst X0.here hx rfl (hb hby dex_29) k) ?_
      refine Goes.pre (S' := (s₁.setTop (mkF m 33 #[.val (.ref r), .val (.int (4 : Int32)), .val (.int key)] []))) (fun _ k => XS.icmpNo X0.here hx rfl (hb hby dex_30) rfl (XT.ii_le_f (by decide)) k) ?_
      refine Goes.pre (S' := (s₁.setTop (mkF m 34 #[.val (.ref r), .val (.int (4 : Int32)), .val (.int key)] [(.ref r)]))) (fun _ k => XS.aloadN X0.here hx rfl (hb hby dex_33) rfl rfl k) ?_
      refine Goes.pre (S' := (s₁.setTop (mkF m 35 #[.val (.ref r), .val (.int (4 : Int32)), .val (.int key)] [(.int (2 : Int32)), (.ref r)]))) (fun _ k => XS.iconst X0.here hx rfl (hb hby dex_34) k) ?_
      refine Goes.iaload X0 hx hZ e0 V (j := (2 : Int32)) ⟨by decide, by decide⟩ (w := .int y2) rfl (hb hby dex_35) ?_
      show Goes p e below _ (s₁.setTop (mkF m 36 #[.val (.ref r), .val (.int (4 : Int32)), .val (.int key)] [(.int y2)]))
      refine Goes.pre (S' := (s₁.setTop (mkF m 37 #[.val (.ref r), .val (.int (4 : Int32)), .val (.int key)] [(.int key), (.int y2)]))) (fun _ k => XS.iloadN X0.here hx rfl (hb hby dex_36) rfl k) ?_
      by_cases c_2 : y2 = key
      · skip
        refine Goes.pre (S' := (s₁.setTop (mkF m 40 #[.val (.ref r), .val (.int (4 : Int32)), .val (.int key)] []))) (fun _ k => XS.icmpNo X0.here hx rfl (hb hby dex_37) rfl (XT.ii_ne_f c_2) k) ?_
        refine Goes.pre (S' := (s₁.setTop (mkF m 41 #[.val (.ref r), .val (.int (4 : Int32)), .val (.int key)] [(.int (2 : Int32))]))) (fun _ k => XS.iconst X0.here hx rfl (hb hby dex_40) k) ?_
        exact Goes.ret X0 hx hlk (t := .int) Bd.returns rfl (Or.inl ⟨rfl, Or.inl rfl, _, rfl⟩) (hb hby dex_41) ⟨by simp [own_ix, c_3, c_2]; try rfl, N0, e0⟩ (by first | decide | exact Nat.le_of_ble_eq_true rfl | assumption | (simp [Value.category]; done)) (by first | decide | exact Nat.le_of_ble_eq_true rfl | assumption | (simp [Value.category]; done))
      · skip
        refine Goes.pre (S' := (s₁.setTop (mkF m 42 #[.val (.ref r), .val (.int (4 : Int32)), .val (.int key)] []))) (fun _ k => XS.icmpYes X0.here hx rfl (pc0 := 37) (pc' := 42) rfl (hb hby dex_37) rfl (XT.ii_ne_t c_2) (by decide) (by decide) k) ?_
        refine Goes.pre (S' := (s₁.setTop (mkF m 43 #[.val (.ref r), .val (.int (4 : Int32)), .val (.int key)] [(.int (4 : Int32))]))) (fun _ k => XS.iloadN X0.here hx rfl (hb hby dex_42) rfl k) ?_
        refine Goes.pre (S' := (s₁.setTop (mkF m 44 #[.val (.ref r), .val (.int (4 : Int32)), .val (.int key)] [(.int (1 : Int32)), (.int (4 : Int32))]))) (fun _ k => XS.iconst X0.here hx rfl (hb hby dex_43) k) ?_
        refine Goes.pre (S' := (s₁.setTop (mkF m 47 #[.val (.ref r), .val (.int (4 : Int32)), .val (.int key)] []))) (fun _ k => XS.icmpNo X0.here hx rfl (hb hby dex_44) rfl (XT.ii_le_f (by decide)) k) ?_
        refine Goes.pre (S' := (s₁.setTop (mkF m 48 #[.val (.ref r), .val (.int (4 : Int32)), .val (.int key)] [(.ref r)]))) (fun _ k => XS.aloadN X0.here hx rfl (hb hby dex_47) rfl rfl k) ?_
        refine Goes.pre (S' := (s₁.setTop (mkF m 49 #[.val (.ref r), .val (.int (4 : Int32)), .val (.int key)] [(.int (1 : Int32)), (.ref r)]))) (fun _ k => XS.iconst X0.here hx rfl (hb hby dex_48) k) ?_
        refine Goes.iaload X0 hx hZ e0 V (j := (1 : Int32)) ⟨by decide, by decide⟩ (w := .int y1) rfl (hb hby dex_49) ?_
        show Goes p e below _ (s₁.setTop (mkF m 50 #[.val (.ref r), .val (.int (4 : Int32)), .val (.int key)] [(.int y1)]))
        refine Goes.pre (S' := (s₁.setTop (mkF m 51 #[.val (.ref r), .val (.int (4 : Int32)), .val (.int key)] [(.int key), (.int y1)]))) (fun _ k => XS.iloadN X0.here hx rfl (hb hby dex_50) rfl k) ?_
        by_cases c_1 : y1 = key
        · skip
          refine Goes.pre (S' := (s₁.setTop (mkF m 54 #[.val (.ref r), .val (.int (4 : Int32)), .val (.int key)] []))) (fun _ k => XS.icmpNo X0.here hx rfl (hb hby dex_51) rfl (XT.ii_ne_f c_1) k) ?_
          refine Goes.pre (S' := (s₁.setTop (mkF m 55 #[.val (.ref r), .val (.int (4 : Int32)), .val (.int key)] [(.int (1 : Int32))]))) (fun _ k => XS.iconst X0.here hx rfl (hb hby dex_54) k) ?_
          exact Goes.ret X0 hx hlk (t := .int) Bd.returns rfl (Or.inl ⟨rfl, Or.inl rfl, _, rfl⟩) (hb hby dex_55) ⟨by simp [own_ix, c_3, c_2, c_1]; try rfl, N0, e0⟩ (by first | decide | exact Nat.le_of_ble_eq_true rfl | assumption | (simp [Value.category]; done)) (by first | decide | exact Nat.le_of_ble_eq_true rfl | assumption | (simp [Value.category]; done))
        · skip
          refine Goes.pre (S' := (s₁.setTop (mkF m 56 #[.val (.ref r), .val (.int (4 : Int32)), .val (.int key)] []))) (fun _ k => XS.icmpYes X0.here hx rfl (pc0 := 51) (pc' := 56) rfl (hb hby dex_51) rfl (XT.ii_ne_t c_1) (by decide) (by decide) k) ?_
          refine Goes.pre (S' := (s₁.setTop (mkF m 57 #[.val (.ref r), .val (.int (4 : Int32)), .val (.int key)] [(.int (4 : Int32))]))) (fun _ k => XS.iloadN X0.here hx rfl (hb hby dex_56) rfl k) ?_
          refine Goes.pre (S' := (s₁.setTop (mkF m 60 #[.val (.ref r), .val (.int (4 : Int32)), .val (.int key)] []))) (fun _ k => XS.ifNo X0.here hx rfl (hb hby dex_57) rfl (XT.i0_le_f (by decide)) k) ?_
          refine Goes.pre (S' := (s₁.setTop (mkF m 61 #[.val (.ref r), .val (.int (4 : Int32)), .val (.int key)] [(.ref r)]))) (fun _ k => XS.aloadN X0.here hx rfl (hb hby dex_60) rfl rfl k) ?_
          refine Goes.pre (S' := (s₁.setTop (mkF m 62 #[.val (.ref r), .val (.int (4 : Int32)), .val (.int key)] [(.int (0 : Int32)), (.ref r)]))) (fun _ k => XS.iconst X0.here hx rfl (hb hby dex_61) k) ?_
          refine Goes.iaload X0 hx hZ e0 V (j := (0 : Int32)) ⟨by decide, by decide⟩ (w := .int y0) rfl (hb hby dex_62) ?_
          show Goes p e below _ (s₁.setTop (mkF m 63 #[.val (.ref r), .val (.int (4 : Int32)), .val (.int key)] [(.int y0)]))
          refine Goes.pre (S' := (s₁.setTop (mkF m 64 #[.val (.ref r), .val (.int (4 : Int32)), .val (.int key)] [(.int key), (.int y0)]))) (fun _ k => XS.iloadN X0.here hx rfl (hb hby dex_63) rfl k) ?_
          by_cases c_0 : y0 = key
          · skip
            refine Goes.pre (S' := (s₁.setTop (mkF m 67 #[.val (.ref r), .val (.int (4 : Int32)), .val (.int key)] []))) (fun _ k => XS.icmpNo X0.here hx rfl (hb hby dex_64) rfl (XT.ii_ne_f c_0) k) ?_
            refine Goes.pre (S' := (s₁.setTop (mkF m 68 #[.val (.ref r), .val (.int (4 : Int32)), .val (.int key)] [(.int (0 : Int32))]))) (fun _ k => XS.iconst X0.here hx rfl (hb hby dex_67) k) ?_
            exact Goes.ret X0 hx hlk (t := .int) Bd.returns rfl (Or.inl ⟨rfl, Or.inl rfl, _, rfl⟩) (hb hby dex_68) ⟨by simp [own_ix, c_3, c_2, c_1, c_0]; try rfl, N0, e0⟩ (by first | decide | exact Nat.le_of_ble_eq_true rfl | assumption | (simp [Value.category]; done)) (by first | decide | exact Nat.le_of_ble_eq_true rfl | assumption | (simp [Value.category]; done))
          · skip
            refine Goes.pre (S' := (s₁.setTop (mkF m 69 #[.val (.ref r), .val (.int (4 : Int32)), .val (.int key)] []))) (fun _ k => XS.icmpYes X0.here hx rfl (pc0 := 64) (pc' := 69) rfl (hb hby dex_64) rfl (XT.ii_ne_t c_0) (by decide) (by decide) k) ?_
            refine Goes.pre (S' := (s₁.setTop (mkF m 70 #[.val (.ref r), .val (.int (4 : Int32)), .val (.int key)] [(.int (-1 : Int32))]))) (fun _ k => XS.iconst X0.here hx rfl (hb hby dex_69) k) ?_
            exact Goes.ret X0 hx hlk (t := .int) Bd.returns rfl (Or.inl ⟨rfl, Or.inl rfl, _, rfl⟩) (hb hby dex_70) ⟨by simp [own_ix, c_3, c_2, c_1, c_0]; try rfl, N0, e0⟩ (by first | decide | exact Nat.le_of_ble_eq_true rfl | assumption | (simp [Value.category]; done)) (by first | decide | exact Nat.le_of_ble_eq_true rfl | assumption | (simp [Value.category]; done))
  · skip
    show Goes p e below _ (s₁.setTop (mkF m 0 #[.val (.ref r), .val (.int (5 : Int32)), .val (.int key)] []))
    refine Goes.pre (S' := (s₁.setTop (mkF m 1 #[.val (.ref r), .val (.int (5 : Int32)), .val (.int key)] [(.int (5 : Int32))]))) (fun _ k => XS.iloadN X0.here hx rfl (hb hby dex_0) rfl k) ?_
    refine Goes.pre (S' := (s₁.setTop (mkF m 2 #[.val (.ref r), .val (.int (5 : Int32)), .val (.int key)] [(.int (4 : Int32)), (.int (5 : Int32))]))) (fun _ k => XS.iconst X0.here hx rfl (hb hby dex_1) k) ?_
    refine Goes.pre (S' := (s₁.setTop (mkF m 5 #[.val (.ref r), .val (.int (5 : Int32)), .val (.int key)] []))) (fun _ k => XS.icmpNo X0.here hx rfl (hb hby dex_2) rfl (XT.ii_le_f (by decide)) k) ?_
    refine Goes.pre (S' := (s₁.setTop (mkF m 6 #[.val (.ref r), .val (.int (5 : Int32)), .val (.int key)] [(.ref r)]))) (fun _ k => XS.aloadN X0.here hx rfl (hb hby dex_5) rfl rfl k) ?_
    refine Goes.pre (S' := (s₁.setTop (mkF m 7 #[.val (.ref r), .val (.int (5 : Int32)), .val (.int key)] [(.int (4 : Int32)), (.ref r)]))) (fun _ k => XS.iconst X0.here hx rfl (hb hby dex_6) k) ?_
    refine Goes.iaload X0 hx hZ e0 V (j := (4 : Int32)) ⟨by decide, by decide⟩ (w := .int y4) rfl (hb hby dex_7) ?_
    show Goes p e below _ (s₁.setTop (mkF m 8 #[.val (.ref r), .val (.int (5 : Int32)), .val (.int key)] [(.int y4)]))
    refine Goes.pre (S' := (s₁.setTop (mkF m 9 #[.val (.ref r), .val (.int (5 : Int32)), .val (.int key)] [(.int key), (.int y4)]))) (fun _ k => XS.iloadN X0.here hx rfl (hb hby dex_8) rfl k) ?_
    by_cases c_4 : y4 = key
    · skip
      refine Goes.pre (S' := (s₁.setTop (mkF m 12 #[.val (.ref r), .val (.int (5 : Int32)), .val (.int key)] []))) (fun _ k => XS.icmpNo X0.here hx rfl (hb hby dex_9) rfl (XT.ii_ne_f c_4) k) ?_
      refine Goes.pre (S' := (s₁.setTop (mkF m 13 #[.val (.ref r), .val (.int (5 : Int32)), .val (.int key)] [(.int (4 : Int32))]))) (fun _ k => XS.iconst X0.here hx rfl (hb hby dex_12) k) ?_
      exact Goes.ret X0 hx hlk (t := .int) Bd.returns rfl (Or.inl ⟨rfl, Or.inl rfl, _, rfl⟩) (hb hby dex_13) ⟨by simp [own_ix, c_4]; try rfl, N0, e0⟩ (by first | decide | exact Nat.le_of_ble_eq_true rfl | assumption | (simp [Value.category]; done)) (by first | decide | exact Nat.le_of_ble_eq_true rfl | assumption | (simp [Value.category]; done))
    · skip
      refine Goes.pre (S' := (s₁.setTop (mkF m 14 #[.val (.ref r), .val (.int (5 : Int32)), .val (.int key)] []))) (fun _ k => XS.icmpYes X0.here hx rfl (pc0 := 9) (pc' := 14) rfl (hb hby dex_9) rfl (XT.ii_ne_t c_4) (by decide) (by decide) k) ?_
      refine Goes.pre (S' := (s₁.setTop (mkF m 15 #[.val (.ref r), .val (.int (5 : Int32)), .val (.int key)] [(.int (5 : Int32))]))) (fun _ k => XS.iloadN X0.here hx rfl (hb hby dex_14) rfl k) ?_
      refine Goes.pre (S' := (s₁.setTop (mkF m 16 #[.val (.ref r), .val (.int (5 : Int32)), .val (.int key)] [(.int (3 : Int32)), (.int (5 : Int32))]))) (fun _ k => XS.iconst X0.here hx rfl (hb hby dex_15) k) ?_
      refine Goes.pre (S' := (s₁.setTop (mkF m 19 #[.val (.ref r), .val (.int (5 : Int32)), .val (.int key)] []))) (fun _ k => XS.icmpNo X0.here hx rfl (hb hby dex_16) rfl (XT.ii_le_f (by decide)) k) ?_
      refine Goes.pre (S' := (s₁.setTop (mkF m 20 #[.val (.ref r), .val (.int (5 : Int32)), .val (.int key)] [(.ref r)]))) (fun _ k => XS.aloadN X0.here hx rfl (hb hby dex_19) rfl rfl k) ?_
      refine Goes.pre (S' := (s₁.setTop (mkF m 21 #[.val (.ref r), .val (.int (5 : Int32)), .val (.int key)] [(.int (3 : Int32)), (.ref r)]))) (fun _ k => XS.iconst X0.here hx rfl (hb hby dex_20) k) ?_
      refine Goes.iaload X0 hx hZ e0 V (j := (3 : Int32)) ⟨by decide, by decide⟩ (w := .int y3) rfl (hb hby dex_21) ?_
      show Goes p e below _ (s₁.setTop (mkF m 22 #[.val (.ref r), .val (.int (5 : Int32)), .val (.int key)] [(.int y3)]))
      refine Goes.pre (S' := (s₁.setTop (mkF m 23 #[.val (.ref r), .val (.int (5 : Int32)), .val (.int key)] [(.int key), (.int y3)]))) (fun _ k => XS.iloadN X0.here hx rfl (hb hby dex_22) rfl k) ?_
      by_cases c_3 : y3 = key
      · skip
        refine Goes.pre (S' := (s₁.setTop (mkF m 26 #[.val (.ref r), .val (.int (5 : Int32)), .val (.int key)] []))) (fun _ k => XS.icmpNo X0.here hx rfl (hb hby dex_23) rfl (XT.ii_ne_f c_3) k) ?_
        refine Goes.pre (S' := (s₁.setTop (mkF m 27 #[.val (.ref r), .val (.int (5 : Int32)), .val (.int key)] [(.int (3 : Int32))]))) (fun _ k => XS.iconst X0.here hx rfl (hb hby dex_26) k) ?_
        exact Goes.ret X0 hx hlk (t := .int) Bd.returns rfl (Or.inl ⟨rfl, Or.inl rfl, _, rfl⟩) (hb hby dex_27) ⟨by simp [own_ix, c_4, c_3]; try rfl, N0, e0⟩ (by first | decide | exact Nat.le_of_ble_eq_true rfl | assumption | (simp [Value.category]; done)) (by first | decide | exact Nat.le_of_ble_eq_true rfl | assumption | (simp [Value.category]; done))
      · skip
        refine Goes.pre (S' := (s₁.setTop (mkF m 28 #[.val (.ref r), .val (.int (5 : Int32)), .val (.int key)] []))) (fun _ k => XS.icmpYes X0.here hx rfl (pc0 := 23) (pc' := 28) rfl (hb hby dex_23) rfl (XT.ii_ne_t c_3) (by decide) (by decide) k) ?_
        refine Goes.pre (S' := (s₁.setTop (mkF m 29 #[.val (.ref r), .val (.int (5 : Int32)), .val (.int key)] [(.int (5 : Int32))]))) (fun _ k => XS.iloadN X0.here hx rfl (hb hby dex_28) rfl k) ?_
        refine Goes.pre (S' := (s₁.setTop (mkF m 30 #[.val (.ref r), .val (.int (5 : Int32)), .val (.int key)] [(.int (2 : Int32)), (.int (5 : Int32))]))) (fun _ k => XS.iconst X0.here hx rfl (hb hby dex_29) k) ?_
        refine Goes.pre (S' := (s₁.setTop (mkF m 33 #[.val (.ref r), .val (.int (5 : Int32)), .val (.int key)] []))) (fun _ k => XS.icmpNo X0.here hx rfl (hb hby dex_30) rfl (XT.ii_le_f (by decide)) k) ?_
        refine Goes.pre (S' := (s₁.setTop (mkF m 34 #[.val (.ref r), .val (.int (5 : Int32)), .val (.int key)] [(.ref r)]))) (fun _ k => XS.aloadN X0.here hx rfl (hb hby dex_33) rfl rfl k) ?_
        refine Goes.pre (S' := (s₁.setTop (mkF m 35 #[.val (.ref r), .val (.int (5 : Int32)), .val (.int key)] [(.int (2 : Int32)), (.ref r)]))) (fun _ k => XS.iconst X0.here hx rfl (hb hby dex_34) k) ?_
        refine Goes.iaload X0 hx hZ e0 V (j := (2 : Int32)) ⟨by decide, by decide⟩ (w := .int y2) rfl (hb hby dex_35) ?_
        show Goes p e below _ (s₁.setTop (mkF m 36 #[.val (.ref r), .val (.int (5 : Int32)), .val (.int key)] [(.int y2)]))
        refine Goes.pre (S' := (s₁.setTop (mkF m 37 #[.val (.ref r), .val (.int (5 : Int32)), .val (.int key)] [(.int key), (.int y2)]))) (fun _ k => XS.iloadN X0.here hx rfl (hb hby dex_36) rfl k) ?_
        by_cases c_2 : y2 = key
        · skip
          refine Goes.pre (S' := (s₁.setTop (mkF m 40 #[.val (.ref r), .val (.int (5 : Int32)), .val (.int key)] []))) (fun _ k => XS.icmpNo X0.here hx rfl (hb hby dex_37) rfl (XT.ii_ne_f c_2) k) ?_
          refine Goes.pre (S' := (s₁.setTop (mkF m 41 #[.val (.ref r), .val (.int (5 : Int32)), .val (.int key)] [(.int (2 : Int32))]))) (fun _ k => XS.iconst X0.here hx rfl (hb hby dex_40) k) ?_
          exact Goes.ret X0 hx hlk (t := .int) Bd.returns rfl (Or.inl ⟨rfl, Or.inl rfl, _, rfl⟩) (hb hby dex_41) ⟨by simp [own_ix, c_4, c_3, c_2]; try rfl, N0, e0⟩ (by first | decide | exact Nat.le_of_ble_eq_true rfl | assumption | (simp [Value.category]; done)) (by first | decide | exact Nat.le_of_ble_eq_true rfl | assumption | (simp [Value.category]; done))
        · skip
          refine Goes.pre (S' := (s₁.setTop (mkF m 42 #[.val (.ref r), .val (.int (5 : Int32)), .val (.int key)] []))) (fun _ k => XS.icmpYes X0.here hx rfl (pc0 := 37) (pc' := 42) rfl (hb hby dex_37) rfl (XT.ii_ne_t c_2) (by decide) (by decide) k) ?_
          refine Goes.pre (S' := (s₁.setTop (mkF m 43 #[.val (.ref r), .val (.int (5 : Int32)), .val (.int key)] [(.int (5 : Int32))]))) (fun _ k => XS.iloadN X0.here hx rfl (hb hby dex_42) rfl k) ?_
          refine Goes.pre (S' := (s₁.setTop (mkF m 44 #[.val (.ref r), .val (.int (5 : Int32)), .val (.int key)] [(.int (1 : Int32)), (.int (5 : Int32))]))) (fun _ k => XS.iconst X0.here hx rfl (hb hby dex_43) k) ?_
          refine Goes.pre (S' := (s₁.setTop (mkF m 47 #[.val (.ref r), .val (.int (5 : Int32)), .val (.int key)] []))) (fun _ k => XS.icmpNo X0.here hx rfl (hb hby dex_44) rfl (XT.ii_le_f (by decide)) k) ?_
          refine Goes.pre (S' := (s₁.setTop (mkF m 48 #[.val (.ref r), .val (.int (5 : Int32)), .val (.int key)] [(.ref r)]))) (fun _ k => XS.aloadN X0.here hx rfl (hb hby dex_47) rfl rfl k) ?_
          refine Goes.pre (S' := (s₁.setTop (mkF m 49 #[.val (.ref r), .val (.int (5 : Int32)), .val (.int key)] [(.int (1 : Int32)), (.ref r)]))) (fun _ k => XS.iconst X0.here hx rfl (hb hby dex_48) k) ?_
          refine Goes.iaload X0 hx hZ e0 V (j := (1 : Int32)) ⟨by decide, by decide⟩ (w := .int y1) rfl (hb hby dex_49) ?_
          show Goes p e below _ (s₁.setTop (mkF m 50 #[.val (.ref r), .val (.int (5 : Int32)), .val (.int key)] [(.int y1)]))
          refine Goes.pre (S' := (s₁.setTop (mkF m 51 #[.val (.ref r), .val (.int (5 : Int32)), .val (.int key)] [(.int key), (.int y1)]))) (fun _ k => XS.iloadN X0.here hx rfl (hb hby dex_50) rfl k) ?_
          by_cases c_1 : y1 = key
          · skip
            refine Goes.pre (S' := (s₁.setTop (mkF m 54 #[.val (.ref r), .val (.int (5 : Int32)), .val (.int key)] []))) (fun _ k => XS.icmpNo X0.here hx rfl (hb hby dex_51) rfl (XT.ii_ne_f c_1) k) ?_
            refine Goes.pre (S' := (s₁.setTop (mkF m 55 #[.val (.ref r), .val (.int (5 : Int32)), .val (.int key)] [(.int (1 : Int32))]))) (fun _ k => XS.iconst X0.here hx rfl (hb hby dex_54) k) ?_
            exact Goes.ret X0 hx hlk (t := .int) Bd.returns rfl (Or.inl ⟨rfl, Or.inl rfl, _, rfl⟩) (hb hby dex_55) ⟨by simp [own_ix, c_4, c_3, c_2, c_1]; try rfl, N0, e0⟩ (by first | decide | exact Nat.le_of_ble_eq_true rfl | assumption | (simp [Value.category]; done)) (by first | decide | exact Nat.le_of_ble_eq_true rfl | assumption | (simp [Value.category]; done))
          · skip
            refine Goes.pre (S' := (s₁.setTop (mkF m 56 #[.val (.ref r), .val (.int (5 : Int32)), .val (.int key)] []))) (fun _ k => XS.icmpYes X0.here hx rfl (pc0 := 51) (pc' := 56) rfl (hb hby dex_51) rfl (XT.ii_ne_t c_1) (by decide) (by decide) k) ?_
            refine Goes.pre (S' := (s₁.setTop (mkF m 57 #[.val (.ref r), .val (.int (5 : Int32)), .val (.int key)] [(.int (5 : Int32))]))) (fun _ k => XS.iloadN X0.here hx rfl (hb hby dex_56) rfl k) ?_
            refine Goes.pre (S' := (s₁.setTop (mkF m 60 #[.val (.ref r), .val (.int (5 : Int32)), .val (.int key)] []))) (fun _ k => XS.ifNo X0.here hx rfl (hb hby dex_57) rfl (XT.i0_le_f (by decide)) k) ?_
            refine Goes.pre (S' := (s₁.setTop (mkF m 61 #[.val (.ref r), .val (.int (5 : Int32)), .val (.int key)] [(.ref r)]))) (fun _ k => XS.aloadN X0.here hx rfl (hb hby dex_60) rfl rfl k) ?_
            refine Goes.pre (S' := (s₁.setTop (mkF m 62 #[.val (.ref r), .val (.int (5 : Int32)), .val (.int key)] [(.int (0 : Int32)), (.ref r)]))) (fun _ k => XS.iconst X0.here hx rfl (hb hby dex_61) k) ?_
            refine Goes.iaload X0 hx hZ e0 V (j := (0 : Int32)) ⟨by decide, by decide⟩ (w := .int y0) rfl (hb hby dex_62) ?_
            show Goes p e below _ (s₁.setTop (mkF m 63 #[.val (.ref r), .val (.int (5 : Int32)), .val (.int key)] [(.int y0)]))
            refine Goes.pre (S' := (s₁.setTop (mkF m 64 #[.val (.ref r), .val (.int (5 : Int32)), .val (.int key)] [(.int key), (.int y0)]))) (fun _ k => XS.iloadN X0.here hx rfl (hb hby dex_63) rfl k) ?_
            by_cases c_0 : y0 = key
            · skip
              refine Goes.pre (S' := (s₁.setTop (mkF m 67 #[.val (.ref r), .val (.int (5 : Int32)), .val (.int key)] []))) (fun _ k => XS.icmpNo X0.here hx rfl (hb hby dex_64) rfl (XT.ii_ne_f c_0) k) ?_
              refine Goes.pre (S' := (s₁.setTop (mkF m 68 #[.val (.ref r), .val (.int (5 : Int32)), .val (.int key)] [(.int (0 : Int32))]))) (fun _ k => XS.iconst X0.here hx rfl (hb hby dex_67) k) ?_
              exact Goes.ret X0 hx hlk (t := .int) Bd.returns rfl (Or.inl ⟨rfl, Or.inl rfl, _, rfl⟩) (hb hby dex_68) ⟨by simp [own_ix, c_4, c_3, c_2, c_1, c_0]; try rfl, N0, e0⟩ (by first | decide | exact Nat.le_of_ble_eq_true rfl | assumption | (simp [Value.category]; done)) (by first | decide | exact Nat.le_of_ble_eq_true rfl | assumption | (simp [Value.category]; done))
            · skip
              refine Goes.pre (S' := (s₁.setTop (mkF m 69 #[.val (.ref r), .val (.int (5 : Int32)), .val (.int key)] []))) (fun _ k => XS.icmpYes X0.here hx rfl (pc0 := 64) (pc' := 69) rfl (hb hby dex_64) rfl (XT.ii_ne_t c_0) (by decide) (by decide) k) ?_
              refine Goes.pre (S' := (s₁.setTop (mkF m 70 #[.val (.ref r), .val (.int (5 : Int32)), .val (.int key)] [(.int (-1 : Int32))]))) (fun _ k => XS.iconst X0.here hx rfl (hb hby dex_69) k) ?_
              exact Goes.ret X0 hx hlk (t := .int) Bd.returns rfl (Or.inl ⟨rfl, Or.inl rfl, _, rfl⟩) (hb hby dex_70) ⟨by simp [own_ix, c_4, c_3, c_2, c_1, c_0]; try rfl, N0, e0⟩ (by first | decide | exact Nat.le_of_ble_eq_true rfl | assumption | (simp [Value.category]; done)) (by first | decide | exact Nat.le_of_ble_eq_true rfl | assumption | (simp [Value.category]; done))
theorem pn_law : plainName "com/example/clear_plan/clearplan/grounding/FactListIndexOfPinLaw" = true := by first | (simp [plainName, overriddenIn]; done) | decide +kernel
def Q_law (h0 : Heap) (n0 : Nat) (v : Option Value) (h : Heap) (L : List Loc) : Prop := v = some (.int 1) ∧ Fr n0 L
theorem ef_law (m : MethodId) (i0 : Int32) (i1 : Int32) (i2 : Int32) (i3 : Int32) (i4 : Int32) (i5 : Int32) : entryFrame m #[(.int i0), (.int i1), (.int i2), (.int i3), (.int i4), (.int i5)] maxLocals = mkF m 0 #[.val (.int i0), .val (.int i1), .val (.int i2), .val (.int i3), .val (.int i4), .val (.int i5), .unset, .unset, .unset, .unset, .unset, .unset] [] := by first | (simp [entryFrame, mkF, argsToLocals, Value.category, maxLocals]; done) | rfl
set_option maxRecDepth 65536 in
set_option maxHeartbeats 40000000 in
theorem rm_law (l : Launch) (Z : State) (a0 : Array Value) (hw : ∀ d ∈ tables_1, d.before a0 Z = true) (ws : List Jvm.Cond) (i0 : Int32) (i1 : Int32) (i2 : Int32) (i3 : Int32) (i4 : Int32) (i5 : Int32) (bn : Addr) (kn : ClassId) (h0 : Heap) (n0 : Nat) (Z0 : n0 ≤ h0.size) (SN : Sta Z h0 "com/example/clear_plan/clearplan/grounding/FactList" "NONE" "[I" (.ref bn)) (VN : Arv Z h0 bn kn .int 0 [] (.int 0)) :
    Ctr l Z x code maxLocals ret ws room_1 #[(.int i0), (.int i1), (.int i2), (.int i3), (.int i4), (.int i5)] h0 (Q_law h0 n0) := by
  refine MetFree.of_bodySF (plainFor_of_name pn_law) hisR ?_
  intro p e s m args below meth c s₁ Bd hml0 hP hK
  obtain ⟨rfl, hZ, hh⟩ := hP
  have hx := Bd.exec
  have hby := Bd.bytes
  have hlk : meth.locks = false := Bd.notSynchronized
  have hml : c.maxLocals = 12 := hml0
  have hown : s.vm.findClass "com/example/clear_plan/clearplan/grounding/FactListIndexOfPinLaw" = some m.cls := findClass_of_methodNamed Bd.named
  have hnm := (name_of_methodNamed Bd.named Bd.method).1
  have X0 : Stand p l e room_1 s m #[(.int i0), (.int i1), (.int i2), (.int i3), (.int i4), (.int i5)] below meth c s₁ [] 0 0 := Stand.of_body Bd
  have e0 : s₁.heap = h0 := by rw [← hh, Bd.state]; rfl
  have N0 := Fr.nil n0
  show Goes p e below (EndQ s (Q_law h0 n0) room_1.cells room_1.slots) (s₁.setTop (entryFrame m #[(.int i0), (.int i1), (.int i2), (.int i3), (.int i4), (.int i5)] maxLocals))
  refine Goes.pre (S' := (s₁.setTop (mkF m 0 #[.val (.int i0), .val (.int i1), .val (.int i2), .val (.int i3), .val (.int i4), .val (.int i5), .unset, .unset, .unset, .unset, .unset, .unset] []))) (fun _ k => castTop (ef_law m i0 i1 i2 i3 i4 i5) k) ?_
  have tail : ∀ (cnt mode key : Int32) (t : Nat) (r a b : Addr) (kr kb : ClassId) (N : Int32) (vs : List Value) (TT : State) (LL : List Loc) (HH : Heap) (cc ss : Nat), Stand p l e room_1 s m #[(.int i0), (.int i1), (.int i2), (.int i3), (.int i4), (.int i5)] below meth c TT LL cc ss → TT.heap = HH → Fr n0 LL → n0 ≤ HH.size → Exa Z HH a "com/example/clear_plan/clearplan/grounding/FactList" → Fld Z HH a "com/example/clear_plan/clearplan/grounding/FactList" "size" "I" (.int cnt) → Fld Z HH a "com/example/clear_plan/clearplan/grounding/FactList" "numbers" "[I" (.ref b) → Arv Z HH b kb .int N vs (.int 0) → Arv Z HH r kr .int 5 [.int i1, .int i2, .int i3, .int i4, .int i1] (.int 0) → n0 ≤ a → r ≠ a → b ≠ a → t ≤ 5 → (N = 0 ∨ N = 4 ∨ N = 8) → (∀ j, j < t → Int32.ofNat j < N) → (∀ j, j < t → vs.getD j (.int 0) = .int (([i1, i2, i3, i4, i1] : List Int32).getD j 0)) → cc ≤ 16 → ss ≤ 128 → Goes p e below (EndQ s (Q_law h0 n0) room_1.cells room_1.slots) (TT.setTop (mkF m 161 #[.val (.int i0), .val (.int i1), .val (.int i2), .val (.int i3), .val (.int i4), .val (.int i5), .val (.ref r), .val (.int cnt), .val (.int (Int32.ofNat t)), .val (.int mode), .val (.int key), .val (.ref a)] [])) := by
    intro cnt mode key t r a b kr kb N vs TT LL HH cc ss XX eX NX ZX EX FX GX VX UX gaX hra hba ht5 hN hts hv hcc hss
    refine Goes.pre (S' := (TT.setTop (mkF m 163 #[.val (.int i0), .val (.int i1), .val (.int i2), .val (.int i3), .val (.int i4), .val (.int i5), .val (.ref r), .val (.int cnt), .val (.int (Int32.ofNat t)), .val (.int mode), .val (.int key), .val (.ref a)] [(.ref a)]))) (fun _ k => XS.aload XX.here hx rfl (hb hby at_161) rfl rfl k) ?_
    refine Goes.pre (S' := (TT.setTop (mkF m 165 #[.val (.int i0), .val (.int i1), .val (.int i2), .val (.int i3), .val (.int i4), .val (.int i5), .val (.ref r), .val (.int cnt), .val (.int (Int32.ofNat t)), .val (.int mode), .val (.int key), .val (.ref a)] [(.int (Int32.ofNat t)), (.ref a)]))) (fun _ k => XS.iload XX.here hx rfl (hb hby at_163) rfl k) ?_
    refine Goes.callV (y := (⟨"com/example/clear_plan/clearplan/grounding/FactList", "truncate", "(I)V"⟩ : MethodName)) (C := "com/example/clear_plan/clearplan/grounding/FactList") XX hx hZ hown (hw _ (List.mem_of_getElem? (i := 14) rfl)) (hw _ (List.mem_of_getElem? (i := 15) rfl)) (hw _ (List.mem_of_getElem? (i := 17) rfl)) (hw _ (List.mem_of_getElem? (i := 16) rfl)) (hw _ (List.mem_of_getElem? (i := 3) rfl)) (hw _ (List.mem_of_getElem? (i := 18) rfl)) (by decide) eX EX (rm_tr l Z a0 hw [] a (Int32.ofNat t) cnt HH n0 ZX FX EX gaX) (by rw [hml]; rfl) [(.int (Int32.ofNat t))] [] pd_tr rfl rfl rfl (hb hby at_165) (by decide) (by first | decide | exact Nat.le_of_ble_eq_true rfl | assumption | (simp [Value.category]; done)) (by first | decide | exact Nat.le_of_ble_eq_true rfl | assumption | (simp [Value.category]; done)) (by first | decide | exact Nat.le_of_ble_eq_true rfl | assumption | (simp [Value.category]; done)) ?_
    intro T1 v1 L1 X1 q1
    obtain ⟨rfl, N1a, K1, F1, G1⟩ := q1
    have N1 := Fr.app NX N1a
    have Zn1 : n0 ≤ T1.heap.size := Nat.le_trans ZX K1.1
    have Ex1 := EX.keep K1
    have V1 := VX.keep K1 (ninS hba nin0)
    have U1 := UX.keep K1 (ninS hra nin0)
    have GG := G1 b GX
    show Goes p e below _ (T1.setTop (mkF m 168 #[.val (.int i0), .val (.int i1), .val (.int i2), .val (.int i3), .val (.int i4), .val (.int i5), .val (.ref r), .val (.int cnt), .val (.int (Int32.ofNat t)), .val (.int mode), .val (.int key), .val (.ref a)] []))
    refine Goes.pre (S' := (T1.setTop (mkF m 170 #[.val (.int i0), .val (.int i1), .val (.int i2), .val (.int i3), .val (.int i4), .val (.int i5), .val (.ref r), .val (.int cnt), .val (.int (Int32.ofNat t)), .val (.int mode), .val (.int key), .val (.ref a)] [(.ref a)]))) (fun _ k => XS.aload X1.here hx rfl (hb hby at_168) rfl rfl k) ?_
    refine Goes.pre (S' := (T1.setTop (mkF m 172 #[.val (.int i0), .val (.int i1), .val (.int i2), .val (.int i3), .val (.int i4), .val (.int i5), .val (.ref r), .val (.int cnt), .val (.int (Int32.ofNat t)), .val (.int mode), .val (.int key), .val (.ref a)] [(.int key), (.ref a)]))) (fun _ k => XS.iload X1.here hx rfl (hb hby at_170) rfl k) ?_
    refine Goes.callV (y := (⟨"com/example/clear_plan/clearplan/grounding/FactList", "indexOf", "(I)I"⟩ : MethodName)) (C := "com/example/clear_plan/clearplan/grounding/FactList") X1 hx hZ hown (hw _ (List.mem_of_getElem? (i := 21) rfl)) (hw _ (List.mem_of_getElem? (i := 22) rfl)) (hw _ (List.mem_of_getElem? (i := 24) rfl)) (hw _ (List.mem_of_getElem? (i := 23) rfl)) (hw _ (List.mem_of_getElem? (i := 3) rfl)) (hw _ (List.mem_of_getElem? (i := 25) rfl)) (by decide) rfl Ex1 (rm_io l Z a0 hw [] a key t b kb N vs ([i1, i2, i3, i4, i1] : List Int32) T1.heap n0 Zn1 ht5 hN hts hv GG F1 V1) (by rw [hml]; rfl) [(.int key)] [] pd_io rfl rfl rfl (hb hby at_172) (by decide) (by first | decide | exact Nat.le_of_ble_eq_true rfl | assumption | (simp [Value.category]; done)) (by first | decide | exact Nat.le_of_ble_eq_true rfl | assumption | (simp [Value.category]; done)) (by first | decide | exact Nat.le_of_ble_eq_true rfl | assumption | (simp [Value.category]; done)) ?_
    intro T2 v2 L2 X2 q2
    obtain ⟨rfl, N2a, e2⟩ := q2
    have N2 := Fr.app N1 N2a
    show Goes p e below _ (T2.setTop (mkF m 175 #[.val (.int i0), .val (.int i1), .val (.int i2), .val (.int i3), .val (.int i4), .val (.int i5), .val (.ref r), .val (.int cnt), .val (.int (Int32.ofNat t)), .val (.int mode), .val (.int key), .val (.ref a)] [(.int (own_ix ([i1, i2, i3, i4, i1] : List Int32) key t))]))
    refine Goes.pre (S' := (T2.setTop (mkF m 177 #[.val (.int i0), .val (.int i1), .val (.int i2), .val (.int i3), .val (.int i4), .val (.int i5), .val (.ref r), .val (.int cnt), .val (.int (Int32.ofNat t)), .val (.int mode), .val (.int key), .val (.ref a)] [(.ref r), (.int (own_ix ([i1, i2, i3, i4, i1] : List Int32) key t))]))) (fun _ k => XS.aload X2.here hx rfl (hb hby at_175) rfl rfl k) ?_
    refine Goes.pre (S' := (T2.setTop (mkF m 179 #[.val (.int i0), .val (.int i1), .val (.int i2), .val (.int i3), .val (.int i4), .val (.int i5), .val (.ref r), .val (.int cnt), .val (.int (Int32.ofNat t)), .val (.int mode), .val (.int key), .val (.ref a)] [(.int (Int32.ofNat t)), (.ref r), (.int (own_ix ([i1, i2, i3, i4, i1] : List Int32) key t))]))) (fun _ k => XS.iload X2.here hx rfl (hb hby at_177) rfl k) ?_
    refine Goes.pre (S' := (T2.setTop (mkF m 181 #[.val (.int i0), .val (.int i1), .val (.int i2), .val (.int i3), .val (.int i4), .val (.int i5), .val (.ref r), .val (.int cnt), .val (.int (Int32.ofNat t)), .val (.int mode), .val (.int key), .val (.ref a)] [(.int key), (.int (Int32.ofNat t)), (.ref r), (.int (own_ix ([i1, i2, i3, i4, i1] : List Int32) key t))]))) (fun _ k => XS.iload X2.here hx rfl (hb hby at_179) rfl k) ?_
    refine Goes.callS (y := (⟨"com/example/clear_plan/clearplan/grounding/FactListIndexOfPinLaw", "expected", "([III)I"⟩ : MethodName)) X2 hx hZ hown (hw _ (List.mem_of_getElem? (i := 26) rfl)) (hw _ (List.mem_of_getElem? (i := 27) rfl)) (hw _ (List.mem_of_getElem? (i := 28) rfl)) (hw _ (List.mem_of_getElem? (i := 29) rfl)) (by decide) e2 (rm_ex l Z a0 hw [] r (Int32.ofNat t) key t kr i1 i2 i3 i4 i1 T1.heap n0 Zn1 ht5 rfl U1) (by rw [hml]; rfl) [(.ref r), (.int (Int32.ofNat t)), (.int key)] [(.int (own_ix ([i1, i2, i3, i4, i1] : List Int32) key t))] pd_ex rfl rfl rfl (hb hby at_181) (by decide) (by first | decide | exact Nat.le_of_ble_eq_true rfl | assumption | (simp [Value.category]; done)) (by first | decide | exact Nat.le_of_ble_eq_true rfl | assumption | (simp [Value.category]; done)) (by first | decide | exact Nat.le_of_ble_eq_true rfl | assumption | (simp [Value.category]; done)) ?_
    intro T3 v3 L3 X3 q3
    obtain ⟨rfl, N3a, e3⟩ := q3
    have N3 := Fr.app N2 N3a
    show Goes p e below _ (T3.setTop (mkF m 184 #[.val (.int i0), .val (.int i1), .val (.int i2), .val (.int i3), .val (.int i4), .val (.int i5), .val (.ref r), .val (.int cnt), .val (.int (Int32.ofNat t)), .val (.int mode), .val (.int key), .val (.ref a)] [(.int (own_ix ([i1, i2, i3, i4, i1] : List Int32) key t)), (.int (own_ix ([i1, i2, i3, i4, i1] : List Int32) key t))]))
    refine Goes.pre (S' := (T3.setTop (mkF m 187 #[.val (.int i0), .val (.int i1), .val (.int i2), .val (.int i3), .val (.int i4), .val (.int i5), .val (.ref r), .val (.int cnt), .val (.int (Int32.ofNat t)), .val (.int mode), .val (.int key), .val (.ref a)] []))) (fun _ k => XS.icmpNo X3.here hx rfl (hb hby at_184) rfl (XT.ii_ne_f rfl) k) ?_
    refine Goes.pre (S' := (T3.setTop (mkF m 188 #[.val (.int i0), .val (.int i1), .val (.int i2), .val (.int i3), .val (.int i4), .val (.int i5), .val (.ref r), .val (.int cnt), .val (.int (Int32.ofNat t)), .val (.int mode), .val (.int key), .val (.ref a)] [(.int (1 : Int32))]))) (fun _ k => XS.iconst X3.here hx rfl (hb hby at_187) k) ?_
    refine Goes.pre (S' := (T3.setTop (mkF m 192 #[.val (.int i0), .val (.int i1), .val (.int i2), .val (.int i3), .val (.int i4), .val (.int i5), .val (.ref r), .val (.int cnt), .val (.int (Int32.ofNat t)), .val (.int mode), .val (.int key), .val (.ref a)] [(.int (1 : Int32))]))) (fun _ k => XS.goto X3.here hx rfl (pc0 := 188) (pc' := 192) rfl (hb hby at_188) (by decide) (by decide) k) ?_
    exact Goes.retN X3 hx hlk (t := .boolean) Bd.returns (by simp) (hb hby at_192) ⟨rfl, N3⟩ (by first | decide | exact Nat.le_of_ble_eq_true rfl | assumption | (simp [Value.category]; done)) (by first | decide | exact Nat.le_of_ble_eq_true rfl | assumption | (simp [Value.category]; done))
  have K0 : Keep h0 h0 [] := Keep.refl h0 []
  refine Goes.pre (S' := (s₁.setTop (mkF m 1 #[.val (.int i0), .val (.int i1), .val (.int i2), .val (.int i3), .val (.int i4), .val (.int i5), .unset, .unset, .unset, .unset, .unset, .unset] [(.int (5 : Int32))]))) (fun _ k => XS.iconst X0.here hx rfl (hb hby at_0) k) ?_
  obtain ⟨T4, h4, k4, X4, e4, E4, A4, st4⟩ := newP X0 hx hZ (hw _ (List.mem_of_getElem? (i := 0) rfl)) e0 (g := (mkF m 1 #[.val (.int i0), .val (.int i1), .val (.int i2), .val (.int i3), .val (.int i4), .val (.int i5), .unset, .unset, .unset, .unset, .unset, .unset] [(.int (5 : Int32))])) rfl (hb hby at_1) rfl (by decide) (cap := 5) (by decide) (by decide) (by decide) (by decide)
  obtain ⟨b4, g4⟩ : ∃ z, z = h0.size := ⟨_, rfl⟩
  rw [← g4] at A4 st4
  have V4 : Arv Z h4 b4 k4 .int (5 : Int32) [(.int (0 : Int32)), (.int (0 : Int32)), (.int (0 : Int32)), (.int (0 : Int32)), (.int (0 : Int32))] (.int (0 : Int32)) := (Arv.new A4 (by decide)).pad (pad_rep [] (.int (0 : Int32)) 5)
  have gb4 : n0 ≤ b4 := Nat.le_trans Z0 (Nat.le_of_eq g4.symm)
  have Zn4 : n0 ≤ h4.size := Nat.le_trans Z0 E4.1
  have szb4 : h0.size ≤ b4 := Nat.le_trans K0.1 (Nat.le_of_eq g4.symm)
  have K4 : Keep h0 h4 [] := K0.ext E4
  refine Goes.pre (S' := (T4.setTop (mkF m 3 #[.val (.int i0), .val (.int i1), .val (.int i2), .val (.int i3), .val (.int i4), .val (.int i5), .unset, .unset, .unset, .unset, .unset, .unset] [(.ref b4)]))) st4 ?_
  refine Goes.pre (S' := (T4.setTop (mkF m 4 #[.val (.int i0), .val (.int i1), .val (.int i2), .val (.int i3), .val (.int i4), .val (.int i5), .unset, .unset, .unset, .unset, .unset, .unset] [(.ref b4), (.ref b4)]))) (fun _ k => XS.dup X4.here hx rfl (hb hby at_3) rfl rfl k) ?_
  refine Goes.pre (S' := (T4.setTop (mkF m 5 #[.val (.int i0), .val (.int i1), .val (.int i2), .val (.int i3), .val (.int i4), .val (.int i5), .unset, .unset, .unset, .unset, .unset, .unset] [(.int (0 : Int32)), (.ref b4), (.ref b4)]))) (fun _ k => XS.iconst X4.here hx rfl (hb hby at_4) k) ?_
  refine Goes.pre (S' := (T4.setTop (mkF m 6 #[.val (.int i0), .val (.int i1), .val (.int i2), .val (.int i3), .val (.int i4), .val (.int i5), .unset, .unset, .unset, .unset, .unset, .unset] [(.int i1), (.int (0 : Int32)), (.ref b4), (.ref b4)]))) (fun _ k => XS.iloadN X4.here hx rfl (hb hby at_5) rfl k) ?_
  obtain ⟨cl5, Ar5, q5, S5, M5, H5, G5⟩ := V4
  obtain ⟨T5, h5, X5, e5, W5, st5⟩ := stI X4 hx hZ e4 Ar5 (j := (0 : Int32)) (inb_of S5 ⟨by decide, by decide⟩) (g := (mkF m 6 #[.val (.int i0), .val (.int i1), .val (.int i2), .val (.int i3), .val (.int i4), .val (.int i5), .unset, .unset, .unset, .unset, .unset, .unset] [(.int i1), (.int (0 : Int32)), (.ref b4), (.ref b4)])) rfl rfl (hb hby at_6)
  have U0 := Arv.set Ar5 q5 S5 M5 H5 G5 rfl W5 0 rfl (Nat.le_of_ble_eq_true rfl)
  have N5 := Fr.snoc X5 N0 gb4
  have Zn5 : n0 ≤ h5.size := Nat.le_trans Zn4 (Nat.le_of_eq W5.size.symm)
  have K5 : Keep h0 h5 [] := K4.wr W5 (Or.inr szb4)
  refine Goes.pre (S' := (T5.setTop (mkF m 7 #[.val (.int i0), .val (.int i1), .val (.int i2), .val (.int i3), .val (.int i4), .val (.int i5), .unset, .unset, .unset, .unset, .unset, .unset] [(.ref b4)]))) st5 ?_
  refine Goes.pre (S' := (T5.setTop (mkF m 8 #[.val (.int i0), .val (.int i1), .val (.int i2), .val (.int i3), .val (.int i4), .val (.int i5), .unset, .unset, .unset, .unset, .unset, .unset] [(.ref b4), (.ref b4)]))) (fun _ k => XS.dup X5.here hx rfl (hb hby at_7) rfl rfl k) ?_
  refine Goes.pre (S' := (T5.setTop (mkF m 9 #[.val (.int i0), .val (.int i1), .val (.int i2), .val (.int i3), .val (.int i4), .val (.int i5), .unset, .unset, .unset, .unset, .unset, .unset] [(.int (1 : Int32)), (.ref b4), (.ref b4)]))) (fun _ k => XS.iconst X5.here hx rfl (hb hby at_8) k) ?_
  refine Goes.pre (S' := (T5.setTop (mkF m 10 #[.val (.int i0), .val (.int i1), .val (.int i2), .val (.int i3), .val (.int i4), .val (.int i5), .unset, .unset, .unset, .unset, .unset, .unset] [(.int i2), (.int (1 : Int32)), (.ref b4), (.ref b4)]))) (fun _ k => XS.iloadN X5.here hx rfl (hb hby at_9) rfl k) ?_
  obtain ⟨cl6, Ar6, q6, S6, M6, H6, G6⟩ := U0
  obtain ⟨T6, h6, X6, e6, W6, st6⟩ := stI X5 hx hZ e5 Ar6 (j := (1 : Int32)) (inb_of S6 ⟨by decide, by decide⟩) (g := (mkF m 10 #[.val (.int i0), .val (.int i1), .val (.int i2), .val (.int i3), .val (.int i4), .val (.int i5), .unset, .unset, .unset, .unset, .unset, .unset] [(.int i2), (.int (1 : Int32)), (.ref b4), (.ref b4)])) rfl rfl (hb hby at_10)
  have U1 := Arv.set Ar6 q6 S6 M6 H6 G6 rfl W6 1 rfl (Nat.le_of_ble_eq_true rfl)
  have N6 := Fr.snoc X6 N5 gb4
  have Zn6 : n0 ≤ h6.size := Nat.le_trans Zn5 (Nat.le_of_eq W6.size.symm)
  have K6 : Keep h0 h6 [] := K5.wr W6 (Or.inr szb4)
  refine Goes.pre (S' := (T6.setTop (mkF m 11 #[.val (.int i0), .val (.int i1), .val (.int i2), .val (.int i3), .val (.int i4), .val (.int i5), .unset, .unset, .unset, .unset, .unset, .unset] [(.ref b4)]))) st6 ?_
  refine Goes.pre (S' := (T6.setTop (mkF m 12 #[.val (.int i0), .val (.int i1), .val (.int i2), .val (.int i3), .val (.int i4), .val (.int i5), .unset, .unset, .unset, .unset, .unset, .unset] [(.ref b4), (.ref b4)]))) (fun _ k => XS.dup X6.here hx rfl (hb hby at_11) rfl rfl k) ?_
  refine Goes.pre (S' := (T6.setTop (mkF m 13 #[.val (.int i0), .val (.int i1), .val (.int i2), .val (.int i3), .val (.int i4), .val (.int i5), .unset, .unset, .unset, .unset, .unset, .unset] [(.int (2 : Int32)), (.ref b4), (.ref b4)]))) (fun _ k => XS.iconst X6.here hx rfl (hb hby at_12) k) ?_
  refine Goes.pre (S' := (T6.setTop (mkF m 14 #[.val (.int i0), .val (.int i1), .val (.int i2), .val (.int i3), .val (.int i4), .val (.int i5), .unset, .unset, .unset, .unset, .unset, .unset] [(.int i3), (.int (2 : Int32)), (.ref b4), (.ref b4)]))) (fun _ k => XS.iloadN X6.here hx rfl (hb hby at_13) rfl k) ?_
  obtain ⟨cl7, Ar7, q7, S7, M7, H7, G7⟩ := U1
  obtain ⟨T7, h7, X7, e7, W7, st7⟩ := stI X6 hx hZ e6 Ar7 (j := (2 : Int32)) (inb_of S7 ⟨by decide, by decide⟩) (g := (mkF m 14 #[.val (.int i0), .val (.int i1), .val (.int i2), .val (.int i3), .val (.int i4), .val (.int i5), .unset, .unset, .unset, .unset, .unset, .unset] [(.int i3), (.int (2 : Int32)), (.ref b4), (.ref b4)])) rfl rfl (hb hby at_14)
  have U2 := Arv.set Ar7 q7 S7 M7 H7 G7 rfl W7 2 rfl (Nat.le_of_ble_eq_true rfl)
  have N7 := Fr.snoc X7 N6 gb4
  have Zn7 : n0 ≤ h7.size := Nat.le_trans Zn6 (Nat.le_of_eq W7.size.symm)
  have K7 : Keep h0 h7 [] := K6.wr W7 (Or.inr szb4)
  refine Goes.pre (S' := (T7.setTop (mkF m 15 #[.val (.int i0), .val (.int i1), .val (.int i2), .val (.int i3), .val (.int i4), .val (.int i5), .unset, .unset, .unset, .unset, .unset, .unset] [(.ref b4)]))) st7 ?_
  refine Goes.pre (S' := (T7.setTop (mkF m 16 #[.val (.int i0), .val (.int i1), .val (.int i2), .val (.int i3), .val (.int i4), .val (.int i5), .unset, .unset, .unset, .unset, .unset, .unset] [(.ref b4), (.ref b4)]))) (fun _ k => XS.dup X7.here hx rfl (hb hby at_15) rfl rfl k) ?_
  refine Goes.pre (S' := (T7.setTop (mkF m 17 #[.val (.int i0), .val (.int i1), .val (.int i2), .val (.int i3), .val (.int i4), .val (.int i5), .unset, .unset, .unset, .unset, .unset, .unset] [(.int (3 : Int32)), (.ref b4), (.ref b4)]))) (fun _ k => XS.iconst X7.here hx rfl (hb hby at_16) k) ?_
  refine Goes.pre (S' := (T7.setTop (mkF m 19 #[.val (.int i0), .val (.int i1), .val (.int i2), .val (.int i3), .val (.int i4), .val (.int i5), .unset, .unset, .unset, .unset, .unset, .unset] [(.int i4), (.int (3 : Int32)), (.ref b4), (.ref b4)]))) (fun _ k => XS.iload X7.here hx rfl (hb hby at_17) rfl k) ?_
  obtain ⟨cl8, Ar8, q8, S8, M8, H8, G8⟩ := U2
  obtain ⟨T8, h8, X8, e8, W8, st8⟩ := stI X7 hx hZ e7 Ar8 (j := (3 : Int32)) (inb_of S8 ⟨by decide, by decide⟩) (g := (mkF m 19 #[.val (.int i0), .val (.int i1), .val (.int i2), .val (.int i3), .val (.int i4), .val (.int i5), .unset, .unset, .unset, .unset, .unset, .unset] [(.int i4), (.int (3 : Int32)), (.ref b4), (.ref b4)])) rfl rfl (hb hby at_19)
  have U3 := Arv.set Ar8 q8 S8 M8 H8 G8 rfl W8 3 rfl (Nat.le_of_ble_eq_true rfl)
  have N8 := Fr.snoc X8 N7 gb4
  have Zn8 : n0 ≤ h8.size := Nat.le_trans Zn7 (Nat.le_of_eq W8.size.symm)
  have K8 : Keep h0 h8 [] := K7.wr W8 (Or.inr szb4)
  refine Goes.pre (S' := (T8.setTop (mkF m 20 #[.val (.int i0), .val (.int i1), .val (.int i2), .val (.int i3), .val (.int i4), .val (.int i5), .unset, .unset, .unset, .unset, .unset, .unset] [(.ref b4)]))) st8 ?_
  refine Goes.pre (S' := (T8.setTop (mkF m 21 #[.val (.int i0), .val (.int i1), .val (.int i2), .val (.int i3), .val (.int i4), .val (.int i5), .unset, .unset, .unset, .unset, .unset, .unset] [(.ref b4), (.ref b4)]))) (fun _ k => XS.dup X8.here hx rfl (hb hby at_20) rfl rfl k) ?_
  refine Goes.pre (S' := (T8.setTop (mkF m 22 #[.val (.int i0), .val (.int i1), .val (.int i2), .val (.int i3), .val (.int i4), .val (.int i5), .unset, .unset, .unset, .unset, .unset, .unset] [(.int (4 : Int32)), (.ref b4), (.ref b4)]))) (fun _ k => XS.iconst X8.here hx rfl (hb hby at_21) k) ?_
  refine Goes.pre (S' := (T8.setTop (mkF m 23 #[.val (.int i0), .val (.int i1), .val (.int i2), .val (.int i3), .val (.int i4), .val (.int i5), .unset, .unset, .unset, .unset, .unset, .unset] [(.int i1), (.int (4 : Int32)), (.ref b4), (.ref b4)]))) (fun _ k => XS.iloadN X8.here hx rfl (hb hby at_22) rfl k) ?_
  obtain ⟨cl9, Ar9, q9, S9, M9, H9, G9⟩ := U3
  obtain ⟨T9, h9, X9, e9, W9, st9⟩ := stI X8 hx hZ e8 Ar9 (j := (4 : Int32)) (inb_of S9 ⟨by decide, by decide⟩) (g := (mkF m 23 #[.val (.int i0), .val (.int i1), .val (.int i2), .val (.int i3), .val (.int i4), .val (.int i5), .unset, .unset, .unset, .unset, .unset, .unset] [(.int i1), (.int (4 : Int32)), (.ref b4), (.ref b4)])) rfl rfl (hb hby at_23)
  have U4 := Arv.set Ar9 q9 S9 M9 H9 G9 rfl W9 4 rfl (Nat.le_of_ble_eq_true rfl)
  have N9 := Fr.snoc X9 N8 gb4
  have Zn9 : n0 ≤ h9.size := Nat.le_trans Zn8 (Nat.le_of_eq W9.size.symm)
  have K9 : Keep h0 h9 [] := K8.wr W9 (Or.inr szb4)
  refine Goes.pre (S' := (T9.setTop (mkF m 24 #[.val (.int i0), .val (.int i1), .val (.int i2), .val (.int i3), .val (.int i4), .val (.int i5), .unset, .unset, .unset, .unset, .unset, .unset] [(.ref b4)]))) st9 ?_
  have SN1 := own_StaKeep SN K9
  have VN1 := VN.keep K9 nin0
  have nbr : bn ≠ b4 := own_neLt VN.lt szb4
  obtain ⟨hc0, hc6⟩ := own_rem (i0 &&& 7) 6 (own_m7 i0) (by decide)
  refine Goes.pre (S' := (T9.setTop (mkF m 26 #[.val (.int i0), .val (.int i1), .val (.int i2), .val (.int i3), .val (.int i4), .val (.int i5), .val (.ref b4), .unset, .unset, .unset, .unset, .unset] []))) (fun _ k => XS.astore X9.here hx rfl (hb hby at_24) rfl rfl (l' := #[.val (.int i0), .val (.int i1), .val (.int i2), .val (.int i3), .val (.int i4), .val (.int i5), .val (.ref b4), .unset, .unset, .unset, .unset, .unset]) rfl k) ?_
  refine Goes.pre (S' := (T9.setTop (mkF m 27 #[.val (.int i0), .val (.int i1), .val (.int i2), .val (.int i3), .val (.int i4), .val (.int i5), .val (.ref b4), .unset, .unset, .unset, .unset, .unset] [(.int i0)]))) (fun _ k => XS.iloadN X9.here hx rfl (hb hby at_26) rfl k) ?_
  refine Goes.pre (S' := (T9.setTop (mkF m 29 #[.val (.int i0), .val (.int i1), .val (.int i2), .val (.int i3), .val (.int i4), .val (.int i5), .val (.ref b4), .unset, .unset, .unset, .unset, .unset] [(.int (7 : Int32)), (.int i0)]))) (fun _ k => XS.bipush X9.here hx rfl (hb hby at_27) k) ?_
  refine Goes.pre (S' := (T9.setTop (mkF m 30 #[.val (.int i0), .val (.int i1), .val (.int i2), .val (.int i3), .val (.int i4), .val (.int i5), .val (.ref b4), .unset, .unset, .unset, .unset, .unset] [(.int (i0 &&& (7 : Int32)))]))) (fun _ k => XS.iand X9.here hx rfl (hb hby at_29) rfl k) ?_
  refine Goes.pre (S' := (T9.setTop (mkF m 32 #[.val (.int i0), .val (.int i1), .val (.int i2), .val (.int i3), .val (.int i4), .val (.int i5), .val (.ref b4), .unset, .unset, .unset, .unset, .unset] [(.int (6 : Int32)), (.int (i0 &&& (7 : Int32)))]))) (fun _ k => XS.bipush X9.here hx rfl (hb hby at_30) k) ?_
  refine Goes.pre (S' := (T9.setTop (mkF m 33 #[.val (.int i0), .val (.int i1), .val (.int i2), .val (.int i3), .val (.int i4), .val (.int i5), .val (.ref b4), .unset, .unset, .unset, .unset, .unset] [(.int ((i0 &&& (7 : Int32)) % (6 : Int32)))]))) (fun _ k => iremM X9 hx rfl (hb hby at_32) rfl (by decide) k) ?_
  refine Goes.pre (S' := (T9.setTop (mkF m 35 #[.val (.int i0), .val (.int i1), .val (.int i2), .val (.int i3), .val (.int i4), .val (.int i5), .val (.ref b4), .val (.int ((i0 &&& (7 : Int32)) % (6 : Int32))), .unset, .unset, .unset, .unset] []))) (fun _ k => XS.istore X9.here hx rfl (hb hby at_33) rfl (l' := #[.val (.int i0), .val (.int i1), .val (.int i2), .val (.int i3), .val (.int i4), .val (.int i5), .val (.ref b4), .val (.int ((i0 &&& (7 : Int32)) % (6 : Int32))), .unset, .unset, .unset, .unset]) rfl k) ?_
  refine Goes.pre (S' := (T9.setTop (mkF m 36 #[.val (.int i0), .val (.int i1), .val (.int i2), .val (.int i3), .val (.int i4), .val (.int i5), .val (.ref b4), .val (.int ((i0 &&& (7 : Int32)) % (6 : Int32))), .unset, .unset, .unset, .unset] [(.int i0)]))) (fun _ k => XS.iloadN X9.here hx rfl (hb hby at_35) rfl k) ?_
  refine Goes.pre (S' := (T9.setTop (mkF m 37 #[.val (.int i0), .val (.int i1), .val (.int i2), .val (.int i3), .val (.int i4), .val (.int i5), .val (.ref b4), .val (.int ((i0 &&& (7 : Int32)) % (6 : Int32))), .unset, .unset, .unset, .unset] [(.int (3 : Int32)), (.int i0)]))) (fun _ k => XS.iconst X9.here hx rfl (hb hby at_36) k) ?_
  refine Goes.pre (S' := (T9.setTop (mkF m 38 #[.val (.int i0), .val (.int i1), .val (.int i2), .val (.int i3), .val (.int i4), .val (.int i5), .val (.ref b4), .val (.int ((i0 &&& (7 : Int32)) % (6 : Int32))), .unset, .unset, .unset, .unset] [(.int (XT.ushr i0 (3 : Int32)))]))) (fun _ k => XT.iushr X9.here hx rfl (hb hby at_37) rfl k) ?_
  refine Goes.pre (S' := (T9.setTop (mkF m 40 #[.val (.int i0), .val (.int i1), .val (.int i2), .val (.int i3), .val (.int i4), .val (.int i5), .val (.ref b4), .val (.int ((i0 &&& (7 : Int32)) % (6 : Int32))), .unset, .unset, .unset, .unset] [(.int (7 : Int32)), (.int (XT.ushr i0 (3 : Int32)))]))) (fun _ k => XS.bipush X9.here hx rfl (hb hby at_38) k) ?_
  refine Goes.pre (S' := (T9.setTop (mkF m 41 #[.val (.int i0), .val (.int i1), .val (.int i2), .val (.int i3), .val (.int i4), .val (.int i5), .val (.ref b4), .val (.int ((i0 &&& (7 : Int32)) % (6 : Int32))), .unset, .unset, .unset, .unset] [(.int ((XT.ushr i0 (3 : Int32)) &&& (7 : Int32)))]))) (fun _ k => XS.iand X9.here hx rfl (hb hby at_40) rfl k) ?_
  refine Goes.pre (S' := (T9.setTop (mkF m 43 #[.val (.int i0), .val (.int i1), .val (.int i2), .val (.int i3), .val (.int i4), .val (.int i5), .val (.ref b4), .val (.int ((i0 &&& (7 : Int32)) % (6 : Int32))), .unset, .unset, .unset, .unset] [(.int ((i0 &&& (7 : Int32)) % (6 : Int32))), (.int ((XT.ushr i0 (3 : Int32)) &&& (7 : Int32)))]))) (fun _ k => XS.iload X9.here hx rfl (hb hby at_41) rfl k) ?_
  refine Goes.pre (S' := (T9.setTop (mkF m 44 #[.val (.int i0), .val (.int i1), .val (.int i2), .val (.int i3), .val (.int i4), .val (.int i5), .val (.ref b4), .val (.int ((i0 &&& (7 : Int32)) % (6 : Int32))), .unset, .unset, .unset, .unset] [(.int (1 : Int32)), (.int ((i0 &&& (7 : Int32)) % (6 : Int32))), (.int ((XT.ushr i0 (3 : Int32)) &&& (7 : Int32)))]))) (fun _ k => XS.iconst X9.here hx rfl (hb hby at_43) k) ?_
  refine Goes.pre (S' := (T9.setTop (mkF m 45 #[.val (.int i0), .val (.int i1), .val (.int i2), .val (.int i3), .val (.int i4), .val (.int i5), .val (.ref b4), .val (.int ((i0 &&& (7 : Int32)) % (6 : Int32))), .unset, .unset, .unset, .unset] [(.int (((i0 &&& (7 : Int32)) % (6 : Int32)) + (1 : Int32))), (.int ((XT.ushr i0 (3 : Int32)) &&& (7 : Int32)))]))) (fun _ k => XS.iadd X9.here hx rfl (hb hby at_44) rfl k) ?_
  refine Goes.pre (S' := (T9.setTop (mkF m 46 #[.val (.int i0), .val (.int i1), .val (.int i2), .val (.int i3), .val (.int i4), .val (.int i5), .val (.ref b4), .val (.int ((i0 &&& (7 : Int32)) % (6 : Int32))), .unset, .unset, .unset, .unset] [(.int (((XT.ushr i0 (3 : Int32)) &&& (7 : Int32)) % (((i0 &&& (7 : Int32)) % (6 : Int32)) + (1 : Int32))))]))) (fun _ k => iremM X9 hx rfl (hb hby at_45) rfl (own_pos1 hc0 hc6).1 k) ?_
  refine Goes.pre (S' := (T9.setTop (mkF m 48 #[.val (.int i0), .val (.int i1), .val (.int i2), .val (.int i3), .val (.int i4), .val (.int i5), .val (.ref b4), .val (.int ((i0 &&& (7 : Int32)) % (6 : Int32))), .val (.int (((XT.ushr i0 (3 : Int32)) &&& (7 : Int32)) % (((i0 &&& (7 : Int32)) % (6 : Int32)) + (1 : Int32)))), .unset, .unset, .unset] []))) (fun _ k => XS.istore X9.here hx rfl (hb hby at_46) rfl (l' := #[.val (.int i0), .val (.int i1), .val (.int i2), .val (.int i3), .val (.int i4), .val (.int i5), .val (.ref b4), .val (.int ((i0 &&& (7 : Int32)) % (6 : Int32))), .val (.int (((XT.ushr i0 (3 : Int32)) &&& (7 : Int32)) % (((i0 &&& (7 : Int32)) % (6 : Int32)) + (1 : Int32)))), .unset, .unset, .unset]) rfl k) ?_
  refine Goes.pre (S' := (T9.setTop (mkF m 49 #[.val (.int i0), .val (.int i1), .val (.int i2), .val (.int i3), .val (.int i4), .val (.int i5), .val (.ref b4), .val (.int ((i0 &&& (7 : Int32)) % (6 : Int32))), .val (.int (((XT.ushr i0 (3 : Int32)) &&& (7 : Int32)) % (((i0 &&& (7 : Int32)) % (6 : Int32)) + (1 : Int32)))), .unset, .unset, .unset] [(.int i0)]))) (fun _ k => XS.iloadN X9.here hx rfl (hb hby at_48) rfl k) ?_
  refine Goes.pre (S' := (T9.setTop (mkF m 51 #[.val (.int i0), .val (.int i1), .val (.int i2), .val (.int i3), .val (.int i4), .val (.int i5), .val (.ref b4), .val (.int ((i0 &&& (7 : Int32)) % (6 : Int32))), .val (.int (((XT.ushr i0 (3 : Int32)) &&& (7 : Int32)) % (((i0 &&& (7 : Int32)) % (6 : Int32)) + (1 : Int32)))), .unset, .unset, .unset] [(.int (6 : Int32)), (.int i0)]))) (fun _ k => XS.bipush X9.here hx rfl (hb hby at_49) k) ?_
  refine Goes.pre (S' := (T9.setTop (mkF m 52 #[.val (.int i0), .val (.int i1), .val (.int i2), .val (.int i3), .val (.int i4), .val (.int i5), .val (.ref b4), .val (.int ((i0 &&& (7 : Int32)) % (6 : Int32))), .val (.int (((XT.ushr i0 (3 : Int32)) &&& (7 : Int32)) % (((i0 &&& (7 : Int32)) % (6 : Int32)) + (1 : Int32)))), .unset, .unset, .unset] [(.int (XT.ushr i0 (6 : Int32)))]))) (fun _ k => XT.iushr X9.here hx rfl (hb hby at_51) rfl k) ?_
  refine Goes.pre (S' := (T9.setTop (mkF m 53 #[.val (.int i0), .val (.int i1), .val (.int i2), .val (.int i3), .val (.int i4), .val (.int i5), .val (.ref b4), .val (.int ((i0 &&& (7 : Int32)) % (6 : Int32))), .val (.int (((XT.ushr i0 (3 : Int32)) &&& (7 : Int32)) % (((i0 &&& (7 : Int32)) % (6 : Int32)) + (1 : Int32)))), .unset, .unset, .unset] [(.int (3 : Int32)), (.int (XT.ushr i0 (6 : Int32)))]))) (fun _ k => XS.iconst X9.here hx rfl (hb hby at_52) k) ?_
  refine Goes.pre (S' := (T9.setTop (mkF m 54 #[.val (.int i0), .val (.int i1), .val (.int i2), .val (.int i3), .val (.int i4), .val (.int i5), .val (.ref b4), .val (.int ((i0 &&& (7 : Int32)) % (6 : Int32))), .val (.int (((XT.ushr i0 (3 : Int32)) &&& (7 : Int32)) % (((i0 &&& (7 : Int32)) % (6 : Int32)) + (1 : Int32)))), .unset, .unset, .unset] [(.int ((XT.ushr i0 (6 : Int32)) &&& (3 : Int32)))]))) (fun _ k => XS.iand X9.here hx rfl (hb hby at_53) rfl k) ?_
  refine Goes.pre (S' := (T9.setTop (mkF m 56 #[.val (.int i0), .val (.int i1), .val (.int i2), .val (.int i3), .val (.int i4), .val (.int i5), .val (.ref b4), .val (.int ((i0 &&& (7 : Int32)) % (6 : Int32))), .val (.int (((XT.ushr i0 (3 : Int32)) &&& (7 : Int32)) % (((i0 &&& (7 : Int32)) % (6 : Int32)) + (1 : Int32)))), .val (.int ((XT.ushr i0 (6 : Int32)) &&& (3 : Int32))), .unset, .unset] []))) (fun _ k => XS.istore X9.here hx rfl (hb hby at_54) rfl (l' := #[.val (.int i0), .val (.int i1), .val (.int i2), .val (.int i3), .val (.int i4), .val (.int i5), .val (.ref b4), .val (.int ((i0 &&& (7 : Int32)) % (6 : Int32))), .val (.int (((XT.ushr i0 (3 : Int32)) &&& (7 : Int32)) % (((i0 &&& (7 : Int32)) % (6 : Int32)) + (1 : Int32)))), .val (.int ((XT.ushr i0 (6 : Int32)) &&& (3 : Int32))), .unset, .unset]) rfl k) ?_
  refine Goes.pre (S' := (T9.setTop (mkF m 58 #[.val (.int i0), .val (.int i1), .val (.int i2), .val (.int i3), .val (.int i4), .val (.int i5), .val (.ref b4), .val (.int ((i0 &&& (7 : Int32)) % (6 : Int32))), .val (.int (((XT.ushr i0 (3 : Int32)) &&& (7 : Int32)) % (((i0 &&& (7 : Int32)) % (6 : Int32)) + (1 : Int32)))), .val (.int ((XT.ushr i0 (6 : Int32)) &&& (3 : Int32))), .unset, .unset] [(.int ((XT.ushr i0 (6 : Int32)) &&& (3 : Int32)))]))) (fun _ k => XS.iload X9.here hx rfl (hb hby at_56) rfl k) ?_
  obtain ⟨tn, htn, ht5, etn⟩ := own_le5 (own_rem (XT.ushr i0 3 &&& 7) (((i0 &&& (7 : Int32)) % (6 : Int32)) + 1) (own_m7 _) (own_pos1 hc0 hc6).2).1 (own_rem _ _ (own_m7 _) (own_pos1 hc0 hc6).2).2 hc0 hc6
  rw [etn]
  generalize hmode : ((XT.ushr i0 (6 : Int32)) &&& (3 : Int32)) = mode
  show Goes p e below _ (T9.setTop (mkF m 58 #[.val (.int i0), .val (.int i1), .val (.int i2), .val (.int i3), .val (.int i4), .val (.int i5), .val (.ref b4), .val (.int ((i0 &&& (7 : Int32)) % (6 : Int32))), .val (.int (Int32.ofNat tn)), .val (.int mode), .unset, .unset] [(.int mode)]))
  have mid : ∀ (key : Int32), Goes p e below (EndQ s (Q_law h0 n0) room_1.cells room_1.slots) (T9.setTop (mkF m 78 #[.val (.int i0), .val (.int i1), .val (.int i2), .val (.int i3), .val (.int i4), .val (.int i5), .val (.ref b4), .val (.int ((i0 &&& (7 : Int32)) % (6 : Int32))), .val (.int (Int32.ofNat tn)), .val (.int mode), .val (.int key), .unset] [])) := by
    intro key
    obtain ⟨T10, h10, X10, e10, E10, A10, D10, U10, st10⟩ := newO X9 hx hZ hown (hw _ (List.mem_of_getElem? (i := 1) rfl)) (hw _ (List.mem_of_getElem? (i := 2) rfl)) (hw _ (List.mem_of_getElem? (i := 3) rfl)) e9 (g := (mkF m 78 #[.val (.int i0), .val (.int i1), .val (.int i2), .val (.int i3), .val (.int i4), .val (.int i5), .val (.ref b4), .val (.int ((i0 &&& (7 : Int32)) % (6 : Int32))), .val (.int (Int32.ofNat tn)), .val (.int mode), .val (.int key), .unset] [])) rfl (hb hby at_78) (by decide) (by decide)
    obtain ⟨a10, g10⟩ : ∃ z, z = h9.size := ⟨_, rfl⟩
    rw [← g10] at A10 D10 st10
    have ga10 : n0 ≤ a10 := Nat.le_trans Zn9 (Nat.le_of_eq g10.symm)
    have Zn10 : n0 ≤ h10.size := Nat.le_trans Zn9 E10.1
    refine Goes.pre (S' := (T10.setTop (mkF m 81 #[.val (.int i0), .val (.int i1), .val (.int i2), .val (.int i3), .val (.int i4), .val (.int i5), .val (.ref b4), .val (.int ((i0 &&& (7 : Int32)) % (6 : Int32))), .val (.int (Int32.ofNat tn)), .val (.int mode), .val (.int key), .unset] [(.ref a10)]))) st10 ?_
    have Fi1 : Fld Z h10 a10 "com/example/clear_plan/clearplan/grounding/FactList" "numbers" "[I" .null := D10 (Or.inl (hw _ (List.mem_of_getElem? (i := 13) rfl))) (ty := .array .int) (by decide)
    have Fi2 : Fld Z h10 a10 "com/example/clear_plan/clearplan/grounding/FactList" "size" "I" (.int (0 : Int32)) := D10 (Or.inl (hw _ (List.mem_of_getElem? (i := 20) rfl))) (ty := .int) (by decide)
    have SN2 := SN1.ext E10
    have VN2 := VN1.ext E10
    have UR2 := U4.ext E10
    have hra : b4 ≠ a10 := own_neLt U4.lt (Nat.le_of_eq g10.symm)
    have nab : bn ≠ a10 := own_neLt VN1.lt (Nat.le_of_eq g10.symm)
    refine Goes.pre (S' := (T10.setTop (mkF m 82 #[.val (.int i0), .val (.int i1), .val (.int i2), .val (.int i3), .val (.int i4), .val (.int i5), .val (.ref b4), .val (.int ((i0 &&& (7 : Int32)) % (6 : Int32))), .val (.int (Int32.ofNat tn)), .val (.int mode), .val (.int key), .unset] [(.ref a10), (.ref a10)]))) (fun _ k => XS.dup X10.here hx rfl (hb hby at_81) rfl rfl k) ?_
    refine Goes.init (y := (⟨"com/example/clear_plan/clearplan/grounding/FactList", "<init>", "()V"⟩ : MethodName)) X10 hx hZ hown rfl (hw _ (List.mem_of_getElem? (i := 4) rfl)) (hw _ (List.mem_of_getElem? (i := 5) rfl)) (hw _ (List.mem_of_getElem? (i := 3) rfl)) (hw _ (List.mem_of_getElem? (i := 6) rfl)) (by decide) e10 (rm_in l Z a0 hw [] a10 bn h10 n0 Zn10 SN2 Fi1 Fi2 A10 ga10) (by rw [hml]; rfl) a10 [] [(.ref a10)] pd_in rfl rfl rfl (hb hby at_82) (by decide) (by first | decide | exact Nat.le_of_ble_eq_true rfl | assumption | (simp [Value.category]; done)) (by first | decide | exact Nat.le_of_ble_eq_true rfl | assumption | (simp [Value.category]; done)) (by first | decide | exact Nat.le_of_ble_eq_true rfl | assumption | (simp [Value.category]; done)) ?_
    intro T11 v11 L11 X11 q11
    obtain ⟨rfl, N11a, K11, Fn11, Fs11⟩ := q11
    have N11 := Fr.app N9 N11a
    have VN3 := VN2.keep K11 (ninS nab nin0)
    have UR3 := UR2.keep K11 (ninS hra nin0)
    have Zn11 : n0 ≤ T11.heap.size := Nat.le_trans Zn10 K11.1
    have Ex11 := A10.keep K11
    show Goes p e below _ (T11.setTop (mkF m 85 #[.val (.int i0), .val (.int i1), .val (.int i2), .val (.int i3), .val (.int i4), .val (.int i5), .val (.ref b4), .val (.int ((i0 &&& (7 : Int32)) % (6 : Int32))), .val (.int (Int32.ofNat tn)), .val (.int mode), .val (.int key), .unset] [(.ref a10)]))
    refine Goes.pre (S' := (T11.setTop (mkF m 87 #[.val (.int i0), .val (.int i1), .val (.int i2), .val (.int i3), .val (.int i4), .val (.int i5), .val (.ref b4), .val (.int ((i0 &&& (7 : Int32)) % (6 : Int32))), .val (.int (Int32.ofNat tn)), .val (.int mode), .val (.int key), .val (.ref a10)] []))) (fun _ k => XS.astore X11.here hx rfl (hb hby at_85) rfl rfl (l' := #[.val (.int i0), .val (.int i1), .val (.int i2), .val (.int i3), .val (.int i4), .val (.int i5), .val (.ref b4), .val (.int ((i0 &&& (7 : Int32)) % (6 : Int32))), .val (.int (Int32.ofNat tn)), .val (.int mode), .val (.int key), .val (.ref a10)]) rfl k) ?_
    refine Goes.pre (S' := (T11.setTop (mkF m 89 #[.val (.int i0), .val (.int i1), .val (.int i2), .val (.int i3), .val (.int i4), .val (.int i5), .val (.ref b4), .val (.int ((i0 &&& (7 : Int32)) % (6 : Int32))), .val (.int (Int32.ofNat tn)), .val (.int mode), .val (.int key), .val (.ref a10)] [(.int ((i0 &&& (7 : Int32)) % (6 : Int32)))]))) (fun _ k => XS.iload X11.here hx rfl (hb hby at_87) rfl k) ?_
    rcases own_six hc0 hc6 with hq | hq | hq | hq | hq | hq
    · skip
      rw [hq] at htn ⊢
      show Goes p e below _ (T11.setTop (mkF m 89 #[.val (.int i0), .val (.int i1), .val (.int i2), .val (.int i3), .val (.int i4), .val (.int i5), .val (.ref b4), .val (.int (0 : Int32)), .val (.int (Int32.ofNat tn)), .val (.int mode), .val (.int key), .val (.ref a10)] [(.int (0 : Int32))]))
      refine Goes.pre (S' := (T11.setTop (mkF m 101 #[.val (.int i0), .val (.int i1), .val (.int i2), .val (.int i3), .val (.int i4), .val (.int i5), .val (.ref b4), .val (.int (0 : Int32)), .val (.int (Int32.ofNat tn)), .val (.int mode), .val (.int key), .val (.ref a10)] []))) (fun _ k => XS.ifYes X11.here hx rfl (pc0 := 89) (pc' := 101) rfl (hb hby at_89) rfl (XT.i0_le_t (by decide)) (by decide) (by decide) k) ?_
      refine Goes.pre (S' := (T11.setTop (mkF m 103 #[.val (.int i0), .val (.int i1), .val (.int i2), .val (.int i3), .val (.int i4), .val (.int i5), .val (.ref b4), .val (.int (0 : Int32)), .val (.int (Int32.ofNat tn)), .val (.int mode), .val (.int key), .val (.ref a10)] [(.int (0 : Int32))]))) (fun _ k => XS.iload X11.here hx rfl (hb hby at_101) rfl k) ?_
      refine Goes.pre (S' := (T11.setTop (mkF m 104 #[.val (.int i0), .val (.int i1), .val (.int i2), .val (.int i3), .val (.int i4), .val (.int i5), .val (.ref b4), .val (.int (0 : Int32)), .val (.int (Int32.ofNat tn)), .val (.int mode), .val (.int key), .val (.ref a10)] [(.int (1 : Int32)), (.int (0 : Int32))]))) (fun _ k => XS.iconst X11.here hx rfl (hb hby at_103) k) ?_
      refine Goes.pre (S' := (T11.setTop (mkF m 116 #[.val (.int i0), .val (.int i1), .val (.int i2), .val (.int i3), .val (.int i4), .val (.int i5), .val (.ref b4), .val (.int (0 : Int32)), .val (.int (Int32.ofNat tn)), .val (.int mode), .val (.int key), .val (.ref a10)] []))) (fun _ k => XS.icmpYes X11.here hx rfl (pc0 := 104) (pc' := 116) rfl (hb hby at_104) rfl (XT.ii_le_t (by decide)) (by decide) (by decide) k) ?_
      refine Goes.pre (S' := (T11.setTop (mkF m 118 #[.val (.int i0), .val (.int i1), .val (.int i2), .val (.int i3), .val (.int i4), .val (.int i5), .val (.ref b4), .val (.int (0 : Int32)), .val (.int (Int32.ofNat tn)), .val (.int mode), .val (.int key), .val (.ref a10)] [(.int (0 : Int32))]))) (fun _ k => XS.iload X11.here hx rfl (hb hby at_116) rfl k) ?_
      refine Goes.pre (S' := (T11.setTop (mkF m 119 #[.val (.int i0), .val (.int i1), .val (.int i2), .val (.int i3), .val (.int i4), .val (.int i5), .val (.ref b4), .val (.int (0 : Int32)), .val (.int (Int32.ofNat tn)), .val (.int mode), .val (.int key), .val (.ref a10)] [(.int (2 : Int32)), (.int (0 : Int32))]))) (fun _ k => XS.iconst X11.here hx rfl (hb hby at_118) k) ?_
      refine Goes.pre (S' := (T11.setTop (mkF m 131 #[.val (.int i0), .val (.int i1), .val (.int i2), .val (.int i3), .val (.int i4), .val (.int i5), .val (.ref b4), .val (.int (0 : Int32)), .val (.int (Int32.ofNat tn)), .val (.int mode), .val (.int key), .val (.ref a10)] []))) (fun _ k => XS.icmpYes X11.here hx rfl (pc0 := 119) (pc' := 131) rfl (hb hby at_119) rfl (XT.ii_le_t (by decide)) (by decide) (by decide) k) ?_
      refine Goes.pre (S' := (T11.setTop (mkF m 133 #[.val (.int i0), .val (.int i1), .val (.int i2), .val (.int i3), .val (.int i4), .val (.int i5), .val (.ref b4), .val (.int (0 : Int32)), .val (.int (Int32.ofNat tn)), .val (.int mode), .val (.int key), .val (.ref a10)] [(.int (0 : Int32))]))) (fun _ k => XS.iload X11.here hx rfl (hb hby at_131) rfl k) ?_
      refine Goes.pre (S' := (T11.setTop (mkF m 134 #[.val (.int i0), .val (.int i1), .val (.int i2), .val (.int i3), .val (.int i4), .val (.int i5), .val (.ref b4), .val (.int (0 : Int32)), .val (.int (Int32.ofNat tn)), .val (.int mode), .val (.int key), .val (.ref a10)] [(.int (3 : Int32)), (.int (0 : Int32))]))) (fun _ k => XS.iconst X11.here hx rfl (hb hby at_133) k) ?_
      refine Goes.pre (S' := (T11.setTop (mkF m 146 #[.val (.int i0), .val (.int i1), .val (.int i2), .val (.int i3), .val (.int i4), .val (.int i5), .val (.ref b4), .val (.int (0 : Int32)), .val (.int (Int32.ofNat tn)), .val (.int mode), .val (.int key), .val (.ref a10)] []))) (fun _ k => XS.icmpYes X11.here hx rfl (pc0 := 134) (pc' := 146) rfl (hb hby at_134) rfl (XT.ii_le_t (by decide)) (by decide) (by decide) k) ?_
      refine Goes.pre (S' := (T11.setTop (mkF m 148 #[.val (.int i0), .val (.int i1), .val (.int i2), .val (.int i3), .val (.int i4), .val (.int i5), .val (.ref b4), .val (.int (0 : Int32)), .val (.int (Int32.ofNat tn)), .val (.int mode), .val (.int key), .val (.ref a10)] [(.int (0 : Int32))]))) (fun _ k => XS.iload X11.here hx rfl (hb hby at_146) rfl k) ?_
      refine Goes.pre (S' := (T11.setTop (mkF m 149 #[.val (.int i0), .val (.int i1), .val (.int i2), .val (.int i3), .val (.int i4), .val (.int i5), .val (.ref b4), .val (.int (0 : Int32)), .val (.int (Int32.ofNat tn)), .val (.int mode), .val (.int key), .val (.ref a10)] [(.int (4 : Int32)), (.int (0 : Int32))]))) (fun _ k => XS.iconst X11.here hx rfl (hb hby at_148) k) ?_
      refine Goes.pre (S' := (T11.setTop (mkF m 161 #[.val (.int i0), .val (.int i1), .val (.int i2), .val (.int i3), .val (.int i4), .val (.int i5), .val (.ref b4), .val (.int (0 : Int32)), .val (.int (Int32.ofNat tn)), .val (.int mode), .val (.int key), .val (.ref a10)] []))) (fun _ k => XS.icmpYes X11.here hx rfl (pc0 := 149) (pc' := 161) rfl (hb hby at_149) rfl (XT.ii_le_t (by decide)) (by decide) (by decide) k) ?_
      have htc : tn ≤ 0 := htn
      have t6 : tn = 0 := by omega
      refine tail (0 : Int32) _ _ tn _ _ _ _ _ (0 : Int32) _ _ _ _ _ _ X11 rfl N11 Zn11 Ex11 Fs11 Fn11 VN3 UR3 ga10 hra nab ht5 (Or.inl rfl) ?_ ?_ (by first | decide | exact Nat.le_of_ble_eq_true rfl | assumption | (simp [Value.category]; done)) (by first | decide | exact Nat.le_of_ble_eq_true rfl | assumption | (simp [Value.category]; done))
      · intro j hj
        omega
      · intro j hj
        omega
    · skip
      rw [hq] at htn ⊢
      show Goes p e below _ (T11.setTop (mkF m 89 #[.val (.int i0), .val (.int i1), .val (.int i2), .val (.int i3), .val (.int i4), .val (.int i5), .val (.ref b4), .val (.int (1 : Int32)), .val (.int (Int32.ofNat tn)), .val (.int mode), .val (.int key), .val (.ref a10)] [(.int (1 : Int32))]))
      refine Goes.pre (S' := (T11.setTop (mkF m 92 #[.val (.int i0), .val (.int i1), .val (.int i2), .val (.int i3), .val (.int i4), .val (.int i5), .val (.ref b4), .val (.int (1 : Int32)), .val (.int (Int32.ofNat tn)), .val (.int mode), .val (.int key), .val (.ref a10)] []))) (fun _ k => XS.ifNo X11.here hx rfl (hb hby at_89) rfl (XT.i0_le_f (by decide)) k) ?_
      refine Goes.pre (S' := (T11.setTop (mkF m 94 #[.val (.int i0), .val (.int i1), .val (.int i2), .val (.int i3), .val (.int i4), .val (.int i5), .val (.ref b4), .val (.int (1 : Int32)), .val (.int (Int32.ofNat tn)), .val (.int mode), .val (.int key), .val (.ref a10)] [(.ref a10)]))) (fun _ k => XS.aload X11.here hx rfl (hb hby at_92) rfl rfl k) ?_
      refine Goes.pre (S' := (T11.setTop (mkF m 96 #[.val (.int i0), .val (.int i1), .val (.int i2), .val (.int i3), .val (.int i4), .val (.int i5), .val (.ref b4), .val (.int (1 : Int32)), .val (.int (Int32.ofNat tn)), .val (.int mode), .val (.int key), .val (.ref a10)] [(.ref b4), (.ref a10)]))) (fun _ k => XS.aload X11.here hx rfl (hb hby at_94) rfl rfl k) ?_
      refine Goes.pre (S' := (T11.setTop (mkF m 97 #[.val (.int i0), .val (.int i1), .val (.int i2), .val (.int i3), .val (.int i4), .val (.int i5), .val (.ref b4), .val (.int (1 : Int32)), .val (.int (Int32.ofNat tn)), .val (.int mode), .val (.int key), .val (.ref a10)] [(.int (0 : Int32)), (.ref b4), (.ref a10)]))) (fun _ k => XS.iconst X11.here hx rfl (hb hby at_96) k) ?_
      refine Goes.iaload X11 hx hZ rfl UR3 (j := (0 : Int32)) ⟨by decide, by decide⟩ (w := .int i1) rfl (hb hby at_97) ?_
      show Goes p e below _ (T11.setTop (mkF m 98 #[.val (.int i0), .val (.int i1), .val (.int i2), .val (.int i3), .val (.int i4), .val (.int i5), .val (.ref b4), .val (.int (1 : Int32)), .val (.int (Int32.ofNat tn)), .val (.int mode), .val (.int key), .val (.ref a10)] [(.int i1), (.ref a10)]))
      refine Goes.callV (y := (⟨"com/example/clear_plan/clearplan/grounding/FactList", "add", "(I)V"⟩ : MethodName)) (C := "com/example/clear_plan/clearplan/grounding/FactList") X11 hx hZ hown (hw _ (List.mem_of_getElem? (i := 30) rfl)) (hw _ (List.mem_of_getElem? (i := 31) rfl)) (hw _ (List.mem_of_getElem? (i := 33) rfl)) (hw _ (List.mem_of_getElem? (i := 32) rfl)) (hw _ (List.mem_of_getElem? (i := 3) rfl)) (hw _ (List.mem_of_getElem? (i := 34) rfl)) (by decide) rfl Ex11 (rm_a0 l Z a0 hw [] a10 i1 bn kn T11.heap n0 Zn11 Fn11 Fs11 VN3 Ex11 ga10) (by rw [hml]; rfl) [(.int i1)] [] pd_a0 rfl rfl rfl (hb hby at_98) (by decide) (by first | decide | exact Nat.le_of_ble_eq_true rfl | assumption | (simp [Value.category]; done)) (by first | decide | exact Nat.le_of_ble_eq_true rfl | assumption | (simp [Value.category]; done)) (by first | decide | exact Nat.le_of_ble_eq_true rfl | assumption | (simp [Value.category]; done)) ?_
      intro T12 v12 L12 X12 q12
      obtain ⟨bq, kq, rfl, N12a, K12, szq, Fn12, Fs12, V12⟩ := q12
      have gbq : n0 ≤ bq := Nat.le_trans Zn11 szq
      have habq : a10 ≠ bq := own_neLt Fs11.lt szq
      have hrbq : b4 ≠ bq := own_neLt UR3.lt szq
      have N12 := Fr.app N11 N12a
      have UR12 := UR3.keep K12 (ninS hra nin0)
      have Zn12 : n0 ≤ T12.heap.size := Nat.le_trans Zn11 K12.1
      have Ex12 := Ex11.keep K12
      show Goes p e below _ (T12.setTop (mkF m 101 #[.val (.int i0), .val (.int i1), .val (.int i2), .val (.int i3), .val (.int i4), .val (.int i5), .val (.ref b4), .val (.int (1 : Int32)), .val (.int (Int32.ofNat tn)), .val (.int mode), .val (.int key), .val (.ref a10)] []))
      refine Goes.pre (S' := (T12.setTop (mkF m 103 #[.val (.int i0), .val (.int i1), .val (.int i2), .val (.int i3), .val (.int i4), .val (.int i5), .val (.ref b4), .val (.int (1 : Int32)), .val (.int (Int32.ofNat tn)), .val (.int mode), .val (.int key), .val (.ref a10)] [(.int (1 : Int32))]))) (fun _ k => XS.iload X12.here hx rfl (hb hby at_101) rfl k) ?_
      refine Goes.pre (S' := (T12.setTop (mkF m 104 #[.val (.int i0), .val (.int i1), .val (.int i2), .val (.int i3), .val (.int i4), .val (.int i5), .val (.ref b4), .val (.int (1 : Int32)), .val (.int (Int32.ofNat tn)), .val (.int mode), .val (.int key), .val (.ref a10)] [(.int (1 : Int32)), (.int (1 : Int32))]))) (fun _ k => XS.iconst X12.here hx rfl (hb hby at_103) k) ?_
      refine Goes.pre (S' := (T12.setTop (mkF m 116 #[.val (.int i0), .val (.int i1), .val (.int i2), .val (.int i3), .val (.int i4), .val (.int i5), .val (.ref b4), .val (.int (1 : Int32)), .val (.int (Int32.ofNat tn)), .val (.int mode), .val (.int key), .val (.ref a10)] []))) (fun _ k => XS.icmpYes X12.here hx rfl (pc0 := 104) (pc' := 116) rfl (hb hby at_104) rfl (XT.ii_le_t (by decide)) (by decide) (by decide) k) ?_
      refine Goes.pre (S' := (T12.setTop (mkF m 118 #[.val (.int i0), .val (.int i1), .val (.int i2), .val (.int i3), .val (.int i4), .val (.int i5), .val (.ref b4), .val (.int (1 : Int32)), .val (.int (Int32.ofNat tn)), .val (.int mode), .val (.int key), .val (.ref a10)] [(.int (1 : Int32))]))) (fun _ k => XS.iload X12.here hx rfl (hb hby at_116) rfl k) ?_
      refine Goes.pre (S' := (T12.setTop (mkF m 119 #[.val (.int i0), .val (.int i1), .val (.int i2), .val (.int i3), .val (.int i4), .val (.int i5), .val (.ref b4), .val (.int (1 : Int32)), .val (.int (Int32.ofNat tn)), .val (.int mode), .val (.int key), .val (.ref a10)] [(.int (2 : Int32)), (.int (1 : Int32))]))) (fun _ k => XS.iconst X12.here hx rfl (hb hby at_118) k) ?_
      refine Goes.pre (S' := (T12.setTop (mkF m 131 #[.val (.int i0), .val (.int i1), .val (.int i2), .val (.int i3), .val (.int i4), .val (.int i5), .val (.ref b4), .val (.int (1 : Int32)), .val (.int (Int32.ofNat tn)), .val (.int mode), .val (.int key), .val (.ref a10)] []))) (fun _ k => XS.icmpYes X12.here hx rfl (pc0 := 119) (pc' := 131) rfl (hb hby at_119) rfl (XT.ii_le_t (by decide)) (by decide) (by decide) k) ?_
      refine Goes.pre (S' := (T12.setTop (mkF m 133 #[.val (.int i0), .val (.int i1), .val (.int i2), .val (.int i3), .val (.int i4), .val (.int i5), .val (.ref b4), .val (.int (1 : Int32)), .val (.int (Int32.ofNat tn)), .val (.int mode), .val (.int key), .val (.ref a10)] [(.int (1 : Int32))]))) (fun _ k => XS.iload X12.here hx rfl (hb hby at_131) rfl k) ?_
      refine Goes.pre (S' := (T12.setTop (mkF m 134 #[.val (.int i0), .val (.int i1), .val (.int i2), .val (.int i3), .val (.int i4), .val (.int i5), .val (.ref b4), .val (.int (1 : Int32)), .val (.int (Int32.ofNat tn)), .val (.int mode), .val (.int key), .val (.ref a10)] [(.int (3 : Int32)), (.int (1 : Int32))]))) (fun _ k => XS.iconst X12.here hx rfl (hb hby at_133) k) ?_
      refine Goes.pre (S' := (T12.setTop (mkF m 146 #[.val (.int i0), .val (.int i1), .val (.int i2), .val (.int i3), .val (.int i4), .val (.int i5), .val (.ref b4), .val (.int (1 : Int32)), .val (.int (Int32.ofNat tn)), .val (.int mode), .val (.int key), .val (.ref a10)] []))) (fun _ k => XS.icmpYes X12.here hx rfl (pc0 := 134) (pc' := 146) rfl (hb hby at_134) rfl (XT.ii_le_t (by decide)) (by decide) (by decide) k) ?_
      refine Goes.pre (S' := (T12.setTop (mkF m 148 #[.val (.int i0), .val (.int i1), .val (.int i2), .val (.int i3), .val (.int i4), .val (.int i5), .val (.ref b4), .val (.int (1 : Int32)), .val (.int (Int32.ofNat tn)), .val (.int mode), .val (.int key), .val (.ref a10)] [(.int (1 : Int32))]))) (fun _ k => XS.iload X12.here hx rfl (hb hby at_146) rfl k) ?_
      refine Goes.pre (S' := (T12.setTop (mkF m 149 #[.val (.int i0), .val (.int i1), .val (.int i2), .val (.int i3), .val (.int i4), .val (.int i5), .val (.ref b4), .val (.int (1 : Int32)), .val (.int (Int32.ofNat tn)), .val (.int mode), .val (.int key), .val (.ref a10)] [(.int (4 : Int32)), (.int (1 : Int32))]))) (fun _ k => XS.iconst X12.here hx rfl (hb hby at_148) k) ?_
      refine Goes.pre (S' := (T12.setTop (mkF m 161 #[.val (.int i0), .val (.int i1), .val (.int i2), .val (.int i3), .val (.int i4), .val (.int i5), .val (.ref b4), .val (.int (1 : Int32)), .val (.int (Int32.ofNat tn)), .val (.int mode), .val (.int key), .val (.ref a10)] []))) (fun _ k => XS.icmpYes X12.here hx rfl (pc0 := 149) (pc' := 161) rfl (hb hby at_149) rfl (XT.ii_le_t (by decide)) (by decide) (by decide) k) ?_
      have htc : tn ≤ 1 := htn
      have t6 : tn = 0 ∨ tn = 1 := by omega
      refine tail (1 : Int32) _ _ tn _ _ _ _ _ (4 : Int32) _ _ _ _ _ _ X12 rfl N12 Zn12 Ex12 Fs12 Fn12 V12 UR12 ga10 hra habq.symm ht5 (Or.inr (Or.inl rfl)) ?_ ?_ (by first | decide | exact Nat.le_of_ble_eq_true rfl | assumption | (simp [Value.category]; done)) (by first | decide | exact Nat.le_of_ble_eq_true rfl | assumption | (simp [Value.category]; done))
      · intro j hj
        have j6 : j = 0 := by omega
        rcases j6 with rfl <;> decide
      · intro j hj
        have j6 : j = 0 := by omega
        rcases j6 with rfl <;> rfl
    · skip
      rw [hq] at htn ⊢
      show Goes p e below _ (T11.setTop (mkF m 89 #[.val (.int i0), .val (.int i1), .val (.int i2), .val (.int i3), .val (.int i4), .val (.int i5), .val (.ref b4), .val (.int (2 : Int32)), .val (.int (Int32.ofNat tn)), .val (.int mode), .val (.int key), .val (.ref a10)] [(.int (2 : Int32))]))
      refine Goes.pre (S' := (T11.setTop (mkF m 92 #[.val (.int i0), .val (.int i1), .val (.int i2), .val (.int i3), .val (.int i4), .val (.int i5), .val (.ref b4), .val (.int (2 : Int32)), .val (.int (Int32.ofNat tn)), .val (.int mode), .val (.int key), .val (.ref a10)] []))) (fun _ k => XS.ifNo X11.here hx rfl (hb hby at_89) rfl (XT.i0_le_f (by decide)) k) ?_
      refine Goes.pre (S' := (T11.setTop (mkF m 94 #[.val (.int i0), .val (.int i1), .val (.int i2), .val (.int i3), .val (.int i4), .val (.int i5), .val (.ref b4), .val (.int (2 : Int32)), .val (.int (Int32.ofNat tn)), .val (.int mode), .val (.int key), .val (.ref a10)] [(.ref a10)]))) (fun _ k => XS.aload X11.here hx rfl (hb hby at_92) rfl rfl k) ?_
      refine Goes.pre (S' := (T11.setTop (mkF m 96 #[.val (.int i0), .val (.int i1), .val (.int i2), .val (.int i3), .val (.int i4), .val (.int i5), .val (.ref b4), .val (.int (2 : Int32)), .val (.int (Int32.ofNat tn)), .val (.int mode), .val (.int key), .val (.ref a10)] [(.ref b4), (.ref a10)]))) (fun _ k => XS.aload X11.here hx rfl (hb hby at_94) rfl rfl k) ?_
      refine Goes.pre (S' := (T11.setTop (mkF m 97 #[.val (.int i0), .val (.int i1), .val (.int i2), .val (.int i3), .val (.int i4), .val (.int i5), .val (.ref b4), .val (.int (2 : Int32)), .val (.int (Int32.ofNat tn)), .val (.int mode), .val (.int key), .val (.ref a10)] [(.int (0 : Int32)), (.ref b4), (.ref a10)]))) (fun _ k => XS.iconst X11.here hx rfl (hb hby at_96) k) ?_
      refine Goes.iaload X11 hx hZ rfl UR3 (j := (0 : Int32)) ⟨by decide, by decide⟩ (w := .int i1) rfl (hb hby at_97) ?_
      show Goes p e below _ (T11.setTop (mkF m 98 #[.val (.int i0), .val (.int i1), .val (.int i2), .val (.int i3), .val (.int i4), .val (.int i5), .val (.ref b4), .val (.int (2 : Int32)), .val (.int (Int32.ofNat tn)), .val (.int mode), .val (.int key), .val (.ref a10)] [(.int i1), (.ref a10)]))
      refine Goes.callV (y := (⟨"com/example/clear_plan/clearplan/grounding/FactList", "add", "(I)V"⟩ : MethodName)) (C := "com/example/clear_plan/clearplan/grounding/FactList") X11 hx hZ hown (hw _ (List.mem_of_getElem? (i := 30) rfl)) (hw _ (List.mem_of_getElem? (i := 31) rfl)) (hw _ (List.mem_of_getElem? (i := 33) rfl)) (hw _ (List.mem_of_getElem? (i := 32) rfl)) (hw _ (List.mem_of_getElem? (i := 3) rfl)) (hw _ (List.mem_of_getElem? (i := 34) rfl)) (by decide) rfl Ex11 (rm_a0 l Z a0 hw [] a10 i1 bn kn T11.heap n0 Zn11 Fn11 Fs11 VN3 Ex11 ga10) (by rw [hml]; rfl) [(.int i1)] [] pd_a0 rfl rfl rfl (hb hby at_98) (by decide) (by first | decide | exact Nat.le_of_ble_eq_true rfl | assumption | (simp [Value.category]; done)) (by first | decide | exact Nat.le_of_ble_eq_true rfl | assumption | (simp [Value.category]; done)) (by first | decide | exact Nat.le_of_ble_eq_true rfl | assumption | (simp [Value.category]; done)) ?_
      intro T13 v13 L13 X13 q13
      obtain ⟨bq, kq, rfl, N13a, K13, szq, Fn13, Fs13, V13⟩ := q13
      have gbq : n0 ≤ bq := Nat.le_trans Zn11 szq
      have habq : a10 ≠ bq := own_neLt Fs11.lt szq
      have hrbq : b4 ≠ bq := own_neLt UR3.lt szq
      have N13 := Fr.app N11 N13a
      have UR13 := UR3.keep K13 (ninS hra nin0)
      have Zn13 : n0 ≤ T13.heap.size := Nat.le_trans Zn11 K13.1
      have Ex13 := Ex11.keep K13
      show Goes p e below _ (T13.setTop (mkF m 101 #[.val (.int i0), .val (.int i1), .val (.int i2), .val (.int i3), .val (.int i4), .val (.int i5), .val (.ref b4), .val (.int (2 : Int32)), .val (.int (Int32.ofNat tn)), .val (.int mode), .val (.int key), .val (.ref a10)] []))
      refine Goes.pre (S' := (T13.setTop (mkF m 103 #[.val (.int i0), .val (.int i1), .val (.int i2), .val (.int i3), .val (.int i4), .val (.int i5), .val (.ref b4), .val (.int (2 : Int32)), .val (.int (Int32.ofNat tn)), .val (.int mode), .val (.int key), .val (.ref a10)] [(.int (2 : Int32))]))) (fun _ k => XS.iload X13.here hx rfl (hb hby at_101) rfl k) ?_
      refine Goes.pre (S' := (T13.setTop (mkF m 104 #[.val (.int i0), .val (.int i1), .val (.int i2), .val (.int i3), .val (.int i4), .val (.int i5), .val (.ref b4), .val (.int (2 : Int32)), .val (.int (Int32.ofNat tn)), .val (.int mode), .val (.int key), .val (.ref a10)] [(.int (1 : Int32)), (.int (2 : Int32))]))) (fun _ k => XS.iconst X13.here hx rfl (hb hby at_103) k) ?_
      refine Goes.pre (S' := (T13.setTop (mkF m 107 #[.val (.int i0), .val (.int i1), .val (.int i2), .val (.int i3), .val (.int i4), .val (.int i5), .val (.ref b4), .val (.int (2 : Int32)), .val (.int (Int32.ofNat tn)), .val (.int mode), .val (.int key), .val (.ref a10)] []))) (fun _ k => XS.icmpNo X13.here hx rfl (hb hby at_104) rfl (XT.ii_le_f (by decide)) k) ?_
      refine Goes.pre (S' := (T13.setTop (mkF m 109 #[.val (.int i0), .val (.int i1), .val (.int i2), .val (.int i3), .val (.int i4), .val (.int i5), .val (.ref b4), .val (.int (2 : Int32)), .val (.int (Int32.ofNat tn)), .val (.int mode), .val (.int key), .val (.ref a10)] [(.ref a10)]))) (fun _ k => XS.aload X13.here hx rfl (hb hby at_107) rfl rfl k) ?_
      refine Goes.pre (S' := (T13.setTop (mkF m 111 #[.val (.int i0), .val (.int i1), .val (.int i2), .val (.int i3), .val (.int i4), .val (.int i5), .val (.ref b4), .val (.int (2 : Int32)), .val (.int (Int32.ofNat tn)), .val (.int mode), .val (.int key), .val (.ref a10)] [(.ref b4), (.ref a10)]))) (fun _ k => XS.aload X13.here hx rfl (hb hby at_109) rfl rfl k) ?_
      refine Goes.pre (S' := (T13.setTop (mkF m 112 #[.val (.int i0), .val (.int i1), .val (.int i2), .val (.int i3), .val (.int i4), .val (.int i5), .val (.ref b4), .val (.int (2 : Int32)), .val (.int (Int32.ofNat tn)), .val (.int mode), .val (.int key), .val (.ref a10)] [(.int (1 : Int32)), (.ref b4), (.ref a10)]))) (fun _ k => XS.iconst X13.here hx rfl (hb hby at_111) k) ?_
      refine Goes.iaload X13 hx hZ rfl UR13 (j := (1 : Int32)) ⟨by decide, by decide⟩ (w := .int i2) rfl (hb hby at_112) ?_
      show Goes p e below _ (T13.setTop (mkF m 113 #[.val (.int i0), .val (.int i1), .val (.int i2), .val (.int i3), .val (.int i4), .val (.int i5), .val (.ref b4), .val (.int (2 : Int32)), .val (.int (Int32.ofNat tn)), .val (.int mode), .val (.int key), .val (.ref a10)] [(.int i2), (.ref a10)]))
      refine Goes.callV (y := (⟨"com/example/clear_plan/clearplan/grounding/FactList", "add", "(I)V"⟩ : MethodName)) (C := "com/example/clear_plan/clearplan/grounding/FactList") X13 hx hZ hown (hw _ (List.mem_of_getElem? (i := 30) rfl)) (hw _ (List.mem_of_getElem? (i := 31) rfl)) (hw _ (List.mem_of_getElem? (i := 33) rfl)) (hw _ (List.mem_of_getElem? (i := 32) rfl)) (hw _ (List.mem_of_getElem? (i := 3) rfl)) (hw _ (List.mem_of_getElem? (i := 34) rfl)) (by decide) rfl Ex13 (rm_ak l Z a0 hw [] a10 i2 bq kq (1 : Int32) [.int i1] T13.heap n0 Zn13 ⟨by decide, by decide⟩ rfl Fn13 Fs13 V13 Ex13 ga10 gbq habq) (by rw [hml]; rfl) [(.int i2)] [] pd_ak rfl rfl rfl (hb hby at_113) (by decide) (by first | decide | exact Nat.le_of_ble_eq_true rfl | assumption | (simp [Value.category]; done)) (by first | decide | exact Nat.le_of_ble_eq_true rfl | assumption | (simp [Value.category]; done)) (by first | decide | exact Nat.le_of_ble_eq_true rfl | assumption | (simp [Value.category]; done)) ?_
      intro T14 v14 L14 X14 q14
      obtain ⟨rfl, N14a, K14, Fn14, Fs14, V14⟩ := q14
      have N14 := Fr.app N13 N14a
      have UR14 := UR13.keep K14 (ninS hra (ninS hrbq nin0))
      have Zn14 : n0 ≤ T14.heap.size := Nat.le_trans Zn13 K14.1
      have Ex14 := Ex13.keep K14
      show Goes p e below _ (T14.setTop (mkF m 116 #[.val (.int i0), .val (.int i1), .val (.int i2), .val (.int i3), .val (.int i4), .val (.int i5), .val (.ref b4), .val (.int (2 : Int32)), .val (.int (Int32.ofNat tn)), .val (.int mode), .val (.int key), .val (.ref a10)] []))
      refine Goes.pre (S' := (T14.setTop (mkF m 118 #[.val (.int i0), .val (.int i1), .val (.int i2), .val (.int i3), .val (.int i4), .val (.int i5), .val (.ref b4), .val (.int (2 : Int32)), .val (.int (Int32.ofNat tn)), .val (.int mode), .val (.int key), .val (.ref a10)] [(.int (2 : Int32))]))) (fun _ k => XS.iload X14.here hx rfl (hb hby at_116) rfl k) ?_
      refine Goes.pre (S' := (T14.setTop (mkF m 119 #[.val (.int i0), .val (.int i1), .val (.int i2), .val (.int i3), .val (.int i4), .val (.int i5), .val (.ref b4), .val (.int (2 : Int32)), .val (.int (Int32.ofNat tn)), .val (.int mode), .val (.int key), .val (.ref a10)] [(.int (2 : Int32)), (.int (2 : Int32))]))) (fun _ k => XS.iconst X14.here hx rfl (hb hby at_118) k) ?_
      refine Goes.pre (S' := (T14.setTop (mkF m 131 #[.val (.int i0), .val (.int i1), .val (.int i2), .val (.int i3), .val (.int i4), .val (.int i5), .val (.ref b4), .val (.int (2 : Int32)), .val (.int (Int32.ofNat tn)), .val (.int mode), .val (.int key), .val (.ref a10)] []))) (fun _ k => XS.icmpYes X14.here hx rfl (pc0 := 119) (pc' := 131) rfl (hb hby at_119) rfl (XT.ii_le_t (by decide)) (by decide) (by decide) k) ?_
      refine Goes.pre (S' := (T14.setTop (mkF m 133 #[.val (.int i0), .val (.int i1), .val (.int i2), .val (.int i3), .val (.int i4), .val (.int i5), .val (.ref b4), .val (.int (2 : Int32)), .val (.int (Int32.ofNat tn)), .val (.int mode), .val (.int key), .val (.ref a10)] [(.int (2 : Int32))]))) (fun _ k => XS.iload X14.here hx rfl (hb hby at_131) rfl k) ?_
      refine Goes.pre (S' := (T14.setTop (mkF m 134 #[.val (.int i0), .val (.int i1), .val (.int i2), .val (.int i3), .val (.int i4), .val (.int i5), .val (.ref b4), .val (.int (2 : Int32)), .val (.int (Int32.ofNat tn)), .val (.int mode), .val (.int key), .val (.ref a10)] [(.int (3 : Int32)), (.int (2 : Int32))]))) (fun _ k => XS.iconst X14.here hx rfl (hb hby at_133) k) ?_
      refine Goes.pre (S' := (T14.setTop (mkF m 146 #[.val (.int i0), .val (.int i1), .val (.int i2), .val (.int i3), .val (.int i4), .val (.int i5), .val (.ref b4), .val (.int (2 : Int32)), .val (.int (Int32.ofNat tn)), .val (.int mode), .val (.int key), .val (.ref a10)] []))) (fun _ k => XS.icmpYes X14.here hx rfl (pc0 := 134) (pc' := 146) rfl (hb hby at_134) rfl (XT.ii_le_t (by decide)) (by decide) (by decide) k) ?_
      refine Goes.pre (S' := (T14.setTop (mkF m 148 #[.val (.int i0), .val (.int i1), .val (.int i2), .val (.int i3), .val (.int i4), .val (.int i5), .val (.ref b4), .val (.int (2 : Int32)), .val (.int (Int32.ofNat tn)), .val (.int mode), .val (.int key), .val (.ref a10)] [(.int (2 : Int32))]))) (fun _ k => XS.iload X14.here hx rfl (hb hby at_146) rfl k) ?_
      refine Goes.pre (S' := (T14.setTop (mkF m 149 #[.val (.int i0), .val (.int i1), .val (.int i2), .val (.int i3), .val (.int i4), .val (.int i5), .val (.ref b4), .val (.int (2 : Int32)), .val (.int (Int32.ofNat tn)), .val (.int mode), .val (.int key), .val (.ref a10)] [(.int (4 : Int32)), (.int (2 : Int32))]))) (fun _ k => XS.iconst X14.here hx rfl (hb hby at_148) k) ?_
      refine Goes.pre (S' := (T14.setTop (mkF m 161 #[.val (.int i0), .val (.int i1), .val (.int i2), .val (.int i3), .val (.int i4), .val (.int i5), .val (.ref b4), .val (.int (2 : Int32)), .val (.int (Int32.ofNat tn)), .val (.int mode), .val (.int key), .val (.ref a10)] []))) (fun _ k => XS.icmpYes X14.here hx rfl (pc0 := 149) (pc' := 161) rfl (hb hby at_149) rfl (XT.ii_le_t (by decide)) (by decide) (by decide) k) ?_
      have htc : tn ≤ 2 := htn
      have t6 : tn = 0 ∨ tn = 1 ∨ tn = 2 := by omega
      refine tail (2 : Int32) _ _ tn _ _ _ _ _ (4 : Int32) _ _ _ _ _ _ X14 rfl N14 Zn14 Ex14 Fs14 Fn14 V14 UR14 ga10 hra habq.symm ht5 (Or.inr (Or.inl rfl)) ?_ ?_ (by first | decide | exact Nat.le_of_ble_eq_true rfl | assumption | (simp [Value.category]; done)) (by first | decide | exact Nat.le_of_ble_eq_true rfl | assumption | (simp [Value.category]; done))
      · intro j hj
        have j6 : j = 0 ∨ j = 1 := by omega
        rcases j6 with rfl | rfl <;> decide
      · intro j hj
        have j6 : j = 0 ∨ j = 1 := by omega
        rcases j6 with rfl | rfl <;> rfl
    · skip
      rw [hq] at htn ⊢
      show Goes p e below _ (T11.setTop (mkF m 89 #[.val (.int i0), .val (.int i1), .val (.int i2), .val (.int i3), .val (.int i4), .val (.int i5), .val (.ref b4), .val (.int (3 : Int32)), .val (.int (Int32.ofNat tn)), .val (.int mode), .val (.int key), .val (.ref a10)] [(.int (3 : Int32))]))
      refine Goes.pre (S' := (T11.setTop (mkF m 92 #[.val (.int i0), .val (.int i1), .val (.int i2), .val (.int i3), .val (.int i4), .val (.int i5), .val (.ref b4), .val (.int (3 : Int32)), .val (.int (Int32.ofNat tn)), .val (.int mode), .val (.int key), .val (.ref a10)] []))) (fun _ k => XS.ifNo X11.here hx rfl (hb hby at_89) rfl (XT.i0_le_f (by decide)) k) ?_
      refine Goes.pre (S' := (T11.setTop (mkF m 94 #[.val (.int i0), .val (.int i1), .val (.int i2), .val (.int i3), .val (.int i4), .val (.int i5), .val (.ref b4), .val (.int (3 : Int32)), .val (.int (Int32.ofNat tn)), .val (.int mode), .val (.int key), .val (.ref a10)] [(.ref a10)]))) (fun _ k => XS.aload X11.here hx rfl (hb hby at_92) rfl rfl k) ?_
      refine Goes.pre (S' := (T11.setTop (mkF m 96 #[.val (.int i0), .val (.int i1), .val (.int i2), .val (.int i3), .val (.int i4), .val (.int i5), .val (.ref b4), .val (.int (3 : Int32)), .val (.int (Int32.ofNat tn)), .val (.int mode), .val (.int key), .val (.ref a10)] [(.ref b4), (.ref a10)]))) (fun _ k => XS.aload X11.here hx rfl (hb hby at_94) rfl rfl k) ?_
      refine Goes.pre (S' := (T11.setTop (mkF m 97 #[.val (.int i0), .val (.int i1), .val (.int i2), .val (.int i3), .val (.int i4), .val (.int i5), .val (.ref b4), .val (.int (3 : Int32)), .val (.int (Int32.ofNat tn)), .val (.int mode), .val (.int key), .val (.ref a10)] [(.int (0 : Int32)), (.ref b4), (.ref a10)]))) (fun _ k => XS.iconst X11.here hx rfl (hb hby at_96) k) ?_
      refine Goes.iaload X11 hx hZ rfl UR3 (j := (0 : Int32)) ⟨by decide, by decide⟩ (w := .int i1) rfl (hb hby at_97) ?_
      show Goes p e below _ (T11.setTop (mkF m 98 #[.val (.int i0), .val (.int i1), .val (.int i2), .val (.int i3), .val (.int i4), .val (.int i5), .val (.ref b4), .val (.int (3 : Int32)), .val (.int (Int32.ofNat tn)), .val (.int mode), .val (.int key), .val (.ref a10)] [(.int i1), (.ref a10)]))
      refine Goes.callV (y := (⟨"com/example/clear_plan/clearplan/grounding/FactList", "add", "(I)V"⟩ : MethodName)) (C := "com/example/clear_plan/clearplan/grounding/FactList") X11 hx hZ hown (hw _ (List.mem_of_getElem? (i := 30) rfl)) (hw _ (List.mem_of_getElem? (i := 31) rfl)) (hw _ (List.mem_of_getElem? (i := 33) rfl)) (hw _ (List.mem_of_getElem? (i := 32) rfl)) (hw _ (List.mem_of_getElem? (i := 3) rfl)) (hw _ (List.mem_of_getElem? (i := 34) rfl)) (by decide) rfl Ex11 (rm_a0 l Z a0 hw [] a10 i1 bn kn T11.heap n0 Zn11 Fn11 Fs11 VN3 Ex11 ga10) (by rw [hml]; rfl) [(.int i1)] [] pd_a0 rfl rfl rfl (hb hby at_98) (by decide) (by first | decide | exact Nat.le_of_ble_eq_true rfl | assumption | (simp [Value.category]; done)) (by first | decide | exact Nat.le_of_ble_eq_true rfl | assumption | (simp [Value.category]; done)) (by first | decide | exact Nat.le_of_ble_eq_true rfl | assumption | (simp [Value.category]; done)) ?_
      intro T15 v15 L15 X15 q15
      obtain ⟨bq, kq, rfl, N15a, K15, szq, Fn15, Fs15, V15⟩ := q15
      have gbq : n0 ≤ bq := Nat.le_trans Zn11 szq
      have habq : a10 ≠ bq := own_neLt Fs11.lt szq
      have hrbq : b4 ≠ bq := own_neLt UR3.lt szq
      have N15 := Fr.app N11 N15a
      have UR15 := UR3.keep K15 (ninS hra nin0)
      have Zn15 : n0 ≤ T15.heap.size := Nat.le_trans Zn11 K15.1
      have Ex15 := Ex11.keep K15
      show Goes p e below _ (T15.setTop (mkF m 101 #[.val (.int i0), .val (.int i1), .val (.int i2), .val (.int i3), .val (.int i4), .val (.int i5), .val (.ref b4), .val (.int (3 : Int32)), .val (.int (Int32.ofNat tn)), .val (.int mode), .val (.int key), .val (.ref a10)] []))
      refine Goes.pre (S' := (T15.setTop (mkF m 103 #[.val (.int i0), .val (.int i1), .val (.int i2), .val (.int i3), .val (.int i4), .val (.int i5), .val (.ref b4), .val (.int (3 : Int32)), .val (.int (Int32.ofNat tn)), .val (.int mode), .val (.int key), .val (.ref a10)] [(.int (3 : Int32))]))) (fun _ k => XS.iload X15.here hx rfl (hb hby at_101) rfl k) ?_
      refine Goes.pre (S' := (T15.setTop (mkF m 104 #[.val (.int i0), .val (.int i1), .val (.int i2), .val (.int i3), .val (.int i4), .val (.int i5), .val (.ref b4), .val (.int (3 : Int32)), .val (.int (Int32.ofNat tn)), .val (.int mode), .val (.int key), .val (.ref a10)] [(.int (1 : Int32)), (.int (3 : Int32))]))) (fun _ k => XS.iconst X15.here hx rfl (hb hby at_103) k) ?_
      refine Goes.pre (S' := (T15.setTop (mkF m 107 #[.val (.int i0), .val (.int i1), .val (.int i2), .val (.int i3), .val (.int i4), .val (.int i5), .val (.ref b4), .val (.int (3 : Int32)), .val (.int (Int32.ofNat tn)), .val (.int mode), .val (.int key), .val (.ref a10)] []))) (fun _ k => XS.icmpNo X15.here hx rfl (hb hby at_104) rfl (XT.ii_le_f (by decide)) k) ?_
      refine Goes.pre (S' := (T15.setTop (mkF m 109 #[.val (.int i0), .val (.int i1), .val (.int i2), .val (.int i3), .val (.int i4), .val (.int i5), .val (.ref b4), .val (.int (3 : Int32)), .val (.int (Int32.ofNat tn)), .val (.int mode), .val (.int key), .val (.ref a10)] [(.ref a10)]))) (fun _ k => XS.aload X15.here hx rfl (hb hby at_107) rfl rfl k) ?_
      refine Goes.pre (S' := (T15.setTop (mkF m 111 #[.val (.int i0), .val (.int i1), .val (.int i2), .val (.int i3), .val (.int i4), .val (.int i5), .val (.ref b4), .val (.int (3 : Int32)), .val (.int (Int32.ofNat tn)), .val (.int mode), .val (.int key), .val (.ref a10)] [(.ref b4), (.ref a10)]))) (fun _ k => XS.aload X15.here hx rfl (hb hby at_109) rfl rfl k) ?_
      refine Goes.pre (S' := (T15.setTop (mkF m 112 #[.val (.int i0), .val (.int i1), .val (.int i2), .val (.int i3), .val (.int i4), .val (.int i5), .val (.ref b4), .val (.int (3 : Int32)), .val (.int (Int32.ofNat tn)), .val (.int mode), .val (.int key), .val (.ref a10)] [(.int (1 : Int32)), (.ref b4), (.ref a10)]))) (fun _ k => XS.iconst X15.here hx rfl (hb hby at_111) k) ?_
      refine Goes.iaload X15 hx hZ rfl UR15 (j := (1 : Int32)) ⟨by decide, by decide⟩ (w := .int i2) rfl (hb hby at_112) ?_
      show Goes p e below _ (T15.setTop (mkF m 113 #[.val (.int i0), .val (.int i1), .val (.int i2), .val (.int i3), .val (.int i4), .val (.int i5), .val (.ref b4), .val (.int (3 : Int32)), .val (.int (Int32.ofNat tn)), .val (.int mode), .val (.int key), .val (.ref a10)] [(.int i2), (.ref a10)]))
      refine Goes.callV (y := (⟨"com/example/clear_plan/clearplan/grounding/FactList", "add", "(I)V"⟩ : MethodName)) (C := "com/example/clear_plan/clearplan/grounding/FactList") X15 hx hZ hown (hw _ (List.mem_of_getElem? (i := 30) rfl)) (hw _ (List.mem_of_getElem? (i := 31) rfl)) (hw _ (List.mem_of_getElem? (i := 33) rfl)) (hw _ (List.mem_of_getElem? (i := 32) rfl)) (hw _ (List.mem_of_getElem? (i := 3) rfl)) (hw _ (List.mem_of_getElem? (i := 34) rfl)) (by decide) rfl Ex15 (rm_ak l Z a0 hw [] a10 i2 bq kq (1 : Int32) [.int i1] T15.heap n0 Zn15 ⟨by decide, by decide⟩ rfl Fn15 Fs15 V15 Ex15 ga10 gbq habq) (by rw [hml]; rfl) [(.int i2)] [] pd_ak rfl rfl rfl (hb hby at_113) (by decide) (by first | decide | exact Nat.le_of_ble_eq_true rfl | assumption | (simp [Value.category]; done)) (by first | decide | exact Nat.le_of_ble_eq_true rfl | assumption | (simp [Value.category]; done)) (by first | decide | exact Nat.le_of_ble_eq_true rfl | assumption | (simp [Value.category]; done)) ?_
      intro T16 v16 L16 X16 q16
      obtain ⟨rfl, N16a, K16, Fn16, Fs16, V16⟩ := q16
      have N16 := Fr.app N15 N16a
      have UR16 := UR15.keep K16 (ninS hra (ninS hrbq nin0))
      have Zn16 : n0 ≤ T16.heap.size := Nat.le_trans Zn15 K16.1
      have Ex16 := Ex15.keep K16
      show Goes p e below _ (T16.setTop (mkF m 116 #[.val (.int i0), .val (.int i1), .val (.int i2), .val (.int i3), .val (.int i4), .val (.int i5), .val (.ref b4), .val (.int (3 : Int32)), .val (.int (Int32.ofNat tn)), .val (.int mode), .val (.int key), .val (.ref a10)] []))
      refine Goes.pre (S' := (T16.setTop (mkF m 118 #[.val (.int i0), .val (.int i1), .val (.int i2), .val (.int i3), .val (.int i4), .val (.int i5), .val (.ref b4), .val (.int (3 : Int32)), .val (.int (Int32.ofNat tn)), .val (.int mode), .val (.int key), .val (.ref a10)] [(.int (3 : Int32))]))) (fun _ k => XS.iload X16.here hx rfl (hb hby at_116) rfl k) ?_
      refine Goes.pre (S' := (T16.setTop (mkF m 119 #[.val (.int i0), .val (.int i1), .val (.int i2), .val (.int i3), .val (.int i4), .val (.int i5), .val (.ref b4), .val (.int (3 : Int32)), .val (.int (Int32.ofNat tn)), .val (.int mode), .val (.int key), .val (.ref a10)] [(.int (2 : Int32)), (.int (3 : Int32))]))) (fun _ k => XS.iconst X16.here hx rfl (hb hby at_118) k) ?_
      refine Goes.pre (S' := (T16.setTop (mkF m 122 #[.val (.int i0), .val (.int i1), .val (.int i2), .val (.int i3), .val (.int i4), .val (.int i5), .val (.ref b4), .val (.int (3 : Int32)), .val (.int (Int32.ofNat tn)), .val (.int mode), .val (.int key), .val (.ref a10)] []))) (fun _ k => XS.icmpNo X16.here hx rfl (hb hby at_119) rfl (XT.ii_le_f (by decide)) k) ?_
      refine Goes.pre (S' := (T16.setTop (mkF m 124 #[.val (.int i0), .val (.int i1), .val (.int i2), .val (.int i3), .val (.int i4), .val (.int i5), .val (.ref b4), .val (.int (3 : Int32)), .val (.int (Int32.ofNat tn)), .val (.int mode), .val (.int key), .val (.ref a10)] [(.ref a10)]))) (fun _ k => XS.aload X16.here hx rfl (hb hby at_122) rfl rfl k) ?_
      refine Goes.pre (S' := (T16.setTop (mkF m 126 #[.val (.int i0), .val (.int i1), .val (.int i2), .val (.int i3), .val (.int i4), .val (.int i5), .val (.ref b4), .val (.int (3 : Int32)), .val (.int (Int32.ofNat tn)), .val (.int mode), .val (.int key), .val (.ref a10)] [(.ref b4), (.ref a10)]))) (fun _ k => XS.aload X16.here hx rfl (hb hby at_124) rfl rfl k) ?_
      refine Goes.pre (S' := (T16.setTop (mkF m 127 #[.val (.int i0), .val (.int i1), .val (.int i2), .val (.int i3), .val (.int i4), .val (.int i5), .val (.ref b4), .val (.int (3 : Int32)), .val (.int (Int32.ofNat tn)), .val (.int mode), .val (.int key), .val (.ref a10)] [(.int (2 : Int32)), (.ref b4), (.ref a10)]))) (fun _ k => XS.iconst X16.here hx rfl (hb hby at_126) k) ?_
      refine Goes.iaload X16 hx hZ rfl UR16 (j := (2 : Int32)) ⟨by decide, by decide⟩ (w := .int i3) rfl (hb hby at_127) ?_
      show Goes p e below _ (T16.setTop (mkF m 128 #[.val (.int i0), .val (.int i1), .val (.int i2), .val (.int i3), .val (.int i4), .val (.int i5), .val (.ref b4), .val (.int (3 : Int32)), .val (.int (Int32.ofNat tn)), .val (.int mode), .val (.int key), .val (.ref a10)] [(.int i3), (.ref a10)]))
      refine Goes.callV (y := (⟨"com/example/clear_plan/clearplan/grounding/FactList", "add", "(I)V"⟩ : MethodName)) (C := "com/example/clear_plan/clearplan/grounding/FactList") X16 hx hZ hown (hw _ (List.mem_of_getElem? (i := 30) rfl)) (hw _ (List.mem_of_getElem? (i := 31) rfl)) (hw _ (List.mem_of_getElem? (i := 33) rfl)) (hw _ (List.mem_of_getElem? (i := 32) rfl)) (hw _ (List.mem_of_getElem? (i := 3) rfl)) (hw _ (List.mem_of_getElem? (i := 34) rfl)) (by decide) rfl Ex16 (rm_ak l Z a0 hw [] a10 i3 bq kq (2 : Int32) [.int i1, .int i2] T16.heap n0 Zn16 ⟨by decide, by decide⟩ rfl Fn16 Fs16 V16 Ex16 ga10 gbq habq) (by rw [hml]; rfl) [(.int i3)] [] pd_ak rfl rfl rfl (hb hby at_128) (by decide) (by first | decide | exact Nat.le_of_ble_eq_true rfl | assumption | (simp [Value.category]; done)) (by first | decide | exact Nat.le_of_ble_eq_true rfl | assumption | (simp [Value.category]; done)) (by first | decide | exact Nat.le_of_ble_eq_true rfl | assumption | (simp [Value.category]; done)) ?_
      intro T17 v17 L17 X17 q17
      obtain ⟨rfl, N17a, K17, Fn17, Fs17, V17⟩ := q17
      have N17 := Fr.app N16 N17a
      have UR17 := UR16.keep K17 (ninS hra (ninS hrbq nin0))
      have Zn17 : n0 ≤ T17.heap.size := Nat.le_trans Zn16 K17.1
      have Ex17 := Ex16.keep K17
      show Goes p e below _ (T17.setTop (mkF m 131 #[.val (.int i0), .val (.int i1), .val (.int i2), .val (.int i3), .val (.int i4), .val (.int i5), .val (.ref b4), .val (.int (3 : Int32)), .val (.int (Int32.ofNat tn)), .val (.int mode), .val (.int key), .val (.ref a10)] []))
      refine Goes.pre (S' := (T17.setTop (mkF m 133 #[.val (.int i0), .val (.int i1), .val (.int i2), .val (.int i3), .val (.int i4), .val (.int i5), .val (.ref b4), .val (.int (3 : Int32)), .val (.int (Int32.ofNat tn)), .val (.int mode), .val (.int key), .val (.ref a10)] [(.int (3 : Int32))]))) (fun _ k => XS.iload X17.here hx rfl (hb hby at_131) rfl k) ?_
      refine Goes.pre (S' := (T17.setTop (mkF m 134 #[.val (.int i0), .val (.int i1), .val (.int i2), .val (.int i3), .val (.int i4), .val (.int i5), .val (.ref b4), .val (.int (3 : Int32)), .val (.int (Int32.ofNat tn)), .val (.int mode), .val (.int key), .val (.ref a10)] [(.int (3 : Int32)), (.int (3 : Int32))]))) (fun _ k => XS.iconst X17.here hx rfl (hb hby at_133) k) ?_
      refine Goes.pre (S' := (T17.setTop (mkF m 146 #[.val (.int i0), .val (.int i1), .val (.int i2), .val (.int i3), .val (.int i4), .val (.int i5), .val (.ref b4), .val (.int (3 : Int32)), .val (.int (Int32.ofNat tn)), .val (.int mode), .val (.int key), .val (.ref a10)] []))) (fun _ k => XS.icmpYes X17.here hx rfl (pc0 := 134) (pc' := 146) rfl (hb hby at_134) rfl (XT.ii_le_t (by decide)) (by decide) (by decide) k) ?_
      refine Goes.pre (S' := (T17.setTop (mkF m 148 #[.val (.int i0), .val (.int i1), .val (.int i2), .val (.int i3), .val (.int i4), .val (.int i5), .val (.ref b4), .val (.int (3 : Int32)), .val (.int (Int32.ofNat tn)), .val (.int mode), .val (.int key), .val (.ref a10)] [(.int (3 : Int32))]))) (fun _ k => XS.iload X17.here hx rfl (hb hby at_146) rfl k) ?_
      refine Goes.pre (S' := (T17.setTop (mkF m 149 #[.val (.int i0), .val (.int i1), .val (.int i2), .val (.int i3), .val (.int i4), .val (.int i5), .val (.ref b4), .val (.int (3 : Int32)), .val (.int (Int32.ofNat tn)), .val (.int mode), .val (.int key), .val (.ref a10)] [(.int (4 : Int32)), (.int (3 : Int32))]))) (fun _ k => XS.iconst X17.here hx rfl (hb hby at_148) k) ?_
      refine Goes.pre (S' := (T17.setTop (mkF m 161 #[.val (.int i0), .val (.int i1), .val (.int i2), .val (.int i3), .val (.int i4), .val (.int i5), .val (.ref b4), .val (.int (3 : Int32)), .val (.int (Int32.ofNat tn)), .val (.int mode), .val (.int key), .val (.ref a10)] []))) (fun _ k => XS.icmpYes X17.here hx rfl (pc0 := 149) (pc' := 161) rfl (hb hby at_149) rfl (XT.ii_le_t (by decide)) (by decide) (by decide) k) ?_
      have htc : tn ≤ 3 := htn
      have t6 : tn = 0 ∨ tn = 1 ∨ tn = 2 ∨ tn = 3 := by omega
      refine tail (3 : Int32) _ _ tn _ _ _ _ _ (4 : Int32) _ _ _ _ _ _ X17 rfl N17 Zn17 Ex17 Fs17 Fn17 V17 UR17 ga10 hra habq.symm ht5 (Or.inr (Or.inl rfl)) ?_ ?_ (by first | decide | exact Nat.le_of_ble_eq_true rfl | assumption | (simp [Value.category]; done)) (by first | decide | exact Nat.le_of_ble_eq_true rfl | assumption | (simp [Value.category]; done))
      · intro j hj
        have j6 : j = 0 ∨ j = 1 ∨ j = 2 := by omega
        rcases j6 with rfl | rfl | rfl <;> decide
      · intro j hj
        have j6 : j = 0 ∨ j = 1 ∨ j = 2 := by omega
        rcases j6 with rfl | rfl | rfl <;> rfl
    · skip
      rw [hq] at htn ⊢
      show Goes p e below _ (T11.setTop (mkF m 89 #[.val (.int i0), .val (.int i1), .val (.int i2), .val (.int i3), .val (.int i4), .val (.int i5), .val (.ref b4), .val (.int (4 : Int32)), .val (.int (Int32.ofNat tn)), .val (.int mode), .val (.int key), .val (.ref a10)] [(.int (4 : Int32))]))
      refine Goes.pre (S' := (T11.setTop (mkF m 92 #[.val (.int i0), .val (.int i1), .val (.int i2), .val (.int i3), .val (.int i4), .val (.int i5), .val (.ref b4), .val (.int (4 : Int32)), .val (.int (Int32.ofNat tn)), .val (.int mode), .val (.int key), .val (.ref a10)] []))) (fun _ k => XS.ifNo X11.here hx rfl (hb hby at_89) rfl (XT.i0_le_f (by decide)) k) ?_
      refine Goes.pre (S' := (T11.setTop (mkF m 94 #[.val (.int i0), .val (.int i1), .val (.int i2), .val (.int i3), .val (.int i4), .val (.int i5), .val (.ref b4), .val (.int (4 : Int32)), .val (.int (Int32.ofNat tn)), .val (.int mode), .val (.int key), .val (.ref a10)] [(.ref a10)]))) (fun _ k => XS.aload X11.here hx rfl (hb hby at_92) rfl rfl k) ?_
      refine Goes.pre (S' := (T11.setTop (mkF m 96 #[.val (.int i0), .val (.int i1), .val (.int i2), .val (.int i3), .val (.int i4), .val (.int i5), .val (.ref b4), .val (.int (4 : Int32)), .val (.int (Int32.ofNat tn)), .val (.int mode), .val (.int key), .val (.ref a10)] [(.ref b4), (.ref a10)]))) (fun _ k => XS.aload X11.here hx rfl (hb hby at_94) rfl rfl k) ?_
      refine Goes.pre (S' := (T11.setTop (mkF m 97 #[.val (.int i0), .val (.int i1), .val (.int i2), .val (.int i3), .val (.int i4), .val (.int i5), .val (.ref b4), .val (.int (4 : Int32)), .val (.int (Int32.ofNat tn)), .val (.int mode), .val (.int key), .val (.ref a10)] [(.int (0 : Int32)), (.ref b4), (.ref a10)]))) (fun _ k => XS.iconst X11.here hx rfl (hb hby at_96) k) ?_
      refine Goes.iaload X11 hx hZ rfl UR3 (j := (0 : Int32)) ⟨by decide, by decide⟩ (w := .int i1) rfl (hb hby at_97) ?_
      show Goes p e below _ (T11.setTop (mkF m 98 #[.val (.int i0), .val (.int i1), .val (.int i2), .val (.int i3), .val (.int i4), .val (.int i5), .val (.ref b4), .val (.int (4 : Int32)), .val (.int (Int32.ofNat tn)), .val (.int mode), .val (.int key), .val (.ref a10)] [(.int i1), (.ref a10)]))
      refine Goes.callV (y := (⟨"com/example/clear_plan/clearplan/grounding/FactList", "add", "(I)V"⟩ : MethodName)) (C := "com/example/clear_plan/clearplan/grounding/FactList") X11 hx hZ hown (hw _ (List.mem_of_getElem? (i := 30) rfl)) (hw _ (List.mem_of_getElem? (i := 31) rfl)) (hw _ (List.mem_of_getElem? (i := 33) rfl)) (hw _ (List.mem_of_getElem? (i := 32) rfl)) (hw _ (List.mem_of_getElem? (i := 3) rfl)) (hw _ (List.mem_of_getElem? (i := 34) rfl)) (by decide) rfl Ex11 (rm_a0 l Z a0 hw [] a10 i1 bn kn T11.heap n0 Zn11 Fn11 Fs11 VN3 Ex11 ga10) (by rw [hml]; rfl) [(.int i1)] [] pd_a0 rfl rfl rfl (hb hby at_98) (by decide) (by first | decide | exact Nat.le_of_ble_eq_true rfl | assumption | (simp [Value.category]; done)) (by first | decide | exact Nat.le_of_ble_eq_true rfl | assumption | (simp [Value.category]; done)) (by first | decide | exact Nat.le_of_ble_eq_true rfl | assumption | (simp [Value.category]; done)) ?_
      intro T18 v18 L18 X18 q18
      obtain ⟨bq, kq, rfl, N18a, K18, szq, Fn18, Fs18, V18⟩ := q18
      have gbq : n0 ≤ bq := Nat.le_trans Zn11 szq
      have habq : a10 ≠ bq := own_neLt Fs11.lt szq
      have hrbq : b4 ≠ bq := own_neLt UR3.lt szq
      have N18 := Fr.app N11 N18a
      have UR18 := UR3.keep K18 (ninS hra nin0)
      have Zn18 : n0 ≤ T18.heap.size := Nat.le_trans Zn11 K18.1
      have Ex18 := Ex11.keep K18
      show Goes p e below _ (T18.setTop (mkF m 101 #[.val (.int i0), .val (.int i1), .val (.int i2), .val (.int i3), .val (.int i4), .val (.int i5), .val (.ref b4), .val (.int (4 : Int32)), .val (.int (Int32.ofNat tn)), .val (.int mode), .val (.int key), .val (.ref a10)] []))
      refine Goes.pre (S' := (T18.setTop (mkF m 103 #[.val (.int i0), .val (.int i1), .val (.int i2), .val (.int i3), .val (.int i4), .val (.int i5), .val (.ref b4), .val (.int (4 : Int32)), .val (.int (Int32.ofNat tn)), .val (.int mode), .val (.int key), .val (.ref a10)] [(.int (4 : Int32))]))) (fun _ k => XS.iload X18.here hx rfl (hb hby at_101) rfl k) ?_
      refine Goes.pre (S' := (T18.setTop (mkF m 104 #[.val (.int i0), .val (.int i1), .val (.int i2), .val (.int i3), .val (.int i4), .val (.int i5), .val (.ref b4), .val (.int (4 : Int32)), .val (.int (Int32.ofNat tn)), .val (.int mode), .val (.int key), .val (.ref a10)] [(.int (1 : Int32)), (.int (4 : Int32))]))) (fun _ k => XS.iconst X18.here hx rfl (hb hby at_103) k) ?_
      refine Goes.pre (S' := (T18.setTop (mkF m 107 #[.val (.int i0), .val (.int i1), .val (.int i2), .val (.int i3), .val (.int i4), .val (.int i5), .val (.ref b4), .val (.int (4 : Int32)), .val (.int (Int32.ofNat tn)), .val (.int mode), .val (.int key), .val (.ref a10)] []))) (fun _ k => XS.icmpNo X18.here hx rfl (hb hby at_104) rfl (XT.ii_le_f (by decide)) k) ?_
      refine Goes.pre (S' := (T18.setTop (mkF m 109 #[.val (.int i0), .val (.int i1), .val (.int i2), .val (.int i3), .val (.int i4), .val (.int i5), .val (.ref b4), .val (.int (4 : Int32)), .val (.int (Int32.ofNat tn)), .val (.int mode), .val (.int key), .val (.ref a10)] [(.ref a10)]))) (fun _ k => XS.aload X18.here hx rfl (hb hby at_107) rfl rfl k) ?_
      refine Goes.pre (S' := (T18.setTop (mkF m 111 #[.val (.int i0), .val (.int i1), .val (.int i2), .val (.int i3), .val (.int i4), .val (.int i5), .val (.ref b4), .val (.int (4 : Int32)), .val (.int (Int32.ofNat tn)), .val (.int mode), .val (.int key), .val (.ref a10)] [(.ref b4), (.ref a10)]))) (fun _ k => XS.aload X18.here hx rfl (hb hby at_109) rfl rfl k) ?_
      refine Goes.pre (S' := (T18.setTop (mkF m 112 #[.val (.int i0), .val (.int i1), .val (.int i2), .val (.int i3), .val (.int i4), .val (.int i5), .val (.ref b4), .val (.int (4 : Int32)), .val (.int (Int32.ofNat tn)), .val (.int mode), .val (.int key), .val (.ref a10)] [(.int (1 : Int32)), (.ref b4), (.ref a10)]))) (fun _ k => XS.iconst X18.here hx rfl (hb hby at_111) k) ?_
      refine Goes.iaload X18 hx hZ rfl UR18 (j := (1 : Int32)) ⟨by decide, by decide⟩ (w := .int i2) rfl (hb hby at_112) ?_
      show Goes p e below _ (T18.setTop (mkF m 113 #[.val (.int i0), .val (.int i1), .val (.int i2), .val (.int i3), .val (.int i4), .val (.int i5), .val (.ref b4), .val (.int (4 : Int32)), .val (.int (Int32.ofNat tn)), .val (.int mode), .val (.int key), .val (.ref a10)] [(.int i2), (.ref a10)]))
      refine Goes.callV (y := (⟨"com/example/clear_plan/clearplan/grounding/FactList", "add", "(I)V"⟩ : MethodName)) (C := "com/example/clear_plan/clearplan/grounding/FactList") X18 hx hZ hown (hw _ (List.mem_of_getElem? (i := 30) rfl)) (hw _ (List.mem_of_getElem? (i := 31) rfl)) (hw _ (List.mem_of_getElem? (i := 33) rfl)) (hw _ (List.mem_of_getElem? (i := 32) rfl)) (hw _ (List.mem_of_getElem? (i := 3) rfl)) (hw _ (List.mem_of_getElem? (i := 34) rfl)) (by decide) rfl Ex18 (rm_ak l Z a0 hw [] a10 i2 bq kq (1 : Int32) [.int i1] T18.heap n0 Zn18 ⟨by decide, by decide⟩ rfl Fn18 Fs18 V18 Ex18 ga10 gbq habq) (by rw [hml]; rfl) [(.int i2)] [] pd_ak rfl rfl rfl (hb hby at_113) (by decide) (by first | decide | exact Nat.le_of_ble_eq_true rfl | assumption | (simp [Value.category]; done)) (by first | decide | exact Nat.le_of_ble_eq_true rfl | assumption | (simp [Value.category]; done)) (by first | decide | exact Nat.le_of_ble_eq_true rfl | assumption | (simp [Value.category]; done)) ?_
      intro T19 v19 L19 X19 q19
      obtain ⟨rfl, N19a, K19, Fn19, Fs19, V19⟩ := q19
      have N19 := Fr.app N18 N19a
      have UR19 := UR18.keep K19 (ninS hra (ninS hrbq nin0))
      have Zn19 : n0 ≤ T19.heap.size := Nat.le_trans Zn18 K19.1
      have Ex19 := Ex18.keep K19
      show Goes p e below _ (T19.setTop (mkF m 116 #[.val (.int i0), .val (.int i1), .val (.int i2), .val (.int i3), .val (.int i4), .val (.int i5), .val (.ref b4), .val (.int (4 : Int32)), .val (.int (Int32.ofNat tn)), .val (.int mode), .val (.int key), .val (.ref a10)] []))
      refine Goes.pre (S' := (T19.setTop (mkF m 118 #[.val (.int i0), .val (.int i1), .val (.int i2), .val (.int i3), .val (.int i4), .val (.int i5), .val (.ref b4), .val (.int (4 : Int32)), .val (.int (Int32.ofNat tn)), .val (.int mode), .val (.int key), .val (.ref a10)] [(.int (4 : Int32))]))) (fun _ k => XS.iload X19.here hx rfl (hb hby at_116) rfl k) ?_
      refine Goes.pre (S' := (T19.setTop (mkF m 119 #[.val (.int i0), .val (.int i1), .val (.int i2), .val (.int i3), .val (.int i4), .val (.int i5), .val (.ref b4), .val (.int (4 : Int32)), .val (.int (Int32.ofNat tn)), .val (.int mode), .val (.int key), .val (.ref a10)] [(.int (2 : Int32)), (.int (4 : Int32))]))) (fun _ k => XS.iconst X19.here hx rfl (hb hby at_118) k) ?_
      refine Goes.pre (S' := (T19.setTop (mkF m 122 #[.val (.int i0), .val (.int i1), .val (.int i2), .val (.int i3), .val (.int i4), .val (.int i5), .val (.ref b4), .val (.int (4 : Int32)), .val (.int (Int32.ofNat tn)), .val (.int mode), .val (.int key), .val (.ref a10)] []))) (fun _ k => XS.icmpNo X19.here hx rfl (hb hby at_119) rfl (XT.ii_le_f (by decide)) k) ?_
      refine Goes.pre (S' := (T19.setTop (mkF m 124 #[.val (.int i0), .val (.int i1), .val (.int i2), .val (.int i3), .val (.int i4), .val (.int i5), .val (.ref b4), .val (.int (4 : Int32)), .val (.int (Int32.ofNat tn)), .val (.int mode), .val (.int key), .val (.ref a10)] [(.ref a10)]))) (fun _ k => XS.aload X19.here hx rfl (hb hby at_122) rfl rfl k) ?_
      refine Goes.pre (S' := (T19.setTop (mkF m 126 #[.val (.int i0), .val (.int i1), .val (.int i2), .val (.int i3), .val (.int i4), .val (.int i5), .val (.ref b4), .val (.int (4 : Int32)), .val (.int (Int32.ofNat tn)), .val (.int mode), .val (.int key), .val (.ref a10)] [(.ref b4), (.ref a10)]))) (fun _ k => XS.aload X19.here hx rfl (hb hby at_124) rfl rfl k) ?_
      refine Goes.pre (S' := (T19.setTop (mkF m 127 #[.val (.int i0), .val (.int i1), .val (.int i2), .val (.int i3), .val (.int i4), .val (.int i5), .val (.ref b4), .val (.int (4 : Int32)), .val (.int (Int32.ofNat tn)), .val (.int mode), .val (.int key), .val (.ref a10)] [(.int (2 : Int32)), (.ref b4), (.ref a10)]))) (fun _ k => XS.iconst X19.here hx rfl (hb hby at_126) k) ?_
      refine Goes.iaload X19 hx hZ rfl UR19 (j := (2 : Int32)) ⟨by decide, by decide⟩ (w := .int i3) rfl (hb hby at_127) ?_
      show Goes p e below _ (T19.setTop (mkF m 128 #[.val (.int i0), .val (.int i1), .val (.int i2), .val (.int i3), .val (.int i4), .val (.int i5), .val (.ref b4), .val (.int (4 : Int32)), .val (.int (Int32.ofNat tn)), .val (.int mode), .val (.int key), .val (.ref a10)] [(.int i3), (.ref a10)]))
      refine Goes.callV (y := (⟨"com/example/clear_plan/clearplan/grounding/FactList", "add", "(I)V"⟩ : MethodName)) (C := "com/example/clear_plan/clearplan/grounding/FactList") X19 hx hZ hown (hw _ (List.mem_of_getElem? (i := 30) rfl)) (hw _ (List.mem_of_getElem? (i := 31) rfl)) (hw _ (List.mem_of_getElem? (i := 33) rfl)) (hw _ (List.mem_of_getElem? (i := 32) rfl)) (hw _ (List.mem_of_getElem? (i := 3) rfl)) (hw _ (List.mem_of_getElem? (i := 34) rfl)) (by decide) rfl Ex19 (rm_ak l Z a0 hw [] a10 i3 bq kq (2 : Int32) [.int i1, .int i2] T19.heap n0 Zn19 ⟨by decide, by decide⟩ rfl Fn19 Fs19 V19 Ex19 ga10 gbq habq) (by rw [hml]; rfl) [(.int i3)] [] pd_ak rfl rfl rfl (hb hby at_128) (by decide) (by first | decide | exact Nat.le_of_ble_eq_true rfl | assumption | (simp [Value.category]; done)) (by first | decide | exact Nat.le_of_ble_eq_true rfl | assumption | (simp [Value.category]; done)) (by first | decide | exact Nat.le_of_ble_eq_true rfl | assumption | (simp [Value.category]; done)) ?_
      intro T20 v20 L20 X20 q20
      obtain ⟨rfl, N20a, K20, Fn20, Fs20, V20⟩ := q20
      have N20 := Fr.app N19 N20a
      have UR20 := UR19.keep K20 (ninS hra (ninS hrbq nin0))
      have Zn20 : n0 ≤ T20.heap.size := Nat.le_trans Zn19 K20.1
      have Ex20 := Ex19.keep K20
      show Goes p e below _ (T20.setTop (mkF m 131 #[.val (.int i0), .val (.int i1), .val (.int i2), .val (.int i3), .val (.int i4), .val (.int i5), .val (.ref b4), .val (.int (4 : Int32)), .val (.int (Int32.ofNat tn)), .val (.int mode), .val (.int key), .val (.ref a10)] []))
      refine Goes.pre (S' := (T20.setTop (mkF m 133 #[.val (.int i0), .val (.int i1), .val (.int i2), .val (.int i3), .val (.int i4), .val (.int i5), .val (.ref b4), .val (.int (4 : Int32)), .val (.int (Int32.ofNat tn)), .val (.int mode), .val (.int key), .val (.ref a10)] [(.int (4 : Int32))]))) (fun _ k => XS.iload X20.here hx rfl (hb hby at_131) rfl k) ?_
      refine Goes.pre (S' := (T20.setTop (mkF m 134 #[.val (.int i0), .val (.int i1), .val (.int i2), .val (.int i3), .val (.int i4), .val (.int i5), .val (.ref b4), .val (.int (4 : Int32)), .val (.int (Int32.ofNat tn)), .val (.int mode), .val (.int key), .val (.ref a10)] [(.int (3 : Int32)), (.int (4 : Int32))]))) (fun _ k => XS.iconst X20.here hx rfl (hb hby at_133) k) ?_
      refine Goes.pre (S' := (T20.setTop (mkF m 137 #[.val (.int i0), .val (.int i1), .val (.int i2), .val (.int i3), .val (.int i4), .val (.int i5), .val (.ref b4), .val (.int (4 : Int32)), .val (.int (Int32.ofNat tn)), .val (.int mode), .val (.int key), .val (.ref a10)] []))) (fun _ k => XS.icmpNo X20.here hx rfl (hb hby at_134) rfl (XT.ii_le_f (by decide)) k) ?_
      refine Goes.pre (S' := (T20.setTop (mkF m 139 #[.val (.int i0), .val (.int i1), .val (.int i2), .val (.int i3), .val (.int i4), .val (.int i5), .val (.ref b4), .val (.int (4 : Int32)), .val (.int (Int32.ofNat tn)), .val (.int mode), .val (.int key), .val (.ref a10)] [(.ref a10)]))) (fun _ k => XS.aload X20.here hx rfl (hb hby at_137) rfl rfl k) ?_
      refine Goes.pre (S' := (T20.setTop (mkF m 141 #[.val (.int i0), .val (.int i1), .val (.int i2), .val (.int i3), .val (.int i4), .val (.int i5), .val (.ref b4), .val (.int (4 : Int32)), .val (.int (Int32.ofNat tn)), .val (.int mode), .val (.int key), .val (.ref a10)] [(.ref b4), (.ref a10)]))) (fun _ k => XS.aload X20.here hx rfl (hb hby at_139) rfl rfl k) ?_
      refine Goes.pre (S' := (T20.setTop (mkF m 142 #[.val (.int i0), .val (.int i1), .val (.int i2), .val (.int i3), .val (.int i4), .val (.int i5), .val (.ref b4), .val (.int (4 : Int32)), .val (.int (Int32.ofNat tn)), .val (.int mode), .val (.int key), .val (.ref a10)] [(.int (3 : Int32)), (.ref b4), (.ref a10)]))) (fun _ k => XS.iconst X20.here hx rfl (hb hby at_141) k) ?_
      refine Goes.iaload X20 hx hZ rfl UR20 (j := (3 : Int32)) ⟨by decide, by decide⟩ (w := .int i4) rfl (hb hby at_142) ?_
      show Goes p e below _ (T20.setTop (mkF m 143 #[.val (.int i0), .val (.int i1), .val (.int i2), .val (.int i3), .val (.int i4), .val (.int i5), .val (.ref b4), .val (.int (4 : Int32)), .val (.int (Int32.ofNat tn)), .val (.int mode), .val (.int key), .val (.ref a10)] [(.int i4), (.ref a10)]))
      refine Goes.callV (y := (⟨"com/example/clear_plan/clearplan/grounding/FactList", "add", "(I)V"⟩ : MethodName)) (C := "com/example/clear_plan/clearplan/grounding/FactList") X20 hx hZ hown (hw _ (List.mem_of_getElem? (i := 30) rfl)) (hw _ (List.mem_of_getElem? (i := 31) rfl)) (hw _ (List.mem_of_getElem? (i := 33) rfl)) (hw _ (List.mem_of_getElem? (i := 32) rfl)) (hw _ (List.mem_of_getElem? (i := 3) rfl)) (hw _ (List.mem_of_getElem? (i := 34) rfl)) (by decide) rfl Ex20 (rm_ak l Z a0 hw [] a10 i4 bq kq (3 : Int32) [.int i1, .int i2, .int i3] T20.heap n0 Zn20 ⟨by decide, by decide⟩ rfl Fn20 Fs20 V20 Ex20 ga10 gbq habq) (by rw [hml]; rfl) [(.int i4)] [] pd_ak rfl rfl rfl (hb hby at_143) (by decide) (by first | decide | exact Nat.le_of_ble_eq_true rfl | assumption | (simp [Value.category]; done)) (by first | decide | exact Nat.le_of_ble_eq_true rfl | assumption | (simp [Value.category]; done)) (by first | decide | exact Nat.le_of_ble_eq_true rfl | assumption | (simp [Value.category]; done)) ?_
      intro T21 v21 L21 X21 q21
      obtain ⟨rfl, N21a, K21, Fn21, Fs21, V21⟩ := q21
      have N21 := Fr.app N20 N21a
      have UR21 := UR20.keep K21 (ninS hra (ninS hrbq nin0))
      have Zn21 : n0 ≤ T21.heap.size := Nat.le_trans Zn20 K21.1
      have Ex21 := Ex20.keep K21
      show Goes p e below _ (T21.setTop (mkF m 146 #[.val (.int i0), .val (.int i1), .val (.int i2), .val (.int i3), .val (.int i4), .val (.int i5), .val (.ref b4), .val (.int (4 : Int32)), .val (.int (Int32.ofNat tn)), .val (.int mode), .val (.int key), .val (.ref a10)] []))
      refine Goes.pre (S' := (T21.setTop (mkF m 148 #[.val (.int i0), .val (.int i1), .val (.int i2), .val (.int i3), .val (.int i4), .val (.int i5), .val (.ref b4), .val (.int (4 : Int32)), .val (.int (Int32.ofNat tn)), .val (.int mode), .val (.int key), .val (.ref a10)] [(.int (4 : Int32))]))) (fun _ k => XS.iload X21.here hx rfl (hb hby at_146) rfl k) ?_
      refine Goes.pre (S' := (T21.setTop (mkF m 149 #[.val (.int i0), .val (.int i1), .val (.int i2), .val (.int i3), .val (.int i4), .val (.int i5), .val (.ref b4), .val (.int (4 : Int32)), .val (.int (Int32.ofNat tn)), .val (.int mode), .val (.int key), .val (.ref a10)] [(.int (4 : Int32)), (.int (4 : Int32))]))) (fun _ k => XS.iconst X21.here hx rfl (hb hby at_148) k) ?_
      refine Goes.pre (S' := (T21.setTop (mkF m 161 #[.val (.int i0), .val (.int i1), .val (.int i2), .val (.int i3), .val (.int i4), .val (.int i5), .val (.ref b4), .val (.int (4 : Int32)), .val (.int (Int32.ofNat tn)), .val (.int mode), .val (.int key), .val (.ref a10)] []))) (fun _ k => XS.icmpYes X21.here hx rfl (pc0 := 149) (pc' := 161) rfl (hb hby at_149) rfl (XT.ii_le_t (by decide)) (by decide) (by decide) k) ?_
      have htc : tn ≤ 4 := htn
      have t6 : tn = 0 ∨ tn = 1 ∨ tn = 2 ∨ tn = 3 ∨ tn = 4 := by omega
      refine tail (4 : Int32) _ _ tn _ _ _ _ _ (4 : Int32) _ _ _ _ _ _ X21 rfl N21 Zn21 Ex21 Fs21 Fn21 V21 UR21 ga10 hra habq.symm ht5 (Or.inr (Or.inl rfl)) ?_ ?_ (by first | decide | exact Nat.le_of_ble_eq_true rfl | assumption | (simp [Value.category]; done)) (by first | decide | exact Nat.le_of_ble_eq_true rfl | assumption | (simp [Value.category]; done))
      · intro j hj
        have j6 : j = 0 ∨ j = 1 ∨ j = 2 ∨ j = 3 := by omega
        rcases j6 with rfl | rfl | rfl | rfl <;> decide
      · intro j hj
        have j6 : j = 0 ∨ j = 1 ∨ j = 2 ∨ j = 3 := by omega
        rcases j6 with rfl | rfl | rfl | rfl <;> rfl
    · skip
      rw [hq] at htn ⊢
      show Goes p e below _ (T11.setTop (mkF m 89 #[.val (.int i0), .val (.int i1), .val (.int i2), .val (.int i3), .val (.int i4), .val (.int i5), .val (.ref b4), .val (.int (5 : Int32)), .val (.int (Int32.ofNat tn)), .val (.int mode), .val (.int key), .val (.ref a10)] [(.int (5 : Int32))]))
      refine Goes.pre (S' := (T11.setTop (mkF m 92 #[.val (.int i0), .val (.int i1), .val (.int i2), .val (.int i3), .val (.int i4), .val (.int i5), .val (.ref b4), .val (.int (5 : Int32)), .val (.int (Int32.ofNat tn)), .val (.int mode), .val (.int key), .val (.ref a10)] []))) (fun _ k => XS.ifNo X11.here hx rfl (hb hby at_89) rfl (XT.i0_le_f (by decide)) k) ?_
      refine Goes.pre (S' := (T11.setTop (mkF m 94 #[.val (.int i0), .val (.int i1), .val (.int i2), .val (.int i3), .val (.int i4), .val (.int i5), .val (.ref b4), .val (.int (5 : Int32)), .val (.int (Int32.ofNat tn)), .val (.int mode), .val (.int key), .val (.ref a10)] [(.ref a10)]))) (fun _ k => XS.aload X11.here hx rfl (hb hby at_92) rfl rfl k) ?_
      refine Goes.pre (S' := (T11.setTop (mkF m 96 #[.val (.int i0), .val (.int i1), .val (.int i2), .val (.int i3), .val (.int i4), .val (.int i5), .val (.ref b4), .val (.int (5 : Int32)), .val (.int (Int32.ofNat tn)), .val (.int mode), .val (.int key), .val (.ref a10)] [(.ref b4), (.ref a10)]))) (fun _ k => XS.aload X11.here hx rfl (hb hby at_94) rfl rfl k) ?_
      refine Goes.pre (S' := (T11.setTop (mkF m 97 #[.val (.int i0), .val (.int i1), .val (.int i2), .val (.int i3), .val (.int i4), .val (.int i5), .val (.ref b4), .val (.int (5 : Int32)), .val (.int (Int32.ofNat tn)), .val (.int mode), .val (.int key), .val (.ref a10)] [(.int (0 : Int32)), (.ref b4), (.ref a10)]))) (fun _ k => XS.iconst X11.here hx rfl (hb hby at_96) k) ?_
      refine Goes.iaload X11 hx hZ rfl UR3 (j := (0 : Int32)) ⟨by decide, by decide⟩ (w := .int i1) rfl (hb hby at_97) ?_
      show Goes p e below _ (T11.setTop (mkF m 98 #[.val (.int i0), .val (.int i1), .val (.int i2), .val (.int i3), .val (.int i4), .val (.int i5), .val (.ref b4), .val (.int (5 : Int32)), .val (.int (Int32.ofNat tn)), .val (.int mode), .val (.int key), .val (.ref a10)] [(.int i1), (.ref a10)]))
      refine Goes.callV (y := (⟨"com/example/clear_plan/clearplan/grounding/FactList", "add", "(I)V"⟩ : MethodName)) (C := "com/example/clear_plan/clearplan/grounding/FactList") X11 hx hZ hown (hw _ (List.mem_of_getElem? (i := 30) rfl)) (hw _ (List.mem_of_getElem? (i := 31) rfl)) (hw _ (List.mem_of_getElem? (i := 33) rfl)) (hw _ (List.mem_of_getElem? (i := 32) rfl)) (hw _ (List.mem_of_getElem? (i := 3) rfl)) (hw _ (List.mem_of_getElem? (i := 34) rfl)) (by decide) rfl Ex11 (rm_a0 l Z a0 hw [] a10 i1 bn kn T11.heap n0 Zn11 Fn11 Fs11 VN3 Ex11 ga10) (by rw [hml]; rfl) [(.int i1)] [] pd_a0 rfl rfl rfl (hb hby at_98) (by decide) (by first | decide | exact Nat.le_of_ble_eq_true rfl | assumption | (simp [Value.category]; done)) (by first | decide | exact Nat.le_of_ble_eq_true rfl | assumption | (simp [Value.category]; done)) (by first | decide | exact Nat.le_of_ble_eq_true rfl | assumption | (simp [Value.category]; done)) ?_
      intro T22 v22 L22 X22 q22
      obtain ⟨bq, kq, rfl, N22a, K22, szq, Fn22, Fs22, V22⟩ := q22
      have gbq : n0 ≤ bq := Nat.le_trans Zn11 szq
      have habq : a10 ≠ bq := own_neLt Fs11.lt szq
      have hrbq : b4 ≠ bq := own_neLt UR3.lt szq
      have N22 := Fr.app N11 N22a
      have UR22 := UR3.keep K22 (ninS hra nin0)
      have Zn22 : n0 ≤ T22.heap.size := Nat.le_trans Zn11 K22.1
      have Ex22 := Ex11.keep K22
      show Goes p e below _ (T22.setTop (mkF m 101 #[.val (.int i0), .val (.int i1), .val (.int i2), .val (.int i3), .val (.int i4), .val (.int i5), .val (.ref b4), .val (.int (5 : Int32)), .val (.int (Int32.ofNat tn)), .val (.int mode), .val (.int key), .val (.ref a10)] []))
      refine Goes.pre (S' := (T22.setTop (mkF m 103 #[.val (.int i0), .val (.int i1), .val (.int i2), .val (.int i3), .val (.int i4), .val (.int i5), .val (.ref b4), .val (.int (5 : Int32)), .val (.int (Int32.ofNat tn)), .val (.int mode), .val (.int key), .val (.ref a10)] [(.int (5 : Int32))]))) (fun _ k => XS.iload X22.here hx rfl (hb hby at_101) rfl k) ?_
      refine Goes.pre (S' := (T22.setTop (mkF m 104 #[.val (.int i0), .val (.int i1), .val (.int i2), .val (.int i3), .val (.int i4), .val (.int i5), .val (.ref b4), .val (.int (5 : Int32)), .val (.int (Int32.ofNat tn)), .val (.int mode), .val (.int key), .val (.ref a10)] [(.int (1 : Int32)), (.int (5 : Int32))]))) (fun _ k => XS.iconst X22.here hx rfl (hb hby at_103) k) ?_
      refine Goes.pre (S' := (T22.setTop (mkF m 107 #[.val (.int i0), .val (.int i1), .val (.int i2), .val (.int i3), .val (.int i4), .val (.int i5), .val (.ref b4), .val (.int (5 : Int32)), .val (.int (Int32.ofNat tn)), .val (.int mode), .val (.int key), .val (.ref a10)] []))) (fun _ k => XS.icmpNo X22.here hx rfl (hb hby at_104) rfl (XT.ii_le_f (by decide)) k) ?_
      refine Goes.pre (S' := (T22.setTop (mkF m 109 #[.val (.int i0), .val (.int i1), .val (.int i2), .val (.int i3), .val (.int i4), .val (.int i5), .val (.ref b4), .val (.int (5 : Int32)), .val (.int (Int32.ofNat tn)), .val (.int mode), .val (.int key), .val (.ref a10)] [(.ref a10)]))) (fun _ k => XS.aload X22.here hx rfl (hb hby at_107) rfl rfl k) ?_
      refine Goes.pre (S' := (T22.setTop (mkF m 111 #[.val (.int i0), .val (.int i1), .val (.int i2), .val (.int i3), .val (.int i4), .val (.int i5), .val (.ref b4), .val (.int (5 : Int32)), .val (.int (Int32.ofNat tn)), .val (.int mode), .val (.int key), .val (.ref a10)] [(.ref b4), (.ref a10)]))) (fun _ k => XS.aload X22.here hx rfl (hb hby at_109) rfl rfl k) ?_
      refine Goes.pre (S' := (T22.setTop (mkF m 112 #[.val (.int i0), .val (.int i1), .val (.int i2), .val (.int i3), .val (.int i4), .val (.int i5), .val (.ref b4), .val (.int (5 : Int32)), .val (.int (Int32.ofNat tn)), .val (.int mode), .val (.int key), .val (.ref a10)] [(.int (1 : Int32)), (.ref b4), (.ref a10)]))) (fun _ k => XS.iconst X22.here hx rfl (hb hby at_111) k) ?_
      refine Goes.iaload X22 hx hZ rfl UR22 (j := (1 : Int32)) ⟨by decide, by decide⟩ (w := .int i2) rfl (hb hby at_112) ?_
      show Goes p e below _ (T22.setTop (mkF m 113 #[.val (.int i0), .val (.int i1), .val (.int i2), .val (.int i3), .val (.int i4), .val (.int i5), .val (.ref b4), .val (.int (5 : Int32)), .val (.int (Int32.ofNat tn)), .val (.int mode), .val (.int key), .val (.ref a10)] [(.int i2), (.ref a10)]))
      refine Goes.callV (y := (⟨"com/example/clear_plan/clearplan/grounding/FactList", "add", "(I)V"⟩ : MethodName)) (C := "com/example/clear_plan/clearplan/grounding/FactList") X22 hx hZ hown (hw _ (List.mem_of_getElem? (i := 30) rfl)) (hw _ (List.mem_of_getElem? (i := 31) rfl)) (hw _ (List.mem_of_getElem? (i := 33) rfl)) (hw _ (List.mem_of_getElem? (i := 32) rfl)) (hw _ (List.mem_of_getElem? (i := 3) rfl)) (hw _ (List.mem_of_getElem? (i := 34) rfl)) (by decide) rfl Ex22 (rm_ak l Z a0 hw [] a10 i2 bq kq (1 : Int32) [.int i1] T22.heap n0 Zn22 ⟨by decide, by decide⟩ rfl Fn22 Fs22 V22 Ex22 ga10 gbq habq) (by rw [hml]; rfl) [(.int i2)] [] pd_ak rfl rfl rfl (hb hby at_113) (by decide) (by first | decide | exact Nat.le_of_ble_eq_true rfl | assumption | (simp [Value.category]; done)) (by first | decide | exact Nat.le_of_ble_eq_true rfl | assumption | (simp [Value.category]; done)) (by first | decide | exact Nat.le_of_ble_eq_true rfl | assumption | (simp [Value.category]; done)) ?_
      intro T23 v23 L23 X23 q23
      obtain ⟨rfl, N23a, K23, Fn23, Fs23, V23⟩ := q23
      have N23 := Fr.app N22 N23a
      have UR23 := UR22.keep K23 (ninS hra (ninS hrbq nin0))
      have Zn23 : n0 ≤ T23.heap.size := Nat.le_trans Zn22 K23.1
      have Ex23 := Ex22.keep K23
      show Goes p e below _ (T23.setTop (mkF m 116 #[.val (.int i0), .val (.int i1), .val (.int i2), .val (.int i3), .val (.int i4), .val (.int i5), .val (.ref b4), .val (.int (5 : Int32)), .val (.int (Int32.ofNat tn)), .val (.int mode), .val (.int key), .val (.ref a10)] []))
      refine Goes.pre (S' := (T23.setTop (mkF m 118 #[.val (.int i0), .val (.int i1), .val (.int i2), .val (.int i3), .val (.int i4), .val (.int i5), .val (.ref b4), .val (.int (5 : Int32)), .val (.int (Int32.ofNat tn)), .val (.int mode), .val (.int key), .val (.ref a10)] [(.int (5 : Int32))]))) (fun _ k => XS.iload X23.here hx rfl (hb hby at_116) rfl k) ?_
      refine Goes.pre (S' := (T23.setTop (mkF m 119 #[.val (.int i0), .val (.int i1), .val (.int i2), .val (.int i3), .val (.int i4), .val (.int i5), .val (.ref b4), .val (.int (5 : Int32)), .val (.int (Int32.ofNat tn)), .val (.int mode), .val (.int key), .val (.ref a10)] [(.int (2 : Int32)), (.int (5 : Int32))]))) (fun _ k => XS.iconst X23.here hx rfl (hb hby at_118) k) ?_
      refine Goes.pre (S' := (T23.setTop (mkF m 122 #[.val (.int i0), .val (.int i1), .val (.int i2), .val (.int i3), .val (.int i4), .val (.int i5), .val (.ref b4), .val (.int (5 : Int32)), .val (.int (Int32.ofNat tn)), .val (.int mode), .val (.int key), .val (.ref a10)] []))) (fun _ k => XS.icmpNo X23.here hx rfl (hb hby at_119) rfl (XT.ii_le_f (by decide)) k) ?_
      refine Goes.pre (S' := (T23.setTop (mkF m 124 #[.val (.int i0), .val (.int i1), .val (.int i2), .val (.int i3), .val (.int i4), .val (.int i5), .val (.ref b4), .val (.int (5 : Int32)), .val (.int (Int32.ofNat tn)), .val (.int mode), .val (.int key), .val (.ref a10)] [(.ref a10)]))) (fun _ k => XS.aload X23.here hx rfl (hb hby at_122) rfl rfl k) ?_
      refine Goes.pre (S' := (T23.setTop (mkF m 126 #[.val (.int i0), .val (.int i1), .val (.int i2), .val (.int i3), .val (.int i4), .val (.int i5), .val (.ref b4), .val (.int (5 : Int32)), .val (.int (Int32.ofNat tn)), .val (.int mode), .val (.int key), .val (.ref a10)] [(.ref b4), (.ref a10)]))) (fun _ k => XS.aload X23.here hx rfl (hb hby at_124) rfl rfl k) ?_
      refine Goes.pre (S' := (T23.setTop (mkF m 127 #[.val (.int i0), .val (.int i1), .val (.int i2), .val (.int i3), .val (.int i4), .val (.int i5), .val (.ref b4), .val (.int (5 : Int32)), .val (.int (Int32.ofNat tn)), .val (.int mode), .val (.int key), .val (.ref a10)] [(.int (2 : Int32)), (.ref b4), (.ref a10)]))) (fun _ k => XS.iconst X23.here hx rfl (hb hby at_126) k) ?_
      refine Goes.iaload X23 hx hZ rfl UR23 (j := (2 : Int32)) ⟨by decide, by decide⟩ (w := .int i3) rfl (hb hby at_127) ?_
      show Goes p e below _ (T23.setTop (mkF m 128 #[.val (.int i0), .val (.int i1), .val (.int i2), .val (.int i3), .val (.int i4), .val (.int i5), .val (.ref b4), .val (.int (5 : Int32)), .val (.int (Int32.ofNat tn)), .val (.int mode), .val (.int key), .val (.ref a10)] [(.int i3), (.ref a10)]))
      refine Goes.callV (y := (⟨"com/example/clear_plan/clearplan/grounding/FactList", "add", "(I)V"⟩ : MethodName)) (C := "com/example/clear_plan/clearplan/grounding/FactList") X23 hx hZ hown (hw _ (List.mem_of_getElem? (i := 30) rfl)) (hw _ (List.mem_of_getElem? (i := 31) rfl)) (hw _ (List.mem_of_getElem? (i := 33) rfl)) (hw _ (List.mem_of_getElem? (i := 32) rfl)) (hw _ (List.mem_of_getElem? (i := 3) rfl)) (hw _ (List.mem_of_getElem? (i := 34) rfl)) (by decide) rfl Ex23 (rm_ak l Z a0 hw [] a10 i3 bq kq (2 : Int32) [.int i1, .int i2] T23.heap n0 Zn23 ⟨by decide, by decide⟩ rfl Fn23 Fs23 V23 Ex23 ga10 gbq habq) (by rw [hml]; rfl) [(.int i3)] [] pd_ak rfl rfl rfl (hb hby at_128) (by decide) (by first | decide | exact Nat.le_of_ble_eq_true rfl | assumption | (simp [Value.category]; done)) (by first | decide | exact Nat.le_of_ble_eq_true rfl | assumption | (simp [Value.category]; done)) (by first | decide | exact Nat.le_of_ble_eq_true rfl | assumption | (simp [Value.category]; done)) ?_
      intro T24 v24 L24 X24 q24
      obtain ⟨rfl, N24a, K24, Fn24, Fs24, V24⟩ := q24
      have N24 := Fr.app N23 N24a
      have UR24 := UR23.keep K24 (ninS hra (ninS hrbq nin0))
      have Zn24 : n0 ≤ T24.heap.size := Nat.le_trans Zn23 K24.1
      have Ex24 := Ex23.keep K24
      show Goes p e below _ (T24.setTop (mkF m 131 #[.val (.int i0), .val (.int i1), .val (.int i2), .val (.int i3), .val (.int i4), .val (.int i5), .val (.ref b4), .val (.int (5 : Int32)), .val (.int (Int32.ofNat tn)), .val (.int mode), .val (.int key), .val (.ref a10)] []))
      refine Goes.pre (S' := (T24.setTop (mkF m 133 #[.val (.int i0), .val (.int i1), .val (.int i2), .val (.int i3), .val (.int i4), .val (.int i5), .val (.ref b4), .val (.int (5 : Int32)), .val (.int (Int32.ofNat tn)), .val (.int mode), .val (.int key), .val (.ref a10)] [(.int (5 : Int32))]))) (fun _ k => XS.iload X24.here hx rfl (hb hby at_131) rfl k) ?_
      refine Goes.pre (S' := (T24.setTop (mkF m 134 #[.val (.int i0), .val (.int i1), .val (.int i2), .val (.int i3), .val (.int i4), .val (.int i5), .val (.ref b4), .val (.int (5 : Int32)), .val (.int (Int32.ofNat tn)), .val (.int mode), .val (.int key), .val (.ref a10)] [(.int (3 : Int32)), (.int (5 : Int32))]))) (fun _ k => XS.iconst X24.here hx rfl (hb hby at_133) k) ?_
      refine Goes.pre (S' := (T24.setTop (mkF m 137 #[.val (.int i0), .val (.int i1), .val (.int i2), .val (.int i3), .val (.int i4), .val (.int i5), .val (.ref b4), .val (.int (5 : Int32)), .val (.int (Int32.ofNat tn)), .val (.int mode), .val (.int key), .val (.ref a10)] []))) (fun _ k => XS.icmpNo X24.here hx rfl (hb hby at_134) rfl (XT.ii_le_f (by decide)) k) ?_
      refine Goes.pre (S' := (T24.setTop (mkF m 139 #[.val (.int i0), .val (.int i1), .val (.int i2), .val (.int i3), .val (.int i4), .val (.int i5), .val (.ref b4), .val (.int (5 : Int32)), .val (.int (Int32.ofNat tn)), .val (.int mode), .val (.int key), .val (.ref a10)] [(.ref a10)]))) (fun _ k => XS.aload X24.here hx rfl (hb hby at_137) rfl rfl k) ?_
      refine Goes.pre (S' := (T24.setTop (mkF m 141 #[.val (.int i0), .val (.int i1), .val (.int i2), .val (.int i3), .val (.int i4), .val (.int i5), .val (.ref b4), .val (.int (5 : Int32)), .val (.int (Int32.ofNat tn)), .val (.int mode), .val (.int key), .val (.ref a10)] [(.ref b4), (.ref a10)]))) (fun _ k => XS.aload X24.here hx rfl (hb hby at_139) rfl rfl k) ?_
      refine Goes.pre (S' := (T24.setTop (mkF m 142 #[.val (.int i0), .val (.int i1), .val (.int i2), .val (.int i3), .val (.int i4), .val (.int i5), .val (.ref b4), .val (.int (5 : Int32)), .val (.int (Int32.ofNat tn)), .val (.int mode), .val (.int key), .val (.ref a10)] [(.int (3 : Int32)), (.ref b4), (.ref a10)]))) (fun _ k => XS.iconst X24.here hx rfl (hb hby at_141) k) ?_
      refine Goes.iaload X24 hx hZ rfl UR24 (j := (3 : Int32)) ⟨by decide, by decide⟩ (w := .int i4) rfl (hb hby at_142) ?_
      show Goes p e below _ (T24.setTop (mkF m 143 #[.val (.int i0), .val (.int i1), .val (.int i2), .val (.int i3), .val (.int i4), .val (.int i5), .val (.ref b4), .val (.int (5 : Int32)), .val (.int (Int32.ofNat tn)), .val (.int mode), .val (.int key), .val (.ref a10)] [(.int i4), (.ref a10)]))
      refine Goes.callV (y := (⟨"com/example/clear_plan/clearplan/grounding/FactList", "add", "(I)V"⟩ : MethodName)) (C := "com/example/clear_plan/clearplan/grounding/FactList") X24 hx hZ hown (hw _ (List.mem_of_getElem? (i := 30) rfl)) (hw _ (List.mem_of_getElem? (i := 31) rfl)) (hw _ (List.mem_of_getElem? (i := 33) rfl)) (hw _ (List.mem_of_getElem? (i := 32) rfl)) (hw _ (List.mem_of_getElem? (i := 3) rfl)) (hw _ (List.mem_of_getElem? (i := 34) rfl)) (by decide) rfl Ex24 (rm_ak l Z a0 hw [] a10 i4 bq kq (3 : Int32) [.int i1, .int i2, .int i3] T24.heap n0 Zn24 ⟨by decide, by decide⟩ rfl Fn24 Fs24 V24 Ex24 ga10 gbq habq) (by rw [hml]; rfl) [(.int i4)] [] pd_ak rfl rfl rfl (hb hby at_143) (by decide) (by first | decide | exact Nat.le_of_ble_eq_true rfl | assumption | (simp [Value.category]; done)) (by first | decide | exact Nat.le_of_ble_eq_true rfl | assumption | (simp [Value.category]; done)) (by first | decide | exact Nat.le_of_ble_eq_true rfl | assumption | (simp [Value.category]; done)) ?_
      intro T25 v25 L25 X25 q25
      obtain ⟨rfl, N25a, K25, Fn25, Fs25, V25⟩ := q25
      have N25 := Fr.app N24 N25a
      have UR25 := UR24.keep K25 (ninS hra (ninS hrbq nin0))
      have Zn25 : n0 ≤ T25.heap.size := Nat.le_trans Zn24 K25.1
      have Ex25 := Ex24.keep K25
      show Goes p e below _ (T25.setTop (mkF m 146 #[.val (.int i0), .val (.int i1), .val (.int i2), .val (.int i3), .val (.int i4), .val (.int i5), .val (.ref b4), .val (.int (5 : Int32)), .val (.int (Int32.ofNat tn)), .val (.int mode), .val (.int key), .val (.ref a10)] []))
      refine Goes.pre (S' := (T25.setTop (mkF m 148 #[.val (.int i0), .val (.int i1), .val (.int i2), .val (.int i3), .val (.int i4), .val (.int i5), .val (.ref b4), .val (.int (5 : Int32)), .val (.int (Int32.ofNat tn)), .val (.int mode), .val (.int key), .val (.ref a10)] [(.int (5 : Int32))]))) (fun _ k => XS.iload X25.here hx rfl (hb hby at_146) rfl k) ?_
      refine Goes.pre (S' := (T25.setTop (mkF m 149 #[.val (.int i0), .val (.int i1), .val (.int i2), .val (.int i3), .val (.int i4), .val (.int i5), .val (.ref b4), .val (.int (5 : Int32)), .val (.int (Int32.ofNat tn)), .val (.int mode), .val (.int key), .val (.ref a10)] [(.int (4 : Int32)), (.int (5 : Int32))]))) (fun _ k => XS.iconst X25.here hx rfl (hb hby at_148) k) ?_
      refine Goes.pre (S' := (T25.setTop (mkF m 152 #[.val (.int i0), .val (.int i1), .val (.int i2), .val (.int i3), .val (.int i4), .val (.int i5), .val (.ref b4), .val (.int (5 : Int32)), .val (.int (Int32.ofNat tn)), .val (.int mode), .val (.int key), .val (.ref a10)] []))) (fun _ k => XS.icmpNo X25.here hx rfl (hb hby at_149) rfl (XT.ii_le_f (by decide)) k) ?_
      refine Goes.pre (S' := (T25.setTop (mkF m 154 #[.val (.int i0), .val (.int i1), .val (.int i2), .val (.int i3), .val (.int i4), .val (.int i5), .val (.ref b4), .val (.int (5 : Int32)), .val (.int (Int32.ofNat tn)), .val (.int mode), .val (.int key), .val (.ref a10)] [(.ref a10)]))) (fun _ k => XS.aload X25.here hx rfl (hb hby at_152) rfl rfl k) ?_
      refine Goes.pre (S' := (T25.setTop (mkF m 156 #[.val (.int i0), .val (.int i1), .val (.int i2), .val (.int i3), .val (.int i4), .val (.int i5), .val (.ref b4), .val (.int (5 : Int32)), .val (.int (Int32.ofNat tn)), .val (.int mode), .val (.int key), .val (.ref a10)] [(.ref b4), (.ref a10)]))) (fun _ k => XS.aload X25.here hx rfl (hb hby at_154) rfl rfl k) ?_
      refine Goes.pre (S' := (T25.setTop (mkF m 157 #[.val (.int i0), .val (.int i1), .val (.int i2), .val (.int i3), .val (.int i4), .val (.int i5), .val (.ref b4), .val (.int (5 : Int32)), .val (.int (Int32.ofNat tn)), .val (.int mode), .val (.int key), .val (.ref a10)] [(.int (4 : Int32)), (.ref b4), (.ref a10)]))) (fun _ k => XS.iconst X25.here hx rfl (hb hby at_156) k) ?_
      refine Goes.iaload X25 hx hZ rfl UR25 (j := (4 : Int32)) ⟨by decide, by decide⟩ (w := .int i1) rfl (hb hby at_157) ?_
      show Goes p e below _ (T25.setTop (mkF m 158 #[.val (.int i0), .val (.int i1), .val (.int i2), .val (.int i3), .val (.int i4), .val (.int i5), .val (.ref b4), .val (.int (5 : Int32)), .val (.int (Int32.ofNat tn)), .val (.int mode), .val (.int key), .val (.ref a10)] [(.int i1), (.ref a10)]))
      refine Goes.callV (y := (⟨"com/example/clear_plan/clearplan/grounding/FactList", "add", "(I)V"⟩ : MethodName)) (C := "com/example/clear_plan/clearplan/grounding/FactList") X25 hx hZ hown (hw _ (List.mem_of_getElem? (i := 30) rfl)) (hw _ (List.mem_of_getElem? (i := 31) rfl)) (hw _ (List.mem_of_getElem? (i := 33) rfl)) (hw _ (List.mem_of_getElem? (i := 32) rfl)) (hw _ (List.mem_of_getElem? (i := 3) rfl)) (hw _ (List.mem_of_getElem? (i := 34) rfl)) (by decide) rfl Ex25 (rm_a4 l Z a0 hw [] a10 i1 bq kq (.int i1) (.int i2) (.int i3) (.int i4) T25.heap n0 Zn25 Fn25 Fs25 V25 Ex25 ga10) (by rw [hml]; rfl) [(.int i1)] [] pd_a4 rfl rfl rfl (hb hby at_158) (by decide) (by first | decide | exact Nat.le_of_ble_eq_true rfl | assumption | (simp [Value.category]; done)) (by first | decide | exact Nat.le_of_ble_eq_true rfl | assumption | (simp [Value.category]; done)) (by first | decide | exact Nat.le_of_ble_eq_true rfl | assumption | (simp [Value.category]; done)) ?_
      intro T26 v26 L26 X26 q26
      obtain ⟨b5, k5, rfl, N26a, K26, sz5, Fn26, Fs26, V26⟩ := q26
      have habq5 : a10 ≠ b5 := own_neLt Fs25.lt sz5
      have N26 := Fr.app N25 N26a
      have UR26 := UR25.keep K26 (ninS hra nin0)
      have Zn26 : n0 ≤ T26.heap.size := Nat.le_trans Zn25 K26.1
      have Ex26 := Ex25.keep K26
      show Goes p e below _ (T26.setTop (mkF m 161 #[.val (.int i0), .val (.int i1), .val (.int i2), .val (.int i3), .val (.int i4), .val (.int i5), .val (.ref b4), .val (.int (5 : Int32)), .val (.int (Int32.ofNat tn)), .val (.int mode), .val (.int key), .val (.ref a10)] []))
      have htc : tn ≤ 5 := htn
      have t6 : tn = 0 ∨ tn = 1 ∨ tn = 2 ∨ tn = 3 ∨ tn = 4 ∨ tn = 5 := by omega
      refine tail (5 : Int32) _ _ tn _ _ _ _ _ (8 : Int32) _ _ _ _ _ _ X26 rfl N26 Zn26 Ex26 Fs26 Fn26 V26 UR26 ga10 hra habq5.symm ht5 (Or.inr (Or.inr rfl)) ?_ ?_ (by first | decide | exact Nat.le_of_ble_eq_true rfl | assumption | (simp [Value.category]; done)) (by first | decide | exact Nat.le_of_ble_eq_true rfl | assumption | (simp [Value.category]; done))
      · intro j hj
        have j6 : j = 0 ∨ j = 1 ∨ j = 2 ∨ j = 3 ∨ j = 4 := by omega
        rcases j6 with rfl | rfl | rfl | rfl | rfl <;> decide
      · intro j hj
        have j6 : j = 0 ∨ j = 1 ∨ j = 2 ∨ j = 3 ∨ j = 4 := by omega
        rcases j6 with rfl | rfl | rfl | rfl | rfl <;> rfl
  by_cases c58 : mode = 0
  · skip
    refine Goes.pre (S' := (T9.setTop (mkF m 61 #[.val (.int i0), .val (.int i1), .val (.int i2), .val (.int i3), .val (.int i4), .val (.int i5), .val (.ref b4), .val (.int ((i0 &&& (7 : Int32)) % (6 : Int32))), .val (.int (Int32.ofNat tn)), .val (.int mode), .unset, .unset] []))) (fun _ k => XS.ifNo X9.here hx rfl (hb hby at_58) rfl (XT.i0_ne_f c58) k) ?_
    refine Goes.pre (S' := (T9.setTop (mkF m 63 #[.val (.int i0), .val (.int i1), .val (.int i2), .val (.int i3), .val (.int i4), .val (.int i5), .val (.ref b4), .val (.int ((i0 &&& (7 : Int32)) % (6 : Int32))), .val (.int (Int32.ofNat tn)), .val (.int mode), .unset, .unset] [(.int i5)]))) (fun _ k => XS.iload X9.here hx rfl (hb hby at_61) rfl k) ?_
    refine Goes.pre (S' := (T9.setTop (mkF m 76 #[.val (.int i0), .val (.int i1), .val (.int i2), .val (.int i3), .val (.int i4), .val (.int i5), .val (.ref b4), .val (.int ((i0 &&& (7 : Int32)) % (6 : Int32))), .val (.int (Int32.ofNat tn)), .val (.int mode), .unset, .unset] [(.int i5)]))) (fun _ k => XS.goto X9.here hx rfl (pc0 := 63) (pc' := 76) rfl (hb hby at_63) (by decide) (by decide) k) ?_
    refine Goes.pre (S' := (T9.setTop (mkF m 78 #[.val (.int i0), .val (.int i1), .val (.int i2), .val (.int i3), .val (.int i4), .val (.int i5), .val (.ref b4), .val (.int ((i0 &&& (7 : Int32)) % (6 : Int32))), .val (.int (Int32.ofNat tn)), .val (.int mode), .val (.int i5), .unset] []))) (fun _ k => XS.istore X9.here hx rfl (hb hby at_76) rfl (l' := #[.val (.int i0), .val (.int i1), .val (.int i2), .val (.int i3), .val (.int i4), .val (.int i5), .val (.ref b4), .val (.int ((i0 &&& (7 : Int32)) % (6 : Int32))), .val (.int (Int32.ofNat tn)), .val (.int mode), .val (.int i5), .unset]) rfl k) ?_
    exact mid _
  · skip
    refine Goes.pre (S' := (T9.setTop (mkF m 66 #[.val (.int i0), .val (.int i1), .val (.int i2), .val (.int i3), .val (.int i4), .val (.int i5), .val (.ref b4), .val (.int ((i0 &&& (7 : Int32)) % (6 : Int32))), .val (.int (Int32.ofNat tn)), .val (.int mode), .unset, .unset] []))) (fun _ k => XS.ifYes X9.here hx rfl (pc0 := 58) (pc' := 66) rfl (hb hby at_58) rfl (XT.i0_ne_t c58) (by decide) (by decide) k) ?_
    refine Goes.pre (S' := (T9.setTop (mkF m 68 #[.val (.int i0), .val (.int i1), .val (.int i2), .val (.int i3), .val (.int i4), .val (.int i5), .val (.ref b4), .val (.int ((i0 &&& (7 : Int32)) % (6 : Int32))), .val (.int (Int32.ofNat tn)), .val (.int mode), .unset, .unset] [(.ref b4)]))) (fun _ k => XS.aload X9.here hx rfl (hb hby at_66) rfl rfl k) ?_
    refine Goes.pre (S' := (T9.setTop (mkF m 70 #[.val (.int i0), .val (.int i1), .val (.int i2), .val (.int i3), .val (.int i4), .val (.int i5), .val (.ref b4), .val (.int ((i0 &&& (7 : Int32)) % (6 : Int32))), .val (.int (Int32.ofNat tn)), .val (.int mode), .unset, .unset] [(.int i5), (.ref b4)]))) (fun _ k => XS.iload X9.here hx rfl (hb hby at_68) rfl k) ?_
    refine Goes.pre (S' := (T9.setTop (mkF m 72 #[.val (.int i0), .val (.int i1), .val (.int i2), .val (.int i3), .val (.int i4), .val (.int i5), .val (.ref b4), .val (.int ((i0 &&& (7 : Int32)) % (6 : Int32))), .val (.int (Int32.ofNat tn)), .val (.int mode), .unset, .unset] [(.int (2147483647 : Int32)), (.int i5), (.ref b4)]))) (fun _ k => Jvm.Stand.ldcI X9 hx hown (mvT hZ (hw _ (List.mem_of_getElem? (i := 35) rfl))) rfl (hb hby at_70) k) ?_
    refine Goes.pre (S' := (T9.setTop (mkF m 73 #[.val (.int i0), .val (.int i1), .val (.int i2), .val (.int i3), .val (.int i4), .val (.int i5), .val (.ref b4), .val (.int ((i0 &&& (7 : Int32)) % (6 : Int32))), .val (.int (Int32.ofNat tn)), .val (.int mode), .unset, .unset] [(.int (i5 &&& (2147483647 : Int32))), (.ref b4)]))) (fun _ k => XS.iand X9.here hx rfl (hb hby at_72) rfl k) ?_
    refine Goes.pre (S' := (T9.setTop (mkF m 74 #[.val (.int i0), .val (.int i1), .val (.int i2), .val (.int i3), .val (.int i4), .val (.int i5), .val (.ref b4), .val (.int ((i0 &&& (7 : Int32)) % (6 : Int32))), .val (.int (Int32.ofNat tn)), .val (.int mode), .unset, .unset] [(.int (5 : Int32)), (.int (i5 &&& (2147483647 : Int32))), (.ref b4)]))) (fun _ k => XS.iconst X9.here hx rfl (hb hby at_73) k) ?_
    refine Goes.pre (S' := (T9.setTop (mkF m 75 #[.val (.int i0), .val (.int i1), .val (.int i2), .val (.int i3), .val (.int i4), .val (.int i5), .val (.ref b4), .val (.int ((i0 &&& (7 : Int32)) % (6 : Int32))), .val (.int (Int32.ofNat tn)), .val (.int mode), .unset, .unset] [(.int ((i5 &&& (2147483647 : Int32)) % (5 : Int32))), (.ref b4)]))) (fun _ k => iremM X9 hx rfl (hb hby at_74) rfl (by decide) k) ?_
    refine Goes.iaload X9 hx hZ e9 U4 (own_idx5 i5) (w := .int (([i1, i2, i3, i4, i1] : List Int32).getD ((i5 &&& 2147483647) % 5).toNatClampNeg 0)) (own_ints ([i1, i2, i3, i4, i1] : List Int32) _) (hb hby at_75) ?_
    show Goes p e below _ (T9.setTop (mkF m 76 #[.val (.int i0), .val (.int i1), .val (.int i2), .val (.int i3), .val (.int i4), .val (.int i5), .val (.ref b4), .val (.int ((i0 &&& (7 : Int32)) % (6 : Int32))), .val (.int (Int32.ofNat tn)), .val (.int mode), .unset, .unset] [(.int (([i1, i2, i3, i4, i1] : List Int32).getD ((i5 &&& 2147483647) % 5).toNatClampNeg 0))]))
    refine Goes.pre (S' := (T9.setTop (mkF m 78 #[.val (.int i0), .val (.int i1), .val (.int i2), .val (.int i3), .val (.int i4), .val (.int i5), .val (.ref b4), .val (.int ((i0 &&& (7 : Int32)) % (6 : Int32))), .val (.int (Int32.ofNat tn)), .val (.int mode), .val (.int (([i1, i2, i3, i4, i1] : List Int32).getD ((i5 &&& 2147483647) % 5).toNatClampNeg 0)), .unset] []))) (fun _ k => XS.istore X9.here hx rfl (hb hby at_76) rfl (l' := #[.val (.int i0), .val (.int i1), .val (.int i2), .val (.int i3), .val (.int i4), .val (.int i5), .val (.ref b4), .val (.int ((i0 &&& (7 : Int32)) % (6 : Int32))), .val (.int (Int32.ofNat tn)), .val (.int mode), .val (.int (([i1, i2, i3, i4, i1] : List Int32).getD ((i5 &&& 2147483647) % 5).toNatClampNeg 0)), .unset]) rfl k) ?_
    exact mid _
set_option maxRecDepth 65536 in
set_option maxHeartbeats 40000000 in
theorem comes_1 {Post : Tables → Env → Array Value → State → Outcome → State → Prop} (hpost : ∀ tb e args s v u, (limb_1_1.after args s (.returned v) u = true ∧ limb_1_2.after args s (.returned v) u = true ∧ True) → FrameEnd s (.returned v) u (Jvm.fieldLocs frame_1_writes args s ++ Jvm.arrayLocs frame_1_arrays args s ++ Jvm.staticLocs frame_1_statics s) 16 128 → Post tb e args s (.returned v) u) :
    ArmFor flags0 classFile x code maxLocals ret World_1 tables_1 room_1 Calls_1 rest_1 Pre_1 Post := by
  intro l hfl _ _ p e ha hc hk s m args below hf hA hF happ hP
  obtain ⟨hcalls, hrest, hpre⟩ := hP
  obtain ⟨-, -, -, hnamed, -, -, -, hat⟩ := (Spec.applies_iff hf).mp happ
  obtain ⟨hg, hn⟩ := and_e (Cond.before_iff.mp (show (Jvm.Cond.and given_1 narrow_1).before args s = true from hpre))
  obtain ⟨gc, gr0⟩ := and_e hg
  obtain ⟨ga0, gr1⟩ := and_e gr0
  obtain ⟨ga1, gr2⟩ := and_e gr1
  obtain ⟨ga2, gr3⟩ := and_e gr2
  obtain ⟨ga3, gr4⟩ := and_e gr3
  obtain ⟨ga4, gr5⟩ := and_e gr4
  obtain ⟨w0, w1, w2, w3, w4, w5, rfl⟩ : ∃ w0 w1 w2 w3 w4 w5 : Value, args = #[w0, w1, w2, w3, w4, w5] := by
    have hs : args.size = 6 := by simpa [Cond.value, given_1] using gc
    obtain ⟨L⟩ := args
    match L, hs with
    | [w0, w1, w2, w3, w4, w5], _ => exact ⟨w0, w1, w2, w3, w4, w5, rfl⟩
  have hw := fun d (hd : d ∈ tables_1) => atoms_spec (ws := Jvm.Cond.code x code maxLocals ret :: tables_1) hat d (List.mem_cons_of_mem _ hd)
  have hfit : Fit s := fun {y c} hc i hi => by
    obtain ⟨ha, rfl⟩ := Array.getElem?_eq_some_iff.mp hc
    have q := List.all_eq_true.mp ((Array.all_eq_true_iff_forall_mem.mp hF) _ (Array.getElem_mem ha)) i (List.mem_range.mpr hi)
    simpa [Array.getElem?_eq_getElem hi] using q
  obtain ⟨i0, ei0⟩ := is_v ga0
  obtain rfl : w0 = (.int i0) := Option.some.inj ei0
  obtain ⟨i1, ei1⟩ := is_v ga1
  obtain rfl : w1 = (.int i1) := Option.some.inj ei1
  obtain ⟨i2, ei2⟩ := is_v ga2
  obtain rfl : w2 = (.int i2) := Option.some.inj ei2
  obtain ⟨i3, ei3⟩ := is_v ga3
  obtain rfl : w3 = (.int i3) := Option.some.inj ei3
  obtain ⟨i4, ei4⟩ := is_v ga4
  obtain rfl : w4 = (.int i4) := Option.some.inj ei4
  obtain ⟨i5, ei5⟩ := is_v gr5
  obtain rfl : w5 = (.int i5) := Option.some.inj ei5
  obtain ⟨nw0, nwr0⟩ := and_e hn
  have nw1 := nwr0
  obtain ⟨bn, evb⟩ := arr_v nw0
  obtain ⟨cb, Ab⟩ := Arr.start evb nw0
  obtain ⟨lb1, lb2⟩ := own_len evb Ab (eqv_i (Term.int_eval _) nw1)
  have SN : Sta s s.heap "com/example/clear_plan/clearplan/grounding/FactList" "NONE" "[I" (.ref bn) := Sta.start evb (Or.inr ⟨(hw _ (List.mem_of_getElem? (i := 3) rfl)), (hw _ (List.mem_of_getElem? (i := 11) rfl))⟩)
  have VN : Arv s s.heap bn cb.cls .int 0 [] (.int 0) := Arv.start hfit Ab lb1 lb2 (by decide) rfl trivial
  obtain ⟨n, o, h1, h2, h3, _, L, rfl, ⟨rfl, N⟩, hq⟩ := rm_law l s _ hw tables_1 i0 i1 i2 i3 i4 i5 bn cb.cls s.heap s.heap.size (Nat.le_refl _) SN VN p e ha hc hk s m _ below hf ((Spec.applies_iff_loose hf).mp happ).1 ⟨rfl, State.Warmed39.refl s, rfl⟩ trivial
  refine ⟨n, _, h1, h2, h3, hpost _ _ _ _ _ _ ⟨Cond.after_iff.mpr rfl, Cond.after_iff.mpr (eq_i res_at (Term.int_eval (1)) rfl), trivial⟩ ⟨hq.1, hq.2.1, (hq.2.2.sift fun y hy => Or.inr (N y hy)).mono (by decide) (by decide)⟩⟩
theorem main_1_1 : Claimed_1_1 := comes_1 fun _ _ _ _ _ _ h hF => ⟨h.1, hF⟩
theorem main_1_2 : Claimed_1_2 := comes_1 fun _ _ _ _ _ _ h hF => ⟨h.2.1, hF⟩
end Jvm.Pilot.@@N@@
namespace Jvm.Pilot.@@N@@
open Jvm Jvm.ClassFile Sem Op Lib Jvm.Free Jvm.Stand Jvm.Pilot.@@N@@.Jvm.D
/-! MADE BY PROGRAM (witnessworld.py) out of the Statement's table words and the real class files: 12 classes; the members and pool entries that the words name. The judged class is class 1, her method 2. -/
namespace start1
open Jvm.ClassFile
def u (s : String) : CpInfo := .utf8 (stringToUtf16 s)
/-- a pool by its gaps: so many unusable entries, then the entry; so many at the end -/
def gap : Nat → List CpInfo → List CpInfo
  | 0, r => r
  | n + 1, r => .unusable :: gap n r
def poolList (es : List (Nat × CpInfo)) (last : Nat) : List CpInfo := es.foldr (fun e r => gap e.1 (e.2 :: r)) (gap last [])
def pool (es : List (Nat × CpInfo)) (last : Nat) : Array CpInfo := ⟨poolList es last⟩
def fileOf (pool : Array CpInfo) (this : Nat) (attrs : Array Attribute := #[]) (ms : Array MethodInfo := #[]) (fl : Nat := 33) (sup : Nat := 0) (ifs : Array Nat := #[]) (fds : Array FieldInfo := #[]) : ClassFile where
  minorVersion := 0
  majorVersion := 65
  constantPool := pool
  accessFlags := fl
  thisClass := this
  superClass := sup
  interfaces := ifs
  fields := fds
  methods := ms
  attributes := attrs
def plain (name : String) (sup : Option ClassId) : Class where
  name := name
  kind := .ordinary
  loader := none
  accessFlags := 33
  super := sup
  interfaces := #[]
  cf := none
  fields := #[]
  methods := #[]
  instanceTypes := #[]
  staticTypes := #[]
  resolved := #[]
  callSites := []
  init := .initialized
  statics := none
  mirror := none

def pool0 : Array CpInfo := pool [(5, u "<init>"), (0, u "()V"), (1, .class_ 10), (1, u "java/lang/Object")] 113

def k0c0 : Code := { maxStack := 0, maxLocals := 1, code := object_method_1_code, exceptionTable := #[], attributes := #[] }
def k0m0 : Method := { name := "<init>", desc := "()V", sig := { parameters := [], returnType := none }, accessFlags := 1, code := some k0c0 }
/-- java/lang/Object -/
def k0 : Class := { plain "java/lang/Object" none with
  accessFlags := 33
  interfaces := #[]
  cf := some (fileOf pool0 8 #[] #[{ accessFlags := 1, nameIndex := 5, descriptorIndex := 6, attributes := #[] }] 33 0 #[] #[])
  fields := #[]
  methods := #[k0m0]
  instanceTypes := #[]
  staticTypes := #[]
  resolved := Array.replicate 124 none
  statics := none }

def pool1 : Array CpInfo := pool [(2, .class_ 4), (0, .nameAndType 5 6), (0, u "java/lang/Object"), (0, u "<init>"), (0, u "()V"), (0, .integer 2147483647), (0, .class_ 9), (0, u "com/example/clear_plan/clearplan/grounding/FactList"), (0, .methodref 8 3), (0, .methodref 8 12), (0, .nameAndType 13 14), (0, u "add"), (0, u "(I)V"), (0, .methodref 8 16), (0, .nameAndType 17 14), (0, u "truncate"), (0, .methodref 8 19), (0, .nameAndType 20 21), (0, u "indexOf"), (0, u "(I)I"), (0, .methodref 23 24), (0, .class_ 25), (0, .nameAndType 26 27), (0, u "com/example/clear_plan/clearplan/grounding/FactListIndexOfPinLaw"), (0, u "expected"), (0, u "([III)I"), (3, u "law"), (0, u "(IIIIII)Z")] 4

def k1m0 : Method := { name := "<init>", desc := "()V", sig := { parameters := [], returnType := none }, accessFlags := 1, code := none }
def k1c1 : Code := { maxStack := 2, maxLocals := 3, code := method_2_code, exceptionTable := #[], attributes := #[] }
def k1m1 : Method := { name := "expected", desc := "([III)I", sig := { parameters := [(.array .int), .int, .int], returnType := some .int }, accessFlags := 10, code := some k1c1 }
def k1c2 : Code := { maxStack := 4, maxLocals := 12, code := code, exceptionTable := #[], attributes := #[] }
def k1m2 : Method := { name := "law", desc := "(IIIIII)Z", sig := { parameters := [.int, .int, .int, .int, .int, .int], returnType := some .boolean }, accessFlags := 9, code := some k1c2 }
/-- com/example/clear_plan/clearplan/grounding/FactListIndexOfPinLaw -/
def k1 : Class := { plain "com/example/clear_plan/clearplan/grounding/FactListIndexOfPinLaw" (some 0) with
  accessFlags := 49
  interfaces := #[]
  cf := some (fileOf pool1 23 #[] #[{ accessFlags := 1, nameIndex := 5, descriptorIndex := 6, attributes := #[] }, { accessFlags := 10, nameIndex := 26, descriptorIndex := 27, attributes := #[] }, { accessFlags := 9, nameIndex := 31, descriptorIndex := 32, attributes := #[] }] 49 2 #[] #[])
  fields := #[]
  methods := #[k1m0, k1m1, k1m2]
  instanceTypes := #[]
  staticTypes := #[]
  resolved := Array.replicate 37 none
  statics := none }

def pool2 : Array CpInfo := pool [(1, .methodref 2 3), (0, .class_ 4), (0, .nameAndType 5 6), (0, u "java/lang/Object"), (0, u "<init>"), (0, u "()V"), (0, .fieldref 8 9), (0, .class_ 10), (0, .nameAndType 11 12), (0, u "com/example/clear_plan/clearplan/grounding/FactList"), (0, u "NONE"), (0, u "[I"), (0, .fieldref 8 14), (0, .nameAndType 15 12), (0, u "numbers"), (0, .fieldref 8 17), (0, .nameAndType 18 19), (0, u "size"), (0, u "I"), (4, u "(I)V"), (0, .methodref 26 27), (0, .class_ 28), (0, .nameAndType 29 30), (0, u "java/util/Arrays"), (0, u "copyOf"), (0, u "([II)[I"), (7, u "(I)I"), (0, u "add"), (1, u "truncate"), (0, u "indexOf")] 3

def k2c0 : Code := { maxStack := 2, maxLocals := 1, code := prog_15_method_1_code, exceptionTable := #[], attributes := #[] }
def k2m0 : Method := { name := "<init>", desc := "()V", sig := { parameters := [], returnType := none }, accessFlags := 0, code := some k2c0 }
def k2c1 : Code := { maxStack := 5, maxLocals := 2, code := prog_15_method_5_code, exceptionTable := #[], attributes := #[] }
def k2m1 : Method := { name := "add", desc := "(I)V", sig := { parameters := [.int], returnType := none }, accessFlags := 0, code := some k2c1 }
def k2c2 : Code := { maxStack := 2, maxLocals := 2, code := prog_15_method_6_code, exceptionTable := #[], attributes := #[] }
def k2m2 : Method := { name := "truncate", desc := "(I)V", sig := { parameters := [.int], returnType := none }, accessFlags := 0, code := some k2c2 }
def k2c3 : Code := { maxStack := 2, maxLocals := 3, code := prog_15_method_7_code, exceptionTable := #[], attributes := #[] }
def k2m3 : Method := { name := "indexOf", desc := "(I)I", sig := { parameters := [.int], returnType := some .int }, accessFlags := 0, code := some k2c3 }
/-- com/example/clear_plan/clearplan/grounding/FactList -/
def k2 : Class := { plain "com/example/clear_plan/clearplan/grounding/FactList" (some 0) with
  accessFlags := 49
  interfaces := #[]
  cf := some (fileOf pool2 8 #[] #[{ accessFlags := 0, nameIndex := 5, descriptorIndex := 6, attributes := #[] }, { accessFlags := 0, nameIndex := 39, descriptorIndex := 24, attributes := #[] }, { accessFlags := 0, nameIndex := 41, descriptorIndex := 24, attributes := #[] }, { accessFlags := 0, nameIndex := 42, descriptorIndex := 38, attributes := #[] }] 49 2 #[] #[{ accessFlags := 26, nameIndex := 11, descriptorIndex := 12, attributes := #[] }, { accessFlags := 2, nameIndex := 15, descriptorIndex := 12, attributes := #[] }, { accessFlags := 2, nameIndex := 18, descriptorIndex := 19, attributes := #[] }])
  fields := #[{ name := "NONE", type := (.array .int), accessFlags := 26, slot := 0, constantValue := 0 }, { name := "numbers", type := (.array .int), accessFlags := 2, slot := 0, constantValue := 0 }, { name := "size", type := .int, accessFlags := 2, slot := 1, constantValue := 0 }]
  methods := #[k2m0, k2m1, k2m2, k2m3]
  instanceTypes := #[(.array .int), .int]
  staticTypes := #[(.array .int)]
  resolved := Array.replicate 46 none
  statics := some 0 }

def pool3 : Array CpInfo := pool [(2, .class_ 4), (1, u "java/lang/Object"), (0, u "<init>"), (0, u "()V"), (7, .class_ 16), (1, u "java/util/Arrays"), (57, .class_ 76), (1, u "java/util/Arrays$NaturalOrder"), (36, .class_ 115), (1, u "java/util/Arrays$LegacyMergeSort"), (1, u "Z"), (32, .methodref 151 152), (0, .class_ 153), (0, .nameAndType 154 155), (0, u "java/lang/System"), (0, u "arraycopy"), (0, u "(Ljava/lang/Object;ILjava/lang/Object;II)V"), (146, u "copyOf"), (1, .methodref 305 306), (0, .class_ 307), (0, .nameAndType 308 309), (0, u "java/lang/Math"), (0, u "min"), (0, u "(II)I"), (65, .class_ 376), (0, u "java/util/Arrays$ArrayList"), (68, u "$assertionsDisabled"), (269, u "MIN_ARRAY_SORT_GRAN"), (0, u "I"), (2, u "INSERTIONSORT_THRESHOLD"), (151, u "([II)[I"), (103, .class_ 976), (0, u "java/util/Arrays$ArrayItr")] 52

def k3m0 : Method := { name := "<init>", desc := "()V", sig := { parameters := [], returnType := none }, accessFlags := 2, code := none }
def k3c1 : Code := { maxStack := 6, maxLocals := 3, code := jdk_65_method_123_code, exceptionTable := #[], attributes := #[] }
def k3m1 : Method := { name := "copyOf", desc := "([II)[I", sig := { parameters := [(.array .int), .int], returnType := some (.array .int) }, accessFlags := 9, code := some k3c1 }
/-- java/util/Arrays -/
def k3 : Class := { plain "java/util/Arrays" (some 0) with
  accessFlags := 49
  interfaces := #[]
  cf := some (fileOf pool3 14 #[.nestMembers #[975, 375, 113, 74]] #[{ accessFlags := 2, nameIndex := 5, descriptorIndex := 6, attributes := #[] }, { accessFlags := 9, nameIndex := 302, descriptorIndex := 871, attributes := #[] }] 49 2 #[] #[{ accessFlags := 26, nameIndex := 715, descriptorIndex := 716, attributes := #[] }, { accessFlags := 26, nameIndex := 719, descriptorIndex := 716, attributes := #[] }, { accessFlags := 4120, nameIndex := 445, descriptorIndex := 117, attributes := #[] }])
  fields := #[{ name := "MIN_ARRAY_SORT_GRAN", type := .int, accessFlags := 26, slot := 0, constantValue := 0 }, { name := "INSERTIONSORT_THRESHOLD", type := .int, accessFlags := 26, slot := 1, constantValue := 0 }, { name := "$assertionsDisabled", type := .boolean, accessFlags := 4120, slot := 2, constantValue := 0 }]
  methods := #[k3m0, k3m1]
  instanceTypes := #[]
  staticTypes := #[.int, .int, .boolean]
  resolved := Array.replicate 1029 none
  statics := none }

def pool4 : Array CpInfo := pool [(1, .class_ 2), (0, u "java/lang/Math"), (1, .class_ 6), (1, u "java/lang/Object"), (0, u "<init>"), (0, u "()V"), (89, .class_ 100), (1, u "java/lang/Math$RandomNumberGeneratorHolder"), (71, u "negativeZeroFloatBits"), (0, u "J"), (2, u "negativeZeroDoubleBits"), (24, u "min"), (43, u "$assertionsDisabled"), (0, u "Z"), (88, u "(II)I"), (2, u "twoToTheDoubleScaleDown"), (0, u "D"), (4, u "twoToTheDoubleScaleUp"), (9, u "E"), (3, u "PI"), (2, u "TAU"), (2, u "DEGREES_TO_RADIANS"), (0, u "RADIANS_TO_DEGREES")] 94

def k4m0 : Method := { name := "<init>", desc := "()V", sig := { parameters := [], returnType := none }, accessFlags := 2, code := none }
def k4c1 : Code := { maxStack := 2, maxLocals := 2, code := jdk_29_method_69_code, exceptionTable := #[], attributes := #[] }
def k4m1 : Method := { name := "min", desc := "(II)I", sig := { parameters := [.int, .int], returnType := some .int }, accessFlags := 9, code := some k4c1 }
/-- java/lang/Math -/
def k4 : Class := { plain "java/lang/Math" (some 0) with
  accessFlags := 49
  interfaces := #[]
  cf := some (fileOf pool4 1 #[.nestMembers #[98]] #[{ accessFlags := 2, nameIndex := 7, descriptorIndex := 8, attributes := #[] }, { accessFlags := 9, nameIndex := 201, descriptorIndex := 335, attributes := #[] }] 49 4 #[] #[{ accessFlags := 25, nameIndex := 354, descriptorIndex := 339, attributes := #[] }, { accessFlags := 25, nameIndex := 358, descriptorIndex := 339, attributes := #[] }, { accessFlags := 25, nameIndex := 361, descriptorIndex := 339, attributes := #[] }, { accessFlags := 26, nameIndex := 364, descriptorIndex := 339, attributes := #[] }, { accessFlags := 26, nameIndex := 365, descriptorIndex := 339, attributes := #[] }, { accessFlags := 26, nameIndex := 172, descriptorIndex := 173, attributes := #[] }, { accessFlags := 26, nameIndex := 176, descriptorIndex := 173, attributes := #[] }, { accessFlags := 8, nameIndex := 344, descriptorIndex := 339, attributes := #[] }, { accessFlags := 8, nameIndex := 338, descriptorIndex := 339, attributes := #[] }, { accessFlags := 4120, nameIndex := 245, descriptorIndex := 246, attributes := #[] }])
  fields := #[{ name := "E", type := .double, accessFlags := 25, slot := 0, constantValue := 0 }, { name := "PI", type := .double, accessFlags := 25, slot := 1, constantValue := 0 }, { name := "TAU", type := .double, accessFlags := 25, slot := 2, constantValue := 0 }, { name := "DEGREES_TO_RADIANS", type := .double, accessFlags := 26, slot := 3, constantValue := 0 }, { name := "RADIANS_TO_DEGREES", type := .double, accessFlags := 26, slot := 4, constantValue := 0 }, { name := "negativeZeroFloatBits", type := .long, accessFlags := 26, slot := 5, constantValue := 0 }, { name := "negativeZeroDoubleBits", type := .long, accessFlags := 26, slot := 6, constantValue := 0 }, { name := "twoToTheDoubleScaleUp", type := .double, accessFlags := 8, slot := 7, constantValue := 0 }, { name := "twoToTheDoubleScaleDown", type := .double, accessFlags := 8, slot := 8, constantValue := 0 }, { name := "$assertionsDisabled", type := .boolean, accessFlags := 4120, slot := 9, constantValue := 0 }]
  methods := #[k4m0, k4m1]
  instanceTypes := #[]
  staticTypes := #[.double, .double, .double, .double, .double, .long, .long, .double, .double, .boolean]
  resolved := Array.replicate 460 none
  statics := none }

def pool5 : Array CpInfo := pool [(2, .class_ 4), (1, u "java/lang/Object"), (0, u "<init>"), (0, u "()V"), (1, .class_ 10), (1, u "java/lang/System"), (0, u "allowSecurityManager"), (0, u "I"), (16, u "cons"), (0, u "Ljava/io/Console;"), (77, .class_ 110), (1, u "java/lang/System$CallersHolder"), (43, u "initialErrStream"), (0, u "Ljava/io/PrintStream;"), (19, u "security"), (0, u "Ljava/lang/SecurityManager;"), (31, .class_ 209), (0, u "java/lang/System$1"), (7, u "props"), (0, u "Ljava/util/Properties;"), (2, u "lineSeparator"), (0, u "Ljava/lang/String;"), (96, .class_ 321), (1, u "java/lang/System$LoggerFinder"), (5, .class_ 328), (0, u "java/lang/System$Logger"), (67, u "err"), (2, u "out"), (91, u "notSupportedJnuEncoding"), (15, u "in"), (17, u "initialIn"), (0, u "Ljava/io/InputStream;"), (35, u "bootLayer"), (0, u "Ljava/lang/ModuleLayer;"), (99, .class_ 664), (0, u "java/lang/System$2"), (9, u "NEVER"), (2, u "MAYBE"), (49, u "arraycopy"), (0, u "(Ljava/lang/Object;ILjava/lang/Object;II)V"), (72, .class_ 802), (0, u "java/lang/System$Logger$Level")] 31

def k5m0 : Method := { name := "<init>", desc := "()V", sig := { parameters := [], returnType := none }, accessFlags := 2, code := none }
def k5m1 : Method := { name := "arraycopy", desc := "(Ljava/lang/Object;ILjava/lang/Object;II)V", sig := { parameters := [(.object "java/lang/Object"), .int, (.object "java/lang/Object"), .int, .int], returnType := none }, accessFlags := 265, code := none }
/-- java/lang/System -/
def k5 : Class := { plain "java/lang/System" (some 0) with
  accessFlags := 49
  interfaces := #[]
  cf := some (fileOf pool5 8 #[.nestMembers #[319, 327, 801, 108, 663, 208]] #[{ accessFlags := 2, nameIndex := 5, descriptorIndex := 6, attributes := #[] }, { accessFlags := 265, nameIndex := 727, descriptorIndex := 728, attributes := #[] }] 49 2 #[] #[{ accessFlags := 25, nameIndex := 507, descriptorIndex := 526, attributes := #[] }, { accessFlags := 25, nameIndex := 399, descriptorIndex := 155, attributes := #[] }, { accessFlags := 25, nameIndex := 396, descriptorIndex := 155, attributes := #[] }, { accessFlags := 10, nameIndex := 525, descriptorIndex := 526, attributes := #[] }, { accessFlags := 26, nameIndex := 674, descriptorIndex := 12, attributes := #[] }, { accessFlags := 26, nameIndex := 677, descriptorIndex := 12, attributes := #[] }, { accessFlags := 10, nameIndex := 11, descriptorIndex := 12, attributes := #[] }, { accessFlags := 74, nameIndex := 175, descriptorIndex := 176, attributes := #[] }, { accessFlags := 10, nameIndex := 491, descriptorIndex := 222, attributes := #[] }, { accessFlags := 74, nameIndex := 29, descriptorIndex := 30, attributes := #[] }, { accessFlags := 74, nameIndex := 154, descriptorIndex := 155, attributes := #[] }, { accessFlags := 10, nameIndex := 217, descriptorIndex := 218, attributes := #[] }, { accessFlags := 10, nameIndex := 221, descriptorIndex := 222, attributes := #[] }, { accessFlags := 8, nameIndex := 562, descriptorIndex := 563, attributes := #[] }])
  fields := #[{ name := "in", type := (.object "java/io/InputStream"), accessFlags := 25, slot := 0, constantValue := 0 }, { name := "out", type := (.object "java/io/PrintStream"), accessFlags := 25, slot := 1, constantValue := 0 }, { name := "err", type := (.object "java/io/PrintStream"), accessFlags := 25, slot := 2, constantValue := 0 }, { name := "initialIn", type := (.object "java/io/InputStream"), accessFlags := 10, slot := 3, constantValue := 0 }, { name := "NEVER", type := .int, accessFlags := 26, slot := 4, constantValue := 0 }, { name := "MAYBE", type := .int, accessFlags := 26, slot := 5, constantValue := 0 }, { name := "allowSecurityManager", type := .int, accessFlags := 10, slot := 6, constantValue := 0 }, { name := "security", type := (.object "java/lang/SecurityManager"), accessFlags := 74, slot := 7, constantValue := 0 }, { name := "notSupportedJnuEncoding", type := (.object "java/lang/String"), accessFlags := 10, slot := 8, constantValue := 0 }, { name := "cons", type := (.object "java/io/Console"), accessFlags := 74, slot := 9, constantValue := 0 }, { name := "initialErrStream", type := (.object "java/io/PrintStream"), accessFlags := 74, slot := 10, constantValue := 0 }, { name := "props", type := (.object "java/util/Properties"), accessFlags := 10, slot := 11, constantValue := 0 }, { name := "lineSeparator", type := (.object "java/lang/String"), accessFlags := 10, slot := 12, constantValue := 0 }, { name := "bootLayer", type := (.object "java/lang/ModuleLayer"), accessFlags := 8, slot := 13, constantValue := 0 }]
  methods := #[k5m0, k5m1]
  instanceTypes := #[]
  staticTypes := #[(.object "java/io/InputStream"), (.object "java/io/PrintStream"), (.object "java/io/PrintStream"), (.object "java/io/InputStream"), .int, .int, .int, (.object "java/lang/SecurityManager"), (.object "java/lang/String"), (.object "java/io/Console"), (.object "java/io/PrintStream"), (.object "java/util/Properties"), (.object "java/lang/String"), (.object "java/lang/ModuleLayer")]
  resolved := Array.replicate 834 none
  statics := none }

def pool6 : Array CpInfo := pool [(1, u "java/lang/Cloneable"), (0, .class_ 1), (0, u "java/lang/Object"), (0, .class_ 3)] 3

/-- java/lang/Cloneable -/
def k6 : Class := { plain "java/lang/Cloneable" (some 0) with
  accessFlags := 1537
  interfaces := #[]
  cf := some (fileOf pool6 2 #[] #[] 1537 4 #[] #[])
  fields := #[]
  methods := #[]
  instanceTypes := #[]
  staticTypes := #[]
  resolved := Array.replicate 8 none
  statics := none }

def pool7 : Array CpInfo := pool [(1, u "java/io/Serializable"), (0, .class_ 1), (0, u "java/lang/Object"), (0, .class_ 3)] 3

/-- java/io/Serializable -/
def k7 : Class := { plain "java/io/Serializable" (some 0) with
  accessFlags := 1537
  interfaces := #[]
  cf := some (fileOf pool7 2 #[] #[] 1537 4 #[] #[])
  fields := #[]
  methods := #[]
  instanceTypes := #[]
  staticTypes := #[]
  resolved := Array.replicate 8 none
  statics := none }

/-- the primitive byte -/
def k8 : Class := { plain "byte" none with kind := .primitive 'B', accessFlags := 0x411 }
/-- [B -/
def k9 : Class := { plain "[B" (some 0) with kind := .array 8 .byte, interfaces := #[6, 7], accessFlags := 1041 }

/-- the primitive int -/
def k10 : Class := { plain "int" none with kind := .primitive 'I', accessFlags := 0x411 }
/-- [I -/
def k11 : Class := { plain "[I" (some 0) with kind := .array 10 .int, interfaces := #[6, 7], accessFlags := 1041 }

def heap : Heap := #[{ cls := 2, slots := #[.ref 1], vm := .statics 2 },
  { cls := 11, slots := #[], vm := .none }]
def classes : Array Class := #[k0, k1, k2, k3, k4, k5, k6, k7, k8, k9, k10, k11]
def interned : List (Array UInt16 × Addr) := []
def slotsUsed : Nat := 1
def theMethod : MethodId := ⟨1, 2⟩
def args0 : Array Value := #[.int 5, .int 4, .int 3, .int 2, .int 1, .int 7]
def aboutOver (below : List Frame) : State where
  vm := { classes := classes, interned := interned.toArray }
  heap := heap
  slotsUsed := slotsUsed
  threads := #[{ frames := .invoking theMethod args0 :: below }]
def below0 : List Frame := [.native { method := ⟨0, 0⟩, args := #[] }]
def about1 : State := aboutOver below0
def p0 : Program := .bare "" "" ""
def e0 : Env := launch0.env 0 0 0
theorem w_frames : about1.frames = Frame.invoking theMethod args0 :: below0 := rfl
set_option maxRecDepth 65536 in
theorem w_args : argsFit about1.vm theMethod args0 = true := by decide +kernel
set_option maxRecDepth 65536 in
theorem w_heap : heapFits about1 = true := by decide +kernel
set_option maxRecDepth 65536 in
theorem w_runnable : about1.curStatus? = some .runnable := by decide +kernel
set_option maxRecDepth 65536 in
theorem w_alone : about1.alone = true := by decide +kernel
set_option maxRecDepth 65536 in
theorem w_named : about1.methodNamed? x = some theMethod := by decide +kernel
set_option maxRecDepth 65536 in
theorem w_hears : about1.hears theMethod below0 = true := by decide +kernel
set_option maxRecDepth 65536 in
theorem w_ripe : about1.ripe theMethod args0 below0 = true := by decide +kernel
theorem w_running : about1.status = .running := rfl
set_option maxRecDepth 65536 in
theorem w_room : about1.hasRoom e0.platform room_1 = true :=
  launch0.hasRoom_least _ room_1 (by decide +kernel) (by decide +kernel) (by decide +kernel) (by decide +kernel) (by decide +kernel) (by decide +kernel)
theorem allAtoms_all (ts : List Jvm.Cond) (a : Array Jvm.Value) (st : Jvm.State) : (allAtoms ts).before a st = ts.all (fun c => c.before a st) := by
  induction ts with
  | nil => rfl
  | cons c t ih =>
    show (Jvm.Cond.and c (allAtoms t)).before a st = _
    rw [Jvm.Cond.before_and, ih, List.all_cons]
def words1 : List Jvm.Cond := Jvm.Cond.code x code maxLocals ret :: tables_1
/-- a 'code' word, met by the world's own term for the bytes: nothing is compared byte by byte -/
theorem code_word {y : MethodName} {bytes : ByteArray} {mx : Nat} {rt : Option FieldType} {a : Array Value} {s : State} {m : MethodId} {meth : Method} {c : Code} (h1 : s.methodNamed? y = some m) (h2 : s.vm.method? m = some meth) (h3 : meth.code = some c) (h4 : c.code = bytes)
    (h5 : (c.maxLocals == mx && c.exceptionTable.isEmpty && decide (c.maxStack ≤ mostOperands) && decide (meth.sig.returnType = rt) && !meth.locks && decide (parseMethodDescriptor y.desc = some meth.sig)) = true) : (Jvm.Cond.code y bytes mx rt).before a s = true := by
  simp only [Bool.and_eq_true, beq_iff_eq, Bool.not_eq_true', decide_eq_true_eq] at h5
  obtain ⟨⟨⟨⟨⟨g1, g2⟩, g3⟩, g4⟩, g5⟩, g6⟩ := h5
  simp [Cond.before, Cond.holds, Cond.value, h1, h2, h3, h4, g1, g2, g3, g4, g5, g6]
def isCode : Jvm.Cond → Bool
  | .code _ _ _ _ => true
  | _ => false
theorem all_split {L : List Jvm.Cond} {P : Jvm.Cond → Bool} (h1 : L.all (fun c => isCode c || P c) = true) (h2 : ∀ c ∈ L.filter isCode, P c = true) : L.all P = true := by
  refine List.all_eq_true.mpr fun c hc => ?_
  have h := List.all_eq_true.mp h1 c hc
  rcases Bool.eq_false_or_eq_true (isCode c) with hi | hi
  · exact h2 c (List.mem_filter.mpr ⟨hc, hi⟩)
  · simpa [hi] using h
set_option maxRecDepth 65536 in
theorem w_c0 : (Jvm.Cond.code x code maxLocals ret).before args0 about1 = true := code_word (m := ⟨1, 2⟩) (meth := k1m2) (c := k1c2) (by decide +kernel) rfl rfl rfl (by decide +kernel)
set_option maxRecDepth 65536 in
theorem w_c1 : (Jvm.Cond.code ({ cls := "com/example/clear_plan/clearplan/grounding/FactList", name := "<init>", desc := "()V" } : Jvm.MethodName) prog_15_method_1_code (1 : Nat) (Option.none : Option Jvm.ClassFile.FieldType)).before args0 about1 = true := code_word (m := ⟨2, 0⟩) (meth := k2m0) (c := k2c0) (by decide +kernel) rfl rfl rfl (by decide +kernel)
set_option maxRecDepth 65536 in
theorem w_c2 : (Jvm.Cond.code ({ cls := "java/lang/Object", name := "<init>", desc := "()V" } : Jvm.MethodName) object_method_1_code (1 : Nat) (Option.none : Option Jvm.ClassFile.FieldType)).before args0 about1 = true := code_word (m := ⟨0, 0⟩) (meth := k0m0) (c := k0c0) (by decide +kernel) rfl rfl rfl (by decide +kernel)
set_option maxRecDepth 65536 in
theorem w_c3 : (Jvm.Cond.code ({ cls := "com/example/clear_plan/clearplan/grounding/FactList", name := "truncate", desc := "(I)V" } : Jvm.MethodName) prog_15_method_6_code (2 : Nat) (Option.none : Option Jvm.ClassFile.FieldType)).before args0 about1 = true := code_word (m := ⟨2, 2⟩) (meth := k2m2) (c := k2c2) (by decide +kernel) rfl rfl rfl (by decide +kernel)
set_option maxRecDepth 65536 in
theorem w_c4 : (Jvm.Cond.code ({ cls := "com/example/clear_plan/clearplan/grounding/FactList", name := "indexOf", desc := "(I)I" } : Jvm.MethodName) prog_15_method_7_code (3 : Nat) (Option.some Jvm.ClassFile.FieldType.int)).before args0 about1 = true := code_word (m := ⟨2, 3⟩) (meth := k2m3) (c := k2c3) (by decide +kernel) rfl rfl rfl (by decide +kernel)
set_option maxRecDepth 65536 in
theorem w_c5 : (Jvm.Cond.code ({ cls := "com/example/clear_plan/clearplan/grounding/FactListIndexOfPinLaw", name := "expected", desc := "([III)I" } : Jvm.MethodName) method_2_code (3 : Nat) (Option.some Jvm.ClassFile.FieldType.int)).before args0 about1 = true := code_word (m := ⟨1, 1⟩) (meth := k1m1) (c := k1c1) (by decide +kernel) rfl rfl rfl (by decide +kernel)
set_option maxRecDepth 65536 in
theorem w_c6 : (Jvm.Cond.code ({ cls := "com/example/clear_plan/clearplan/grounding/FactList", name := "add", desc := "(I)V" } : Jvm.MethodName) prog_15_method_5_code (2 : Nat) (Option.none : Option Jvm.ClassFile.FieldType)).before args0 about1 = true := code_word (m := ⟨2, 1⟩) (meth := k2m1) (c := k2c1) (by decide +kernel) rfl rfl rfl (by decide +kernel)
set_option maxRecDepth 65536 in
theorem w_c7 : (Jvm.Cond.code ({ cls := "java/util/Arrays", name := "copyOf", desc := "([II)[I" } : Jvm.MethodName) jdk_65_method_123_code (3 : Nat) (Option.some (Jvm.ClassFile.FieldType.array Jvm.ClassFile.FieldType.int))).before args0 about1 = true := code_word (m := ⟨3, 1⟩) (meth := k3m1) (c := k3c1) (by decide +kernel) rfl rfl rfl (by decide +kernel)
set_option maxRecDepth 65536 in
theorem w_c8 : (Jvm.Cond.code ({ cls := "java/lang/Math", name := "min", desc := "(II)I" } : Jvm.MethodName) jdk_29_method_69_code (2 : Nat) (Option.some Jvm.ClassFile.FieldType.int)).before args0 about1 = true := code_word (m := ⟨4, 1⟩) (meth := k4m1) (c := k4c1) (by decide +kernel) rfl rfl rfl (by decide +kernel)
def codes1 : List Jvm.Cond := [Jvm.Cond.code x code maxLocals ret, Jvm.Cond.code ({ cls := "com/example/clear_plan/clearplan/grounding/FactList", name := "<init>", desc := "()V" } : Jvm.MethodName) prog_15_method_1_code (1 : Nat) (Option.none : Option Jvm.ClassFile.FieldType), Jvm.Cond.code ({ cls := "java/lang/Object", name := "<init>", desc := "()V" } : Jvm.MethodName) object_method_1_code (1 : Nat) (Option.none : Option Jvm.ClassFile.FieldType), Jvm.Cond.code ({ cls := "com/example/clear_plan/clearplan/grounding/FactList", name := "truncate", desc := "(I)V" } : Jvm.MethodName) prog_15_method_6_code (2 : Nat) (Option.none : Option Jvm.ClassFile.FieldType), Jvm.Cond.code ({ cls := "com/example/clear_plan/clearplan/grounding/FactList", name := "indexOf", desc := "(I)I" } : Jvm.MethodName) prog_15_method_7_code (3 : Nat) (Option.some Jvm.ClassFile.FieldType.int), Jvm.Cond.code ({ cls := "com/example/clear_plan/clearplan/grounding/FactListIndexOfPinLaw", name := "expected", desc := "([III)I" } : Jvm.MethodName) method_2_code (3 : Nat) (Option.some Jvm.ClassFile.FieldType.int), Jvm.Cond.code ({ cls := "com/example/clear_plan/clearplan/grounding/FactList", name := "add", desc := "(I)V" } : Jvm.MethodName) prog_15_method_5_code (2 : Nat) (Option.none : Option Jvm.ClassFile.FieldType), Jvm.Cond.code ({ cls := "java/util/Arrays", name := "copyOf", desc := "([II)[I" } : Jvm.MethodName) jdk_65_method_123_code (3 : Nat) (Option.some (Jvm.ClassFile.FieldType.array Jvm.ClassFile.FieldType.int)), Jvm.Cond.code ({ cls := "java/lang/Math", name := "min", desc := "(II)I" } : Jvm.MethodName) jdk_29_method_69_code (2 : Nat) (Option.some Jvm.ClassFile.FieldType.int)]
set_option maxRecDepth 65536 in
theorem codes_eq : words1.filter isCode = codes1 := rfl
theorem w_codes : ∀ c ∈ words1.filter isCode, c.before args0 about1 = true := by
  rw [codes_eq]
  intro c hc
  simp only [codes1, List.mem_cons, List.not_mem_nil, or_false] at hc
  rcases hc with rfl | rfl | rfl | rfl | rfl | rfl | rfl | rfl | rfl
  · exact w_c0
  · exact w_c1
  · exact w_c2
  · exact w_c3
  · exact w_c4
  · exact w_c5
  · exact w_c6
  · exact w_c7
  · exact w_c8
set_option maxRecDepth 65536 in
theorem w_t1 : (words1.take 24).all (fun c => isCode c || c.before args0 about1) = true := by decide +kernel
set_option maxRecDepth 65536 in
theorem w_t2 : ((words1.drop 24).take 24).all (fun c => isCode c || c.before args0 about1) = true := by decide +kernel
set_option maxRecDepth 65536 in
theorem w_t3 : ((words1.drop 24).drop 24).all (fun c => isCode c || c.before args0 about1) = true := by decide +kernel
theorem w_tables : (allAtoms (Jvm.Cond.code x code maxLocals ret :: tables_1)).before args0 about1 = true := by
  rw [allAtoms_all]
  show words1.all (fun c => c.before args0 about1) = true
  refine all_split ?_ w_codes
  rw [← List.take_append_drop 24 words1, List.all_append, w_t1, ← List.take_append_drop 24 (words1.drop 24), List.all_append, w_t2, w_t3]
  rfl
set_option maxRecDepth 65536 in
theorem w_case : (Jvm.Cond.and given_1 narrow_1).before args0 about1 = true := by decide +kernel
theorem w_applies : (headSpec (Jvm.Cond.code x code maxLocals ret :: tables_1) room_1).applies x e0.platform about1 = true :=
  (Spec.applies_iff w_frames).mpr ⟨w_running, w_runnable, w_alone, w_named, w_hears, w_ripe, w_room, w_tables⟩
theorem atStart : AtStart classFile x code maxLocals ret World_1 tables_1 room_1 Calls_1 rest_1 Pre_1 launch0 p0 e0 about1 theMethod args0 below0 :=
  ⟨lists_1, trivial, launch0.admits_env _ _ _, launch0.least_env, fairChoices_fair.cas, fairChoices_fair.clock, w_frames, w_args, w_heap, w_applies, trivial, trivial, w_case⟩
end start1
theorem witness_1 : WitnessClaimed_1 := ⟨start1.p0, start1.e0, start1.about1, start1.theMethod, start1.args0, start1.below0, start1.atStart⟩
end Jvm.Pilot.@@N@@
