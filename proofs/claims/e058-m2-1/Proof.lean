import JvmDerived
import JvmDerived.Pilot.@@N@@Statement
import JvmDerived.Pilot.@@N@@Code
set_option linter.unusedVariables false
set_option linter.unusedSimpArgs false
@@BLOCK:NumsL.lean.txt@@
namespace Jvm.Pilot.@@N@@
open Jvm Jvm.ClassFile Sem Op Lib Jvm.Free Jvm.Stand Jvm.LawKit Jvm.RoadKit Bundle Jvm.Pilot.@@N@@.Jvm.D
/-! The own kit: a walk forwards. 'Goes .. S': from S the body runs to its end, and Q holds there. -/
def Goes (p : Program) (e : Env) (below : List Frame) (P : Outcome → State → Prop) (S : State) : Prop :=
  ∃ s₂ o, Steps p.tables e below S s₂ ∧ s₂.status = .running ∧ Ended s₂ below o ∧ P o s₂
abbrev EndQ (s : State) (Q : Option Value → Heap → List Loc → Prop) (k n : Nat) : Outcome → State → Prop := fun o U => ∃ v L, o = .returned v ∧ Q v U.heap L ∧ FrameEnd s o U L k n
abbrev Ctr (l : Launch) (Z : State) (y : MethodName) (bytes : ByteArray) (maxL : Nat) (ret : Option FieldType) (ws : List Jvm.Cond) (rm : Room) (as' : Array Value) (h0 : Heap) (Q : Option Value → Heap → List Loc → Prop) : Prop :=
  MetFree l y (head1 (Jvm.Cond.code y bytes maxL ret :: ws) rm) (fun a U => a = as' ∧ Z.Warmed39 U.vm ∧ U.heap = h0) (fun _ _ _ _ _ => True) (fun _ U o U' => ∃ v L, o = .returned v ∧ Q v U'.heap L ∧ FrameEnd U o U' L rm.cells rm.slots)
abbrev CtrW (l : Launch) (Z : State) (y : MethodName) (bytes : ByteArray) (maxL : Nat) (ret : Option FieldType) (ws : List Jvm.Cond) (rm : Room) (as' : Array Value) (h0 : Heap) (Q : Option Value → Heap → List Loc → Prop) : Prop :=
  MetFree l y (head1 (Jvm.Cond.code y bytes maxL ret :: ws) rm) (fun a U => a = as' ∧ Z.Warmed39 U.vm ∧ U.heap = h0 ∧ U.vm = Z.vm) (fun _ _ _ _ _ => True) (fun _ U o U' => ∃ v L, o = .returned v ∧ Q v U'.heap L ∧ ReturnedEndW U o U' L rm.cells rm.slots)
section Own
variable {p : Program} {l : Launch} {e : Env} {R : Room} {s : State} {m : MethodId} {args : Array Value} {below : List Frame} {meth : Method} {c : Code} {T : State} {locs : List Loc} {cells slots : Nat} {Z : State} {a0 : Array Value} {h : Heap}
variable {Q : Option Value → Heap → List Loc → Prop} {k n : Nat} {S S' : State} {P : Outcome → State → Prop}
theorem Goes.pre (hs : ∀ t, Steps p.tables e below S' t → Steps p.tables e below S t) (g : Goes p e below P S') : Goes p e below P S := by
  obtain ⟨s₂, o, a, b⟩ := g
  exact ⟨s₂, o, hs _ a, b⟩
theorem Goes.via (hs : Steps p.tables e below S S') (g : Goes p e below P S') : Goes p e below P S := by
  obtain ⟨s₂, o, a, b⟩ := g
  exact ⟨s₂, o, hs.trans a, b⟩
theorem Goes.out (X : Stand p l e R s m args below meth c T locs cells slots) {v : Option Value} (hv : meth.sig.returnType = none → v = none) (hlocks : meth.locks = false) (hq : Q v T.heap locs) (hk : cells ≤ k) (hn : slots ≤ n)
    (hs : ∀ fs, (∀ (f : JFrame) (acts : List Action), f.method = m → f.locked = none → f.entered = [] → (doReturn e (T.setTop f) acts v).1 = T.setFrames fs) → Steps p.tables e below S (T.setFrames fs)) : Goes p e below (EndQ s Q k n) S := by
  obtain ⟨fs, hr, hrun, hended, hW, hsame⟩ := X.leave (v := v) hv hlocks
  exact ⟨_, _, hs fs hr, hrun, hended, _, _, rfl, hq, ⟨_, rfl⟩, hW, hsame.mono hk hn⟩
/-- ireturn of a boolean, byte, char, short -/
theorem Goes.retN (X : Stand p l e R s m args below meth c T locs cells slots) (hx : p.tables.exec = Jvm.exec) (hlocks : meth.locks = false) {t : FieldType} (hret : meth.sig.returnType = some t) (ht : t = .boolean ∨ t = .byte ∨ t = .char ∨ t = .short) {pc : Nat} (hd : decode c.code pc = .ok (.ireturn, 1)) {Ls : Array Slot} {z : Int32} {rest : List Value}
    (hq : Q (some (.int (nar t z))) T.heap locs) (hk : cells ≤ k) (hn : slots ≤ n) : Goes p e below (EndQ s Q k n) (T.setTop (mkF m pc Ls (.int z :: rest))) :=
  Goes.out X (v := some (.int (nar t z))) (fun q => by rw [hret] at q; cases q) hlocks hq hk hn fun _ hr => Jvm.RoadKit.retN X hx (t := t) hret ht hd hr
/-- ireturn of an int, areturn, lreturn -/
theorem Goes.ret (X : Stand p l e R s m args below meth c T locs cells slots) (hx : p.tables.exec = Jvm.exec) (hlocks : meth.locks = false) {t : FieldType} (hret : meth.sig.returnType = some t) {w : Value} (hnw : narrow t w = w) {i : Instr}
    (hi : (i = .ireturn ∧ (t = .int ∨ t = .boolean ∨ t = .byte ∨ t = .char ∨ t = .short) ∧ ∃ z, w = .int z) ∨ (i = .lreturn ∧ t = .long ∧ ∃ z, w = .long z) ∨ (i = .dreturn ∧ t = .double ∧ ∃ z, w = .double z) ∨ (i = .freturn ∧ t = .float ∧ ∃ z, w = .float z) ∨ (i = .areturn ∧ t.isReference = true ∧ w.isRef = true))
    {pc : Nat} (hd : decode c.code pc = .ok (i, 1)) {Ls : Array Slot} {rest : List Value}
    (hq : Q (some w) T.heap locs) (hk : cells ≤ k) (hn : slots ≤ n) : Goes p e below (EndQ s Q k n) (T.setTop (mkF m pc Ls (w :: rest))) :=
  Goes.out X (v := some w) (fun q => by rw [hret] at q; cases q) hlocks hq hk hn fun _ hr => retOut X hx hret hnw hi hd hr
theorem Goes.retV (X : Stand p l e R s m args below meth c T locs cells slots) (hx : p.tables.exec = Jvm.exec) (hlocks : meth.locks = false) (hret : meth.sig.returnType = none) {pc : Nat} (hd : decode c.code pc = .ok (.return_, 1)) {Ls : Array Slot}
    (hq : Q none T.heap locs) (hk : cells ≤ k) (hn : slots ≤ n) : Goes p e below (EndQ s Q k n) (T.setTop (mkF m pc Ls [])) :=
  Goes.out X (v := none) (fun _ => rfl) hlocks hq hk hn fun _ hr => X.returnOut hx hret hd hr
/-- the end of a walk that may have interned -/
abbrev EndW (s : State) (Q : Option Value → Heap → List Loc → Prop) (k n : Nat) : Outcome → State → Prop := fun o U => ∃ v L, o = .returned v ∧ Q v U.heap L ∧ ReturnedEndW s o U L k n
theorem Goes.retNW {vm₁ : Vm} (X : Stand p l e R (s.setVm vm₁) m args below meth c T locs cells slots) {j : Nat} (hS : s.Since vm₁ j) (hj : j ≤ T.heap.size) (hx : p.tables.exec = Jvm.exec) (hlocks : meth.locks = false) {t : FieldType} (hret : meth.sig.returnType = some t) (ht : t = .boolean ∨ t = .byte ∨ t = .char ∨ t = .short) {pc : Nat} (hd : decode c.code pc = .ok (.ireturn, 1)) {Ls : Array Slot} {z : Int32} {rest : List Value}
    (hq : Q (some (.int (nar t z))) T.heap locs) (hk : cells ≤ k) (hn : slots ≤ n) : Goes p e below (EndW s Q k n) (T.setTop (mkF m pc Ls (.int z :: rest))) := by
  obtain ⟨fs, hr, hrun, hended, h1, h2, h3, h4⟩ := X.leaveW hS hj (v := some (.int (nar t z))) (fun q => by rw [hret] at q; cases q) hlocks
  exact ⟨_, _, Jvm.RoadKit.retN X hx (t := t) hret ht hd hr, hrun, hended, _, _, rfl, hq, h1, h2, h3, h4.mono hk hn⟩
/-- a static call by its contract -/
theorem Goes.callS {y : MethodName} {bytes : ByteArray} {maxL : Nat} {ret : Option FieldType} {rm : Room} {as' : Array Value} {Qc : Option Value → Heap → List Loc → Prop}
    (X : Stand p l e R s m args below meth c T locs cells slots) (hx : p.tables.exec = Jvm.exec) (hZ : Z.Warmed39 s.vm) {own : String} {index : Nat} (hown : s.vm.findClass own = some m.cls)
    (w1 : (Jvm.Cond.methodLink own index y).before a0 Z = true) (w2 : (Jvm.Cond.static y).before a0 Z = true) (w3 : (Jvm.Cond.initialized y.cls).before a0 Z = true) (w4 : (Jvm.Cond.code y bytes maxL ret).before a0 Z = true)
    (hy : y.cls ≠ "java/lang/invoke/MethodHandle" ∧ y.cls ≠ "java/lang/invoke/VarHandle") (eT : T.heap = h) (hM : Ctr l Z y bytes maxL ret [] rm as' h Qc)
    {pc : Nat} {Ls : Array Slot} {stk : List Value} (hsize : Ls.size = c.maxLocals) (argsL rest : List Value) {ps : List FieldType} {r : Option FieldType} (hpd : parseMethodDescriptor y.desc = some ⟨ps, r⟩) (hlen : argsL.length = ps.length)
    (hstk : stk = argsL.reverse ++ rest) (has : argsL.toArray = as') (hd : decode c.code pc = .ok (.invokestatic index, 3))
    (hf : rm.frames + 1 ≤ R.frames) (hl : (rest.map fun v => v.category).sum + (maxL + 11) + rm.locals ≤ R.locals) (hc : cells + rm.cells ≤ R.cells) (hs : slots + rm.slots ≤ R.slots)
    (g : ∀ (T' : State) (v : Option Value) (L : List Loc), Stand p l e R s m args below meth c T' (locs ++ L) (cells + rm.cells) (slots + rm.slots) → Qc v T'.heap L → Goes p e below P (T'.setTop (mkF m (pc + 3) Ls (v.toList ++ rest)))) :
    Goes p e below P (T.setTop (mkF m pc Ls stk)) := by
  subst has
  obtain ⟨v, _, ⟨T', L', k', n'⟩, -, X', ⟨Lc, hQ, l1, l2, l3⟩, st⟩ := Jvm.LawKit.callS X hx (y := y) hown (mvT hZ w1) (mvT hZ w2) (mvT hZ w3) (mvT hZ w4) hy (backOf (W := (rest.map fun v => v.category).sum) hM hZ w4 w3 hf hl) (g := mkF m pc Ls stk) rfl hsize (argsL := argsL) (rest := rest) (lenOf hpd hlen) hstk (by show 2 * 0 + _ ≤ _; omega) hd (fun _ _ => ⟨rfl, eT, hc, hs⟩)
  dsimp only [Pt.U, Pt.locs, Pt.cells, Pt.slots] at X' l1 l2 l3 st hQ
  subst l1 l2 l3
  exact Goes.pre st (g T' v Lc X' hQ)
/-- a constructor by its contract -/
theorem Goes.init {y : MethodName} {bytes : ByteArray} {maxL : Nat} {rm : Room} {as' : Array Value} {Qc : Option Value → Heap → List Loc → Prop}
    (X : Stand p l e R s m args below meth c T locs cells slots) (hx : p.tables.exec = Jvm.exec) (hZ : Z.Warmed39 s.vm) {own : String} {index : Nat} (hown : s.vm.findClass own = some m.cls) (hnm : y.name = "<init>")
    (w1 : (Jvm.Cond.methodLink own index y).before a0 Z = true) (w2 : (Jvm.Cond.instanceMethod y).before a0 Z = true) (w3 : (Jvm.Cond.initialized y.cls).before a0 Z = true) (w4 : (Jvm.Cond.code y bytes maxL none).before a0 Z = true)
    (hy : y.cls ≠ "java/lang/invoke/MethodHandle" ∧ y.cls ≠ "java/lang/invoke/VarHandle") (eT : T.heap = h) (hM : Ctr l Z y bytes maxL none [] rm as' h Qc)
    {pc : Nat} {Ls : Array Slot} {stk : List Value} (hsize : Ls.size = c.maxLocals) (a : Addr) (argsL rest : List Value) {ps : List FieldType} {r : Option FieldType} (hpd : parseMethodDescriptor y.desc = some ⟨ps, r⟩) (hlen : argsL.length = ps.length)
    (hstk : stk = argsL.reverse ++ .ref a :: rest) (has : (.ref a :: argsL).toArray = as') (hd : decode c.code pc = .ok (.invokespecial index, 3))
    (hf : rm.frames + 1 ≤ R.frames) (hl : (rest.map fun v => v.category).sum + (maxL + 11) + rm.locals ≤ R.locals) (hc : cells + rm.cells ≤ R.cells) (hs : slots + rm.slots ≤ R.slots)
    (g : ∀ (T' : State) (v : Option Value) (L : List Loc), Stand p l e R s m args below meth c T' (locs ++ L) (cells + rm.cells) (slots + rm.slots) → Qc v T'.heap L → Goes p e below P (T'.setTop (mkF m (pc + 3) Ls (v.toList ++ rest)))) :
    Goes p e below P (T.setTop (mkF m pc Ls stk)) := by
  subst has
  obtain ⟨v, _, ⟨T', L', k', n'⟩, -, X', ⟨Lc, hQ, l1, l2, l3⟩, st⟩ := X.specialBack hx (y := y) hnm hown (mvT hZ w1) (mvT hZ w2) (mvT hZ w4) hy (backOf (W := (rest.map fun v => v.category).sum) hM hZ w4 w3 hf hl) (g := mkF m pc Ls stk) rfl hsize (Steps.refl _) (a := a) (argsL := argsL) (rest := rest) (lenOf hpd hlen) hstk (by show 2 * 0 + _ ≤ _; omega) hd (fun _ _ => ⟨rfl, eT, hc, hs⟩)
  dsimp only [Pt.U, Pt.locs, Pt.cells, Pt.slots] at X' l1 l2 l3 st hQ
  subst l1 l2 l3
  exact Goes.via st (g T' v Lc X' hQ)
/-- an instance method by its contract -/
theorem Goes.callV {y : MethodName} {C : String} {bytes : ByteArray} {maxL : Nat} {ret : Option FieldType} {rm : Room} {as' : Array Value} {Qc : Option Value → Heap → List Loc → Prop}
    (X : Stand p l e R s m args below meth c T locs cells slots) (hx : p.tables.exec = Jvm.exec) (hZ : Z.Warmed39 s.vm) {own : String} {index : Nat} (hown : s.vm.findClass own = some m.cls)
    (w1 : (Jvm.Cond.methodLink own index y).before a0 Z = true) (w2 : (Jvm.Cond.declares y).before a0 Z = true) (w5 : (Jvm.Cond.selects C y y).before a0 Z = true) (w6 : (Jvm.Cond.instanceMethod y).before a0 Z = true) (w3 : (Jvm.Cond.initialized y.cls).before a0 Z = true) (w4 : (Jvm.Cond.code y bytes maxL ret).before a0 Z = true)
    (hy : y.cls ≠ "java/lang/invoke/MethodHandle" ∧ y.cls ≠ "java/lang/invoke/VarHandle") (eT : T.heap = h) {a : Addr} (E : Exa Z h a C) (hM : Ctr l Z y bytes maxL ret [] rm as' h Qc)
    {pc : Nat} {Ls : Array Slot} {stk : List Value} (hsize : Ls.size = c.maxLocals) (argsL rest : List Value) {ps : List FieldType} {r : Option FieldType} (hpd : parseMethodDescriptor y.desc = some ⟨ps, r⟩) (hlen : argsL.length = ps.length)
    (hstk : stk = argsL.reverse ++ .ref a :: rest) (has : (.ref a :: argsL).toArray = as') (hd : decode c.code pc = .ok (.invokevirtual index, 3))
    (hf : rm.frames + 1 ≤ R.frames) (hl : (rest.map fun v => v.category).sum + (maxL + 11) + rm.locals ≤ R.locals) (hc : cells + rm.cells ≤ R.cells) (hs : slots + rm.slots ≤ R.slots)
    (g : ∀ (T' : State) (v : Option Value) (L : List Loc), Stand p l e R s m args below meth c T' (locs ++ L) (cells + rm.cells) (slots + rm.slots) → Qc v T'.heap L → Goes p e below P (T'.setTop (mkF m (pc + 3) Ls (v.toList ++ rest)))) :
    Goes p e below P (T.setTop (mkF m pc Ls stk)) := by
  subst has
  obtain ⟨cB, kB, q1, -, q3⟩ := isOf hZ eT E
  obtain ⟨v, _, ⟨T', L', k', n'⟩, -, X', ⟨Lc, hQ, l1, l2, l3⟩, st⟩ := X.virtualBack hx (y := y) (z := y) hown (mvT hZ w1) (mvT hZ w2) (notFace_of_selects (args := #[]) (mvT hZ w5)) (mvT hZ w5) (mvT hZ w6) hy (backOf (W := (rest.map fun v => v.category).sum) hM hZ w4 w3 hf hl) q1 q3 (g := mkF m pc Ls stk) rfl hsize (Steps.refl _) (argsL := argsL) (rest := rest) (lenOf hpd hlen) hstk (by show 2 * 0 + _ ≤ _; omega) hd (fun _ _ => ⟨rfl, eT, hc, hs⟩)
  dsimp only [Pt.U, Pt.locs, Pt.cells, Pt.slots] at X' l1 l2 l3 st hQ
  subst l1 l2 l3
  exact Goes.via st (g T' v Lc X' hQ)
theorem Goes.iaload (X : Stand p l e R s m args below meth c T locs cells slots) (hx : p.tables.exec = Jvm.exec) (hZ : Z.Warmed39 s.vm) (eT : T.heap = h) {a : Addr} {kc : ClassId} {z : Int32} {vs : List Value} {dv : Value} (V : Arv Z h a kc .int z vs dv) {j : Int32} (hj : ¬ j < 0 ∧ j < z) {w : Value} (hw : vs.getD j.toNatClampNeg dv = w)
    {pc : Nat} {Ls : Array Slot} {rest : List Value} (hd : decode c.code pc = .ok (.iaload, 1)) (g : Goes p e below P (T.setTop (mkF m (pc + 1) Ls (w :: rest)))) : Goes p e below P (T.setTop (mkF m pc Ls (.int j :: .ref a :: rest))) := by
  obtain ⟨cl, A, -, S, -, H, -⟩ := V
  exact Goes.pre (fun t kk => X.iaload hx (by rw [eT]; exact A.1) (State.isArrayOf_alike hZ.alike A.2.1) A.2.2 (inb_of S hj) (H.at (inb_of S hj) hw) (g := mkF m pc Ls (.int j :: .ref a :: rest)) rfl rfl hd t kk) g
theorem Goes.baloadZ (X : Stand p l e R s m args below meth c T locs cells slots) (hx : p.tables.exec = Jvm.exec) (hZ : Z.Warmed39 s.vm) (eT : T.heap = h) {a : Addr} {kc : ClassId} {z : Int32} {vs : List Value} {dv : Value} (V : Arv Z h a kc .boolean z vs dv) {j : Int32} (hj : ¬ j < 0 ∧ j < z) {w : Value} (hw : vs.getD j.toNatClampNeg dv = w)
    {pc : Nat} {Ls : Array Slot} {rest : List Value} (hd : decode c.code pc = .ok (.baload, 1)) (g : Goes p e below P (T.setTop (mkF m (pc + 1) Ls (w :: rest)))) : Goes p e below P (T.setTop (mkF m pc Ls (.int j :: .ref a :: rest))) := by
  obtain ⟨cl, A, -, S, -, H, -⟩ := V
  exact Goes.pre (fun t kk => X.baloadBooleans hx (by rw [eT]; exact A.1) (State.isArrayOf_alike hZ.alike A.2.1) A.2.2 (inb_of S hj) (H.at (inb_of S hj) hw) (g := mkF m pc Ls (.int j :: .ref a :: rest)) rfl rfl hd t kk) g
theorem Goes.baloadB (X : Stand p l e R s m args below meth c T locs cells slots) (hx : p.tables.exec = Jvm.exec) (hZ : Z.Warmed39 s.vm) (eT : T.heap = h) {a : Addr} {kc : ClassId} {z : Int32} {vs : List Value} {dv : Value} (V : Arv Z h a kc .byte z vs dv) {j : Int32} (hj : ¬ j < 0 ∧ j < z) {w : Value} (hw : vs.getD j.toNatClampNeg dv = w)
    {pc : Nat} {Ls : Array Slot} {rest : List Value} (hd : decode c.code pc = .ok (.baload, 1)) (g : Goes p e below P (T.setTop (mkF m (pc + 1) Ls (w :: rest)))) : Goes p e below P (T.setTop (mkF m pc Ls (.int j :: .ref a :: rest))) := by
  obtain ⟨cl, A, -, S, -, H, -⟩ := V
  exact Goes.pre (fun t kk => X.baloadBytes hx (by rw [eT]; exact A.1) (State.isArrayOf_alike hZ.alike A.2.1) A.2.2 (inb_of S hj) (H.at (inb_of S hj) hw) (g := mkF m pc Ls (.int j :: .ref a :: rest)) rfl rfl hd t kk) g
theorem Goes.aaload (X : Stand p l e R s m args below meth c T locs cells slots) (hx : p.tables.exec = Jvm.exec) (hZ : Z.Warmed39 s.vm) (eT : T.heap = h) {a : Addr} {kc : ClassId} {ty : FieldType} (hty : ty.isReference = true) {z : Int32} {vs : List Value} {dv : Value} (V : Arv Z h a kc ty z vs dv) {j : Int32} (hj : ¬ j < 0 ∧ j < z) {w : Value} (hw : vs.getD j.toNatClampNeg dv = w)
    {pc : Nat} {Ls : Array Slot} {rest : List Value} (hd : decode c.code pc = .ok (.aaload, 1)) (g : Goes p e below P (T.setTop (mkF m (pc + 1) Ls (w :: rest)))) : Goes p e below P (T.setTop (mkF m pc Ls (.int j :: .ref a :: rest))) := by
  obtain ⟨cl, A, -, S, -, H, -⟩ := V
  exact Goes.pre (fun t kk => X.aaload hx (by rw [eT]; exact A.1) (State.isArrayOf_alike hZ.alike A.2.1) hty A.2.2 (inb_of S hj) (H.at (inb_of S hj) hw) (g := mkF m pc Ls (.int j :: .ref a :: rest)) rfl rfl hd t kk) g
theorem Goes.alen (X : Stand p l e R s m args below meth c T locs cells slots) (hx : p.tables.exec = Jvm.exec) (hZ : Z.Warmed39 s.vm) (eT : T.heap = h) {a : Addr} {kc : ClassId} {ty : FieldType} {z : Int32} {vs : List Value} {dv : Value} (V : Arv Z h a kc ty z vs dv)
    {pc : Nat} {Ls : Array Slot} {rest : List Value} (hd : decode c.code pc = .ok (.arraylength, 1)) (g : Goes p e below P (T.setTop (mkF m (pc + 1) Ls (.int z :: rest)))) : Goes p e below P (T.setTop (mkF m pc Ls (.ref a :: rest))) := by
  obtain ⟨cl, A, -, S, M, -, -⟩ := V
  rw [← len_of S M] at g
  exact Goes.pre (fun t kk => X.arraylength hx (cell := cl) (by rw [eT]; exact A.1) (State.isArrayOf_alike hZ.alike A.2.1) (g := mkF m pc Ls (.ref a :: rest)) rfl rfl hd t kk) g
end Own
theorem own_ltI {a b : Int32} : a < b ↔ a.toInt < b.toInt := Int32.lt_iff_toInt_lt
theorem own_eqI {a b : Int32} : a = b ↔ a.toInt = b.toInt := Int32.toInt_inj.symm
theorem own_ints (xs : List Int32) (i : Nat) : (xs.map Value.int).getD i (.int 0) = .int (xs.getD i 0) := by
  induction xs generalizing i with
  | nil => rfl
  | cons x xs ih => cases i with
    | zero => rfl
    | succ i => exact ih i
theorem own_mask31 (x : Int32) : ¬ (x &&& 2147483647) < 0 := by
  rw [own_ltI, Jvm.Kit.i32_mask x 2147483647 (k := 31) (by decide) (by decide), show (0 : Int32).toInt = 0 from rfl]
  omega
theorem own_rem (x y : Int32) (hx : ¬ x < 0) (hy : 0 < y) : ¬ x % y < 0 ∧ x % y < y := by
  rw [own_ltI, show (0 : Int32).toInt = 0 from rfl] at hx hy
  have e := Jvm.Kit.i32_rem_nonneg (x := x) (y := y) (by omega)
  rw [own_ltI, own_ltI, e, show (0 : Int32).toInt = 0 from rfl]
  have a := Int.emod_nonneg x.toInt (show y.toInt ≠ 0 by omega)
  have b := Int.emod_lt_of_pos x.toInt hy
  omega
theorem own_len {Z : State} {args : Array Value} {t : Term} {a : Addr} {cl : Cell} {ty : FieldType} {z : Int32} (ev : t.eval args Z none [] Z = some (.ref a)) (A : Arr Z Z.heap a cl ty) (h : (Term.length t).eval args Z none [] Z = some (.int z)) : cl.slots.size < 2 ^ 31 ∧ cl.slots.size.toInt32 = z := by
  have hA : Z.arrayAt? a = some cl := Arr.fin (State.Warmed39.refl Z).alike A
  simp [Term.eval, ev, hA] at h
  exact h
theorem own_eqvR {Z : State} {args : Array Value} {X F : Term} {idx : List Nat} {x : Addr} (hF : F.eval args Z none idx Z = some (.ref x)) (h : (Cond.eq X F).value args Z none Z idx = some true) : X.eval args Z none idx Z = some (.ref x) := by
  obtain ⟨u, y, hu, hy, k1, k2⟩ := cmp_v (Or.inl h)
  cases hF.symm.trans hy
  have hr : u.isRef = true := k2.2
  have q := gotT (eq_R hu hy hr rfl) h
  rw [hu, q]
theorem own_StaKeep {Z : State} {h h' : Heap} {C n d : String} {v : Value} (F : Sta Z h C n d v) (K : Keep h h' []) : Sta Z h' C n d v := by
  obtain ⟨cf, i, k, f, st, cell, h1, h2, h3, h4, h5, r⟩ := F
  exact ⟨cf, i, k, f, st, cell, h1, h2, h3, h4, K.2.1 _ _ h5 nin0, r⟩
theorem own_neLt {a b n : Nat} (h : a < n) (h2 : n ≤ b) : a ≠ b := Nat.ne_of_lt (Nat.lt_of_lt_of_le h h2)
theorem own_ExtTrans {a b c : Heap} (E : Ext a b) (F : Ext b c) : Ext a c := ⟨Nat.le_trans E.1 F.1, fun x y q => F.2 x y (E.2 x y q)⟩
theorem own_ExtRefl (a : Heap) : Ext a a := ⟨Nat.le_refl _, fun _ _ q => q⟩
theorem own_k26 : ∀ k : Fin 26, Int32.ofNat (65 + k.val) - 65 = Int32.ofNat k.val ∧ Int32.ofNat (65 + k.val) + 32 = Int32.ofNat (97 + k.val) := by decide +kernel
theorem own_idx : ∀ k : Fin 26, ¬ Int32.ofNat k.val < 0 ∧ Int32.ofNat k.val < 26 ∧ (Int32.ofNat k.val).toNatClampNeg = k.val := by decide +kernel
theorem own_idx4 : ∀ k : Fin 4, ¬ Int32.ofNat k.val < 0 ∧ Int32.ofNat k.val < 4 ∧ (Int32.ofNat k.val).toNatClampNeg = k.val := by decide +kernel
theorem own_ch128 : ∀ k : Fin 128, nar .char (((Int32.ofNat k.val) &&& 255).toUInt32.toUInt16.toUInt32.toInt32) = Int32.ofNat k.val := by decide +kernel
theorem own_ch {k : Nat} (hk : k < 128) : nar .char (((Int32.ofNat k) &&& 255).toUInt32.toUInt16.toUInt32.toInt32) = Int32.ofNat k := own_ch128 ⟨k, hk⟩
theorem own_nar128 : ∀ k : Fin 128, nar .char (Int32.ofNat k.val) = Int32.ofNat k.val := by decide +kernel
def own_low (c : Int32) : Int32 := if c < 65 then c else if 90 < c then c else c + 32
def own_abc : List Value := (List.range 26).map fun k => .int (Int32.ofNat (97 + k))
def own_sig : List Value := [.int (Int32.ofNat 64), .int (Int32.ofNat 91), .int (Int32.ofNat 96), .int (Int32.ofNat 123)]
theorem own_abcAt : ∀ k : Fin 26, own_abc.getD k.val (.int 0) = .int (Int32.ofNat (97 + k.val)) := by decide +kernel
theorem own_sigAt (q : Nat) (hq : q < 4) : ∃ y : Nat, y < 128 ∧ own_sig.getD q (.int 0) = .int (Int32.ofNat y) := by
  match q, hq with
  | 0, _ => exact ⟨64, by decide, rfl⟩
  | 1, _ => exact ⟨91, by decide, rfl⟩
  | 2, _ => exact ⟨96, by decide, rfl⟩
  | 3, _ => exact ⟨123, by decide, rfl⟩
theorem own_m3 (x : Int32) : ∃ k : Nat, k < 4 ∧ (x &&& 3) = Int32.ofNat k := by
  have e := Jvm.Kit.i32_mask x 3 (k := 2) (by decide) (by decide)
  have a : 0 ≤ x.toInt % 2 ^ 2 := by omega
  have b : x.toInt % 2 ^ 2 < 4 := by omega
  refine ⟨(x.toInt % 2 ^ 2).toNat, by omega, ?_⟩
  rw [← Int32.toInt_inj, e, Int32.toInt_ofNat_small (by omega), Int.toNat_of_nonneg a]
theorem own_letter {c : Int32} (h1 : ¬ c < 65) (h2 : ¬ 90 < c) : ∃ k : Nat, k < 26 ∧ c = Int32.ofNat (65 + k) ∧ c - 65 = Int32.ofNat k ∧ c + 32 = Int32.ofNat (97 + k) := by
  rw [own_ltI, show (65 : Int32).toInt = 65 from rfl] at h1
  rw [own_ltI, show (90 : Int32).toInt = 90 from rfl] at h2
  have e : c = Int32.ofNat (65 + (c.toInt - 65).toNat) := by
    rw [← Int32.toInt_inj, Int32.toInt_ofNat_small (by omega)]
    omega
  have q : (c.toInt - 65).toNat < 26 := by omega
  generalize (c.toInt - 65).toNat = k at e q
  subst e
  exact ⟨k, q, rfl, own_k26 ⟨k, q⟩⟩

theorem dpn_0 : decode jdk_41_method_11_code 0 = .ok (.iload_n 0, 1) := by decide +kernel
theorem dpn_1 : decode jdk_41_method_11_code 1 = .ok (.ifCond .lt 8, 3) := by decide +kernel
theorem dpn_4 : decode jdk_41_method_11_code 4 = .ok (.iload_n 0, 1) := by decide +kernel
theorem dpn_5 : decode jdk_41_method_11_code 5 = .ok (.iload_n 1, 1) := by decide +kernel
theorem dpn_6 : decode jdk_41_method_11_code 6 = .ok (.if_icmp .lt 10, 3) := by decide +kernel
theorem dpn_9 : decode jdk_41_method_11_code 9 = .ok (.aload_n 2, 1) := by decide +kernel
theorem dpn_10 : decode jdk_41_method_11_code 10 = .ok (.iload_n 0, 1) := by decide +kernel
theorem dpn_11 : decode jdk_41_method_11_code 11 = .ok (.iload_n 1, 1) := by decide +kernel
theorem dpn_12 : decode jdk_41_method_11_code 12 = .ok (.invokestatic 95, 3) := by decide +kernel
theorem dpn_15 : decode jdk_41_method_11_code 15 = .ok (.athrow, 1) := by decide +kernel
theorem dpn_16 : decode jdk_41_method_11_code 16 = .ok (.iload_n 0, 1) := by decide +kernel
theorem dpn_17 : decode jdk_41_method_11_code 17 = .ok (.ireturn, 1) := by decide +kernel
theorem pd_pn : parseMethodDescriptor "(IILjava/util/function/BiFunction;)I" = some ⟨[.int, .int, (.object "java/util/function/BiFunction")], some .int⟩ := by decide +kernel
theorem pn_pn : plainName "jdk/internal/util/Preconditions" = true := by first | (simp [plainName, overriddenIn]; done) | decide +kernel
def Q_pn (r : Int32) (h0 : Heap) (n0 : Nat) (v : Option Value) (h : Heap) (L : List Loc) : Prop := v = some (.int r) ∧ Fr n0 L ∧ h = h0
theorem ef_pn (m : MethodId) (i : Int32) (n : Int32) : entryFrame m #[(.int i), (.int n), .null] 3 = mkF m 0 #[.val (.int i), .val (.int n), .val .null] [] := by first | (simp [entryFrame, mkF, argsToLocals, Value.category]; done) | rfl
set_option maxRecDepth 65536 in
set_option maxHeartbeats 40000000 in
theorem rm_pn (l : Launch) (Z : State) (a0 : Array Value) (hw : ∀ d ∈ tables_1, d.before a0 Z = true) (ws : List Jvm.Cond) (i : Int32) (n : Int32)  (h0 : Heap) (n0 : Nat) (Z0 : n0 ≤ h0.size) (h1 : ¬ i < 0) (h2 : i < n) :
    Ctr l Z (⟨"jdk/internal/util/Preconditions", "checkIndex", "(IILjava/util/function/BiFunction;)I"⟩ : MethodName) jdk_41_method_11_code 3 (some .int) ws ({ frames := 0, cells := 0, slots := 0, locals := 0 } : Room) #[(.int i), (.int n), .null] h0 (Q_pn i h0 n0) := by
  refine MetFree.of_bodySF (plainFor_of_name pn_pn) hisR ?_
  intro p e s m args below meth c s₁ Bd hml0 hP hK
  obtain ⟨rfl, hZ, hh⟩ := hP
  have hx := Bd.exec
  have hby := Bd.bytes
  have hlk : meth.locks = false := Bd.notSynchronized
  have hml : c.maxLocals = 3 := hml0
  have hown : s.vm.findClass "jdk/internal/util/Preconditions" = some m.cls := findClass_of_methodNamed Bd.named
  have hnm := (name_of_methodNamed Bd.named Bd.method).1
  have X0 : Stand p l e ({ frames := 0, cells := 0, slots := 0, locals := 0 } : Room) s m #[(.int i), (.int n), .null] below meth c s₁ [] 0 0 := Stand.of_body Bd
  have e0 : s₁.heap = h0 := by rw [← hh, Bd.state]; rfl
  have N0 := Fr.nil n0
  show Goes p e below (EndQ s (Q_pn i h0 n0) ({ frames := 0, cells := 0, slots := 0, locals := 0 } : Room).cells ({ frames := 0, cells := 0, slots := 0, locals := 0 } : Room).slots) (s₁.setTop (entryFrame m #[(.int i), (.int n), .null] 3))
  refine Goes.pre (S' := (s₁.setTop (mkF m 0 #[.val (.int i), .val (.int n), .val .null] []))) (fun _ k => castTop (ef_pn m i n) k) ?_
  refine Goes.pre (S' := (s₁.setTop (mkF m 1 #[.val (.int i), .val (.int n), .val .null] [(.int i)]))) (fun _ k => XS.iloadN X0.here hx rfl (hb hby dpn_0) rfl k) ?_
  refine Goes.pre (S' := (s₁.setTop (mkF m 4 #[.val (.int i), .val (.int n), .val .null] []))) (fun _ k => XS.ifNo X0.here hx rfl (hb hby dpn_1) rfl (XT.i0_lt_f h1) k) ?_
  refine Goes.pre (S' := (s₁.setTop (mkF m 5 #[.val (.int i), .val (.int n), .val .null] [(.int i)]))) (fun _ k => XS.iloadN X0.here hx rfl (hb hby dpn_4) rfl k) ?_
  refine Goes.pre (S' := (s₁.setTop (mkF m 6 #[.val (.int i), .val (.int n), .val .null] [(.int n), (.int i)]))) (fun _ k => XS.iloadN X0.here hx rfl (hb hby dpn_5) rfl k) ?_
  refine Goes.pre (S' := (s₁.setTop (mkF m 16 #[.val (.int i), .val (.int n), .val .null] []))) (fun _ k => XS.icmpYes X0.here hx rfl (pc0 := 6) (pc' := 16) rfl (hb hby dpn_6) rfl (XT.ii_lt_t h2) (by decide) (by decide) k) ?_
  refine Goes.pre (S' := (s₁.setTop (mkF m 17 #[.val (.int i), .val (.int n), .val .null] [(.int i)]))) (fun _ k => XS.iloadN X0.here hx rfl (hb hby dpn_16) rfl k) ?_
  exact Goes.ret X0 hx hlk (t := .int) Bd.returns rfl (Or.inl ⟨rfl, Or.inl rfl, _, rfl⟩) (hb hby dpn_17) ⟨rfl, N0, e0⟩ (by first | decide | exact Nat.le_of_ble_eq_true rfl | assumption | (simp only [room_1]; omega) | (simp [Value.category]; done)) (by first | decide | exact Nat.le_of_ble_eq_true rfl | assumption | (simp only [room_1]; omega) | (simp [Value.category]; done))
theorem dpr_0 : decode jdk_41_method_11_code 0 = .ok (.iload_n 0, 1) := by decide +kernel
theorem dpr_1 : decode jdk_41_method_11_code 1 = .ok (.ifCond .lt 8, 3) := by decide +kernel
theorem dpr_4 : decode jdk_41_method_11_code 4 = .ok (.iload_n 0, 1) := by decide +kernel
theorem dpr_5 : decode jdk_41_method_11_code 5 = .ok (.iload_n 1, 1) := by decide +kernel
theorem dpr_6 : decode jdk_41_method_11_code 6 = .ok (.if_icmp .lt 10, 3) := by decide +kernel
theorem dpr_9 : decode jdk_41_method_11_code 9 = .ok (.aload_n 2, 1) := by decide +kernel
theorem dpr_10 : decode jdk_41_method_11_code 10 = .ok (.iload_n 0, 1) := by decide +kernel
theorem dpr_11 : decode jdk_41_method_11_code 11 = .ok (.iload_n 1, 1) := by decide +kernel
theorem dpr_12 : decode jdk_41_method_11_code 12 = .ok (.invokestatic 95, 3) := by decide +kernel
theorem dpr_15 : decode jdk_41_method_11_code 15 = .ok (.athrow, 1) := by decide +kernel
theorem dpr_16 : decode jdk_41_method_11_code 16 = .ok (.iload_n 0, 1) := by decide +kernel
theorem dpr_17 : decode jdk_41_method_11_code 17 = .ok (.ireturn, 1) := by decide +kernel
theorem pd_pr : parseMethodDescriptor "(IILjava/util/function/BiFunction;)I" = some ⟨[.int, .int, (.object "java/util/function/BiFunction")], some .int⟩ := by decide +kernel
theorem pn_pr : plainName "jdk/internal/util/Preconditions" = true := by first | (simp [plainName, overriddenIn]; done) | decide +kernel
def Q_pr (r : Int32) (h0 : Heap) (n0 : Nat) (v : Option Value) (h : Heap) (L : List Loc) : Prop := v = some (.int r) ∧ Fr n0 L ∧ h = h0
theorem ef_pr (m : MethodId) (i : Int32) (n : Int32) (g : Addr) : entryFrame m #[(.int i), (.int n), (.ref g)] 3 = mkF m 0 #[.val (.int i), .val (.int n), .val (.ref g)] [] := by first | (simp [entryFrame, mkF, argsToLocals, Value.category]; done) | rfl
set_option maxRecDepth 65536 in
set_option maxHeartbeats 40000000 in
theorem rm_pr (l : Launch) (Z : State) (a0 : Array Value) (hw : ∀ d ∈ tables_1, d.before a0 Z = true) (ws : List Jvm.Cond) (i : Int32) (n : Int32) (g : Addr)  (h0 : Heap) (n0 : Nat) (Z0 : n0 ≤ h0.size) (h1 : ¬ i < 0) (h2 : i < n) :
    Ctr l Z (⟨"jdk/internal/util/Preconditions", "checkIndex", "(IILjava/util/function/BiFunction;)I"⟩ : MethodName) jdk_41_method_11_code 3 (some .int) ws ({ frames := 0, cells := 0, slots := 0, locals := 0 } : Room) #[(.int i), (.int n), (.ref g)] h0 (Q_pr i h0 n0) := by
  refine MetFree.of_bodySF (plainFor_of_name pn_pr) hisR ?_
  intro p e s m args below meth c s₁ Bd hml0 hP hK
  obtain ⟨rfl, hZ, hh⟩ := hP
  have hx := Bd.exec
  have hby := Bd.bytes
  have hlk : meth.locks = false := Bd.notSynchronized
  have hml : c.maxLocals = 3 := hml0
  have hown : s.vm.findClass "jdk/internal/util/Preconditions" = some m.cls := findClass_of_methodNamed Bd.named
  have hnm := (name_of_methodNamed Bd.named Bd.method).1
  have X0 : Stand p l e ({ frames := 0, cells := 0, slots := 0, locals := 0 } : Room) s m #[(.int i), (.int n), (.ref g)] below meth c s₁ [] 0 0 := Stand.of_body Bd
  have e0 : s₁.heap = h0 := by rw [← hh, Bd.state]; rfl
  have N0 := Fr.nil n0
  show Goes p e below (EndQ s (Q_pr i h0 n0) ({ frames := 0, cells := 0, slots := 0, locals := 0 } : Room).cells ({ frames := 0, cells := 0, slots := 0, locals := 0 } : Room).slots) (s₁.setTop (entryFrame m #[(.int i), (.int n), (.ref g)] 3))
  refine Goes.pre (S' := (s₁.setTop (mkF m 0 #[.val (.int i), .val (.int n), .val (.ref g)] []))) (fun _ k => castTop (ef_pr m i n g) k) ?_
  refine Goes.pre (S' := (s₁.setTop (mkF m 1 #[.val (.int i), .val (.int n), .val (.ref g)] [(.int i)]))) (fun _ k => XS.iloadN X0.here hx rfl (hb hby dpr_0) rfl k) ?_
  refine Goes.pre (S' := (s₁.setTop (mkF m 4 #[.val (.int i), .val (.int n), .val (.ref g)] []))) (fun _ k => XS.ifNo X0.here hx rfl (hb hby dpr_1) rfl (XT.i0_lt_f h1) k) ?_
  refine Goes.pre (S' := (s₁.setTop (mkF m 5 #[.val (.int i), .val (.int n), .val (.ref g)] [(.int i)]))) (fun _ k => XS.iloadN X0.here hx rfl (hb hby dpr_4) rfl k) ?_
  refine Goes.pre (S' := (s₁.setTop (mkF m 6 #[.val (.int i), .val (.int n), .val (.ref g)] [(.int n), (.int i)]))) (fun _ k => XS.iloadN X0.here hx rfl (hb hby dpr_5) rfl k) ?_
  refine Goes.pre (S' := (s₁.setTop (mkF m 16 #[.val (.int i), .val (.int n), .val (.ref g)] []))) (fun _ k => XS.icmpYes X0.here hx rfl (pc0 := 6) (pc' := 16) rfl (hb hby dpr_6) rfl (XT.ii_lt_t h2) (by decide) (by decide) k) ?_
  refine Goes.pre (S' := (s₁.setTop (mkF m 17 #[.val (.int i), .val (.int n), .val (.ref g)] [(.int i)]))) (fun _ k => XS.iloadN X0.here hx rfl (hb hby dpr_16) rfl k) ?_
  exact Goes.ret X0 hx hlk (t := .int) Bd.returns rfl (Or.inl ⟨rfl, Or.inl rfl, _, rfl⟩) (hb hby dpr_17) ⟨rfl, N0, e0⟩ (by first | decide | exact Nat.le_of_ble_eq_true rfl | assumption | (simp only [room_1]; omega) | (simp [Value.category]; done)) (by first | decide | exact Nat.le_of_ble_eq_true rfl | assumption | (simp only [room_1]; omega) | (simp [Value.category]; done))
theorem dci_0 : decode jdk_42_method_155_code 0 = .ok (.iload_n 0, 1) := by decide +kernel
theorem dci_1 : decode jdk_42_method_155_code 1 = .ok (.iload_n 1, 1) := by decide +kernel
theorem dci_2 : decode jdk_42_method_155_code 2 = .ok (.getstatic 1053, 3) := by decide +kernel
theorem dci_5 : decode jdk_42_method_155_code 5 = .ok (.invokestatic 1059, 3) := by decide +kernel
theorem dci_8 : decode jdk_42_method_155_code 8 = .ok (.pop, 1) := by decide +kernel
theorem dci_9 : decode jdk_42_method_155_code 9 = .ok (.return_, 1) := by decide +kernel
theorem pd_ci : parseMethodDescriptor "(II)V" = some ⟨[.int, .int], none⟩ := by decide +kernel
theorem pn_ci : plainName "java/lang/String" = true := by first | (simp [plainName, overriddenIn]; done) | decide +kernel
def Q_ci (h0 : Heap) (n0 : Nat) (v : Option Value) (h : Heap) (L : List Loc) : Prop := v = none ∧ Fr n0 L ∧ h = h0
theorem ef_ci (m : MethodId) (i : Int32) (n : Int32) : entryFrame m #[(.int i), (.int n)] 2 = mkF m 0 #[.val (.int i), .val (.int n)] [] := by first | (simp [entryFrame, mkF, argsToLocals, Value.category]; done) | rfl
set_option maxRecDepth 65536 in
set_option maxHeartbeats 40000000 in
theorem rm_ci (l : Launch) (Z : State) (a0 : Array Value) (hw : ∀ d ∈ tables_1, d.before a0 Z = true) (ws : List Jvm.Cond) (i : Int32) (n : Int32) (G : Value) (h0 : Heap) (n0 : Nat) (Z0 : n0 ≤ h0.size) (rG : G.isRef = true) (SF : Sta Z h0 "jdk/internal/util/Preconditions" "SIOOBE_FORMATTER" "Ljava/util/function/BiFunction;" G) (h1 : ¬ i < 0) (h2 : i < n) :
    Ctr l Z (⟨"java/lang/String", "checkIndex", "(II)V"⟩ : MethodName) jdk_42_method_155_code 2 (none : Option FieldType) ws ({ frames := 1, cells := 0, slots := 0, locals := 20 } : Room) #[(.int i), (.int n)] h0 (Q_ci h0 n0) := by
  refine MetFree.of_bodySF (plainFor_of_name pn_ci) hisR ?_
  intro p e s m args below meth c s₁ Bd hml0 hP hK
  obtain ⟨rfl, hZ, hh⟩ := hP
  have hx := Bd.exec
  have hby := Bd.bytes
  have hlk : meth.locks = false := Bd.notSynchronized
  have hml : c.maxLocals = 2 := hml0
  have hown : s.vm.findClass "java/lang/String" = some m.cls := findClass_of_methodNamed Bd.named
  have hnm := (name_of_methodNamed Bd.named Bd.method).1
  have X0 : Stand p l e ({ frames := 1, cells := 0, slots := 0, locals := 20 } : Room) s m #[(.int i), (.int n)] below meth c s₁ [] 0 0 := Stand.of_body Bd
  have e0 : s₁.heap = h0 := by rw [← hh, Bd.state]; rfl
  have N0 := Fr.nil n0
  show Goes p e below (EndQ s (Q_ci h0 n0) ({ frames := 1, cells := 0, slots := 0, locals := 20 } : Room).cells ({ frames := 1, cells := 0, slots := 0, locals := 20 } : Room).slots) (s₁.setTop (entryFrame m #[(.int i), (.int n)] 2))
  refine Goes.pre (S' := (s₁.setTop (mkF m 0 #[.val (.int i), .val (.int n)] []))) (fun _ k => castTop (ef_ci m i n) k) ?_
  refine Goes.pre (S' := (s₁.setTop (mkF m 1 #[.val (.int i), .val (.int n)] [(.int i)]))) (fun _ k => XS.iloadN X0.here hx rfl (hb hby dci_0) rfl k) ?_
  refine Goes.pre (S' := (s₁.setTop (mkF m 2 #[.val (.int i), .val (.int n)] [(.int n), (.int i)]))) (fun _ k => XS.iloadN X0.here hx rfl (hb hby dci_1) rfl k) ?_
  rcases ref_cases rG with rfl | ⟨g, rfl⟩
  · skip
    obtain ⟨T1, X1, e1, st1⟩ := getS (host := "") X0 hx hZ hown (hw _ (List.mem_of_getElem? (i := 33) rfl)) Via.refl e0 SF (g := (mkF m 2 #[.val (.int i), .val (.int n)] [(.int n), (.int i)])) rfl (hb hby dci_2)
    refine Goes.pre (S' := (T1.setTop (mkF m 5 #[.val (.int i), .val (.int n)] [.null, (.int n), (.int i)]))) st1 ?_
    refine Goes.callS (y := (⟨"jdk/internal/util/Preconditions", "checkIndex", "(IILjava/util/function/BiFunction;)I"⟩ : MethodName)) X1 hx hZ hown (hw _ (List.mem_of_getElem? (i := 35) rfl)) (hw _ (List.mem_of_getElem? (i := 36) rfl)) (hw _ (List.mem_of_getElem? (i := 34) rfl)) (hw _ (List.mem_of_getElem? (i := 37) rfl)) (by decide) e1 (rm_pn l Z a0 hw [] i n h0 n0 Z0 h1 h2) (by rw [hml]; rfl) [(.int i), (.int n), .null] [] pd_pn rfl rfl rfl (hb hby dci_5) (by decide) (by first | decide | exact Nat.le_of_ble_eq_true rfl | assumption | (simp only [room_1]; omega) | (simp [Value.category]; done)) (by first | decide | exact Nat.le_of_ble_eq_true rfl | assumption | (simp only [room_1]; omega) | (simp [Value.category]; done)) (by first | decide | exact Nat.le_of_ble_eq_true rfl | assumption | (simp only [room_1]; omega) | (simp [Value.category]; done)) ?_
    intro T2 v2 L2 X2 q2
    obtain ⟨rfl, N2a, e2⟩ := q2
    have N2 := Fr.app N0 N2a
    show Goes p e below _ (T2.setTop (mkF m 8 #[.val (.int i), .val (.int n)] [(.int i)]))
    refine Goes.pre (S' := (T2.setTop (mkF m 9 #[.val (.int i), .val (.int n)] []))) (fun _ k => XT.pop X2.here hx rfl (hb hby dci_8) rfl rfl k) ?_
    exact Goes.retV X2 hx hlk Bd.returns (hb hby dci_9) ⟨rfl, N2, e2⟩ (by first | decide | exact Nat.le_of_ble_eq_true rfl | assumption | (simp only [room_1]; omega) | (simp [Value.category]; done)) (by first | decide | exact Nat.le_of_ble_eq_true rfl | assumption | (simp only [room_1]; omega) | (simp [Value.category]; done))
  · skip
    obtain ⟨T3, X3, e3, st3⟩ := getS (host := "") X0 hx hZ hown (hw _ (List.mem_of_getElem? (i := 33) rfl)) Via.refl e0 SF (g := (mkF m 2 #[.val (.int i), .val (.int n)] [(.int n), (.int i)])) rfl (hb hby dci_2)
    refine Goes.pre (S' := (T3.setTop (mkF m 5 #[.val (.int i), .val (.int n)] [(.ref g), (.int n), (.int i)]))) st3 ?_
    refine Goes.callS (y := (⟨"jdk/internal/util/Preconditions", "checkIndex", "(IILjava/util/function/BiFunction;)I"⟩ : MethodName)) X3 hx hZ hown (hw _ (List.mem_of_getElem? (i := 35) rfl)) (hw _ (List.mem_of_getElem? (i := 36) rfl)) (hw _ (List.mem_of_getElem? (i := 34) rfl)) (hw _ (List.mem_of_getElem? (i := 37) rfl)) (by decide) e3 (rm_pr l Z a0 hw [] i n g h0 n0 Z0 h1 h2) (by rw [hml]; rfl) [(.int i), (.int n), (.ref g)] [] pd_pr rfl rfl rfl (hb hby dci_5) (by decide) (by first | decide | exact Nat.le_of_ble_eq_true rfl | assumption | (simp only [room_1]; omega) | (simp [Value.category]; done)) (by first | decide | exact Nat.le_of_ble_eq_true rfl | assumption | (simp only [room_1]; omega) | (simp [Value.category]; done)) (by first | decide | exact Nat.le_of_ble_eq_true rfl | assumption | (simp only [room_1]; omega) | (simp [Value.category]; done)) ?_
    intro T4 v4 L4 X4 q4
    obtain ⟨rfl, N4a, e4⟩ := q4
    have N4 := Fr.app N0 N4a
    show Goes p e below _ (T4.setTop (mkF m 8 #[.val (.int i), .val (.int n)] [(.int i)]))
    refine Goes.pre (S' := (T4.setTop (mkF m 9 #[.val (.int i), .val (.int n)] []))) (fun _ k => XT.pop X4.here hx rfl (hb hby dci_8) rfl rfl k) ?_
    exact Goes.retV X4 hx hlk Bd.returns (hb hby dci_9) ⟨rfl, N4, e4⟩ (by first | decide | exact Nat.le_of_ble_eq_true rfl | assumption | (simp only [room_1]; omega) | (simp [Value.category]; done)) (by first | decide | exact Nat.le_of_ble_eq_true rfl | assumption | (simp only [room_1]; omega) | (simp [Value.category]; done))
theorem dlc_0 : decode jdk_43_method_2_code 0 = .ok (.iload_n 1, 1) := by decide +kernel
theorem dlc_1 : decode jdk_43_method_2_code 1 = .ok (.aload_n 0, 1) := by decide +kernel
theorem dlc_2 : decode jdk_43_method_2_code 2 = .ok (.arraylength, 1) := by decide +kernel
theorem dlc_3 : decode jdk_43_method_2_code 3 = .ok (.invokestatic 9, 3) := by decide +kernel
theorem dlc_6 : decode jdk_43_method_2_code 6 = .ok (.aload_n 0, 1) := by decide +kernel
theorem dlc_7 : decode jdk_43_method_2_code 7 = .ok (.iload_n 1, 1) := by decide +kernel
theorem dlc_8 : decode jdk_43_method_2_code 8 = .ok (.baload, 1) := by decide +kernel
theorem dlc_9 : decode jdk_43_method_2_code 9 = .ok (.sipush 255, 3) := by decide +kernel
theorem dlc_12 : decode jdk_43_method_2_code 12 = .ok (.iand, 1) := by decide +kernel
theorem dlc_13 : decode jdk_43_method_2_code 13 = .ok (.i2c, 1) := by decide +kernel
theorem dlc_14 : decode jdk_43_method_2_code 14 = .ok (.ireturn, 1) := by decide +kernel
theorem pd_lc : parseMethodDescriptor "([BI)C" = some ⟨[(.array .byte), .int], some .char⟩ := by decide +kernel
theorem pn_lc : plainName "java/lang/StringLatin1" = true := by first | (simp [plainName, overriddenIn]; done) | decide +kernel
def Q_lc (r : Int32) (h0 : Heap) (n0 : Nat) (v : Option Value) (h : Heap) (L : List Loc) : Prop := v = some (.int r) ∧ Fr n0 L ∧ h = h0
theorem ef_lc (m : MethodId) (b : Addr) (i : Int32) : entryFrame m #[(.ref b), (.int i)] 2 = mkF m 0 #[.val (.ref b), .val (.int i)] [] := by first | (simp [entryFrame, mkF, argsToLocals, Value.category]; done) | rfl
set_option maxRecDepth 65536 in
set_option maxHeartbeats 40000000 in
theorem rm_lc (l : Launch) (Z : State) (a0 : Array Value) (hw : ∀ d ∈ tables_1, d.before a0 Z = true) (ws : List Jvm.Cond) (b : Addr) (i : Int32) (G : Value) (kb : ClassId) (N : Int32) (vs : List Value) (q : Nat) (h0 : Heap) (n0 : Nat) (Z0 : n0 ≤ h0.size) (rG : G.isRef = true) (SF : Sta Z h0 "jdk/internal/util/Preconditions" "SIOOBE_FORMATTER" "Ljava/util/function/BiFunction;" G) (V : Arv Z h0 b kb .byte N vs (.int 0)) (h1 : ¬ i < 0) (h2 : i < N) (hq : q < 128) (hv : vs.getD i.toNatClampNeg (.int 0) = .int (Int32.ofNat q)) :
    Ctr l Z (⟨"java/lang/StringLatin1", "charAt", "([BI)C"⟩ : MethodName) jdk_43_method_2_code 2 (some .char) ws ({ frames := 2, cells := 0, slots := 0, locals := 40 } : Room) #[(.ref b), (.int i)] h0 (Q_lc (Int32.ofNat q) h0 n0) := by
  refine MetFree.of_bodySF (plainFor_of_name pn_lc) hisR ?_
  intro p e s m args below meth c s₁ Bd hml0 hP hK
  obtain ⟨rfl, hZ, hh⟩ := hP
  have hx := Bd.exec
  have hby := Bd.bytes
  have hlk : meth.locks = false := Bd.notSynchronized
  have hml : c.maxLocals = 2 := hml0
  have hown : s.vm.findClass "java/lang/StringLatin1" = some m.cls := findClass_of_methodNamed Bd.named
  have hnm := (name_of_methodNamed Bd.named Bd.method).1
  have X0 : Stand p l e ({ frames := 2, cells := 0, slots := 0, locals := 40 } : Room) s m #[(.ref b), (.int i)] below meth c s₁ [] 0 0 := Stand.of_body Bd
  have e0 : s₁.heap = h0 := by rw [← hh, Bd.state]; rfl
  have N0 := Fr.nil n0
  show Goes p e below (EndQ s (Q_lc (Int32.ofNat q) h0 n0) ({ frames := 2, cells := 0, slots := 0, locals := 40 } : Room).cells ({ frames := 2, cells := 0, slots := 0, locals := 40 } : Room).slots) (s₁.setTop (entryFrame m #[(.ref b), (.int i)] 2))
  refine Goes.pre (S' := (s₁.setTop (mkF m 0 #[.val (.ref b), .val (.int i)] []))) (fun _ k => castTop (ef_lc m b i) k) ?_
  refine Goes.pre (S' := (s₁.setTop (mkF m 1 #[.val (.ref b), .val (.int i)] [(.int i)]))) (fun _ k => XS.iloadN X0.here hx rfl (hb hby dlc_0) rfl k) ?_
  refine Goes.pre (S' := (s₁.setTop (mkF m 2 #[.val (.ref b), .val (.int i)] [(.ref b), (.int i)]))) (fun _ k => XS.aloadN X0.here hx rfl (hb hby dlc_1) rfl rfl k) ?_
  refine Goes.alen X0 hx hZ e0 V (hb hby dlc_2) ?_
  show Goes p e below _ (s₁.setTop (mkF m 3 #[.val (.ref b), .val (.int i)] [(.int N), (.int i)]))
  refine Goes.callS (y := (⟨"java/lang/String", "checkIndex", "(II)V"⟩ : MethodName)) X0 hx hZ hown (hw _ (List.mem_of_getElem? (i := 30) rfl)) (hw _ (List.mem_of_getElem? (i := 31) rfl)) (hw _ (List.mem_of_getElem? (i := 6) rfl)) (hw _ (List.mem_of_getElem? (i := 32) rfl)) (by decide) e0 (rm_ci l Z a0 hw [] i N G h0 n0 Z0 rG SF h1 h2) (by rw [hml]; rfl) [(.int i), (.int N)] [] pd_ci rfl rfl rfl (hb hby dlc_3) (by decide) (by first | decide | exact Nat.le_of_ble_eq_true rfl | assumption | (simp only [room_1]; omega) | (simp [Value.category]; done)) (by first | decide | exact Nat.le_of_ble_eq_true rfl | assumption | (simp only [room_1]; omega) | (simp [Value.category]; done)) (by first | decide | exact Nat.le_of_ble_eq_true rfl | assumption | (simp only [room_1]; omega) | (simp [Value.category]; done)) ?_
  intro T1 v1 L1 X1 q1
  obtain ⟨rfl, N1a, e1⟩ := q1
  have N1 := Fr.app N0 N1a
  show Goes p e below _ (T1.setTop (mkF m 6 #[.val (.ref b), .val (.int i)] []))
  refine Goes.pre (S' := (T1.setTop (mkF m 7 #[.val (.ref b), .val (.int i)] [(.ref b)]))) (fun _ k => XS.aloadN X1.here hx rfl (hb hby dlc_6) rfl rfl k) ?_
  refine Goes.pre (S' := (T1.setTop (mkF m 8 #[.val (.ref b), .val (.int i)] [(.int i), (.ref b)]))) (fun _ k => XS.iloadN X1.here hx rfl (hb hby dlc_7) rfl k) ?_
  refine Goes.baloadB X1 hx hZ e1 V (j := i) ⟨h1, h2⟩ (w := .int (Int32.ofNat q)) hv (hb hby dlc_8) ?_
  show Goes p e below _ (T1.setTop (mkF m 9 #[.val (.ref b), .val (.int i)] [(.int (Int32.ofNat q))]))
  refine Goes.pre (S' := (T1.setTop (mkF m 12 #[.val (.ref b), .val (.int i)] [(.int (255 : Int32)), (.int (Int32.ofNat q))]))) (fun _ k => XS.sipush X1.here hx rfl (hb hby dlc_9) k) ?_
  refine Goes.pre (S' := (T1.setTop (mkF m 13 #[.val (.ref b), .val (.int i)] [(.int ((Int32.ofNat q) &&& (255 : Int32)))]))) (fun _ k => XS.iand X1.here hx rfl (hb hby dlc_12) rfl k) ?_
  refine Goes.pre (S' := (T1.setTop (mkF m 14 #[.val (.ref b), .val (.int i)] [(.int (((Int32.ofNat q) &&& (255 : Int32))).toUInt32.toUInt16.toUInt32.toInt32)]))) (fun _ k => XT.i2c X1.here hx rfl (hb hby dlc_13) rfl k) ?_
  exact Goes.retN X1 hx hlk (t := .char) Bd.returns (by simp) (hb hby dlc_14) ⟨by rw [own_ch hq], N1, e1⟩ (by first | decide | exact Nat.le_of_ble_eq_true rfl | assumption | (simp only [room_1]; omega) | (simp [Value.category]; done)) (by first | decide | exact Nat.le_of_ble_eq_true rfl | assumption | (simp only [room_1]; omega) | (simp [Value.category]; done))
theorem dil_0 : decode jdk_42_method_154_code 0 = .ok (.getstatic 38, 3) := by decide +kernel
theorem dil_3 : decode jdk_42_method_154_code 3 = .ok (.ifCond .eq 14, 3) := by decide +kernel
theorem dil_6 : decode jdk_42_method_154_code 6 = .ok (.aload_n 0, 1) := by decide +kernel
theorem dil_7 : decode jdk_42_method_154_code 7 = .ok (.getfield 15, 3) := by decide +kernel
theorem dil_10 : decode jdk_42_method_154_code 10 = .ok (.ifCond .ne 7, 3) := by decide +kernel
theorem dil_13 : decode jdk_42_method_154_code 13 = .ok (.iconst 1, 1) := by decide +kernel
theorem dil_14 : decode jdk_42_method_154_code 14 = .ok (.goto 4, 3) := by decide +kernel
theorem dil_17 : decode jdk_42_method_154_code 17 = .ok (.iconst 0, 1) := by decide +kernel
theorem dil_18 : decode jdk_42_method_154_code 18 = .ok (.ireturn, 1) := by decide +kernel
theorem pd_il : parseMethodDescriptor "()Z" = some ⟨[], some .boolean⟩ := by decide +kernel
theorem pn_il : plainName "java/lang/String" = true := by first | (simp [plainName, overriddenIn]; done) | decide +kernel
def Q_il (r : Int32) (h0 : Heap) (n0 : Nat) (v : Option Value) (h : Heap) (L : List Loc) : Prop := v = some (.int r) ∧ Fr n0 L ∧ h = h0
theorem ef_il (m : MethodId) (a : Addr) : entryFrame m #[(.ref a)] 1 = mkF m 0 #[.val (.ref a)] [] := by first | (simp [entryFrame, mkF, argsToLocals, Value.category]; done) | rfl
set_option maxRecDepth 65536 in
set_option maxHeartbeats 40000000 in
theorem rm_il (l : Launch) (Z : State) (a0 : Array Value) (hw : ∀ d ∈ tables_1, d.before a0 Z = true) (ws : List Jvm.Cond) (a : Addr) (gc : Int32) (h0 : Heap) (n0 : Nat) (Z0 : n0 ≤ h0.size) (hgc : ¬ gc = 0) (SC : Sta Z h0 "java/lang/String" "COMPACT_STRINGS" "Z" (.int gc)) (FC : Fld Z h0 a "java/lang/String" "coder" "B" (.int 0)) :
    Ctr l Z (⟨"java/lang/String", "isLatin1", "()Z"⟩ : MethodName) jdk_42_method_154_code 1 (some .boolean) ws ({ frames := 0, cells := 0, slots := 0, locals := 0 } : Room) #[(.ref a)] h0 (Q_il 1 h0 n0) := by
  refine MetFree.of_bodySF (plainFor_of_name pn_il) hisR ?_
  intro p e s m args below meth c s₁ Bd hml0 hP hK
  obtain ⟨rfl, hZ, hh⟩ := hP
  have hx := Bd.exec
  have hby := Bd.bytes
  have hlk : meth.locks = false := Bd.notSynchronized
  have hml : c.maxLocals = 1 := hml0
  have hown : s.vm.findClass "java/lang/String" = some m.cls := findClass_of_methodNamed Bd.named
  have hnm := (name_of_methodNamed Bd.named Bd.method).1
  have X0 : Stand p l e ({ frames := 0, cells := 0, slots := 0, locals := 0 } : Room) s m #[(.ref a)] below meth c s₁ [] 0 0 := Stand.of_body Bd
  have e0 : s₁.heap = h0 := by rw [← hh, Bd.state]; rfl
  have N0 := Fr.nil n0
  show Goes p e below (EndQ s (Q_il 1 h0 n0) ({ frames := 0, cells := 0, slots := 0, locals := 0 } : Room).cells ({ frames := 0, cells := 0, slots := 0, locals := 0 } : Room).slots) (s₁.setTop (entryFrame m #[(.ref a)] 1))
  refine Goes.pre (S' := (s₁.setTop (mkF m 0 #[.val (.ref a)] []))) (fun _ k => castTop (ef_il m a) k) ?_
  obtain ⟨T1, X1, e1, st1⟩ := getS (host := "") X0 hx hZ hown (hw _ (List.mem_of_getElem? (i := 23) rfl)) Via.refl e0 SC (g := (mkF m 0 #[.val (.ref a)] [])) rfl (hb hby dil_0)
  refine Goes.pre (S' := (T1.setTop (mkF m 3 #[.val (.ref a)] [(.int gc)]))) st1 ?_
  refine Goes.pre (S' := (T1.setTop (mkF m 6 #[.val (.ref a)] []))) (fun _ k => XS.ifNo X1.here hx rfl (hb hby dil_3) rfl (XT.i0_eq_f hgc) k) ?_
  refine Goes.pre (S' := (T1.setTop (mkF m 7 #[.val (.ref a)] [(.ref a)]))) (fun _ k => XS.aloadN X1.here hx rfl (hb hby dil_6) rfl rfl k) ?_
  obtain ⟨T2, X2, e2, st2⟩ := getF X1 hx hZ hown (host := "") (Or.inl (hw _ (List.mem_of_getElem? (i := 24) rfl))) Via.refl e1 FC (g := (mkF m 7 #[.val (.ref a)] [(.ref a)])) rfl rfl (hb hby dil_7)
  refine Goes.pre (S' := (T2.setTop (mkF m 10 #[.val (.ref a)] [(.int (0 : Int32))]))) st2 ?_
  refine Goes.pre (S' := (T2.setTop (mkF m 13 #[.val (.ref a)] []))) (fun _ k => XS.ifNo X2.here hx rfl (hb hby dil_10) rfl (XT.i0_ne_f rfl) k) ?_
  refine Goes.pre (S' := (T2.setTop (mkF m 14 #[.val (.ref a)] [(.int (1 : Int32))]))) (fun _ k => XS.iconst X2.here hx rfl (hb hby dil_13) k) ?_
  refine Goes.pre (S' := (T2.setTop (mkF m 18 #[.val (.ref a)] [(.int (1 : Int32))]))) (fun _ k => XS.goto X2.here hx rfl (pc0 := 14) (pc' := 18) rfl (hb hby dil_14) (by decide) (by decide) k) ?_
  exact Goes.retN X2 hx hlk (t := .boolean) Bd.returns (by simp) (hb hby dil_18) ⟨rfl, N0, e2⟩ (by first | decide | exact Nat.le_of_ble_eq_true rfl | assumption | (simp only [room_1]; omega) | (simp [Value.category]; done)) (by first | decide | exact Nat.le_of_ble_eq_true rfl | assumption | (simp only [room_1]; omega) | (simp [Value.category]; done))
theorem dch_0 : decode jdk_42_method_56_code 0 = .ok (.aload_n 0, 1) := by decide +kernel
theorem dch_1 : decode jdk_42_method_56_code 1 = .ok (.invokevirtual 492, 3) := by decide +kernel
theorem dch_4 : decode jdk_42_method_56_code 4 = .ok (.ifCond .eq 12, 3) := by decide +kernel
theorem dch_7 : decode jdk_42_method_56_code 7 = .ok (.aload_n 0, 1) := by decide +kernel
theorem dch_8 : decode jdk_42_method_56_code 8 = .ok (.getfield 9, 3) := by decide +kernel
theorem dch_11 : decode jdk_42_method_56_code 11 = .ok (.iload_n 1, 1) := by decide +kernel
theorem dch_12 : decode jdk_42_method_56_code 12 = .ok (.invokestatic 495, 3) := by decide +kernel
theorem dch_15 : decode jdk_42_method_56_code 15 = .ok (.ireturn, 1) := by decide +kernel
theorem dch_16 : decode jdk_42_method_56_code 16 = .ok (.aload_n 0, 1) := by decide +kernel
theorem dch_17 : decode jdk_42_method_56_code 17 = .ok (.getfield 9, 3) := by decide +kernel
theorem dch_20 : decode jdk_42_method_56_code 20 = .ok (.iload_n 1, 1) := by decide +kernel
theorem dch_21 : decode jdk_42_method_56_code 21 = .ok (.invokestatic 498, 3) := by decide +kernel
theorem dch_24 : decode jdk_42_method_56_code 24 = .ok (.ireturn, 1) := by decide +kernel
theorem pd_ch : parseMethodDescriptor "(I)C" = some ⟨[.int], some .char⟩ := by decide +kernel
theorem pn_ch : plainName "java/lang/String" = true := by first | (simp [plainName, overriddenIn]; done) | decide +kernel
def Q_ch (r : Int32) (h0 : Heap) (n0 : Nat) (v : Option Value) (h : Heap) (L : List Loc) : Prop := v = some (.int r) ∧ Fr n0 L ∧ h = h0
theorem ef_ch (m : MethodId) (a : Addr) (i : Int32) : entryFrame m #[(.ref a), (.int i)] 2 = mkF m 0 #[.val (.ref a), .val (.int i)] [] := by first | (simp [entryFrame, mkF, argsToLocals, Value.category]; done) | rfl
set_option maxRecDepth 65536 in
set_option maxHeartbeats 40000000 in
theorem rm_ch (l : Launch) (Z : State) (a0 : Array Value) (hw : ∀ d ∈ tables_1, d.before a0 Z = true) (ws : List Jvm.Cond) (a : Addr) (i : Int32) (gc : Int32) (G : Value) (b : Addr) (kb : ClassId) (N : Int32) (vs : List Value) (q : Nat) (h0 : Heap) (n0 : Nat) (Z0 : n0 ≤ h0.size) (hgc : ¬ gc = 0) (SC : Sta Z h0 "java/lang/String" "COMPACT_STRINGS" "Z" (.int gc)) (rG : G.isRef = true) (SF : Sta Z h0 "jdk/internal/util/Preconditions" "SIOOBE_FORMATTER" "Ljava/util/function/BiFunction;" G) (E0 : Exa Z h0 a "java/lang/String") (FC : Fld Z h0 a "java/lang/String" "coder" "B" (.int 0)) (FV : Fld Z h0 a "java/lang/String" "value" "[B" (.ref b)) (V : Arv Z h0 b kb .byte N vs (.int 0)) (h1 : ¬ i < 0) (h2 : i < N) (hq : q < 128) (hv : vs.getD i.toNatClampNeg (.int 0) = .int (Int32.ofNat q)) :
    Ctr l Z (⟨"java/lang/String", "charAt", "(I)C"⟩ : MethodName) jdk_42_method_56_code 2 (some .char) ws ({ frames := 3, cells := 0, slots := 0, locals := 60 } : Room) #[(.ref a), (.int i)] h0 (Q_ch (Int32.ofNat q) h0 n0) := by
  refine MetFree.of_bodySF (plainFor_of_name pn_ch) hisR ?_
  intro p e s m args below meth c s₁ Bd hml0 hP hK
  obtain ⟨rfl, hZ, hh⟩ := hP
  have hx := Bd.exec
  have hby := Bd.bytes
  have hlk : meth.locks = false := Bd.notSynchronized
  have hml : c.maxLocals = 2 := hml0
  have hown : s.vm.findClass "java/lang/String" = some m.cls := findClass_of_methodNamed Bd.named
  have hnm := (name_of_methodNamed Bd.named Bd.method).1
  have X0 : Stand p l e ({ frames := 3, cells := 0, slots := 0, locals := 60 } : Room) s m #[(.ref a), (.int i)] below meth c s₁ [] 0 0 := Stand.of_body Bd
  have e0 : s₁.heap = h0 := by rw [← hh, Bd.state]; rfl
  have N0 := Fr.nil n0
  show Goes p e below (EndQ s (Q_ch (Int32.ofNat q) h0 n0) ({ frames := 3, cells := 0, slots := 0, locals := 60 } : Room).cells ({ frames := 3, cells := 0, slots := 0, locals := 60 } : Room).slots) (s₁.setTop (entryFrame m #[(.ref a), (.int i)] 2))
  refine Goes.pre (S' := (s₁.setTop (mkF m 0 #[.val (.ref a), .val (.int i)] []))) (fun _ k => castTop (ef_ch m a i) k) ?_
  refine Goes.pre (S' := (s₁.setTop (mkF m 1 #[.val (.ref a), .val (.int i)] [(.ref a)]))) (fun _ k => XS.aloadN X0.here hx rfl (hb hby dch_0) rfl rfl k) ?_
  refine Goes.callV (y := (⟨"java/lang/String", "isLatin1", "()Z"⟩ : MethodName)) (C := "java/lang/String") X0 hx hZ hown (hw _ (List.mem_of_getElem? (i := 18) rfl)) (hw _ (List.mem_of_getElem? (i := 19) rfl)) (hw _ (List.mem_of_getElem? (i := 21) rfl)) (hw _ (List.mem_of_getElem? (i := 20) rfl)) (hw _ (List.mem_of_getElem? (i := 6) rfl)) (hw _ (List.mem_of_getElem? (i := 22) rfl)) (by decide) e0 E0 (rm_il l Z a0 hw [] a gc h0 n0 Z0 hgc SC FC) (by rw [hml]; rfl) [] [] pd_il rfl rfl rfl (hb hby dch_1) (by decide) (by first | decide | exact Nat.le_of_ble_eq_true rfl | assumption | (simp only [room_1]; omega) | (simp [Value.category]; done)) (by first | decide | exact Nat.le_of_ble_eq_true rfl | assumption | (simp only [room_1]; omega) | (simp [Value.category]; done)) (by first | decide | exact Nat.le_of_ble_eq_true rfl | assumption | (simp only [room_1]; omega) | (simp [Value.category]; done)) ?_
  intro T1 v1 L1 X1 q1
  obtain ⟨rfl, N1a, e1⟩ := q1
  have N1 := Fr.app N0 N1a
  show Goes p e below _ (T1.setTop (mkF m 4 #[.val (.ref a), .val (.int i)] [(.int (1 : Int32))]))
  refine Goes.pre (S' := (T1.setTop (mkF m 7 #[.val (.ref a), .val (.int i)] []))) (fun _ k => XS.ifNo X1.here hx rfl (hb hby dch_4) rfl (XT.i0_eq_f (by decide)) k) ?_
  refine Goes.pre (S' := (T1.setTop (mkF m 8 #[.val (.ref a), .val (.int i)] [(.ref a)]))) (fun _ k => XS.aloadN X1.here hx rfl (hb hby dch_7) rfl rfl k) ?_
  obtain ⟨T2, X2, e2, st2⟩ := getF X1 hx hZ hown (host := "") (Or.inl (hw _ (List.mem_of_getElem? (i := 25) rfl))) Via.refl e1 FV (g := (mkF m 8 #[.val (.ref a), .val (.int i)] [(.ref a)])) rfl rfl (hb hby dch_8)
  refine Goes.pre (S' := (T2.setTop (mkF m 11 #[.val (.ref a), .val (.int i)] [(.ref b)]))) st2 ?_
  refine Goes.pre (S' := (T2.setTop (mkF m 12 #[.val (.ref a), .val (.int i)] [(.int i), (.ref b)]))) (fun _ k => XS.iloadN X2.here hx rfl (hb hby dch_11) rfl k) ?_
  refine Goes.callS (y := (⟨"java/lang/StringLatin1", "charAt", "([BI)C"⟩ : MethodName)) X2 hx hZ hown (hw _ (List.mem_of_getElem? (i := 26) rfl)) (hw _ (List.mem_of_getElem? (i := 27) rfl)) (hw _ (List.mem_of_getElem? (i := 28) rfl)) (hw _ (List.mem_of_getElem? (i := 29) rfl)) (by decide) e2 (rm_lc l Z a0 hw [] b i G kb N vs q h0 n0 Z0 rG SF V h1 h2 hq hv) (by rw [hml]; rfl) [(.ref b), (.int i)] [] pd_lc rfl rfl rfl (hb hby dch_12) (by decide) (by first | decide | exact Nat.le_of_ble_eq_true rfl | assumption | (simp only [room_1]; omega) | (simp [Value.category]; done)) (by first | decide | exact Nat.le_of_ble_eq_true rfl | assumption | (simp only [room_1]; omega) | (simp [Value.category]; done)) (by first | decide | exact Nat.le_of_ble_eq_true rfl | assumption | (simp only [room_1]; omega) | (simp [Value.category]; done)) ?_
  intro T3 v3 L3 X3 q3
  obtain ⟨rfl, N3a, e3⟩ := q3
  have N3 := Fr.app N1 N3a
  show Goes p e below _ (T3.setTop (mkF m 15 #[.val (.ref a), .val (.int i)] [(.int (Int32.ofNat q))]))
  exact Goes.retN X3 hx hlk (t := .char) Bd.returns (by simp) (hb hby dch_15) ⟨by rw [own_nar128 ⟨q, hq⟩], N3, e3⟩ (by first | decide | exact Nat.le_of_ble_eq_true rfl | assumption | (simp only [room_1]; omega) | (simp [Value.category]; done)) (by first | decide | exact Nat.le_of_ble_eq_true rfl | assumption | (simp only [room_1]; omega) | (simp [Value.category]; done))
theorem dha_0 : decode prog_52_method_3_code 0 = .ok (.bipush 31, 2) := by decide +kernel
theorem dha_2 : decode prog_52_method_3_code 2 = .ok (.iload_n 0, 1) := by decide +kernel
theorem dha_3 : decode prog_52_method_3_code 3 = .ok (.imul, 1) := by decide +kernel
theorem dha_4 : decode prog_52_method_3_code 4 = .ok (.iload_n 1, 1) := by decide +kernel
theorem dha_5 : decode prog_52_method_3_code 5 = .ok (.bipush 65, 2) := by decide +kernel
theorem dha_7 : decode prog_52_method_3_code 7 = .ok (.if_icmp .lt 16, 3) := by decide +kernel
theorem dha_10 : decode prog_52_method_3_code 10 = .ok (.iload_n 1, 1) := by decide +kernel
theorem dha_11 : decode prog_52_method_3_code 11 = .ok (.bipush 90, 2) := by decide +kernel
theorem dha_13 : decode prog_52_method_3_code 13 = .ok (.if_icmp .gt 10, 3) := by decide +kernel
theorem dha_16 : decode prog_52_method_3_code 16 = .ok (.iload_n 1, 1) := by decide +kernel
theorem dha_17 : decode prog_52_method_3_code 17 = .ok (.bipush 32, 2) := by decide +kernel
theorem dha_19 : decode prog_52_method_3_code 19 = .ok (.iadd, 1) := by decide +kernel
theorem dha_20 : decode prog_52_method_3_code 20 = .ok (.goto 4, 3) := by decide +kernel
theorem dha_23 : decode prog_52_method_3_code 23 = .ok (.iload_n 1, 1) := by decide +kernel
theorem dha_24 : decode prog_52_method_3_code 24 = .ok (.iadd, 1) := by decide +kernel
theorem dha_25 : decode prog_52_method_3_code 25 = .ok (.ireturn, 1) := by decide +kernel
theorem pd_ha : parseMethodDescriptor "(IC)I" = some ⟨[.int, .char], some .int⟩ := by decide +kernel
theorem pn_ha : plainName "com/example/clear_plan/clearplan/pddl/Names" = true := by first | (simp [plainName, overriddenIn]; done) | decide +kernel
def Q_ha (r : Int32) (h0 : Heap) (n0 : Nat) (v : Option Value) (h : Heap) (L : List Loc) : Prop := v = some (.int r) ∧ Fr n0 L ∧ h = h0
theorem ef_ha (m : MethodId) (i : Int32) (ch : Int32) : entryFrame m #[(.int i), (.int ch)] 2 = mkF m 0 #[.val (.int i), .val (.int ch)] [] := by first | (simp [entryFrame, mkF, argsToLocals, Value.category]; done) | rfl
set_option maxRecDepth 65536 in
set_option maxHeartbeats 40000000 in
theorem rm_ha (l : Launch) (Z : State) (a0 : Array Value) (hw : ∀ d ∈ tables_1, d.before a0 Z = true) (ws : List Jvm.Cond) (i : Int32) (ch : Int32)  (h0 : Heap) (n0 : Nat) (Z0 : n0 ≤ h0.size)  :
    Ctr l Z (⟨"com/example/clear_plan/clearplan/pddl/Names", "hash", "(IC)I"⟩ : MethodName) prog_52_method_3_code 2 (some .int) ws ({ frames := 0, cells := 0, slots := 0, locals := 0 } : Room) #[(.int i), (.int ch)] h0 (Q_ha (31 * i + own_low ch) h0 n0) := by
  refine MetFree.of_bodySF (plainFor_of_name pn_ha) hisR ?_
  intro p e s m args below meth c s₁ Bd hml0 hP hK
  obtain ⟨rfl, hZ, hh⟩ := hP
  have hx := Bd.exec
  have hby := Bd.bytes
  have hlk : meth.locks = false := Bd.notSynchronized
  have hml : c.maxLocals = 2 := hml0
  have hown : s.vm.findClass "com/example/clear_plan/clearplan/pddl/Names" = some m.cls := findClass_of_methodNamed Bd.named
  have hnm := (name_of_methodNamed Bd.named Bd.method).1
  have X0 : Stand p l e ({ frames := 0, cells := 0, slots := 0, locals := 0 } : Room) s m #[(.int i), (.int ch)] below meth c s₁ [] 0 0 := Stand.of_body Bd
  have e0 : s₁.heap = h0 := by rw [← hh, Bd.state]; rfl
  have N0 := Fr.nil n0
  show Goes p e below (EndQ s (Q_ha (31 * i + own_low ch) h0 n0) ({ frames := 0, cells := 0, slots := 0, locals := 0 } : Room).cells ({ frames := 0, cells := 0, slots := 0, locals := 0 } : Room).slots) (s₁.setTop (entryFrame m #[(.int i), (.int ch)] 2))
  refine Goes.pre (S' := (s₁.setTop (mkF m 0 #[.val (.int i), .val (.int ch)] []))) (fun _ k => castTop (ef_ha m i ch) k) ?_
  refine Goes.pre (S' := (s₁.setTop (mkF m 2 #[.val (.int i), .val (.int ch)] [(.int (31 : Int32))]))) (fun _ k => XS.bipush X0.here hx rfl (hb hby dha_0) k) ?_
  refine Goes.pre (S' := (s₁.setTop (mkF m 3 #[.val (.int i), .val (.int ch)] [(.int i), (.int (31 : Int32))]))) (fun _ k => XS.iloadN X0.here hx rfl (hb hby dha_2) rfl k) ?_
  refine Goes.pre (S' := (s₁.setTop (mkF m 4 #[.val (.int i), .val (.int ch)] [(.int ((31 : Int32) * i))]))) (fun _ k => XS.imul X0.here hx rfl (hb hby dha_3) rfl k) ?_
  refine Goes.pre (S' := (s₁.setTop (mkF m 5 #[.val (.int i), .val (.int ch)] [(.int ch), (.int ((31 : Int32) * i))]))) (fun _ k => XS.iloadN X0.here hx rfl (hb hby dha_4) rfl k) ?_
  refine Goes.pre (S' := (s₁.setTop (mkF m 7 #[.val (.int i), .val (.int ch)] [(.int (65 : Int32)), (.int ch), (.int ((31 : Int32) * i))]))) (fun _ k => XS.bipush X0.here hx rfl (hb hby dha_5) k) ?_
  by_cases c7 : ch < (65 : Int32)
  · skip
    refine Goes.pre (S' := (s₁.setTop (mkF m 23 #[.val (.int i), .val (.int ch)] [(.int ((31 : Int32) * i))]))) (fun _ k => XS.icmpYes X0.here hx rfl (pc0 := 7) (pc' := 23) rfl (hb hby dha_7) rfl (XT.ii_lt_t c7) (by decide) (by decide) k) ?_
    refine Goes.pre (S' := (s₁.setTop (mkF m 24 #[.val (.int i), .val (.int ch)] [(.int ch), (.int ((31 : Int32) * i))]))) (fun _ k => XS.iloadN X0.here hx rfl (hb hby dha_23) rfl k) ?_
    refine Goes.pre (S' := (s₁.setTop (mkF m 25 #[.val (.int i), .val (.int ch)] [(.int (((31 : Int32) * i) + ch))]))) (fun _ k => XS.iadd X0.here hx rfl (hb hby dha_24) rfl k) ?_
    have hl : own_low ch = ch := by simp [own_low, c7]
    exact Goes.ret X0 hx hlk (t := .int) Bd.returns rfl (Or.inl ⟨rfl, Or.inl rfl, _, rfl⟩) (hb hby dha_25) ⟨by rw [hl], N0, e0⟩ (by first | decide | exact Nat.le_of_ble_eq_true rfl | assumption | (simp only [room_1]; omega) | (simp [Value.category]; done)) (by first | decide | exact Nat.le_of_ble_eq_true rfl | assumption | (simp only [room_1]; omega) | (simp [Value.category]; done))
  · skip
    refine Goes.pre (S' := (s₁.setTop (mkF m 10 #[.val (.int i), .val (.int ch)] [(.int ((31 : Int32) * i))]))) (fun _ k => XS.icmpNo X0.here hx rfl (hb hby dha_7) rfl (XT.ii_lt_f c7) k) ?_
    refine Goes.pre (S' := (s₁.setTop (mkF m 11 #[.val (.int i), .val (.int ch)] [(.int ch), (.int ((31 : Int32) * i))]))) (fun _ k => XS.iloadN X0.here hx rfl (hb hby dha_10) rfl k) ?_
    refine Goes.pre (S' := (s₁.setTop (mkF m 13 #[.val (.int i), .val (.int ch)] [(.int (90 : Int32)), (.int ch), (.int ((31 : Int32) * i))]))) (fun _ k => XS.bipush X0.here hx rfl (hb hby dha_11) k) ?_
    by_cases c13 : (90 : Int32) < ch
    · skip
      refine Goes.pre (S' := (s₁.setTop (mkF m 23 #[.val (.int i), .val (.int ch)] [(.int ((31 : Int32) * i))]))) (fun _ k => XS.icmpYes X0.here hx rfl (pc0 := 13) (pc' := 23) rfl (hb hby dha_13) rfl (XT.ii_gt_t c13) (by decide) (by decide) k) ?_
      refine Goes.pre (S' := (s₁.setTop (mkF m 24 #[.val (.int i), .val (.int ch)] [(.int ch), (.int ((31 : Int32) * i))]))) (fun _ k => XS.iloadN X0.here hx rfl (hb hby dha_23) rfl k) ?_
      refine Goes.pre (S' := (s₁.setTop (mkF m 25 #[.val (.int i), .val (.int ch)] [(.int (((31 : Int32) * i) + ch))]))) (fun _ k => XS.iadd X0.here hx rfl (hb hby dha_24) rfl k) ?_
      have hl : own_low ch = ch := by simp [own_low, c7, c13]
      exact Goes.ret X0 hx hlk (t := .int) Bd.returns rfl (Or.inl ⟨rfl, Or.inl rfl, _, rfl⟩) (hb hby dha_25) ⟨by rw [hl], N0, e0⟩ (by first | decide | exact Nat.le_of_ble_eq_true rfl | assumption | (simp only [room_1]; omega) | (simp [Value.category]; done)) (by first | decide | exact Nat.le_of_ble_eq_true rfl | assumption | (simp only [room_1]; omega) | (simp [Value.category]; done))
    · skip
      refine Goes.pre (S' := (s₁.setTop (mkF m 16 #[.val (.int i), .val (.int ch)] [(.int ((31 : Int32) * i))]))) (fun _ k => XS.icmpNo X0.here hx rfl (hb hby dha_13) rfl (XT.ii_gt_f c13) k) ?_
      refine Goes.pre (S' := (s₁.setTop (mkF m 17 #[.val (.int i), .val (.int ch)] [(.int ch), (.int ((31 : Int32) * i))]))) (fun _ k => XS.iloadN X0.here hx rfl (hb hby dha_16) rfl k) ?_
      refine Goes.pre (S' := (s₁.setTop (mkF m 19 #[.val (.int i), .val (.int ch)] [(.int (32 : Int32)), (.int ch), (.int ((31 : Int32) * i))]))) (fun _ k => XS.bipush X0.here hx rfl (hb hby dha_17) k) ?_
      refine Goes.pre (S' := (s₁.setTop (mkF m 20 #[.val (.int i), .val (.int ch)] [(.int (ch + (32 : Int32))), (.int ((31 : Int32) * i))]))) (fun _ k => XS.iadd X0.here hx rfl (hb hby dha_19) rfl k) ?_
      refine Goes.pre (S' := (s₁.setTop (mkF m 24 #[.val (.int i), .val (.int ch)] [(.int (ch + (32 : Int32))), (.int ((31 : Int32) * i))]))) (fun _ k => XS.goto X0.here hx rfl (pc0 := 20) (pc' := 24) rfl (hb hby dha_20) (by decide) (by decide) k) ?_
      refine Goes.pre (S' := (s₁.setTop (mkF m 25 #[.val (.int i), .val (.int ch)] [(.int (((31 : Int32) * i) + (ch + (32 : Int32))))]))) (fun _ k => XS.iadd X0.here hx rfl (hb hby dha_24) rfl k) ?_
      have hl : own_low ch = ch + 32 := by simp [own_low, c7, c13]
      exact Goes.ret X0 hx hlk (t := .int) Bd.returns rfl (Or.inl ⟨rfl, Or.inl rfl, _, rfl⟩) (hb hby dha_25) ⟨by rw [hl], N0, e0⟩ (by first | decide | exact Nat.le_of_ble_eq_true rfl | assumption | (simp only [room_1]; omega) | (simp [Value.category]; done)) (by first | decide | exact Nat.le_of_ble_eq_true rfl | assumption | (simp only [room_1]; omega) | (simp [Value.category]; done))
theorem pn_law : plainName "com/example/clear_plan/clearplan/pddl/NamesHashPinLaw" = true := by first | (simp [plainName, overriddenIn]; done) | decide +kernel
def Q_law (h0 : Heap) (n0 : Nat) (v : Option Value) (h : Heap) (L : List Loc) : Prop := v = some (.int 1) ∧ Fr n0 L
theorem ef_law (m : MethodId) (i0 : Int32) (i1 : Int32) (i2 : Int32) : entryFrame m #[(.int i0), (.int i1), (.int i2)] maxLocals = mkF m 0 #[.val (.int i0), .val (.int i1), .val (.int i2), .unset, .unset, .unset, .unset] [] := by first | (simp [entryFrame, mkF, argsToLocals, Value.category, maxLocals]; done) | rfl
set_option maxRecDepth 65536 in
set_option maxHeartbeats 40000000 in
theorem rm_law (l : Launch) (Z : State) (a0 : Array Value) (hw : ∀ d ∈ tables_1, d.before a0 Z = true) (ws : List Jvm.Cond) (i0 : Int32) (i1 : Int32) (i2 : Int32) (gc : Int32) (G : Value) (h0 : Heap) (n0 : Nat) (Z0 : n0 ≤ h0.size) (hZ0 : Z.heap = h0) (hn0 : n0 = h0.size) (hgc : ¬ gc = 0) (SC : Sta Z h0 "java/lang/String" "COMPACT_STRINGS" "Z" (.int gc)) (rG : G.isRef = true) (SF : Sta Z h0 "jdk/internal/util/Preconditions" "SIOOBE_FORMATTER" "Ljava/util/function/BiFunction;" G) (hcw : Jvm.Lit.compactW.before a0 Z = true) (H8 : Jvm.Lit.constHeld Z "com/example/clear_plan/clearplan/pddl/NamesHashPinLaw" 8) (H16 : Jvm.Lit.constHeld Z "com/example/clear_plan/clearplan/pddl/NamesHashPinLaw" 16) :
    CtrW l Z x code maxLocals ret ws room_1 #[(.int i0), (.int i1), (.int i2)] h0 (Q_law h0 n0) := by
  refine MetFree.of_bodySF (plainFor_of_name pn_law) hisR ?_
  intro p e s m args below meth c s₁ Bd hml0 hP hK
  obtain ⟨rfl, hZ, hh, hvmZ⟩ := hP
  have hx := Bd.exec
  have hby := Bd.bytes
  have hlk : meth.locks = false := Bd.notSynchronized
  have hml : c.maxLocals = 7 := hml0
  have hown : s.vm.findClass "com/example/clear_plan/clearplan/pddl/NamesHashPinLaw" = some m.cls := findClass_of_methodNamed Bd.named
  have hnm := (name_of_methodNamed Bd.named Bd.method).1
  have X0 : Stand p l e room_1 s m #[(.int i0), (.int i1), (.int i2)] below meth c s₁ [] 0 0 := Stand.of_body Bd
  have e0 : s₁.heap = h0 := by rw [← hh, Bd.state]; rfl
  have N0 := Fr.nil n0
  show Goes p e below (EndW s (Q_law h0 n0) room_1.cells room_1.slots) (s₁.setTop (entryFrame m #[(.int i0), (.int i1), (.int i2)] maxLocals))
  refine Goes.pre (S' := (s₁.setTop (mkF m 0 #[.val (.int i0), .val (.int i1), .val (.int i2), .unset, .unset, .unset, .unset] []))) (fun _ k => castTop (ef_law m i0 i1 i2) k) ?_
  have hsh : s.heap = h0 := hh
  have hkeep : ∀ (b : Addr) (cl : Cell), Z.heap[b]? = some cl → s.heap[b]? = some cl := fun b cl q => by rw [hsh, ← hZ0]; exact q
  have wS : ∀ a ∈ Bundle.stringAtoms, a.before a0 Z = true := fun a ha => hw a ((by decide +kernel : ∀ a ∈ Bundle.stringAtoms, a ∈ tables_1) a ha)
  have tail : ∀ (mo kk ch : Int32) (TT : State) (LL : List Loc) (HH : Heap) (cc ss : Nat) (vm0 : Vm) (k0 : Nat) (Ts : List String), Stand p l e room_1 (s.setVm vm0) m #[(.int i0), (.int i1), (.int i2)] below meth c TT LL cc ss → TT.heap = HH → Z.Warmed39 (s.setVm vm0).vm → (s.setVm vm0).vm.findClass "com/example/clear_plan/clearplan/pddl/NamesHashPinLaw" = some m.cls → s.Since vm0 k0 → k0 ≤ HH.size → Fr n0 LL → n0 ≤ HH.size → IB Z vm0 Ts → "abcdefghijklmnopqrstuvwxyz" ∉ Ts → Ext h0 HH → cc ≤ 2 → ss ≤ 20 → Goes p e below (EndW s (Q_law h0 n0) room_1.cells room_1.slots) (TT.setTop (mkF m 66 #[.val (.int i0), .val (.int i1), .val (.int i2), .val (.int mo), .val (.int kk), .val (.int ch), .unset] [])) := by
    intro mo kk ch TT LL HH cc ss vm0 k0 Ts XX eX hZ hown hS hk NX ZX IBX hnot ExX hcc hss
    refine Goes.pre (S' := (TT.setTop (mkF m 68 #[.val (.int i0), .val (.int i1), .val (.int i2), .val (.int mo), .val (.int kk), .val (.int ch), .unset] [(.int ch)]))) (fun _ k => XS.iload XX.here hx rfl (hb hby at_66) rfl k) ?_
    refine Goes.pre (S' := (TT.setTop (mkF m 70 #[.val (.int i0), .val (.int i1), .val (.int i2), .val (.int mo), .val (.int kk), .val (.int ch), .val (.int ch)] []))) (fun _ k => XS.istore XX.here hx rfl (hb hby at_68) rfl (l' := #[.val (.int i0), .val (.int i1), .val (.int i2), .val (.int mo), .val (.int kk), .val (.int ch), .val (.int ch)]) rfl k) ?_
    refine Goes.pre (S' := (TT.setTop (mkF m 72 #[.val (.int i0), .val (.int i1), .val (.int i2), .val (.int mo), .val (.int kk), .val (.int ch), .val (.int ch)] [(.int ch)]))) (fun _ k => XS.iload XX.here hx rfl (hb hby at_70) rfl k) ?_
    refine Goes.pre (S' := (TT.setTop (mkF m 74 #[.val (.int i0), .val (.int i1), .val (.int i2), .val (.int mo), .val (.int kk), .val (.int ch), .val (.int ch)] [(.int (65 : Int32)), (.int ch)]))) (fun _ k => XS.bipush XX.here hx rfl (hb hby at_72) k) ?_
    by_cases c74 : ch < (65 : Int32)
    · skip
      refine Goes.pre (S' := (TT.setTop (mkF m 96 #[.val (.int i0), .val (.int i1), .val (.int i2), .val (.int mo), .val (.int kk), .val (.int ch), .val (.int ch)] []))) (fun _ k => XS.icmpYes XX.here hx rfl (pc0 := 74) (pc' := 96) rfl (hb hby at_74) rfl (XT.ii_lt_t c74) (by decide) (by decide) k) ?_
      refine Goes.pre (S' := (TT.setTop (mkF m 97 #[.val (.int i0), .val (.int i1), .val (.int i2), .val (.int mo), .val (.int kk), .val (.int ch), .val (.int ch)] [(.int i0)]))) (fun _ k => XS.iloadN XX.here hx rfl (hb hby at_96) rfl k) ?_
      refine Goes.pre (S' := (TT.setTop (mkF m 99 #[.val (.int i0), .val (.int i1), .val (.int i2), .val (.int mo), .val (.int kk), .val (.int ch), .val (.int ch)] [(.int ch), (.int i0)]))) (fun _ k => XS.iload XX.here hx rfl (hb hby at_97) rfl k) ?_
      refine Goes.callS (y := (⟨"com/example/clear_plan/clearplan/pddl/Names", "hash", "(IC)I"⟩ : MethodName)) XX hx hZ hown (hw _ (List.mem_of_getElem? (i := 1) rfl)) (hw _ (List.mem_of_getElem? (i := 2) rfl)) (hw _ (List.mem_of_getElem? (i := 3) rfl)) (hw _ (List.mem_of_getElem? (i := 4) rfl)) (by decide) eX (rm_ha l Z a0 hw [] i0 ch HH n0 ZX) (by rw [hml]; rfl) [(.int i0), (.int ch)] [] pd_ha rfl rfl rfl (hb hby at_99) (by decide) (by first | decide | exact Nat.le_of_ble_eq_true rfl | assumption | (simp only [room_1]; omega) | (simp [Value.category]; done)) (by first | decide | exact Nat.le_of_ble_eq_true rfl | assumption | (simp only [room_1]; omega) | (simp [Value.category]; done)) (by first | decide | exact Nat.le_of_ble_eq_true rfl | assumption | (simp only [room_1]; omega) | (simp [Value.category]; done)) ?_
      intro T1 v1 L1 X1 q1
      obtain ⟨rfl, N1a, e1⟩ := q1
      have N1 := Fr.app NX N1a
      show Goes p e below _ (T1.setTop (mkF m 102 #[.val (.int i0), .val (.int i1), .val (.int i2), .val (.int mo), .val (.int kk), .val (.int ch), .val (.int ch)] [(.int (31 * i0 + own_low ch))]))
      refine Goes.pre (S' := (T1.setTop (mkF m 104 #[.val (.int i0), .val (.int i1), .val (.int i2), .val (.int mo), .val (.int kk), .val (.int ch), .val (.int ch)] [(.int (31 : Int32)), (.int (31 * i0 + own_low ch))]))) (fun _ k => XS.bipush X1.here hx rfl (hb hby at_102) k) ?_
      refine Goes.pre (S' := (T1.setTop (mkF m 105 #[.val (.int i0), .val (.int i1), .val (.int i2), .val (.int mo), .val (.int kk), .val (.int ch), .val (.int ch)] [(.int i0), (.int (31 : Int32)), (.int (31 * i0 + own_low ch))]))) (fun _ k => XS.iloadN X1.here hx rfl (hb hby at_104) rfl k) ?_
      refine Goes.pre (S' := (T1.setTop (mkF m 106 #[.val (.int i0), .val (.int i1), .val (.int i2), .val (.int mo), .val (.int kk), .val (.int ch), .val (.int ch)] [(.int ((31 : Int32) * i0)), (.int (31 * i0 + own_low ch))]))) (fun _ k => XS.imul X1.here hx rfl (hb hby at_105) rfl k) ?_
      refine Goes.pre (S' := (T1.setTop (mkF m 108 #[.val (.int i0), .val (.int i1), .val (.int i2), .val (.int mo), .val (.int kk), .val (.int ch), .val (.int ch)] [(.int ch), (.int ((31 : Int32) * i0)), (.int (31 * i0 + own_low ch))]))) (fun _ k => XS.iload X1.here hx rfl (hb hby at_106) rfl k) ?_
      refine Goes.pre (S' := (T1.setTop (mkF m 109 #[.val (.int i0), .val (.int i1), .val (.int i2), .val (.int mo), .val (.int kk), .val (.int ch), .val (.int ch)] [(.int (((31 : Int32) * i0) + ch)), (.int (31 * i0 + own_low ch))]))) (fun _ k => XS.iadd X1.here hx rfl (hb hby at_108) rfl k) ?_
      refine Goes.pre (S' := (T1.setTop (mkF m 112 #[.val (.int i0), .val (.int i1), .val (.int i2), .val (.int mo), .val (.int kk), .val (.int ch), .val (.int ch)] []))) (fun _ k => XS.icmpNo X1.here hx rfl (hb hby at_109) rfl (XT.ii_ne_f (by rw [own_low, if_pos c74])) k) ?_
      refine Goes.pre (S' := (T1.setTop (mkF m 113 #[.val (.int i0), .val (.int i1), .val (.int i2), .val (.int mo), .val (.int kk), .val (.int ch), .val (.int ch)] [(.int (1 : Int32))]))) (fun _ k => XS.iconst X1.here hx rfl (hb hby at_112) k) ?_
      refine Goes.pre (S' := (T1.setTop (mkF m 117 #[.val (.int i0), .val (.int i1), .val (.int i2), .val (.int mo), .val (.int kk), .val (.int ch), .val (.int ch)] [(.int (1 : Int32))]))) (fun _ k => XS.goto X1.here hx rfl (pc0 := 113) (pc' := 117) rfl (hb hby at_113) (by decide) (by decide) k) ?_
      exact Goes.retNW X1 hS (by rw [e1]; exact hk) hx hlk (t := .boolean) Bd.returns (by simp) (hb hby at_117) ⟨rfl, N1⟩ (by first | decide | (show _ + _ ≤ _; simp only [room_1]; omega)) (by first | decide | (show _ + _ ≤ _; simp only [room_1]; omega))
    · skip
      refine Goes.pre (S' := (TT.setTop (mkF m 77 #[.val (.int i0), .val (.int i1), .val (.int i2), .val (.int mo), .val (.int kk), .val (.int ch), .val (.int ch)] []))) (fun _ k => XS.icmpNo XX.here hx rfl (hb hby at_74) rfl (XT.ii_lt_f c74) k) ?_
      refine Goes.pre (S' := (TT.setTop (mkF m 79 #[.val (.int i0), .val (.int i1), .val (.int i2), .val (.int mo), .val (.int kk), .val (.int ch), .val (.int ch)] [(.int ch)]))) (fun _ k => XS.iload XX.here hx rfl (hb hby at_77) rfl k) ?_
      refine Goes.pre (S' := (TT.setTop (mkF m 81 #[.val (.int i0), .val (.int i1), .val (.int i2), .val (.int mo), .val (.int kk), .val (.int ch), .val (.int ch)] [(.int (90 : Int32)), (.int ch)]))) (fun _ k => XS.bipush XX.here hx rfl (hb hby at_79) k) ?_
      by_cases c81 : (90 : Int32) < ch
      · skip
        refine Goes.pre (S' := (TT.setTop (mkF m 96 #[.val (.int i0), .val (.int i1), .val (.int i2), .val (.int mo), .val (.int kk), .val (.int ch), .val (.int ch)] []))) (fun _ k => XS.icmpYes XX.here hx rfl (pc0 := 81) (pc' := 96) rfl (hb hby at_81) rfl (XT.ii_gt_t c81) (by decide) (by decide) k) ?_
        refine Goes.pre (S' := (TT.setTop (mkF m 97 #[.val (.int i0), .val (.int i1), .val (.int i2), .val (.int mo), .val (.int kk), .val (.int ch), .val (.int ch)] [(.int i0)]))) (fun _ k => XS.iloadN XX.here hx rfl (hb hby at_96) rfl k) ?_
        refine Goes.pre (S' := (TT.setTop (mkF m 99 #[.val (.int i0), .val (.int i1), .val (.int i2), .val (.int mo), .val (.int kk), .val (.int ch), .val (.int ch)] [(.int ch), (.int i0)]))) (fun _ k => XS.iload XX.here hx rfl (hb hby at_97) rfl k) ?_
        refine Goes.callS (y := (⟨"com/example/clear_plan/clearplan/pddl/Names", "hash", "(IC)I"⟩ : MethodName)) XX hx hZ hown (hw _ (List.mem_of_getElem? (i := 1) rfl)) (hw _ (List.mem_of_getElem? (i := 2) rfl)) (hw _ (List.mem_of_getElem? (i := 3) rfl)) (hw _ (List.mem_of_getElem? (i := 4) rfl)) (by decide) eX (rm_ha l Z a0 hw [] i0 ch HH n0 ZX) (by rw [hml]; rfl) [(.int i0), (.int ch)] [] pd_ha rfl rfl rfl (hb hby at_99) (by decide) (by first | decide | exact Nat.le_of_ble_eq_true rfl | assumption | (simp only [room_1]; omega) | (simp [Value.category]; done)) (by first | decide | exact Nat.le_of_ble_eq_true rfl | assumption | (simp only [room_1]; omega) | (simp [Value.category]; done)) (by first | decide | exact Nat.le_of_ble_eq_true rfl | assumption | (simp only [room_1]; omega) | (simp [Value.category]; done)) ?_
        intro T2 v2 L2 X2 q2
        obtain ⟨rfl, N2a, e2⟩ := q2
        have N2 := Fr.app NX N2a
        show Goes p e below _ (T2.setTop (mkF m 102 #[.val (.int i0), .val (.int i1), .val (.int i2), .val (.int mo), .val (.int kk), .val (.int ch), .val (.int ch)] [(.int (31 * i0 + own_low ch))]))
        refine Goes.pre (S' := (T2.setTop (mkF m 104 #[.val (.int i0), .val (.int i1), .val (.int i2), .val (.int mo), .val (.int kk), .val (.int ch), .val (.int ch)] [(.int (31 : Int32)), (.int (31 * i0 + own_low ch))]))) (fun _ k => XS.bipush X2.here hx rfl (hb hby at_102) k) ?_
        refine Goes.pre (S' := (T2.setTop (mkF m 105 #[.val (.int i0), .val (.int i1), .val (.int i2), .val (.int mo), .val (.int kk), .val (.int ch), .val (.int ch)] [(.int i0), (.int (31 : Int32)), (.int (31 * i0 + own_low ch))]))) (fun _ k => XS.iloadN X2.here hx rfl (hb hby at_104) rfl k) ?_
        refine Goes.pre (S' := (T2.setTop (mkF m 106 #[.val (.int i0), .val (.int i1), .val (.int i2), .val (.int mo), .val (.int kk), .val (.int ch), .val (.int ch)] [(.int ((31 : Int32) * i0)), (.int (31 * i0 + own_low ch))]))) (fun _ k => XS.imul X2.here hx rfl (hb hby at_105) rfl k) ?_
        refine Goes.pre (S' := (T2.setTop (mkF m 108 #[.val (.int i0), .val (.int i1), .val (.int i2), .val (.int mo), .val (.int kk), .val (.int ch), .val (.int ch)] [(.int ch), (.int ((31 : Int32) * i0)), (.int (31 * i0 + own_low ch))]))) (fun _ k => XS.iload X2.here hx rfl (hb hby at_106) rfl k) ?_
        refine Goes.pre (S' := (T2.setTop (mkF m 109 #[.val (.int i0), .val (.int i1), .val (.int i2), .val (.int mo), .val (.int kk), .val (.int ch), .val (.int ch)] [(.int (((31 : Int32) * i0) + ch)), (.int (31 * i0 + own_low ch))]))) (fun _ k => XS.iadd X2.here hx rfl (hb hby at_108) rfl k) ?_
        refine Goes.pre (S' := (T2.setTop (mkF m 112 #[.val (.int i0), .val (.int i1), .val (.int i2), .val (.int mo), .val (.int kk), .val (.int ch), .val (.int ch)] []))) (fun _ k => XS.icmpNo X2.here hx rfl (hb hby at_109) rfl (XT.ii_ne_f (by rw [own_low, if_neg c74, if_pos c81])) k) ?_
        refine Goes.pre (S' := (T2.setTop (mkF m 113 #[.val (.int i0), .val (.int i1), .val (.int i2), .val (.int mo), .val (.int kk), .val (.int ch), .val (.int ch)] [(.int (1 : Int32))]))) (fun _ k => XS.iconst X2.here hx rfl (hb hby at_112) k) ?_
        refine Goes.pre (S' := (T2.setTop (mkF m 117 #[.val (.int i0), .val (.int i1), .val (.int i2), .val (.int mo), .val (.int kk), .val (.int ch), .val (.int ch)] [(.int (1 : Int32))]))) (fun _ k => XS.goto X2.here hx rfl (pc0 := 113) (pc' := 117) rfl (hb hby at_113) (by decide) (by decide) k) ?_
        exact Goes.retNW X2 hS (by rw [e2]; exact hk) hx hlk (t := .boolean) Bd.returns (by simp) (hb hby at_117) ⟨rfl, N2⟩ (by first | decide | (show _ + _ ≤ _; simp only [room_1]; omega)) (by first | decide | (show _ + _ ≤ _; simp only [room_1]; omega))
      · skip
        refine Goes.pre (S' := (TT.setTop (mkF m 84 #[.val (.int i0), .val (.int i1), .val (.int i2), .val (.int mo), .val (.int kk), .val (.int ch), .val (.int ch)] []))) (fun _ k => XS.icmpNo XX.here hx rfl (hb hby at_81) rfl (XT.ii_gt_f c81) k) ?_
        obtain ⟨q, hq26, ech, esub, eadd⟩ := own_letter c74 c81
        obtain ⟨a3, T3, h3, k13, b3, kb3, X3, e3, E3, hS, hk, hZ, hown, Ex3, FC3, FV3, V3, -, -, IB3, st3⟩ := ldcSV (s := s) XX hx hZ hown (hw _ (List.mem_of_getElem? (i := 38) rfl)) wS eX hS hk (by rw [hsh, ← hn0]; exact NX) hkeep IBX hnot H16 hcw (vs := own_abc) (z := 26) ⟨by decide +kernel, by decide +kernel⟩ (by decide) (by decide +kernel) (g := (mkF m 84 #[.val (.int i0), .val (.int i1), .val (.int i2), .val (.int mo), .val (.int kk), .val (.int ch), .val (.int ch)] [])) rfl (hb hby at_84) (n := 104) (by decide +kernel) (by decide) (by first | decide | (show _ + _ ≤ _; simp only [room_1]; omega)) (by first | decide | (show _ + _ ≤ _; simp only [room_1]; omega))
        have Zn3 : n0 ≤ h3.size := Nat.le_trans ZX E3.1
        have Ex03 : Ext h0 h3 := own_ExtTrans ExX E3
        refine Goes.pre (S' := (T3.setTop (mkF m 86 #[.val (.int i0), .val (.int i1), .val (.int i2), .val (.int mo), .val (.int kk), .val (.int ch), .val (.int ch)] [(.ref a3)]))) st3 ?_
        refine Goes.pre (S' := (T3.setTop (mkF m 88 #[.val (.int i0), .val (.int i1), .val (.int i2), .val (.int mo), .val (.int kk), .val (.int ch), .val (.int ch)] [(.int ch), (.ref a3)]))) (fun _ k => XS.iload X3.here hx rfl (hb hby at_86) rfl k) ?_
        refine Goes.pre (S' := (T3.setTop (mkF m 90 #[.val (.int i0), .val (.int i1), .val (.int i2), .val (.int mo), .val (.int kk), .val (.int ch), .val (.int ch)] [(.int (65 : Int32)), (.int ch), (.ref a3)]))) (fun _ k => XS.bipush X3.here hx rfl (hb hby at_88) k) ?_
        refine Goes.pre (S' := (T3.setTop (mkF m 91 #[.val (.int i0), .val (.int i1), .val (.int i2), .val (.int mo), .val (.int kk), .val (.int ch), .val (.int ch)] [(.int (ch - (65 : Int32))), (.ref a3)]))) (fun _ k => XS.isub X3.here hx rfl (hb hby at_90) rfl k) ?_
        obtain ⟨j1, j2, j3⟩ := own_idx ⟨q, hq26⟩
        rw [esub]
        show Goes p e below _ (T3.setTop (mkF m 91 #[.val (.int i0), .val (.int i1), .val (.int i2), .val (.int mo), .val (.int kk), .val (.int ch), .val (.int ch)] [(.int (Int32.ofNat q)), (.ref a3)]))
        refine Goes.callV (y := (⟨"java/lang/String", "charAt", "(I)C"⟩ : MethodName)) (C := "java/lang/String") X3 hx hZ hown (hw _ (List.mem_of_getElem? (i := 13) rfl)) (hw _ (List.mem_of_getElem? (i := 14) rfl)) (hw _ (List.mem_of_getElem? (i := 16) rfl)) (hw _ (List.mem_of_getElem? (i := 15) rfl)) (hw _ (List.mem_of_getElem? (i := 6) rfl)) (hw _ (List.mem_of_getElem? (i := 17) rfl)) (by decide) e3 Ex3 (rm_ch l Z a0 hw [] a3 (Int32.ofNat q) gc G b3 kb3 26 own_abc (97 + q) h3 n0 Zn3 hgc (SC.ext Ex03) rG (SF.ext Ex03) Ex3 FC3 FV3 V3 j1 j2 (by omega) (by rw [j3]; exact own_abcAt ⟨q, hq26⟩)) (by rw [hml]; rfl) [(.int (Int32.ofNat q))] [] pd_ch rfl rfl rfl (hb hby at_91) (by decide) (by first | decide | exact Nat.le_of_ble_eq_true rfl | assumption | (simp only [room_1]; omega) | (simp [Value.category]; done)) (by first | decide | exact Nat.le_of_ble_eq_true rfl | assumption | (simp only [room_1]; omega) | (simp [Value.category]; done)) (by first | decide | exact Nat.le_of_ble_eq_true rfl | assumption | (simp only [room_1]; omega) | (simp [Value.category]; done)) ?_
        intro T4 v4 L4 X4 q4
        obtain ⟨rfl, N4a, e4⟩ := q4
        have N4 := Fr.app NX N4a
        show Goes p e below _ (T4.setTop (mkF m 94 #[.val (.int i0), .val (.int i1), .val (.int i2), .val (.int mo), .val (.int kk), .val (.int ch), .val (.int ch)] [(.int (Int32.ofNat (97 + q)))]))
        refine Goes.pre (S' := (T4.setTop (mkF m 96 #[.val (.int i0), .val (.int i1), .val (.int i2), .val (.int mo), .val (.int kk), .val (.int ch), .val (.int (Int32.ofNat (97 + q)))] []))) (fun _ k => XS.istore X4.here hx rfl (hb hby at_94) rfl (l' := #[.val (.int i0), .val (.int i1), .val (.int i2), .val (.int mo), .val (.int kk), .val (.int ch), .val (.int (Int32.ofNat (97 + q)))]) rfl k) ?_
        refine Goes.pre (S' := (T4.setTop (mkF m 97 #[.val (.int i0), .val (.int i1), .val (.int i2), .val (.int mo), .val (.int kk), .val (.int ch), .val (.int (Int32.ofNat (97 + q)))] [(.int i0)]))) (fun _ k => XS.iloadN X4.here hx rfl (hb hby at_96) rfl k) ?_
        refine Goes.pre (S' := (T4.setTop (mkF m 99 #[.val (.int i0), .val (.int i1), .val (.int i2), .val (.int mo), .val (.int kk), .val (.int ch), .val (.int (Int32.ofNat (97 + q)))] [(.int ch), (.int i0)]))) (fun _ k => XS.iload X4.here hx rfl (hb hby at_97) rfl k) ?_
        refine Goes.callS (y := (⟨"com/example/clear_plan/clearplan/pddl/Names", "hash", "(IC)I"⟩ : MethodName)) X4 hx hZ hown (hw _ (List.mem_of_getElem? (i := 1) rfl)) (hw _ (List.mem_of_getElem? (i := 2) rfl)) (hw _ (List.mem_of_getElem? (i := 3) rfl)) (hw _ (List.mem_of_getElem? (i := 4) rfl)) (by decide) e4 (rm_ha l Z a0 hw [] i0 ch h3 n0 Zn3) (by rw [hml]; rfl) [(.int i0), (.int ch)] [] pd_ha rfl rfl rfl (hb hby at_99) (by decide) (by first | decide | exact Nat.le_of_ble_eq_true rfl | assumption | (simp only [room_1]; omega) | (simp [Value.category]; done)) (by first | decide | exact Nat.le_of_ble_eq_true rfl | assumption | (simp only [room_1]; omega) | (simp [Value.category]; done)) (by first | decide | exact Nat.le_of_ble_eq_true rfl | assumption | (simp only [room_1]; omega) | (simp [Value.category]; done)) ?_
        intro T5 v5 L5 X5 q5
        obtain ⟨rfl, N5a, e5⟩ := q5
        have N5 := Fr.app N4 N5a
        show Goes p e below _ (T5.setTop (mkF m 102 #[.val (.int i0), .val (.int i1), .val (.int i2), .val (.int mo), .val (.int kk), .val (.int ch), .val (.int (Int32.ofNat (97 + q)))] [(.int (31 * i0 + own_low ch))]))
        refine Goes.pre (S' := (T5.setTop (mkF m 104 #[.val (.int i0), .val (.int i1), .val (.int i2), .val (.int mo), .val (.int kk), .val (.int ch), .val (.int (Int32.ofNat (97 + q)))] [(.int (31 : Int32)), (.int (31 * i0 + own_low ch))]))) (fun _ k => XS.bipush X5.here hx rfl (hb hby at_102) k) ?_
        refine Goes.pre (S' := (T5.setTop (mkF m 105 #[.val (.int i0), .val (.int i1), .val (.int i2), .val (.int mo), .val (.int kk), .val (.int ch), .val (.int (Int32.ofNat (97 + q)))] [(.int i0), (.int (31 : Int32)), (.int (31 * i0 + own_low ch))]))) (fun _ k => XS.iloadN X5.here hx rfl (hb hby at_104) rfl k) ?_
        refine Goes.pre (S' := (T5.setTop (mkF m 106 #[.val (.int i0), .val (.int i1), .val (.int i2), .val (.int mo), .val (.int kk), .val (.int ch), .val (.int (Int32.ofNat (97 + q)))] [(.int ((31 : Int32) * i0)), (.int (31 * i0 + own_low ch))]))) (fun _ k => XS.imul X5.here hx rfl (hb hby at_105) rfl k) ?_
        refine Goes.pre (S' := (T5.setTop (mkF m 108 #[.val (.int i0), .val (.int i1), .val (.int i2), .val (.int mo), .val (.int kk), .val (.int ch), .val (.int (Int32.ofNat (97 + q)))] [(.int (Int32.ofNat (97 + q))), (.int ((31 : Int32) * i0)), (.int (31 * i0 + own_low ch))]))) (fun _ k => XS.iload X5.here hx rfl (hb hby at_106) rfl k) ?_
        refine Goes.pre (S' := (T5.setTop (mkF m 109 #[.val (.int i0), .val (.int i1), .val (.int i2), .val (.int mo), .val (.int kk), .val (.int ch), .val (.int (Int32.ofNat (97 + q)))] [(.int (((31 : Int32) * i0) + (Int32.ofNat (97 + q)))), (.int (31 * i0 + own_low ch))]))) (fun _ k => XS.iadd X5.here hx rfl (hb hby at_108) rfl k) ?_
        refine Goes.pre (S' := (T5.setTop (mkF m 112 #[.val (.int i0), .val (.int i1), .val (.int i2), .val (.int mo), .val (.int kk), .val (.int ch), .val (.int (Int32.ofNat (97 + q)))] []))) (fun _ k => XS.icmpNo X5.here hx rfl (hb hby at_109) rfl (XT.ii_ne_f (by rw [← eadd, own_low, if_neg c74, if_neg c81])) k) ?_
        refine Goes.pre (S' := (T5.setTop (mkF m 113 #[.val (.int i0), .val (.int i1), .val (.int i2), .val (.int mo), .val (.int kk), .val (.int ch), .val (.int (Int32.ofNat (97 + q)))] [(.int (1 : Int32))]))) (fun _ k => XS.iconst X5.here hx rfl (hb hby at_112) k) ?_
        refine Goes.pre (S' := (T5.setTop (mkF m 117 #[.val (.int i0), .val (.int i1), .val (.int i2), .val (.int mo), .val (.int kk), .val (.int ch), .val (.int (Int32.ofNat (97 + q)))] [(.int (1 : Int32))]))) (fun _ k => XS.goto X5.here hx rfl (pc0 := 113) (pc' := 117) rfl (hb hby at_113) (by decide) (by decide) k) ?_
        exact Goes.retNW X5 hS (by rw [e5]; exact hk) hx hlk (t := .boolean) Bd.returns (by simp) (hb hby at_117) ⟨rfl, N5⟩ (by first | decide | (show _ + _ ≤ _; simp only [room_1]; omega)) (by first | decide | (show _ + _ ≤ _; simp only [room_1]; omega))
  have hS : s.Since s.vm h0.size := (State.WarmedH.refl s).since _
  have hk : h0.size ≤ h0.size := Nat.le_refl _
  have X00 : Stand p l e room_1 (s.setVm s.vm) m #[(.int i0), (.int i1), (.int i2)] below meth c s₁ [] 0 0 := X0
  have IB0 : IB Z s.vm [] := (by rw [hvmZ]; exact IB.start)
  refine Goes.pre (S' := (s₁.setTop (mkF m 1 #[.val (.int i0), .val (.int i1), .val (.int i2), .unset, .unset, .unset, .unset] [(.int i2)]))) (fun _ k => XS.iloadN X00.here hx rfl (hb hby at_0) rfl k) ?_
  refine Goes.pre (S' := (s₁.setTop (mkF m 2 #[.val (.int i0), .val (.int i1), .val (.int i2), .unset, .unset, .unset, .unset] [(.int (3 : Int32)), (.int i2)]))) (fun _ k => XS.iconst X00.here hx rfl (hb hby at_1) k) ?_
  refine Goes.pre (S' := (s₁.setTop (mkF m 3 #[.val (.int i0), .val (.int i1), .val (.int i2), .unset, .unset, .unset, .unset] [(.int (i2 &&& (3 : Int32)))]))) (fun _ k => XS.iand X00.here hx rfl (hb hby at_2) rfl k) ?_
  refine Goes.pre (S' := (s₁.setTop (mkF m 4 #[.val (.int i0), .val (.int i1), .val (.int i2), .val (.int (i2 &&& (3 : Int32))), .unset, .unset, .unset] []))) (fun _ k => XS.istoreN X00.here hx rfl (hb hby at_3) rfl (l' := #[.val (.int i0), .val (.int i1), .val (.int i2), .val (.int (i2 &&& (3 : Int32))), .unset, .unset, .unset]) rfl k) ?_
  refine Goes.pre (S' := (s₁.setTop (mkF m 5 #[.val (.int i0), .val (.int i1), .val (.int i2), .val (.int (i2 &&& (3 : Int32))), .unset, .unset, .unset] [(.int i1)]))) (fun _ k => XS.iloadN X00.here hx rfl (hb hby at_4) rfl k) ?_
  refine Goes.pre (S' := (s₁.setTop (mkF m 7 #[.val (.int i0), .val (.int i1), .val (.int i2), .val (.int (i2 &&& (3 : Int32))), .unset, .unset, .unset] [(.int (2147483647 : Int32)), (.int i1)]))) (fun _ k => Jvm.Stand.ldcI X00 hx hown (mvT hZ (hw _ (List.mem_of_getElem? (i := 0) rfl))) rfl (hb hby at_5) k) ?_
  refine Goes.pre (S' := (s₁.setTop (mkF m 8 #[.val (.int i0), .val (.int i1), .val (.int i2), .val (.int (i2 &&& (3 : Int32))), .unset, .unset, .unset] [(.int (i1 &&& (2147483647 : Int32)))]))) (fun _ k => XS.iand X00.here hx rfl (hb hby at_7) rfl k) ?_
  refine Goes.pre (S' := (s₁.setTop (mkF m 10 #[.val (.int i0), .val (.int i1), .val (.int i2), .val (.int (i2 &&& (3 : Int32))), .unset, .unset, .unset] [(.int (26 : Int32)), (.int (i1 &&& (2147483647 : Int32)))]))) (fun _ k => XS.bipush X00.here hx rfl (hb hby at_8) k) ?_
  refine Goes.pre (S' := (s₁.setTop (mkF m 11 #[.val (.int i0), .val (.int i1), .val (.int i2), .val (.int (i2 &&& (3 : Int32))), .unset, .unset, .unset] [(.int ((i1 &&& (2147483647 : Int32)) % (26 : Int32)))]))) (fun _ k => iremM X00 hx rfl (hb hby at_10) rfl (by decide) k) ?_
  refine Goes.pre (S' := (s₁.setTop (mkF m 13 #[.val (.int i0), .val (.int i1), .val (.int i2), .val (.int (i2 &&& (3 : Int32))), .val (.int ((i1 &&& (2147483647 : Int32)) % (26 : Int32))), .unset, .unset] []))) (fun _ k => XS.istore X00.here hx rfl (hb hby at_11) rfl (l' := #[.val (.int i0), .val (.int i1), .val (.int i2), .val (.int (i2 &&& (3 : Int32))), .val (.int ((i1 &&& (2147483647 : Int32)) % (26 : Int32))), .unset, .unset]) rfl k) ?_
  refine Goes.pre (S' := (s₁.setTop (mkF m 14 #[.val (.int i0), .val (.int i1), .val (.int i2), .val (.int (i2 &&& (3 : Int32))), .val (.int ((i1 &&& (2147483647 : Int32)) % (26 : Int32))), .unset, .unset] [(.int (i2 &&& (3 : Int32)))]))) (fun _ k => XS.iloadN X00.here hx rfl (hb hby at_13) rfl k) ?_
  by_cases c14 : (i2 &&& (3 : Int32)) = 0
  · skip
    refine Goes.pre (S' := (s₁.setTop (mkF m 17 #[.val (.int i0), .val (.int i1), .val (.int i2), .val (.int (i2 &&& (3 : Int32))), .val (.int ((i1 &&& (2147483647 : Int32)) % (26 : Int32))), .unset, .unset] []))) (fun _ k => XS.ifNo X00.here hx rfl (hb hby at_14) rfl (XT.i0_ne_f c14) k) ?_
    refine Goes.pre (S' := (s₁.setTop (mkF m 18 #[.val (.int i0), .val (.int i1), .val (.int i2), .val (.int (i2 &&& (3 : Int32))), .val (.int ((i1 &&& (2147483647 : Int32)) % (26 : Int32))), .unset, .unset] [(.int i1)]))) (fun _ k => XS.iloadN X00.here hx rfl (hb hby at_17) rfl k) ?_
    refine Goes.pre (S' := (s₁.setTop (mkF m 19 #[.val (.int i0), .val (.int i1), .val (.int i2), .val (.int (i2 &&& (3 : Int32))), .val (.int ((i1 &&& (2147483647 : Int32)) % (26 : Int32))), .unset, .unset] [(.int (i1).toUInt32.toUInt16.toUInt32.toInt32)]))) (fun _ k => XT.i2c X00.here hx rfl (hb hby at_18) rfl k) ?_
    refine Goes.pre (S' := (s₁.setTop (mkF m 21 #[.val (.int i0), .val (.int i1), .val (.int i2), .val (.int (i2 &&& (3 : Int32))), .val (.int ((i1 &&& (2147483647 : Int32)) % (26 : Int32))), .val (.int (i1).toUInt32.toUInt16.toUInt32.toInt32), .unset] []))) (fun _ k => XS.istore X00.here hx rfl (hb hby at_19) rfl (l' := #[.val (.int i0), .val (.int i1), .val (.int i2), .val (.int (i2 &&& (3 : Int32))), .val (.int ((i1 &&& (2147483647 : Int32)) % (26 : Int32))), .val (.int (i1).toUInt32.toUInt16.toUInt32.toInt32), .unset]) rfl k) ?_
    refine Goes.pre (S' := (s₁.setTop (mkF m 66 #[.val (.int i0), .val (.int i1), .val (.int i2), .val (.int (i2 &&& (3 : Int32))), .val (.int ((i1 &&& (2147483647 : Int32)) % (26 : Int32))), .val (.int (i1).toUInt32.toUInt16.toUInt32.toInt32), .unset] []))) (fun _ k => XS.goto X00.here hx rfl (pc0 := 21) (pc' := 66) rfl (hb hby at_21) (by decide) (by decide) k) ?_
    exact tail _ _ _ _ _ _ _ _ _ _ [] X00 e0 hZ hown hS hk N0 Z0 IB0 (by simp) (own_ExtRefl h0) (by first | decide | (show _ + _ ≤ _; simp only [room_1]; omega)) (by first | decide | (show _ + _ ≤ _; simp only [room_1]; omega))
  · skip
    refine Goes.pre (S' := (s₁.setTop (mkF m 24 #[.val (.int i0), .val (.int i1), .val (.int i2), .val (.int (i2 &&& (3 : Int32))), .val (.int ((i1 &&& (2147483647 : Int32)) % (26 : Int32))), .unset, .unset] []))) (fun _ k => XS.ifYes X00.here hx rfl (pc0 := 14) (pc' := 24) rfl (hb hby at_14) rfl (XT.i0_ne_t c14) (by decide) (by decide) k) ?_
    refine Goes.pre (S' := (s₁.setTop (mkF m 25 #[.val (.int i0), .val (.int i1), .val (.int i2), .val (.int (i2 &&& (3 : Int32))), .val (.int ((i1 &&& (2147483647 : Int32)) % (26 : Int32))), .unset, .unset] [(.int (i2 &&& (3 : Int32)))]))) (fun _ k => XS.iloadN X00.here hx rfl (hb hby at_24) rfl k) ?_
    refine Goes.pre (S' := (s₁.setTop (mkF m 26 #[.val (.int i0), .val (.int i1), .val (.int i2), .val (.int (i2 &&& (3 : Int32))), .val (.int ((i1 &&& (2147483647 : Int32)) % (26 : Int32))), .unset, .unset] [(.int (1 : Int32)), (.int (i2 &&& (3 : Int32)))]))) (fun _ k => XS.iconst X00.here hx rfl (hb hby at_25) k) ?_
    by_cases c26 : (i2 &&& (3 : Int32)) = (1 : Int32)
    · skip
      refine Goes.pre (S' := (s₁.setTop (mkF m 29 #[.val (.int i0), .val (.int i1), .val (.int i2), .val (.int (i2 &&& (3 : Int32))), .val (.int ((i1 &&& (2147483647 : Int32)) % (26 : Int32))), .unset, .unset] []))) (fun _ k => XS.icmpNo X00.here hx rfl (hb hby at_26) rfl (XT.ii_ne_f c26) k) ?_
      refine Goes.pre (S' := (s₁.setTop (mkF m 31 #[.val (.int i0), .val (.int i1), .val (.int i2), .val (.int (i2 &&& (3 : Int32))), .val (.int ((i1 &&& (2147483647 : Int32)) % (26 : Int32))), .unset, .unset] [(.int (65 : Int32))]))) (fun _ k => XS.bipush X00.here hx rfl (hb hby at_29) k) ?_
      refine Goes.pre (S' := (s₁.setTop (mkF m 33 #[.val (.int i0), .val (.int i1), .val (.int i2), .val (.int (i2 &&& (3 : Int32))), .val (.int ((i1 &&& (2147483647 : Int32)) % (26 : Int32))), .unset, .unset] [(.int ((i1 &&& (2147483647 : Int32)) % (26 : Int32))), (.int (65 : Int32))]))) (fun _ k => XS.iload X00.here hx rfl (hb hby at_31) rfl k) ?_
      refine Goes.pre (S' := (s₁.setTop (mkF m 34 #[.val (.int i0), .val (.int i1), .val (.int i2), .val (.int (i2 &&& (3 : Int32))), .val (.int ((i1 &&& (2147483647 : Int32)) % (26 : Int32))), .unset, .unset] [(.int ((65 : Int32) + ((i1 &&& (2147483647 : Int32)) % (26 : Int32))))]))) (fun _ k => XS.iadd X00.here hx rfl (hb hby at_33) rfl k) ?_
      refine Goes.pre (S' := (s₁.setTop (mkF m 35 #[.val (.int i0), .val (.int i1), .val (.int i2), .val (.int (i2 &&& (3 : Int32))), .val (.int ((i1 &&& (2147483647 : Int32)) % (26 : Int32))), .unset, .unset] [(.int (((65 : Int32) + ((i1 &&& (2147483647 : Int32)) % (26 : Int32)))).toUInt32.toUInt16.toUInt32.toInt32)]))) (fun _ k => XT.i2c X00.here hx rfl (hb hby at_34) rfl k) ?_
      refine Goes.pre (S' := (s₁.setTop (mkF m 37 #[.val (.int i0), .val (.int i1), .val (.int i2), .val (.int (i2 &&& (3 : Int32))), .val (.int ((i1 &&& (2147483647 : Int32)) % (26 : Int32))), .val (.int (((65 : Int32) + ((i1 &&& (2147483647 : Int32)) % (26 : Int32)))).toUInt32.toUInt16.toUInt32.toInt32), .unset] []))) (fun _ k => XS.istore X00.here hx rfl (hb hby at_35) rfl (l' := #[.val (.int i0), .val (.int i1), .val (.int i2), .val (.int (i2 &&& (3 : Int32))), .val (.int ((i1 &&& (2147483647 : Int32)) % (26 : Int32))), .val (.int (((65 : Int32) + ((i1 &&& (2147483647 : Int32)) % (26 : Int32)))).toUInt32.toUInt16.toUInt32.toInt32), .unset]) rfl k) ?_
      refine Goes.pre (S' := (s₁.setTop (mkF m 66 #[.val (.int i0), .val (.int i1), .val (.int i2), .val (.int (i2 &&& (3 : Int32))), .val (.int ((i1 &&& (2147483647 : Int32)) % (26 : Int32))), .val (.int (((65 : Int32) + ((i1 &&& (2147483647 : Int32)) % (26 : Int32)))).toUInt32.toUInt16.toUInt32.toInt32), .unset] []))) (fun _ k => XS.goto X00.here hx rfl (pc0 := 37) (pc' := 66) rfl (hb hby at_37) (by decide) (by decide) k) ?_
      exact tail _ _ _ _ _ _ _ _ _ _ [] X00 e0 hZ hown hS hk N0 Z0 IB0 (by simp) (own_ExtRefl h0) (by first | decide | (show _ + _ ≤ _; simp only [room_1]; omega)) (by first | decide | (show _ + _ ≤ _; simp only [room_1]; omega))
    · skip
      refine Goes.pre (S' := (s₁.setTop (mkF m 40 #[.val (.int i0), .val (.int i1), .val (.int i2), .val (.int (i2 &&& (3 : Int32))), .val (.int ((i1 &&& (2147483647 : Int32)) % (26 : Int32))), .unset, .unset] []))) (fun _ k => XS.icmpYes X00.here hx rfl (pc0 := 26) (pc' := 40) rfl (hb hby at_26) rfl (XT.ii_ne_t c26) (by decide) (by decide) k) ?_
      refine Goes.pre (S' := (s₁.setTop (mkF m 41 #[.val (.int i0), .val (.int i1), .val (.int i2), .val (.int (i2 &&& (3 : Int32))), .val (.int ((i1 &&& (2147483647 : Int32)) % (26 : Int32))), .unset, .unset] [(.int (i2 &&& (3 : Int32)))]))) (fun _ k => XS.iloadN X00.here hx rfl (hb hby at_40) rfl k) ?_
      refine Goes.pre (S' := (s₁.setTop (mkF m 42 #[.val (.int i0), .val (.int i1), .val (.int i2), .val (.int (i2 &&& (3 : Int32))), .val (.int ((i1 &&& (2147483647 : Int32)) % (26 : Int32))), .unset, .unset] [(.int (2 : Int32)), (.int (i2 &&& (3 : Int32)))]))) (fun _ k => XS.iconst X00.here hx rfl (hb hby at_41) k) ?_
      by_cases c42 : (i2 &&& (3 : Int32)) = (2 : Int32)
      · skip
        refine Goes.pre (S' := (s₁.setTop (mkF m 45 #[.val (.int i0), .val (.int i1), .val (.int i2), .val (.int (i2 &&& (3 : Int32))), .val (.int ((i1 &&& (2147483647 : Int32)) % (26 : Int32))), .unset, .unset] []))) (fun _ k => XS.icmpNo X00.here hx rfl (hb hby at_42) rfl (XT.ii_ne_f c42) k) ?_
        refine Goes.pre (S' := (s₁.setTop (mkF m 47 #[.val (.int i0), .val (.int i1), .val (.int i2), .val (.int (i2 &&& (3 : Int32))), .val (.int ((i1 &&& (2147483647 : Int32)) % (26 : Int32))), .unset, .unset] [(.int (97 : Int32))]))) (fun _ k => XS.bipush X00.here hx rfl (hb hby at_45) k) ?_
        refine Goes.pre (S' := (s₁.setTop (mkF m 49 #[.val (.int i0), .val (.int i1), .val (.int i2), .val (.int (i2 &&& (3 : Int32))), .val (.int ((i1 &&& (2147483647 : Int32)) % (26 : Int32))), .unset, .unset] [(.int ((i1 &&& (2147483647 : Int32)) % (26 : Int32))), (.int (97 : Int32))]))) (fun _ k => XS.iload X00.here hx rfl (hb hby at_47) rfl k) ?_
        refine Goes.pre (S' := (s₁.setTop (mkF m 50 #[.val (.int i0), .val (.int i1), .val (.int i2), .val (.int (i2 &&& (3 : Int32))), .val (.int ((i1 &&& (2147483647 : Int32)) % (26 : Int32))), .unset, .unset] [(.int ((97 : Int32) + ((i1 &&& (2147483647 : Int32)) % (26 : Int32))))]))) (fun _ k => XS.iadd X00.here hx rfl (hb hby at_49) rfl k) ?_
        refine Goes.pre (S' := (s₁.setTop (mkF m 51 #[.val (.int i0), .val (.int i1), .val (.int i2), .val (.int (i2 &&& (3 : Int32))), .val (.int ((i1 &&& (2147483647 : Int32)) % (26 : Int32))), .unset, .unset] [(.int (((97 : Int32) + ((i1 &&& (2147483647 : Int32)) % (26 : Int32)))).toUInt32.toUInt16.toUInt32.toInt32)]))) (fun _ k => XT.i2c X00.here hx rfl (hb hby at_50) rfl k) ?_
        refine Goes.pre (S' := (s₁.setTop (mkF m 53 #[.val (.int i0), .val (.int i1), .val (.int i2), .val (.int (i2 &&& (3 : Int32))), .val (.int ((i1 &&& (2147483647 : Int32)) % (26 : Int32))), .val (.int (((97 : Int32) + ((i1 &&& (2147483647 : Int32)) % (26 : Int32)))).toUInt32.toUInt16.toUInt32.toInt32), .unset] []))) (fun _ k => XS.istore X00.here hx rfl (hb hby at_51) rfl (l' := #[.val (.int i0), .val (.int i1), .val (.int i2), .val (.int (i2 &&& (3 : Int32))), .val (.int ((i1 &&& (2147483647 : Int32)) % (26 : Int32))), .val (.int (((97 : Int32) + ((i1 &&& (2147483647 : Int32)) % (26 : Int32)))).toUInt32.toUInt16.toUInt32.toInt32), .unset]) rfl k) ?_
        refine Goes.pre (S' := (s₁.setTop (mkF m 66 #[.val (.int i0), .val (.int i1), .val (.int i2), .val (.int (i2 &&& (3 : Int32))), .val (.int ((i1 &&& (2147483647 : Int32)) % (26 : Int32))), .val (.int (((97 : Int32) + ((i1 &&& (2147483647 : Int32)) % (26 : Int32)))).toUInt32.toUInt16.toUInt32.toInt32), .unset] []))) (fun _ k => XS.goto X00.here hx rfl (pc0 := 53) (pc' := 66) rfl (hb hby at_53) (by decide) (by decide) k) ?_
        exact tail _ _ _ _ _ _ _ _ _ _ [] X00 e0 hZ hown hS hk N0 Z0 IB0 (by simp) (own_ExtRefl h0) (by first | decide | (show _ + _ ≤ _; simp only [room_1]; omega)) (by first | decide | (show _ + _ ≤ _; simp only [room_1]; omega))
      · skip
        refine Goes.pre (S' := (s₁.setTop (mkF m 56 #[.val (.int i0), .val (.int i1), .val (.int i2), .val (.int (i2 &&& (3 : Int32))), .val (.int ((i1 &&& (2147483647 : Int32)) % (26 : Int32))), .unset, .unset] []))) (fun _ k => XS.icmpYes X00.here hx rfl (pc0 := 42) (pc' := 56) rfl (hb hby at_42) rfl (XT.ii_ne_t c42) (by decide) (by decide) k) ?_
        obtain ⟨q, hq4, eq⟩ := own_m3 i1
        obtain ⟨a6, T6, h6, k16, b6, kb6, X6, e6, E6, hS, hk, hZ, hown, Ex6, FC6, FV6, V6, -, -, IB6, st6⟩ := ldcSV (s := s) X00 hx hZ hown (hw _ (List.mem_of_getElem? (i := 5) rfl)) wS e0 hS hk (by rw [hsh, ← hn0]; exact N0) hkeep IB0 (by simp) H8 hcw (vs := own_sig) (z := 4) ⟨by decide +kernel, by decide +kernel⟩ (by decide) (by decide +kernel) (g := (mkF m 56 #[.val (.int i0), .val (.int i1), .val (.int i2), .val (.int (i2 &&& (3 : Int32))), .val (.int ((i1 &&& (2147483647 : Int32)) % (26 : Int32))), .unset, .unset] [])) rfl (hb hby at_56) (n := 16) (by decide +kernel) (by decide) (by first | decide | (show _ + _ ≤ _; simp only [room_1]; omega)) (by first | decide | (show _ + _ ≤ _; simp only [room_1]; omega))
        have Zn6 : n0 ≤ h6.size := Nat.le_trans Z0 E6.1
        have Ex06 : Ext h0 h6 := own_ExtTrans (own_ExtRefl h0) E6
        refine Goes.pre (S' := (T6.setTop (mkF m 58 #[.val (.int i0), .val (.int i1), .val (.int i2), .val (.int (i2 &&& (3 : Int32))), .val (.int ((i1 &&& (2147483647 : Int32)) % (26 : Int32))), .unset, .unset] [(.ref a6)]))) st6 ?_
        refine Goes.pre (S' := (T6.setTop (mkF m 59 #[.val (.int i0), .val (.int i1), .val (.int i2), .val (.int (i2 &&& (3 : Int32))), .val (.int ((i1 &&& (2147483647 : Int32)) % (26 : Int32))), .unset, .unset] [(.int i1), (.ref a6)]))) (fun _ k => XS.iloadN X6.here hx rfl (hb hby at_58) rfl k) ?_
        refine Goes.pre (S' := (T6.setTop (mkF m 60 #[.val (.int i0), .val (.int i1), .val (.int i2), .val (.int (i2 &&& (3 : Int32))), .val (.int ((i1 &&& (2147483647 : Int32)) % (26 : Int32))), .unset, .unset] [(.int (3 : Int32)), (.int i1), (.ref a6)]))) (fun _ k => XS.iconst X6.here hx rfl (hb hby at_59) k) ?_
        refine Goes.pre (S' := (T6.setTop (mkF m 61 #[.val (.int i0), .val (.int i1), .val (.int i2), .val (.int (i2 &&& (3 : Int32))), .val (.int ((i1 &&& (2147483647 : Int32)) % (26 : Int32))), .unset, .unset] [(.int (i1 &&& (3 : Int32))), (.ref a6)]))) (fun _ k => XS.iand X6.here hx rfl (hb hby at_60) rfl k) ?_
        obtain ⟨j1, j2, j3⟩ := own_idx4 ⟨q, hq4⟩
        obtain ⟨y, hy, hyv⟩ := own_sigAt q hq4
        rw [eq]
        show Goes p e below _ (T6.setTop (mkF m 61 #[.val (.int i0), .val (.int i1), .val (.int i2), .val (.int (i2 &&& (3 : Int32))), .val (.int ((i1 &&& (2147483647 : Int32)) % (26 : Int32))), .unset, .unset] [(.int (Int32.ofNat q)), (.ref a6)]))
        refine Goes.callV (y := (⟨"java/lang/String", "charAt", "(I)C"⟩ : MethodName)) (C := "java/lang/String") X6 hx hZ hown (hw _ (List.mem_of_getElem? (i := 13) rfl)) (hw _ (List.mem_of_getElem? (i := 14) rfl)) (hw _ (List.mem_of_getElem? (i := 16) rfl)) (hw _ (List.mem_of_getElem? (i := 15) rfl)) (hw _ (List.mem_of_getElem? (i := 6) rfl)) (hw _ (List.mem_of_getElem? (i := 17) rfl)) (by decide) e6 Ex6 (rm_ch l Z a0 hw [] a6 (Int32.ofNat q) gc G b6 kb6 4 own_sig (y) h6 n0 Zn6 hgc (SC.ext Ex06) rG (SF.ext Ex06) Ex6 FC6 FV6 V6 j1 j2 hy (by rw [j3]; exact hyv)) (by rw [hml]; rfl) [(.int (Int32.ofNat q))] [] pd_ch rfl rfl rfl (hb hby at_61) (by decide) (by first | decide | exact Nat.le_of_ble_eq_true rfl | assumption | (simp only [room_1]; omega) | (simp [Value.category]; done)) (by first | decide | exact Nat.le_of_ble_eq_true rfl | assumption | (simp only [room_1]; omega) | (simp [Value.category]; done)) (by first | decide | exact Nat.le_of_ble_eq_true rfl | assumption | (simp only [room_1]; omega) | (simp [Value.category]; done)) ?_
        intro T7 v7 L7 X7 q7
        obtain ⟨rfl, N7a, e7⟩ := q7
        have N7 := Fr.app N0 N7a
        show Goes p e below _ (T7.setTop (mkF m 64 #[.val (.int i0), .val (.int i1), .val (.int i2), .val (.int (i2 &&& (3 : Int32))), .val (.int ((i1 &&& (2147483647 : Int32)) % (26 : Int32))), .unset, .unset] [(.int (Int32.ofNat (y)))]))
        refine Goes.pre (S' := (T7.setTop (mkF m 66 #[.val (.int i0), .val (.int i1), .val (.int i2), .val (.int (i2 &&& (3 : Int32))), .val (.int ((i1 &&& (2147483647 : Int32)) % (26 : Int32))), .val (.int (Int32.ofNat (y))), .unset] []))) (fun _ k => XS.istore X7.here hx rfl (hb hby at_64) rfl (l' := #[.val (.int i0), .val (.int i1), .val (.int i2), .val (.int (i2 &&& (3 : Int32))), .val (.int ((i1 &&& (2147483647 : Int32)) % (26 : Int32))), .val (.int (Int32.ofNat (y))), .unset]) rfl k) ?_
        exact tail _ _ _ _ _ _ _ _ _ _ _ X7 e7 hZ hown hS hk N7 Zn6 IB6 (by decide +kernel) Ex06 (by first | decide | (show _ + _ ≤ _; simp only [room_1]; omega)) (by first | decide | (show _ + _ ≤ _; simp only [room_1]; omega))
set_option maxRecDepth 65536 in
set_option maxHeartbeats 40000000 in
theorem comes_1 {Post : Tables → Env → Array Value → State → Outcome → State → Prop} (hpost : ∀ tb e args s v u, (limb_1_1.after args s (.returned v) u = true ∧ limb_1_2.after args s (.returned v) u = true ∧ True) → ReturnedEndW s (.returned v) u (Jvm.fieldLocs frame_1_writes args s ++ Jvm.arrayLocs frame_1_arrays args s ++ Jvm.staticLocs frame_1_statics s) 8 2112 → Post tb e args s (.returned v) u) :
    ArmFor flags0 classFile x code maxLocals ret World_1 tables_1 room_1 Calls_1 rest_1 Pre_1 Post := by
  intro l hfl _ _ p e ha hc hk s m args below hf hA hF happ hP
  obtain ⟨hcalls, hrest, hpre⟩ := hP
  obtain ⟨-, -, -, hnamed, -, -, -, hat⟩ := (Spec.applies_iff hf).mp happ
  obtain ⟨hg, hn⟩ := and_e (Cond.before_iff.mp (show (Jvm.Cond.and given_1 narrow_1).before args s = true from hpre))
  obtain ⟨gc, gr0⟩ := and_e hg
  obtain ⟨ga0, gr1⟩ := and_e gr0
  obtain ⟨ga1, gr2⟩ := and_e gr1
  obtain ⟨w0, w1, w2, rfl⟩ : ∃ w0 w1 w2 : Value, args = #[w0, w1, w2] := by
    have hs : args.size = 3 := by simpa [Cond.value, given_1] using gc
    obtain ⟨L⟩ := args
    match L, hs with
    | [w0, w1, w2], _ => exact ⟨w0, w1, w2, rfl⟩
  have hw := fun d (hd : d ∈ tables_1) => atoms_spec (ws := Jvm.Cond.code x code maxLocals ret :: tables_1) hat d (List.mem_cons_of_mem _ hd)
  have hfit : Fit s := fun {y c} hc i hi => by
    obtain ⟨ha, rfl⟩ := Array.getElem?_eq_some_iff.mp hc
    have q := List.all_eq_true.mp ((Array.all_eq_true_iff_forall_mem.mp hF) _ (Array.getElem_mem ha)) i (List.mem_range.mpr hi)
    simpa [Array.getElem?_eq_getElem hi] using q
  obtain ⟨i0, ei0⟩ := is_v ga0
  obtain rfl : w0 = (.int i0) := Option.some.inj ei0
  obtain ⟨i1, ei1⟩ := is_v ga1
  obtain rfl : w1 = (.int i1) := Option.some.inj ei1
  obtain ⟨i2, ei2⟩ := is_v gr2
  obtain rfl : w2 = (.int i2) := Option.some.inj ei2
  obtain ⟨hsets, hown0⟩ := atoms_of _ (rest_1_c_eq ▸ (show rest_1_c.before _ s = true from hrest))
  have n5 := not_v (Cond.before_iff.mp (hsets _ (List.mem_of_getElem? (i := 2) rfl)))
  obtain ⟨gc, egc⟩ := is_v (Cond.before_iff.mp (hsets _ (List.mem_of_getElem? (i := 1) rfl)))
  have SC : Sta s s.heap "java/lang/String" "COMPACT_STRINGS" "Z" (.int gc) := Sta.start egc (Or.inl (hsets _ (List.mem_of_getElem? (i := 0) rfl)))
  obtain ⟨G, eG, rG⟩ := isR_v (Cond.before_iff.mp (hsets _ (List.mem_of_getElem? (i := 8) rfl)))
  have SF : Sta s s.heap "jdk/internal/util/Preconditions" "SIOOBE_FORMATTER" "Ljava/util/function/BiFunction;" G := Sta.start eG (Or.inl (hsets _ (List.mem_of_getElem? (i := 7) rfl)))
  have hgc : ¬ (gc = (0 : Int32)) := gotF (Cond.eq_ints egc (Term.int_eval (0))) n5
  have H8 : Jvm.Lit.constHeld s "com/example/clear_plan/clearplan/pddl/NamesHashPinLaw" 8 := hcalls.1 _ (List.mem_of_getElem? (i := 0) rfl)
  have H16 : Jvm.Lit.constHeld s "com/example/clear_plan/clearplan/pddl/NamesHashPinLaw" 16 := hcalls.1 _ (List.mem_of_getElem? (i := 1) rfl)
  obtain ⟨n, o, h1, h2, h3, _, L, rfl, ⟨rfl, N⟩, hq⟩ := rm_law l s _ hw tables_1 i0 i1 i2 gc G s.heap s.heap.size (Nat.le_refl _) rfl rfl hgc SC rG SF (hsets _ (List.mem_of_getElem? (i := 2) rfl)) H8 H16 p e ha hc hk s m _ below hf ((Spec.applies_iff_loose hf).mp happ).1 ⟨rfl, State.Warmed39.refl s, rfl, rfl⟩ trivial
  refine ⟨n, _, h1, h2, h3, hpost _ _ _ _ _ _ ⟨Cond.after_iff.mpr rfl, Cond.after_iff.mpr (eq_i res_at (Term.int_eval (1)) rfl), trivial⟩ ⟨hq.1, hq.2.1, hq.2.2.1, (hq.2.2.2.sift fun y hy => Or.inr (N y hy)).mono (by decide) (by decide)⟩⟩
theorem main_1_1 : Claimed_1_1 := comes_1 fun _ _ _ _ _ _ h hF => ⟨h.1, hF⟩
theorem main_1_2 : Claimed_1_2 := comes_1 fun _ _ _ _ _ _ h hF => ⟨h.2.1, hF⟩
end Jvm.Pilot.@@N@@
namespace Jvm.Pilot.@@N@@
open Jvm Jvm.ClassFile Sem Op Lib Jvm.Free Jvm.Stand Jvm.Pilot.@@N@@.Jvm.D
/-! MADE BY PROGRAM (witnessworld.py) out of the Statement's table words and the real class files: 17 classes; the members and pool entries that the words name. The judged class is class 1, her method 1. -/
namespace start1
open Jvm.ClassFile
def u (s : String) : CpInfo := .utf8 (stringToUtf16 s)
/-- a pool by its gaps: so many unusable entries, then the entry; so many at the end -/
def gap : Nat → List CpInfo → List CpInfo
  | 0, r => r
  | n + 1, r => .unusable :: gap n r
def poolList (es : List (Nat × CpInfo)) (last : Nat) : List CpInfo := es.foldr (fun e r => gap e.1 (e.2 :: r)) (gap last [])
def pool (es : List (Nat × CpInfo)) (last : Nat) : Array CpInfo := ⟨poolList es last⟩
def fileOf (pool : Array CpInfo) (this : Nat) (attrs : Array Attribute := #[]) (ms : Array MethodInfo := #[]) (fl : Nat := 33) (sup : Nat := 0) (ifs : Array Nat := #[]) (fds : Array FieldInfo := #[]) : ClassFile where
  minorVersion := 0
  majorVersion := 65
  constantPool := pool
  accessFlags := fl
  thisClass := this
  superClass := sup
  interfaces := ifs
  fields := fds
  methods := ms
  attributes := attrs
def plain (name : String) (sup : Option ClassId) : Class where
  name := name
  kind := .ordinary
  loader := none
  accessFlags := 33
  super := sup
  interfaces := #[]
  cf := none
  fields := #[]
  methods := #[]
  instanceTypes := #[]
  staticTypes := #[]
  resolved := #[]
  callSites := []
  init := .initialized
  statics := none
  mirror := none

def pool0 : Array CpInfo := pool [(5, u "<init>"), (0, u "()V"), (1, .class_ 10), (1, u "java/lang/Object")] 113

def k0m0 : Method := { name := "<init>", desc := "()V", sig := { parameters := [], returnType := none }, accessFlags := 1, code := none }
/-- java/lang/Object -/
def k0 : Class := { plain "java/lang/Object" none with
  accessFlags := 33
  interfaces := #[]
  cf := some (fileOf pool0 8 #[] #[{ accessFlags := 1, nameIndex := 5, descriptorIndex := 6, attributes := #[] }] 33 0 #[] #[])
  fields := #[]
  methods := #[k0m0]
  instanceTypes := #[]
  staticTypes := #[]
  resolved := Array.replicate 124 none
  statics := none }

def pool1 : Array CpInfo := pool [(2, .class_ 4), (1, u "java/lang/Object"), (0, u "<init>"), (0, u "()V"), (0, .integer 2147483647), (0, .string 9), (0, u "\x40[`{"), (0, .methodref 11 12), (0, .class_ 13), (0, .nameAndType 14 15), (0, u "java/lang/String"), (0, u "charAt"), (0, u "(I)C"), (0, .string 17), (0, u "abcdefghijklmnopqrstuvwxyz"), (0, .methodref 19 20), (0, .class_ 21), (0, .nameAndType 22 23), (0, u "com/example/clear_plan/clearplan/pddl/Names"), (0, u "hash"), (0, u "(IC)I"), (0, .class_ 25), (0, u "com/example/clear_plan/clearplan/pddl/NamesHashPinLaw"), (2, u "law"), (0, u "(III)Z")] 3

def k1m0 : Method := { name := "<init>", desc := "()V", sig := { parameters := [], returnType := none }, accessFlags := 1, code := none }
def k1c1 : Code := { maxStack := 3, maxLocals := 7, code := code, exceptionTable := #[], attributes := #[] }
def k1m1 : Method := { name := "law", desc := "(III)Z", sig := { parameters := [.int, .int, .int], returnType := some .boolean }, accessFlags := 9, code := some k1c1 }
/-- com/example/clear_plan/clearplan/pddl/NamesHashPinLaw -/
def k1 : Class := { plain "com/example/clear_plan/clearplan/pddl/NamesHashPinLaw" (some 0) with
  accessFlags := 49
  interfaces := #[]
  cf := some (fileOf pool1 24 #[] #[{ accessFlags := 1, nameIndex := 5, descriptorIndex := 6, attributes := #[] }, { accessFlags := 9, nameIndex := 28, descriptorIndex := 29, attributes := #[] }] 49 2 #[] #[])
  fields := #[]
  methods := #[k1m0, k1m1]
  instanceTypes := #[]
  staticTypes := #[]
  resolved := Array.replicate 33 none
  statics := none }

def pool2 : Array CpInfo := pool [(2, .class_ 4), (1, u "java/lang/Object"), (0, u "<init>"), (0, u "()V"), (3, .class_ 12), (1, u "com/example/clear_plan/clearplan/pddl/Names"), (0, u "symbols"), (0, u "[Ljava/lang/String;"), (4, u "spellings"), (0, u "[[C"), (2, u "hashes"), (0, u "[I"), (2, u "hash"), (0, u "(IC)I"), (21, u "size"), (0, u "I"), (3, u "PROBES")] 11

def k2m0 : Method := { name := "<init>", desc := "()V", sig := { parameters := [], returnType := none }, accessFlags := 1, code := none }
def k2c1 : Code := { maxStack := 3, maxLocals := 2, code := prog_52_method_3_code, exceptionTable := #[], attributes := #[] }
def k2m1 : Method := { name := "hash", desc := "(IC)I", sig := { parameters := [.int, .char], returnType := some .int }, accessFlags := 9, code := some k2c1 }
/-- com/example/clear_plan/clearplan/pddl/Names -/
def k2 : Class := { plain "com/example/clear_plan/clearplan/pddl/Names" (some 0) with
  accessFlags := 49
  interfaces := #[]
  cf := some (fileOf pool2 10 #[] #[{ accessFlags := 1, nameIndex := 5, descriptorIndex := 6, attributes := #[] }, { accessFlags := 9, nameIndex := 27, descriptorIndex := 28, attributes := #[] }] 49 2 #[] #[{ accessFlags := 26, nameIndex := 55, descriptorIndex := 51, attributes := #[] }, { accessFlags := 2, nameIndex := 13, descriptorIndex := 14, attributes := #[] }, { accessFlags := 2, nameIndex := 19, descriptorIndex := 20, attributes := #[] }, { accessFlags := 2, nameIndex := 23, descriptorIndex := 24, attributes := #[] }, { accessFlags := 2, nameIndex := 50, descriptorIndex := 51, attributes := #[] }])
  fields := #[{ name := "PROBES", type := .int, accessFlags := 26, slot := 0, constantValue := 0 }, { name := "symbols", type := (.array (.object "java/lang/String")), accessFlags := 2, slot := 0, constantValue := 0 }, { name := "spellings", type := (.array (.array .char)), accessFlags := 2, slot := 1, constantValue := 0 }, { name := "hashes", type := (.array .int), accessFlags := 2, slot := 2, constantValue := 0 }, { name := "size", type := .int, accessFlags := 2, slot := 3, constantValue := 0 }]
  methods := #[k2m0, k2m1]
  instanceTypes := #[(.array (.object "java/lang/String")), (.array (.array .char)), (.array .int), .int]
  staticTypes := #[.int]
  resolved := Array.replicate 67 none
  statics := none }

def pool3 : Array CpInfo := pool [(1, .class_ 2), (0, u "java/io/Serializable"), (0, .class_ 4), (0, u "java/lang/Object")] 2

/-- java/io/Serializable -/
def k3 : Class := { plain "java/io/Serializable" (some 0) with
  accessFlags := 1537
  interfaces := #[]
  cf := some (fileOf pool3 1 #[] #[] 1537 3 #[] #[])
  fields := #[]
  methods := #[]
  instanceTypes := #[]
  staticTypes := #[]
  resolved := Array.replicate 7 none
  statics := none }

def pool4 : Array CpInfo := pool [(1, .class_ 2), (0, u "java/lang/Comparable"), (0, .class_ 4), (0, u "java/lang/Object")] 7

/-- java/lang/Comparable -/
def k4 : Class := { plain "java/lang/Comparable" (some 0) with
  accessFlags := 1537
  interfaces := #[]
  cf := some (fileOf pool4 1 #[] #[] 1537 3 #[] #[])
  fields := #[]
  methods := #[]
  instanceTypes := #[]
  staticTypes := #[]
  resolved := Array.replicate 12 none
  statics := none }

def pool5 : Array CpInfo := pool [(2, .class_ 4), (1, u "java/lang/CharSequence"), (42, .class_ 48), (0, u "java/lang/CharSequence$1CodePointIterator"), (10, .class_ 60), (0, u "java/lang/CharSequence$1CharIterator"), (5, .class_ 67), (0, u "java/lang/Object")] 63

/-- java/lang/CharSequence -/
def k5 : Class := { plain "java/lang/CharSequence" (some 0) with
  accessFlags := 1537
  interfaces := #[]
  cf := some (fileOf pool5 2 #[.nestMembers #[47, 59]] #[] 1537 66 #[] #[])
  fields := #[]
  methods := #[]
  instanceTypes := #[]
  staticTypes := #[]
  resolved := Array.replicate 131 none
  statics := none }

def pool6 : Array CpInfo := pool [(1, .class_ 2), (0, u "java/lang/constant/Constable"), (0, .class_ 4), (0, u "java/lang/Object")] 6

/-- java/lang/constant/Constable -/
def k6 : Class := { plain "java/lang/constant/Constable" (some 0) with
  accessFlags := 1537
  interfaces := #[]
  cf := some (fileOf pool6 1 #[] #[] 1537 3 #[] #[])
  fields := #[]
  methods := #[]
  instanceTypes := #[]
  staticTypes := #[]
  resolved := Array.replicate 11 none
  statics := none }

def pool7 : Array CpInfo := pool [(1, .class_ 2), (0, u "java/lang/constant/ConstantDesc"), (0, .class_ 4), (0, u "java/lang/Object")] 32

/-- java/lang/constant/ConstantDesc -/
def k7 : Class := { plain "java/lang/constant/ConstantDesc" (some 0) with
  accessFlags := 1537
  interfaces := #[]
  cf := some (fileOf pool7 1 #[] #[] 1537 3 #[] #[])
  fields := #[]
  methods := #[]
  instanceTypes := #[]
  staticTypes := #[]
  resolved := Array.replicate 37 none
  statics := none }

def pool8 : Array CpInfo := pool [(2, .class_ 4), (1, u "java/lang/Object"), (0, u "<init>"), (0, u "()V"), (2, .fieldref 10 11), (0, .class_ 12), (0, .nameAndType 13 14), (0, u "java/lang/String"), (0, u "value"), (0, u "[B"), (0, .fieldref 10 16), (0, .nameAndType 17 18), (0, u "coder"), (0, u "B"), (2, u "hash"), (0, u "I"), (2, u "hashIsZero"), (0, u "Z"), (11, .fieldref 10 39), (0, .nameAndType 40 26), (0, u "COMPACT_STRINGS"), (66, .class_ 109), (1, u "java/lang/StringLatin1"), (32, u "()Z"), (220, u "([BI)C"), (27, u "(II)V"), (35, u "(I)C"), (64, .methodref 10 493), (0, .nameAndType 494 142), (0, u "isLatin1"), (0, .methodref 107 496), (0, .nameAndType 497 363), (0, u "charAt"), (3, u "checkIndex"), (73, .class_ 576), (0, u "java/lang/CharSequence"), (22, u "CASE_INSENSITIVE_ORDER"), (0, u "Ljava/util/Comparator;"), (452, .fieldref 1054 1055), (0, .class_ 1056), (0, .nameAndType 1057 1058), (0, u "jdk/internal/util/Preconditions"), (0, u "SIOOBE_FORMATTER"), (0, u "Ljava/util/function/BiFunction;"), (0, .methodref 1054 1060), (0, .nameAndType 501 1061), (0, u "(IILjava/util/function/BiFunction;)I"), (39, u "serialPersistentFields"), (0, u "[Ljava/io/ObjectStreamField;"), (0, .class_ 1104), (0, u "java/lang/String$CaseInsensitiveComparator"), (1, .class_ 1107), (0, u "java/io/Serializable"), (0, .class_ 1109), (0, u "java/lang/Comparable"), (0, .class_ 1111), (0, u "java/lang/constant/Constable"), (0, .class_ 1113), (0, u "java/lang/constant/ConstantDesc"), (2, u "serialVersionUID"), (0, u "J"), (3, u "REPL"), (0, u "C"), (2, u "LATIN1"), (1, u "UTF16")] 323

def k8m0 : Method := { name := "<init>", desc := "()V", sig := { parameters := [], returnType := none }, accessFlags := 1, code := none }
def k8c1 : Code := { maxStack := 2, maxLocals := 2, code := jdk_42_method_56_code, exceptionTable := #[], attributes := #[] }
def k8m1 : Method := { name := "charAt", desc := "(I)C", sig := { parameters := [.int], returnType := some .char }, accessFlags := 1, code := some k8c1 }
def k8c2 : Code := { maxStack := 1, maxLocals := 1, code := jdk_42_method_154_code, exceptionTable := #[], attributes := #[] }
def k8m2 : Method := { name := "isLatin1", desc := "()Z", sig := { parameters := [], returnType := some .boolean }, accessFlags := 0, code := some k8c2 }
def k8c3 : Code := { maxStack := 3, maxLocals := 2, code := jdk_42_method_155_code, exceptionTable := #[], attributes := #[] }
def k8m3 : Method := { name := "checkIndex", desc := "(II)V", sig := { parameters := [.int, .int], returnType := none }, accessFlags := 8, code := some k8c3 }
/-- java/lang/String -/
def k8 : Class := { plain "java/lang/String" (some 0) with
  accessFlags := 49
  interfaces := #[3, 4, 5, 6, 7]
  cf := some (fileOf pool8 10 #[.nestMembers #[1103]] #[{ accessFlags := 1, nameIndex := 5, descriptorIndex := 6, attributes := #[] }, { accessFlags := 1, nameIndex := 497, descriptorIndex := 427, attributes := #[] }, { accessFlags := 0, nameIndex := 494, descriptorIndex := 142, attributes := #[] }, { accessFlags := 8, nameIndex := 501, descriptorIndex := 391, attributes := #[] }] 49 2 #[1106, 1108, 575, 1110, 1112] #[{ accessFlags := 18, nameIndex := 13, descriptorIndex := 14, attributes := #[] }, { accessFlags := 18, nameIndex := 17, descriptorIndex := 18, attributes := #[] }, { accessFlags := 2, nameIndex := 21, descriptorIndex := 22, attributes := #[] }, { accessFlags := 2, nameIndex := 25, descriptorIndex := 26, attributes := #[] }, { accessFlags := 26, nameIndex := 1116, descriptorIndex := 1117, attributes := #[] }, { accessFlags := 24, nameIndex := 40, descriptorIndex := 26, attributes := #[] }, { accessFlags := 26, nameIndex := 1101, descriptorIndex := 1102, attributes := #[] }, { accessFlags := 26, nameIndex := 1121, descriptorIndex := 1122, attributes := #[] }, { accessFlags := 25, nameIndex := 599, descriptorIndex := 600, attributes := #[] }, { accessFlags := 24, nameIndex := 1125, descriptorIndex := 18, attributes := #[] }, { accessFlags := 24, nameIndex := 1127, descriptorIndex := 18, attributes := #[] }])
  fields := #[{ name := "value", type := (.array .byte), accessFlags := 18, slot := 0, constantValue := 0 }, { name := "coder", type := .byte, accessFlags := 18, slot := 1, constantValue := 0 }, { name := "hash", type := .int, accessFlags := 2, slot := 2, constantValue := 0 }, { name := "hashIsZero", type := .boolean, accessFlags := 2, slot := 3, constantValue := 0 }, { name := "serialVersionUID", type := .long, accessFlags := 26, slot := 0, constantValue := 0 }, { name := "COMPACT_STRINGS", type := .boolean, accessFlags := 24, slot := 1, constantValue := 0 }, { name := "serialPersistentFields", type := (.array (.object "java/io/ObjectStreamField")), accessFlags := 26, slot := 2, constantValue := 0 }, { name := "REPL", type := .char, accessFlags := 26, slot := 3, constantValue := 0 }, { name := "CASE_INSENSITIVE_ORDER", type := (.object "java/util/Comparator"), accessFlags := 25, slot := 4, constantValue := 0 }, { name := "LATIN1", type := .byte, accessFlags := 24, slot := 5, constantValue := 0 }, { name := "UTF16", type := .byte, accessFlags := 24, slot := 6, constantValue := 0 }]
  methods := #[k8m0, k8m1, k8m2, k8m3]
  instanceTypes := #[(.array .byte), .byte, .int, .boolean]
  staticTypes := #[.long, .boolean, (.array (.object "java/io/ObjectStreamField")), .char, (.object "java/util/Comparator"), .byte, .byte]
  resolved := Array.replicate 1451 none
  statics := some 0 }

def pool9 : Array CpInfo := pool [(1, .class_ 2), (0, u "java/lang/String"), (1, .class_ 6), (1, u "java/lang/Object"), (0, u "<init>"), (0, u "()V"), (0, .methodref 1 10), (0, .nameAndType 11 12), (0, u "checkIndex"), (0, u "(II)V"), (1, .class_ 16), (1, u "java/lang/StringLatin1"), (36, u "([BI)C"), (67, u "$assertionsDisabled"), (0, u "Z"), (98, .class_ 223), (1, u "java/lang/StringLatin1$LinesSpliterator"), (28, u "charAt"), (137, .class_ 391), (0, u "java/lang/StringLatin1$CharsSpliterator")] 3

def k9m0 : Method := { name := "<init>", desc := "()V", sig := { parameters := [], returnType := none }, accessFlags := 0, code := none }
def k9c1 : Code := { maxStack := 2, maxLocals := 2, code := jdk_43_method_2_code, exceptionTable := #[], attributes := #[] }
def k9m1 : Method := { name := "charAt", desc := "([BI)C", sig := { parameters := [(.array .byte), .int], returnType := some .char }, accessFlags := 9, code := some k9c1 }
/-- java/lang/StringLatin1 -/
def k9 : Class := { plain "java/lang/StringLatin1" (some 0) with
  accessFlags := 48
  interfaces := #[]
  cf := some (fileOf pool9 14 #[.nestMembers #[390, 221]] #[{ accessFlags := 0, nameIndex := 7, descriptorIndex := 8, attributes := #[] }, { accessFlags := 9, nameIndex := 252, descriptorIndex := 53, attributes := #[] }] 48 4 #[] #[{ accessFlags := 4120, nameIndex := 121, descriptorIndex := 122, attributes := #[] }])
  fields := #[{ name := "$assertionsDisabled", type := .boolean, accessFlags := 4120, slot := 0, constantValue := 0 }]
  methods := #[k9m0, k9m1]
  instanceTypes := #[]
  staticTypes := #[.boolean]
  resolved := Array.replicate 395 none
  statics := none }

def pool10 : Array CpInfo := pool [(2, .class_ 4), (1, u "java/lang/Object"), (0, u "<init>"), (0, u "()V"), (17, .class_ 26), (1, u "jdk/internal/util/Preconditions"), (6, u "checkIndex"), (21, .class_ 56), (0, u "jdk/internal/util/Preconditions$4"), (57, .class_ 115), (0, u "jdk/internal/util/Preconditions$1"), (7, u "SIOOBE_FORMATTER"), (0, u "Ljava/util/function/BiFunction;"), (0, .class_ 126), (0, u "jdk/internal/util/Preconditions$2"), (3, u "AIOOBE_FORMATTER"), (0, .class_ 132), (0, u "jdk/internal/util/Preconditions$3"), (3, u "IOOBE_FORMATTER"), (41, u "(IILjava/util/function/BiFunction;)I")] 15

def k10m0 : Method := { name := "<init>", desc := "()V", sig := { parameters := [], returnType := none }, accessFlags := 1, code := none }
def k10c1 : Code := { maxStack := 3, maxLocals := 3, code := jdk_41_method_11_code, exceptionTable := #[], attributes := #[] }
def k10m1 : Method := { name := "checkIndex", desc := "(IILjava/util/function/BiFunction;)I", sig := { parameters := [.int, .int, (.object "java/util/function/BiFunction")], returnType := some .int }, accessFlags := 9, code := some k10c1 }
/-- jdk/internal/util/Preconditions -/
def k10 : Class := { plain "jdk/internal/util/Preconditions" (some 0) with
  accessFlags := 33
  interfaces := #[]
  cf := some (fileOf pool10 24 #[.nestMembers #[55, 131, 125, 114]] #[{ accessFlags := 1, nameIndex := 5, descriptorIndex := 6, attributes := #[] }, { accessFlags := 9, nameIndex := 33, descriptorIndex := 178, attributes := #[] }] 33 2 #[] #[{ accessFlags := 25, nameIndex := 123, descriptorIndex := 124, attributes := #[] }, { accessFlags := 25, nameIndex := 130, descriptorIndex := 124, attributes := #[] }, { accessFlags := 25, nameIndex := 136, descriptorIndex := 124, attributes := #[] }])
  fields := #[{ name := "SIOOBE_FORMATTER", type := (.object "java/util/function/BiFunction"), accessFlags := 25, slot := 0, constantValue := 0 }, { name := "AIOOBE_FORMATTER", type := (.object "java/util/function/BiFunction"), accessFlags := 25, slot := 1, constantValue := 0 }, { name := "IOOBE_FORMATTER", type := (.object "java/util/function/BiFunction"), accessFlags := 25, slot := 2, constantValue := 0 }]
  methods := #[k10m0, k10m1]
  instanceTypes := #[]
  staticTypes := #[(.object "java/util/function/BiFunction"), (.object "java/util/function/BiFunction"), (.object "java/util/function/BiFunction")]
  resolved := Array.replicate 194 none
  statics := some 1 }

def pool11 : Array CpInfo := pool [(9, u "<init>"), (6, .class_ 18), (1, u "java/lang/Object"), (0, u "()V"), (1, .class_ 23), (1, u "jdk/internal/util/ArraysSupport"), (0, u "LOG2_ARRAY_LONG_INDEX_SCALE"), (0, u "I"), (2, u "U"), (0, u "Ljdk/internal/misc/Unsafe;"), (8, u "BIG_ENDIAN"), (0, u "Z"), (8, u "LOG2_BYTE_BIT_SIZE"), (4, u "LOG2_ARRAY_INT_INDEX_SCALE"), (54, u "JLA"), (0, u "Ljdk/internal/access/JavaLangAccess;"), (11, u "LOG2_ARRAY_BOOLEAN_INDEX_SCALE"), (9, u "LOG2_ARRAY_BYTE_INDEX_SCALE"), (5, u "LOG2_ARRAY_CHAR_INDEX_SCALE"), (5, u "LOG2_ARRAY_SHORT_INDEX_SCALE"), (18, u "LOG2_ARRAY_FLOAT_INDEX_SCALE"), (24, u "LOG2_ARRAY_DOUBLE_INDEX_SCALE"), (89, u "T_BOOLEAN"), (2, u "T_CHAR"), (1, u "T_FLOAT"), (1, u "T_DOUBLE"), (1, u "T_BYTE"), (1, u "T_SHORT"), (1, u "T_INT"), (1, u "T_LONG"), (1, u "SOFT_MAX_ARRAY_LENGTH")] 83

def k11m0 : Method := { name := "<init>", desc := "()V", sig := { parameters := [], returnType := none }, accessFlags := 2, code := none }
/-- jdk/internal/util/ArraysSupport -/
def k11 : Class := { plain "jdk/internal/util/ArraysSupport" (some 0) with
  accessFlags := 33
  interfaces := #[]
  cf := some (fileOf pool11 21 #[] #[{ accessFlags := 2, nameIndex := 9, descriptorIndex := 19, attributes := #[] }] 33 16 #[] #[{ accessFlags := 24, nameIndex := 28, descriptorIndex := 29, attributes := #[] }, { accessFlags := 26, nameIndex := 38, descriptorIndex := 39, attributes := #[] }, { accessFlags := 25, nameIndex := 121, descriptorIndex := 25, attributes := #[] }, { accessFlags := 25, nameIndex := 131, descriptorIndex := 25, attributes := #[] }, { accessFlags := 25, nameIndex := 137, descriptorIndex := 25, attributes := #[] }, { accessFlags := 25, nameIndex := 143, descriptorIndex := 25, attributes := #[] }, { accessFlags := 25, nameIndex := 53, descriptorIndex := 25, attributes := #[] }, { accessFlags := 25, nameIndex := 24, descriptorIndex := 25, attributes := #[] }, { accessFlags := 25, nameIndex := 162, descriptorIndex := 25, attributes := #[] }, { accessFlags := 25, nameIndex := 187, descriptorIndex := 25, attributes := #[] }, { accessFlags := 26, nameIndex := 48, descriptorIndex := 25, attributes := #[] }, { accessFlags := 25, nameIndex := 277, descriptorIndex := 25, attributes := #[] }, { accessFlags := 25, nameIndex := 280, descriptorIndex := 25, attributes := #[] }, { accessFlags := 25, nameIndex := 282, descriptorIndex := 25, attributes := #[] }, { accessFlags := 25, nameIndex := 284, descriptorIndex := 25, attributes := #[] }, { accessFlags := 25, nameIndex := 286, descriptorIndex := 25, attributes := #[] }, { accessFlags := 25, nameIndex := 288, descriptorIndex := 25, attributes := #[] }, { accessFlags := 25, nameIndex := 290, descriptorIndex := 25, attributes := #[] }, { accessFlags := 25, nameIndex := 292, descriptorIndex := 25, attributes := #[] }, { accessFlags := 26, nameIndex := 108, descriptorIndex := 109, attributes := #[] }, { accessFlags := 25, nameIndex := 294, descriptorIndex := 25, attributes := #[] }])
  fields := #[{ name := "U", type := (.object "jdk/internal/misc/Unsafe"), accessFlags := 24, slot := 0, constantValue := 0 }, { name := "BIG_ENDIAN", type := .boolean, accessFlags := 26, slot := 1, constantValue := 0 }, { name := "LOG2_ARRAY_BOOLEAN_INDEX_SCALE", type := .int, accessFlags := 25, slot := 2, constantValue := 0 }, { name := "LOG2_ARRAY_BYTE_INDEX_SCALE", type := .int, accessFlags := 25, slot := 3, constantValue := 0 }, { name := "LOG2_ARRAY_CHAR_INDEX_SCALE", type := .int, accessFlags := 25, slot := 4, constantValue := 0 }, { name := "LOG2_ARRAY_SHORT_INDEX_SCALE", type := .int, accessFlags := 25, slot := 5, constantValue := 0 }, { name := "LOG2_ARRAY_INT_INDEX_SCALE", type := .int, accessFlags := 25, slot := 6, constantValue := 0 }, { name := "LOG2_ARRAY_LONG_INDEX_SCALE", type := .int, accessFlags := 25, slot := 7, constantValue := 0 }, { name := "LOG2_ARRAY_FLOAT_INDEX_SCALE", type := .int, accessFlags := 25, slot := 8, constantValue := 0 }, { name := "LOG2_ARRAY_DOUBLE_INDEX_SCALE", type := .int, accessFlags := 25, slot := 9, constantValue := 0 }, { name := "LOG2_BYTE_BIT_SIZE", type := .int, accessFlags := 26, slot := 10, constantValue := 0 }, { name := "T_BOOLEAN", type := .int, accessFlags := 25, slot := 11, constantValue := 0 }, { name := "T_CHAR", type := .int, accessFlags := 25, slot := 12, constantValue := 0 }, { name := "T_FLOAT", type := .int, accessFlags := 25, slot := 13, constantValue := 0 }, { name := "T_DOUBLE", type := .int, accessFlags := 25, slot := 14, constantValue := 0 }, { name := "T_BYTE", type := .int, accessFlags := 25, slot := 15, constantValue := 0 }, { name := "T_SHORT", type := .int, accessFlags := 25, slot := 16, constantValue := 0 }, { name := "T_INT", type := .int, accessFlags := 25, slot := 17, constantValue := 0 }, { name := "T_LONG", type := .int, accessFlags := 25, slot := 18, constantValue := 0 }, { name := "JLA", type := (.object "jdk/internal/access/JavaLangAccess"), accessFlags := 26, slot := 19, constantValue := 0 }, { name := "SOFT_MAX_ARRAY_LENGTH", type := .int, accessFlags := 25, slot := 20, constantValue := 0 }]
  methods := #[k11m0]
  instanceTypes := #[]
  staticTypes := #[(.object "jdk/internal/misc/Unsafe"), .boolean, .int, .int, .int, .int, .int, .int, .int, .int, .int, .int, .int, .int, .int, .int, .int, .int, .int, (.object "jdk/internal/access/JavaLangAccess"), .int]
  resolved := Array.replicate 378 none
  statics := none }

def pool12 : Array CpInfo := pool [(1, u "java/lang/Cloneable"), (0, .class_ 1), (0, u "java/lang/Object"), (0, .class_ 3)] 3

/-- java/lang/Cloneable -/
def k12 : Class := { plain "java/lang/Cloneable" (some 0) with
  accessFlags := 1537
  interfaces := #[]
  cf := some (fileOf pool12 2 #[] #[] 1537 4 #[] #[])
  fields := #[]
  methods := #[]
  instanceTypes := #[]
  staticTypes := #[]
  resolved := Array.replicate 8 none
  statics := none }

/-- the primitive byte -/
def k13 : Class := { plain "byte" none with kind := .primitive 'B', accessFlags := 0x411 }
/-- [B -/
def k14 : Class := { plain "[B" (some 0) with kind := .array 13 .byte, interfaces := #[12, 3], accessFlags := 1041 }

/-- the primitive int -/
def k15 : Class := { plain "int" none with kind := .primitive 'I', accessFlags := 0x411 }
/-- [I -/
def k16 : Class := { plain "[I" (some 0) with kind := .array 15 .int, interfaces := #[12, 3], accessFlags := 1041 }

def heap : Heap := #[{ cls := 8, slots := #[.long 0, .int 1, .null, .int 0, .null, .int 0, .int 0], vm := .statics 8 },
  { cls := 10, slots := #[.null, .null, .null], vm := .statics 10 }]
def classes : Array Class := #[k0, k1, k2, k3, k4, k5, k6, k7, k8, k9, k10, k11, k12, k13, k14, k15, k16]
def interned : List (Array UInt16 × Addr) := []
def slotsUsed : Nat := 10
def theMethod : MethodId := ⟨1, 1⟩
def args0 : Array Value := #[.int 5, .int 3, .int 1]
def aboutOver (below : List Frame) : State where
  vm := { classes := classes, interned := interned.toArray }
  heap := heap
  slotsUsed := slotsUsed
  threads := #[{ frames := .invoking theMethod args0 :: below }]
def below0 : List Frame := [.native { method := ⟨0, 0⟩, args := #[] }]
def about1 : State := aboutOver below0
def p0 : Program := .bare "" "" ""
def e0 : Env := launch0.env 0 0 0
theorem w_frames : about1.frames = Frame.invoking theMethod args0 :: below0 := rfl
set_option maxRecDepth 65536 in
theorem w_args : argsFit about1.vm theMethod args0 = true := by decide +kernel
set_option maxRecDepth 65536 in
theorem w_heap : heapFits about1 = true := by decide +kernel
set_option maxRecDepth 65536 in
theorem w_runnable : about1.curStatus? = some .runnable := by decide +kernel
set_option maxRecDepth 65536 in
theorem w_alone : about1.alone = true := by decide +kernel
set_option maxRecDepth 65536 in
theorem w_named : about1.methodNamed? x = some theMethod := by decide +kernel
set_option maxRecDepth 65536 in
theorem w_hears : about1.hears theMethod below0 = true := by decide +kernel
set_option maxRecDepth 65536 in
theorem w_ripe : about1.ripe theMethod args0 below0 = true := by decide +kernel
theorem w_running : about1.status = .running := rfl
set_option maxRecDepth 65536 in
theorem w_room : about1.hasRoom e0.platform room_1 = true :=
  launch0.hasRoom_least _ room_1 (by decide +kernel) (by decide +kernel) (by decide +kernel) (by decide +kernel) (by decide +kernel) (by decide +kernel)
theorem allAtoms_all (ts : List Jvm.Cond) (a : Array Jvm.Value) (st : Jvm.State) : (allAtoms ts).before a st = ts.all (fun c => c.before a st) := by
  induction ts with
  | nil => rfl
  | cons c t ih =>
    show (Jvm.Cond.and c (allAtoms t)).before a st = _
    rw [Jvm.Cond.before_and, ih, List.all_cons]
def words1 : List Jvm.Cond := Jvm.Cond.code x code maxLocals ret :: tables_1
/-- a 'code' word, met by the world's own term for the bytes: nothing is compared byte by byte -/
theorem code_word {y : MethodName} {bytes : ByteArray} {mx : Nat} {rt : Option FieldType} {a : Array Value} {s : State} {m : MethodId} {meth : Method} {c : Code} (h1 : s.methodNamed? y = some m) (h2 : s.vm.method? m = some meth) (h3 : meth.code = some c) (h4 : c.code = bytes)
    (h5 : (c.maxLocals == mx && c.exceptionTable.isEmpty && decide (c.maxStack ≤ mostOperands) && decide (meth.sig.returnType = rt) && !meth.locks && decide (parseMethodDescriptor y.desc = some meth.sig)) = true) : (Jvm.Cond.code y bytes mx rt).before a s = true := by
  simp only [Bool.and_eq_true, beq_iff_eq, Bool.not_eq_true', decide_eq_true_eq] at h5
  obtain ⟨⟨⟨⟨⟨g1, g2⟩, g3⟩, g4⟩, g5⟩, g6⟩ := h5
  simp [Cond.before, Cond.holds, Cond.value, h1, h2, h3, h4, g1, g2, g3, g4, g5, g6]
def isCode : Jvm.Cond → Bool
  | .code _ _ _ _ => true
  | _ => false
theorem all_split {L : List Jvm.Cond} {P : Jvm.Cond → Bool} (h1 : L.all (fun c => isCode c || P c) = true) (h2 : ∀ c ∈ L.filter isCode, P c = true) : L.all P = true := by
  refine List.all_eq_true.mpr fun c hc => ?_
  have h := List.all_eq_true.mp h1 c hc
  rcases Bool.eq_false_or_eq_true (isCode c) with hi | hi
  · exact h2 c (List.mem_filter.mpr ⟨hc, hi⟩)
  · simpa [hi] using h
set_option maxRecDepth 65536 in
theorem w_c0 : (Jvm.Cond.code x code maxLocals ret).before args0 about1 = true := code_word (m := ⟨1, 1⟩) (meth := k1m1) (c := k1c1) (by decide +kernel) rfl rfl rfl (by decide +kernel)
set_option maxRecDepth 65536 in
theorem w_c1 : (Jvm.Cond.code ({ cls := "com/example/clear_plan/clearplan/pddl/Names", name := "hash", desc := "(IC)I" } : Jvm.MethodName) prog_52_method_3_code (2 : Nat) (Option.some Jvm.ClassFile.FieldType.int)).before args0 about1 = true := code_word (m := ⟨2, 1⟩) (meth := k2m1) (c := k2c1) (by decide +kernel) rfl rfl rfl (by decide +kernel)
set_option maxRecDepth 65536 in
theorem w_c2 : (Jvm.Cond.code ({ cls := "java/lang/String", name := "charAt", desc := "(I)C" } : Jvm.MethodName) jdk_42_method_56_code (2 : Nat) (Option.some Jvm.ClassFile.FieldType.char)).before args0 about1 = true := code_word (m := ⟨8, 1⟩) (meth := k8m1) (c := k8c1) (by decide +kernel) rfl rfl rfl (by decide +kernel)
set_option maxRecDepth 65536 in
theorem w_c3 : (Jvm.Cond.code ({ cls := "java/lang/String", name := "isLatin1", desc := "()Z" } : Jvm.MethodName) jdk_42_method_154_code (1 : Nat) (Option.some Jvm.ClassFile.FieldType.boolean)).before args0 about1 = true := code_word (m := ⟨8, 2⟩) (meth := k8m2) (c := k8c2) (by decide +kernel) rfl rfl rfl (by decide +kernel)
set_option maxRecDepth 65536 in
theorem w_c4 : (Jvm.Cond.code ({ cls := "java/lang/StringLatin1", name := "charAt", desc := "([BI)C" } : Jvm.MethodName) jdk_43_method_2_code (2 : Nat) (Option.some Jvm.ClassFile.FieldType.char)).before args0 about1 = true := code_word (m := ⟨9, 1⟩) (meth := k9m1) (c := k9c1) (by decide +kernel) rfl rfl rfl (by decide +kernel)
set_option maxRecDepth 65536 in
theorem w_c5 : (Jvm.Cond.code ({ cls := "java/lang/String", name := "checkIndex", desc := "(II)V" } : Jvm.MethodName) jdk_42_method_155_code (2 : Nat) (Option.none : Option Jvm.ClassFile.FieldType)).before args0 about1 = true := code_word (m := ⟨8, 3⟩) (meth := k8m3) (c := k8c3) (by decide +kernel) rfl rfl rfl (by decide +kernel)
set_option maxRecDepth 65536 in
theorem w_c6 : (Jvm.Cond.code ({ cls := "jdk/internal/util/Preconditions", name := "checkIndex", desc := "(IILjava/util/function/BiFunction;)I" } : Jvm.MethodName) jdk_41_method_11_code (3 : Nat) (Option.some Jvm.ClassFile.FieldType.int)).before args0 about1 = true := code_word (m := ⟨10, 1⟩) (meth := k10m1) (c := k10c1) (by decide +kernel) rfl rfl rfl (by decide +kernel)
def codes1 : List Jvm.Cond := [Jvm.Cond.code x code maxLocals ret, Jvm.Cond.code ({ cls := "com/example/clear_plan/clearplan/pddl/Names", name := "hash", desc := "(IC)I" } : Jvm.MethodName) prog_52_method_3_code (2 : Nat) (Option.some Jvm.ClassFile.FieldType.int), Jvm.Cond.code ({ cls := "java/lang/String", name := "charAt", desc := "(I)C" } : Jvm.MethodName) jdk_42_method_56_code (2 : Nat) (Option.some Jvm.ClassFile.FieldType.char), Jvm.Cond.code ({ cls := "java/lang/String", name := "isLatin1", desc := "()Z" } : Jvm.MethodName) jdk_42_method_154_code (1 : Nat) (Option.some Jvm.ClassFile.FieldType.boolean), Jvm.Cond.code ({ cls := "java/lang/StringLatin1", name := "charAt", desc := "([BI)C" } : Jvm.MethodName) jdk_43_method_2_code (2 : Nat) (Option.some Jvm.ClassFile.FieldType.char), Jvm.Cond.code ({ cls := "java/lang/String", name := "checkIndex", desc := "(II)V" } : Jvm.MethodName) jdk_42_method_155_code (2 : Nat) (Option.none : Option Jvm.ClassFile.FieldType), Jvm.Cond.code ({ cls := "jdk/internal/util/Preconditions", name := "checkIndex", desc := "(IILjava/util/function/BiFunction;)I" } : Jvm.MethodName) jdk_41_method_11_code (3 : Nat) (Option.some Jvm.ClassFile.FieldType.int)]
set_option maxRecDepth 65536 in
theorem codes_eq : words1.filter isCode = codes1 := rfl
theorem w_codes : ∀ c ∈ words1.filter isCode, c.before args0 about1 = true := by
  rw [codes_eq]
  intro c hc
  simp only [codes1, List.mem_cons, List.not_mem_nil, or_false] at hc
  rcases hc with rfl | rfl | rfl | rfl | rfl | rfl | rfl
  · exact w_c0
  · exact w_c1
  · exact w_c2
  · exact w_c3
  · exact w_c4
  · exact w_c5
  · exact w_c6
set_option maxRecDepth 65536 in
theorem w_t1 : (words1.take 24).all (fun c => isCode c || c.before args0 about1) = true := by decide +kernel
set_option maxRecDepth 65536 in
theorem w_t2 : (words1.drop 24).all (fun c => isCode c || c.before args0 about1) = true := by decide +kernel
theorem w_tables : (allAtoms (Jvm.Cond.code x code maxLocals ret :: tables_1)).before args0 about1 = true := by
  rw [allAtoms_all]
  show words1.all (fun c => c.before args0 about1) = true
  refine all_split ?_ w_codes
  rw [← List.take_append_drop 24 words1, List.all_append, w_t1, w_t2]
  rfl
set_option maxRecDepth 65536 in
theorem w_rest : rest_1_c.before args0 about1 = true := by decide +kernel
set_option maxRecDepth 65536 in
theorem w_case : (Jvm.Cond.and given_1 narrow_1).before args0 about1 = true := by decide +kernel
set_option maxRecDepth 65536 in
theorem w_consts : constsHeld consts_1 about1 := Jvm.Lit.constsHeldB_iff.mp (by decide +kernel)
theorem w_applies : (headSpec (Jvm.Cond.code x code maxLocals ret :: tables_1) room_1).applies x e0.platform about1 = true :=
  (Spec.applies_iff w_frames).mpr ⟨w_running, w_runnable, w_alone, w_named, w_hears, w_ripe, w_room, w_tables⟩
theorem atStart : AtStart classFile x code maxLocals ret World_1 tables_1 room_1 Calls_1 rest_1 Pre_1 launch0 p0 e0 about1 theMethod args0 below0 :=
  ⟨lists_1, trivial, launch0.admits_env _ _ _, launch0.least_env, fairChoices_fair.cas, fairChoices_fair.clock, w_frames, w_args, w_heap, w_applies, ⟨w_consts, trivial⟩, w_rest, w_case⟩
end start1
theorem witness_1 : WitnessClaimed_1 := ⟨start1.p0, start1.e0, start1.about1, start1.theMethod, start1.args0, start1.below0, start1.atStart⟩
end Jvm.Pilot.@@N@@
