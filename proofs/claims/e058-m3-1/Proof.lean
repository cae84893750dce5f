import JvmDerived
import JvmDerived.Pilot.@@N@@Statement
import JvmDerived.Pilot.@@N@@Code
set_option linter.unusedVariables false
set_option linter.unusedSimpArgs false
@@BLOCK:NumsL.lean.txt@@
namespace Jvm.Pilot.@@N@@
open Jvm Jvm.ClassFile Sem Op Lib Jvm.Free Jvm.Stand Jvm.LawKit Jvm.RoadKit Bundle Jvm.Pilot.@@N@@.Jvm.D
/-! The own kit: a walk forwards. 'Goes .. S': from S the body runs to its end, and Q holds there. -/
def Goes (p : Program) (e : Env) (below : List Frame) (P : Outcome → State → Prop) (S : State) : Prop :=
  ∃ s₂ o, Steps p.tables e below S s₂ ∧ s₂.status = .running ∧ Ended s₂ below o ∧ P o s₂
abbrev EndQ (s : State) (Q : Option Value → Heap → List Loc → Prop) (k n : Nat) : Outcome → State → Prop := fun o U => ∃ v L, o = .returned v ∧ Q v U.heap L ∧ FrameEnd s o U L k n
abbrev Ctr (l : Launch) (Z : State) (y : MethodName) (bytes : ByteArray) (maxL : Nat) (ret : Option FieldType) (ws : List Jvm.Cond) (rm : Room) (as' : Array Value) (h0 : Heap) (Q : Option Value → Heap → List Loc → Prop) : Prop :=
  MetFree l y (head1 (Jvm.Cond.code y bytes maxL ret :: ws) rm) (fun a U => a = as' ∧ Z.Warmed39 U.vm ∧ U.heap = h0) (fun _ _ _ _ _ => True) (fun _ U o U' => ∃ v L, o = .returned v ∧ Q v U'.heap L ∧ FrameEnd U o U' L rm.cells rm.slots)
abbrev CtrW (l : Launch) (Z : State) (y : MethodName) (bytes : ByteArray) (maxL : Nat) (ret : Option FieldType) (ws : List Jvm.Cond) (rm : Room) (as' : Array Value) (h0 : Heap) (Q : Option Value → Heap → List Loc → Prop) : Prop :=
  MetFree l y (head1 (Jvm.Cond.code y bytes maxL ret :: ws) rm) (fun a U => a = as' ∧ Z.Warmed39 U.vm ∧ U.heap = h0 ∧ U.vm = Z.vm) (fun _ _ _ _ _ => True) (fun _ U o U' => ∃ v L, o = .returned v ∧ Q v U'.heap L ∧ ReturnedEndW U o U' L rm.cells rm.slots)
section Own
variable {p : Program} {l : Launch} {e : Env} {R : Room} {s : State} {m : MethodId} {args : Array Value} {below : List Frame} {meth : Method} {c : Code} {T : State} {locs : List Loc} {cells slots : Nat} {Z : State} {a0 : Array Value} {h : Heap}
variable {Q : Option Value → Heap → List Loc → Prop} {k n : Nat} {S S' : State} {P : Outcome → State → Prop}
theorem Goes.pre (hs : ∀ t, Steps p.tables e below S' t → Steps p.tables e below S t) (g : Goes p e below P S') : Goes p e below P S := by
  obtain ⟨s₂, o, a, b⟩ := g
  exact ⟨s₂, o, hs _ a, b⟩
theorem Goes.via (hs : Steps p.tables e below S S') (g : Goes p e below P S') : Goes p e below P S := by
  obtain ⟨s₂, o, a, b⟩ := g
  exact ⟨s₂, o, hs.trans a, b⟩
theorem Goes.out (X : Stand p l e R s m args below meth c T locs cells slots) {v : Option Value} (hv : meth.sig.returnType = none → v = none) (hlocks : meth.locks = false) (hq : Q v T.heap locs) (hk : cells ≤ k) (hn : slots ≤ n)
    (hs : ∀ fs, (∀ (f : JFrame) (acts : List Action), f.method = m → f.locked = none → f.entered = [] → (doReturn e (T.setTop f) acts v).1 = T.setFrames fs) → Steps p.tables e below S (T.setFrames fs)) : Goes p e below (EndQ s Q k n) S := by
  obtain ⟨fs, hr, hrun, hended, hW, hsame⟩ := X.leave (v := v) hv hlocks
  exact ⟨_, _, hs fs hr, hrun, hended, _, _, rfl, hq, ⟨_, rfl⟩, hW, hsame.mono hk hn⟩
/-- ireturn of a boolean, byte, char, short -/
theorem Goes.retN (X : Stand p l e R s m args below meth c T locs cells slots) (hx : p.tables.exec = Jvm.exec) (hlocks : meth.locks = false) {t : FieldType} (hret : meth.sig.returnType = some t) (ht : t = .boolean ∨ t = .byte ∨ t = .char ∨ t = .short) {pc : Nat} (hd : decode c.code pc = .ok (.ireturn, 1)) {Ls : Array Slot} {z : Int32} {rest : List Value}
    (hq : Q (some (.int (nar t z))) T.heap locs) (hk : cells ≤ k) (hn : slots ≤ n) : Goes p e below (EndQ s Q k n) (T.setTop (mkF m pc Ls (.int z :: rest))) :=
  Goes.out X (v := some (.int (nar t z))) (fun q => by rw [hret] at q; cases q) hlocks hq hk hn fun _ hr => Jvm.RoadKit.retN X hx (t := t) hret ht hd hr
/-- ireturn of an int, areturn, lreturn -/
theorem Goes.ret (X : Stand p l e R s m args below meth c T locs cells slots) (hx : p.tables.exec = Jvm.exec) (hlocks : meth.locks = false) {t : FieldType} (hret : meth.sig.returnType = some t) {w : Value} (hnw : narrow t w = w) {i : Instr}
    (hi : (i = .ireturn ∧ (t = .int ∨ t = .boolean ∨ t = .byte ∨ t = .char ∨ t = .short) ∧ ∃ z, w = .int z) ∨ (i = .lreturn ∧ t = .long ∧ ∃ z, w = .long z) ∨ (i = .dreturn ∧ t = .double ∧ ∃ z, w = .double z) ∨ (i = .freturn ∧ t = .float ∧ ∃ z, w = .float z) ∨ (i = .areturn ∧ t.isReference = true ∧ w.isRef = true))
    {pc : Nat} (hd : decode c.code pc = .ok (i, 1)) {Ls : Array Slot} {rest : List Value}
    (hq : Q (some w) T.heap locs) (hk : cells ≤ k) (hn : slots ≤ n) : Goes p e below (EndQ s Q k n) (T.setTop (mkF m pc Ls (w :: rest))) :=
  Goes.out X (v := some w) (fun q => by rw [hret] at q; cases q) hlocks hq hk hn fun _ hr => retOut X hx hret hnw hi hd hr
theorem Goes.retV (X : Stand p l e R s m args below meth c T locs cells slots) (hx : p.tables.exec = Jvm.exec) (hlocks : meth.locks = false) (hret : meth.sig.returnType = none) {pc : Nat} (hd : decode c.code pc = .ok (.return_, 1)) {Ls : Array Slot}
    (hq : Q none T.heap locs) (hk : cells ≤ k) (hn : slots ≤ n) : Goes p e below (EndQ s Q k n) (T.setTop (mkF m pc Ls [])) :=
  Goes.out X (v := none) (fun _ => rfl) hlocks hq hk hn fun _ hr => X.returnOut hx hret hd hr
/-- the end of a walk that may have interned -/
abbrev EndW (s : State) (Q : Option Value → Heap → List Loc → Prop) (k n : Nat) : Outcome → State → Prop := fun o U => ∃ v L, o = .returned v ∧ Q v U.heap L ∧ ReturnedEndW s o U L k n
theorem Goes.retNW {vm₁ : Vm} (X : Stand p l e R (s.setVm vm₁) m args below meth c T locs cells slots) {j : Nat} (hS : s.Since vm₁ j) (hj : j ≤ T.heap.size) (hx : p.tables.exec = Jvm.exec) (hlocks : meth.locks = false) {t : FieldType} (hret : meth.sig.returnType = some t) (ht : t = .boolean ∨ t = .byte ∨ t = .char ∨ t = .short) {pc : Nat} (hd : decode c.code pc = .ok (.ireturn, 1)) {Ls : Array Slot} {z : Int32} {rest : List Value}
    (hq : Q (some (.int (nar t z))) T.heap locs) (hk : cells ≤ k) (hn : slots ≤ n) : Goes p e below (EndW s Q k n) (T.setTop (mkF m pc Ls (.int z :: rest))) := by
  obtain ⟨fs, hr, hrun, hended, h1, h2, h3, h4⟩ := X.leaveW hS hj (v := some (.int (nar t z))) (fun q => by rw [hret] at q; cases q) hlocks
  exact ⟨_, _, Jvm.RoadKit.retN X hx (t := t) hret ht hd hr, hrun, hended, _, _, rfl, hq, h1, h2, h3, h4.mono hk hn⟩
/-- a static call by its contract -/
theorem Goes.callS {y : MethodName} {bytes : ByteArray} {maxL : Nat} {ret : Option FieldType} {rm : Room} {as' : Array Value} {Qc : Option Value → Heap → List Loc → Prop}
    (X : Stand p l e R s m args below meth c T locs cells slots) (hx : p.tables.exec = Jvm.exec) (hZ : Z.Warmed39 s.vm) {own : String} {index : Nat} (hown : s.vm.findClass own = some m.cls)
    (w1 : (Jvm.Cond.methodLink own index y).before a0 Z = true) (w2 : (Jvm.Cond.static y).before a0 Z = true) (w3 : (Jvm.Cond.initialized y.cls).before a0 Z = true) (w4 : (Jvm.Cond.code y bytes maxL ret).before a0 Z = true)
    (hy : y.cls ≠ "java/lang/invoke/MethodHandle" ∧ y.cls ≠ "java/lang/invoke/VarHandle") (eT : T.heap = h) (hM : Ctr l Z y bytes maxL ret [] rm as' h Qc)
    {pc : Nat} {Ls : Array Slot} {stk : List Value} (hsize : Ls.size = c.maxLocals) (argsL rest : List Value) {ps : List FieldType} {r : Option FieldType} (hpd : parseMethodDescriptor y.desc = some ⟨ps, r⟩) (hlen : argsL.length = ps.length)
    (hstk : stk = argsL.reverse ++ rest) (has : argsL.toArray = as') (hd : decode c.code pc = .ok (.invokestatic index, 3))
    (hf : rm.frames + 1 ≤ R.frames) (hl : (rest.map fun v => v.category).sum + (maxL + 11) + rm.locals ≤ R.locals) (hc : cells + rm.cells ≤ R.cells) (hs : slots + rm.slots ≤ R.slots)
    (g : ∀ (T' : State) (v : Option Value) (L : List Loc), Stand p l e R s m args below meth c T' (locs ++ L) (cells + rm.cells) (slots + rm.slots) → Qc v T'.heap L → Goes p e below P (T'.setTop (mkF m (pc + 3) Ls (v.toList ++ rest)))) :
    Goes p e below P (T.setTop (mkF m pc Ls stk)) := by
  subst has
  obtain ⟨v, _, ⟨T', L', k', n'⟩, -, X', ⟨Lc, hQ, l1, l2, l3⟩, st⟩ := Jvm.LawKit.callS X hx (y := y) hown (mvT hZ w1) (mvT hZ w2) (mvT hZ w3) (mvT hZ w4) hy (backOf (W := (rest.map fun v => v.category).sum) hM hZ w4 w3 hf hl) (g := mkF m pc Ls stk) rfl hsize (argsL := argsL) (rest := rest) (lenOf hpd hlen) hstk (by show 2 * 0 + _ ≤ _; omega) hd (fun _ _ => ⟨rfl, eT, hc, hs⟩)
  dsimp only [Pt.U, Pt.locs, Pt.cells, Pt.slots] at X' l1 l2 l3 st hQ
  subst l1 l2 l3
  exact Goes.pre st (g T' v Lc X' hQ)
/-- a constructor by its contract -/
theorem Goes.init {y : MethodName} {bytes : ByteArray} {maxL : Nat} {rm : Room} {as' : Array Value} {Qc : Option Value → Heap → List Loc → Prop}
    (X : Stand p l e R s m args below meth c T locs cells slots) (hx : p.tables.exec = Jvm.exec) (hZ : Z.Warmed39 s.vm) {own : String} {index : Nat} (hown : s.vm.findClass own = some m.cls) (hnm : y.name = "<init>")
    (w1 : (Jvm.Cond.methodLink own index y).before a0 Z = true) (w2 : (Jvm.Cond.instanceMethod y).before a0 Z = true) (w3 : (Jvm.Cond.initialized y.cls).before a0 Z = true) (w4 : (Jvm.Cond.code y bytes maxL none).before a0 Z = true)
    (hy : y.cls ≠ "java/lang/invoke/MethodHandle" ∧ y.cls ≠ "java/lang/invoke/VarHandle") (eT : T.heap = h) (hM : Ctr l Z y bytes maxL none [] rm as' h Qc)
    {pc : Nat} {Ls : Array Slot} {stk : List Value} (hsize : Ls.size = c.maxLocals) (a : Addr) (argsL rest : List Value) {ps : List FieldType} {r : Option FieldType} (hpd : parseMethodDescriptor y.desc = some ⟨ps, r⟩) (hlen : argsL.length = ps.length)
    (hstk : stk = argsL.reverse ++ .ref a :: rest) (has : (.ref a :: argsL).toArray = as') (hd : decode c.code pc = .ok (.invokespecial index, 3))
    (hf : rm.frames + 1 ≤ R.frames) (hl : (rest.map fun v => v.category).sum + (maxL + 11) + rm.locals ≤ R.locals) (hc : cells + rm.cells ≤ R.cells) (hs : slots + rm.slots ≤ R.slots)
    (g : ∀ (T' : State) (v : Option Value) (L : List Loc), Stand p l e R s m args below meth c T' (locs ++ L) (cells + rm.cells) (slots + rm.slots) → Qc v T'.heap L → Goes p e below P (T'.setTop (mkF m (pc + 3) Ls (v.toList ++ rest)))) :
    Goes p e below P (T.setTop (mkF m pc Ls stk)) := by
  subst has
  obtain ⟨v, _, ⟨T', L', k', n'⟩, -, X', ⟨Lc, hQ, l1, l2, l3⟩, st⟩ := X.specialBack hx (y := y) hnm hown (mvT hZ w1) (mvT hZ w2) (mvT hZ w4) hy (backOf (W := (rest.map fun v => v.category).sum) hM hZ w4 w3 hf hl) (g := mkF m pc Ls stk) rfl hsize (Steps.refl _) (a := a) (argsL := argsL) (rest := rest) (lenOf hpd hlen) hstk (by show 2 * 0 + _ ≤ _; omega) hd (fun _ _ => ⟨rfl, eT, hc, hs⟩)
  dsimp only [Pt.U, Pt.locs, Pt.cells, Pt.slots] at X' l1 l2 l3 st hQ
  subst l1 l2 l3
  exact Goes.via st (g T' v Lc X' hQ)
/-- an instance method by its contract -/
theorem Goes.callV {y : MethodName} {C : String} {bytes : ByteArray} {maxL : Nat} {ret : Option FieldType} {rm : Room} {as' : Array Value} {Qc : Option Value → Heap → List Loc → Prop}
    (X : Stand p l e R s m args below meth c T locs cells slots) (hx : p.tables.exec = Jvm.exec) (hZ : Z.Warmed39 s.vm) {own : String} {index : Nat} (hown : s.vm.findClass own = some m.cls)
    (w1 : (Jvm.Cond.methodLink own index y).before a0 Z = true) (w2 : (Jvm.Cond.declares y).before a0 Z = true) (w5 : (Jvm.Cond.selects C y y).before a0 Z = true) (w6 : (Jvm.Cond.instanceMethod y).before a0 Z = true) (w3 : (Jvm.Cond.initialized y.cls).before a0 Z = true) (w4 : (Jvm.Cond.code y bytes maxL ret).before a0 Z = true)
    (hy : y.cls ≠ "java/lang/invoke/MethodHandle" ∧ y.cls ≠ "java/lang/invoke/VarHandle") (eT : T.heap = h) {a : Addr} (E : Exa Z h a C) (hM : Ctr l Z y bytes maxL ret [] rm as' h Qc)
    {pc : Nat} {Ls : Array Slot} {stk : List Value} (hsize : Ls.size = c.maxLocals) (argsL rest : List Value) {ps : List FieldType} {r : Option FieldType} (hpd : parseMethodDescriptor y.desc = some ⟨ps, r⟩) (hlen : argsL.length = ps.length)
    (hstk : stk = argsL.reverse ++ .ref a :: rest) (has : (.ref a :: argsL).toArray = as') (hd : decode c.code pc = .ok (.invokevirtual index, 3))
    (hf : rm.frames + 1 ≤ R.frames) (hl : (rest.map fun v => v.category).sum + (maxL + 11) + rm.locals ≤ R.locals) (hc : cells + rm.cells ≤ R.cells) (hs : slots + rm.slots ≤ R.slots)
    (g : ∀ (T' : State) (v : Option Value) (L : List Loc), Stand p l e R s m args below meth c T' (locs ++ L) (cells + rm.cells) (slots + rm.slots) → Qc v T'.heap L → Goes p e below P (T'.setTop (mkF m (pc + 3) Ls (v.toList ++ rest)))) :
    Goes p e below P (T.setTop (mkF m pc Ls stk)) := by
  subst has
  obtain ⟨cB, kB, q1, -, q3⟩ := isOf hZ eT E
  obtain ⟨v, _, ⟨T', L', k', n'⟩, -, X', ⟨Lc, hQ, l1, l2, l3⟩, st⟩ := X.virtualBack hx (y := y) (z := y) hown (mvT hZ w1) (mvT hZ w2) (notFace_of_selects (args := #[]) (mvT hZ w5)) (mvT hZ w5) (mvT hZ w6) hy (backOf (W := (rest.map fun v => v.category).sum) hM hZ w4 w3 hf hl) q1 q3 (g := mkF m pc Ls stk) rfl hsize (Steps.refl _) (argsL := argsL) (rest := rest) (lenOf hpd hlen) hstk (by show 2 * 0 + _ ≤ _; omega) hd (fun _ _ => ⟨rfl, eT, hc, hs⟩)
  dsimp only [Pt.U, Pt.locs, Pt.cells, Pt.slots] at X' l1 l2 l3 st hQ
  subst l1 l2 l3
  exact Goes.via st (g T' v Lc X' hQ)
theorem Goes.iaload (X : Stand p l e R s m args below meth c T locs cells slots) (hx : p.tables.exec = Jvm.exec) (hZ : Z.Warmed39 s.vm) (eT : T.heap = h) {a : Addr} {kc : ClassId} {z : Int32} {vs : List Value} {dv : Value} (V : Arv Z h a kc .int z vs dv) {j : Int32} (hj : ¬ j < 0 ∧ j < z) {w : Value} (hw : vs.getD j.toNatClampNeg dv = w)
    {pc : Nat} {Ls : Array Slot} {rest : List Value} (hd : decode c.code pc = .ok (.iaload, 1)) (g : Goes p e below P (T.setTop (mkF m (pc + 1) Ls (w :: rest)))) : Goes p e below P (T.setTop (mkF m pc Ls (.int j :: .ref a :: rest))) := by
  obtain ⟨cl, A, -, S, -, H, -⟩ := V
  exact Goes.pre (fun t kk => X.iaload hx (by rw [eT]; exact A.1) (State.isArrayOf_alike hZ.alike A.2.1) A.2.2 (inb_of S hj) (H.at (inb_of S hj) hw) (g := mkF m pc Ls (.int j :: .ref a :: rest)) rfl rfl hd t kk) g
theorem Goes.baloadZ (X : Stand p l e R s m args below meth c T locs cells slots) (hx : p.tables.exec = Jvm.exec) (hZ : Z.Warmed39 s.vm) (eT : T.heap = h) {a : Addr} {kc : ClassId} {z : Int32} {vs : List Value} {dv : Value} (V : Arv Z h a kc .boolean z vs dv) {j : Int32} (hj : ¬ j < 0 ∧ j < z) {w : Value} (hw : vs.getD j.toNatClampNeg dv = w)
    {pc : Nat} {Ls : Array Slot} {rest : List Value} (hd : decode c.code pc = .ok (.baload, 1)) (g : Goes p e below P (T.setTop (mkF m (pc + 1) Ls (w :: rest)))) : Goes p e below P (T.setTop (mkF m pc Ls (.int j :: .ref a :: rest))) := by
  obtain ⟨cl, A, -, S, -, H, -⟩ := V
  exact Goes.pre (fun t kk => X.baloadBooleans hx (by rw [eT]; exact A.1) (State.isArrayOf_alike hZ.alike A.2.1) A.2.2 (inb_of S hj) (H.at (inb_of S hj) hw) (g := mkF m pc Ls (.int j :: .ref a :: rest)) rfl rfl hd t kk) g
theorem Goes.baloadB (X : Stand p l e R s m args below meth c T locs cells slots) (hx : p.tables.exec = Jvm.exec) (hZ : Z.Warmed39 s.vm) (eT : T.heap = h) {a : Addr} {kc : ClassId} {z : Int32} {vs : List Value} {dv : Value} (V : Arv Z h a kc .byte z vs dv) {j : Int32} (hj : ¬ j < 0 ∧ j < z) {w : Value} (hw : vs.getD j.toNatClampNeg dv = w)
    {pc : Nat} {Ls : Array Slot} {rest : List Value} (hd : decode c.code pc = .ok (.baload, 1)) (g : Goes p e below P (T.setTop (mkF m (pc + 1) Ls (w :: rest)))) : Goes p e below P (T.setTop (mkF m pc Ls (.int j :: .ref a :: rest))) := by
  obtain ⟨cl, A, -, S, -, H, -⟩ := V
  exact Goes.pre (fun t kk => X.baloadBytes hx (by rw [eT]; exact A.1) (State.isArrayOf_alike hZ.alike A.2.1) A.2.2 (inb_of S hj) (H.at (inb_of S hj) hw) (g := mkF m pc Ls (.int j :: .ref a :: rest)) rfl rfl hd t kk) g
theorem Goes.aaload (X : Stand p l e R s m args below meth c T locs cells slots) (hx : p.tables.exec = Jvm.exec) (hZ : Z.Warmed39 s.vm) (eT : T.heap = h) {a : Addr} {kc : ClassId} {ty : FieldType} (hty : ty.isReference = true) {z : Int32} {vs : List Value} {dv : Value} (V : Arv Z h a kc ty z vs dv) {j : Int32} (hj : ¬ j < 0 ∧ j < z) {w : Value} (hw : vs.getD j.toNatClampNeg dv = w)
    {pc : Nat} {Ls : Array Slot} {rest : List Value} (hd : decode c.code pc = .ok (.aaload, 1)) (g : Goes p e below P (T.setTop (mkF m (pc + 1) Ls (w :: rest)))) : Goes p e below P (T.setTop (mkF m pc Ls (.int j :: .ref a :: rest))) := by
  obtain ⟨cl, A, -, S, -, H, -⟩ := V
  exact Goes.pre (fun t kk => X.aaload hx (by rw [eT]; exact A.1) (State.isArrayOf_alike hZ.alike A.2.1) hty A.2.2 (inb_of S hj) (H.at (inb_of S hj) hw) (g := mkF m pc Ls (.int j :: .ref a :: rest)) rfl rfl hd t kk) g
theorem Goes.alen (X : Stand p l e R s m args below meth c T locs cells slots) (hx : p.tables.exec = Jvm.exec) (hZ : Z.Warmed39 s.vm) (eT : T.heap = h) {a : Addr} {kc : ClassId} {ty : FieldType} {z : Int32} {vs : List Value} {dv : Value} (V : Arv Z h a kc ty z vs dv)
    {pc : Nat} {Ls : Array Slot} {rest : List Value} (hd : decode c.code pc = .ok (.arraylength, 1)) (g : Goes p e below P (T.setTop (mkF m (pc + 1) Ls (.int z :: rest)))) : Goes p e below P (T.setTop (mkF m pc Ls (.ref a :: rest))) := by
  obtain ⟨cl, A, -, S, M, -, -⟩ := V
  rw [← len_of S M] at g
  exact Goes.pre (fun t kk => X.arraylength hx (cell := cl) (by rw [eT]; exact A.1) (State.isArrayOf_alike hZ.alike A.2.1) (g := mkF m pc Ls (.ref a :: rest)) rfl rfl hd t kk) g
end Own
theorem own_ltI {a b : Int32} : a < b ↔ a.toInt < b.toInt := Int32.lt_iff_toInt_lt
theorem own_eqI {a b : Int32} : a = b ↔ a.toInt = b.toInt := Int32.toInt_inj.symm
theorem own_ints (xs : List Int32) (i : Nat) : (xs.map Value.int).getD i (.int 0) = .int (xs.getD i 0) := by
  induction xs generalizing i with
  | nil => rfl
  | cons x xs ih => cases i with
    | zero => rfl
    | succ i => exact ih i
theorem own_mask31 (x : Int32) : ¬ (x &&& 2147483647) < 0 := by
  rw [own_ltI, Jvm.Kit.i32_mask x 2147483647 (k := 31) (by decide) (by decide), show (0 : Int32).toInt = 0 from rfl]
  omega
theorem own_rem (x y : Int32) (hx : ¬ x < 0) (hy : 0 < y) : ¬ x % y < 0 ∧ x % y < y := by
  rw [own_ltI, show (0 : Int32).toInt = 0 from rfl] at hx hy
  have e := Jvm.Kit.i32_rem_nonneg (x := x) (y := y) (by omega)
  rw [own_ltI, own_ltI, e, show (0 : Int32).toInt = 0 from rfl]
  have a := Int.emod_nonneg x.toInt (show y.toInt ≠ 0 by omega)
  have b := Int.emod_lt_of_pos x.toInt hy
  omega
theorem own_len {Z : State} {args : Array Value} {t : Term} {a : Addr} {cl : Cell} {ty : FieldType} {z : Int32} (ev : t.eval args Z none [] Z = some (.ref a)) (A : Arr Z Z.heap a cl ty) (h : (Term.length t).eval args Z none [] Z = some (.int z)) : cl.slots.size < 2 ^ 31 ∧ cl.slots.size.toInt32 = z := by
  have hA : Z.arrayAt? a = some cl := Arr.fin (State.Warmed39.refl Z).alike A
  simp [Term.eval, ev, hA] at h
  exact h
theorem own_eqvR {Z : State} {args : Array Value} {X F : Term} {idx : List Nat} {x : Addr} (hF : F.eval args Z none idx Z = some (.ref x)) (h : (Cond.eq X F).value args Z none Z idx = some true) : X.eval args Z none idx Z = some (.ref x) := by
  obtain ⟨u, y, hu, hy, k1, k2⟩ := cmp_v (Or.inl h)
  cases hF.symm.trans hy
  have hr : u.isRef = true := k2.2
  have q := gotT (eq_R hu hy hr rfl) h
  rw [hu, q]
theorem own_StaKeep {Z : State} {h h' : Heap} {C n d : String} {v : Value} (F : Sta Z h C n d v) (K : Keep h h' []) : Sta Z h' C n d v := by
  obtain ⟨cf, i, k, f, st, cell, h1, h2, h3, h4, h5, r⟩ := F
  exact ⟨cf, i, k, f, st, cell, h1, h2, h3, h4, K.2.1 _ _ h5 nin0, r⟩
theorem own_neLt {a b n : Nat} (h : a < n) (h2 : n ≤ b) : a ≠ b := Nat.ne_of_lt (Nat.lt_of_lt_of_le h h2)
theorem own_six {c : Int32} (h0 : ¬ c < 0) (h6 : c < 6) : c = 0 ∨ c = 1 ∨ c = 2 ∨ c = 3 ∨ c = 4 ∨ c = 5 := by
  simp only [own_ltI, own_eqI] at *
  rw [show (0 : Int32).toInt = 0 from rfl] at *
  rw [show (6 : Int32).toInt = 6 from rfl] at h6
  rw [show (1 : Int32).toInt = 1 from rfl, show (2 : Int32).toInt = 2 from rfl, show (3 : Int32).toInt = 3 from rfl, show (4 : Int32).toInt = 4 from rfl, show (5 : Int32).toInt = 5 from rfl]
  omega
theorem own_pos1 {c : Int32} (h0 : ¬ c < 0) (h6 : c < 6) : c + 1 ≠ 0 := by
  rcases own_six h0 h6 with rfl | rfl | rfl | rfl | rfl | rfl <;> decide
theorem din_0 : decode prog_15_method_1_code 0 = .ok (.aload_n 0, 1) := by decide +kernel
theorem din_1 : decode prog_15_method_1_code 1 = .ok (.invokespecial 1, 3) := by decide +kernel
theorem din_4 : decode prog_15_method_1_code 4 = .ok (.aload_n 0, 1) := by decide +kernel
theorem din_5 : decode prog_15_method_1_code 5 = .ok (.getstatic 7, 3) := by decide +kernel
theorem din_8 : decode prog_15_method_1_code 8 = .ok (.putfield 13, 3) := by decide +kernel
theorem din_11 : decode prog_15_method_1_code 11 = .ok (.return_, 1) := by decide +kernel
theorem pd_in : parseMethodDescriptor "()V" = some ⟨[], none⟩ := by decide +kernel
theorem pn_in : plainName "com/example/clear_plan/clearplan/grounding/FactList" = true := by first | (simp [plainName, overriddenIn]; done) | decide +kernel
def Q_in (Z : State) (a bn : Addr) (h0 : Heap) (n0 : Nat) (v : Option Value) (h : Heap) (L : List Loc) : Prop := v = none ∧ Fr n0 L ∧ Keep h0 h [a] ∧ Fld Z h a "com/example/clear_plan/clearplan/grounding/FactList" "numbers" "[I" (.ref bn) ∧ Fld Z h a "com/example/clear_plan/clearplan/grounding/FactList" "size" "I" (.int (0 : Int32))
theorem ef_in (m : MethodId) (a : Addr) : entryFrame m #[(.ref a)] 1 = mkF m 0 #[.val (.ref a)] [] := by first | (simp [entryFrame, mkF, argsToLocals, Value.category]; done) | rfl
set_option maxRecDepth 65536 in
set_option maxHeartbeats 40000000 in
theorem rm_in (l : Launch) (Z : State) (a0 : Array Value) (hw : ∀ d ∈ tables_1, d.before a0 Z = true) (ws : List Jvm.Cond) (a : Addr) (bn : Addr) (h0 : Heap) (n0 : Nat) (Z0 : n0 ≤ h0.size) (SN : Sta Z h0 "com/example/clear_plan/clearplan/grounding/FactList" "NONE" "[I" (.ref bn)) (F1 : Fld Z h0 a "com/example/clear_plan/clearplan/grounding/FactList" "numbers" "[I" .null) (F2 : Fld Z h0 a "com/example/clear_plan/clearplan/grounding/FactList" "size" "I" (.int (0 : Int32))) (E0 : Exa Z h0 a "com/example/clear_plan/clearplan/grounding/FactList") (ga : n0 ≤ a) :
    Ctr l Z (⟨"com/example/clear_plan/clearplan/grounding/FactList", "<init>", "()V"⟩ : MethodName) prog_15_method_1_code 1 (none : Option FieldType) ws ({ frames := 1, cells := 0, slots := 0, locals := 12 } : Room) #[(.ref a)] h0 (Q_in Z a bn h0 n0) := by
  refine MetFree.of_bodySF (plainFor_of_name pn_in) hisR ?_
  intro p e s m args below meth c s₁ Bd hml0 hP hK
  obtain ⟨rfl, hZ, hh⟩ := hP
  have hx := Bd.exec
  have hby := Bd.bytes
  have hlk : meth.locks = false := Bd.notSynchronized
  have hml : c.maxLocals = 1 := hml0
  have hown : s.vm.findClass "com/example/clear_plan/clearplan/grounding/FactList" = some m.cls := findClass_of_methodNamed Bd.named
  have hnm := (name_of_methodNamed Bd.named Bd.method).1
  have X0 : Stand p l e ({ frames := 1, cells := 0, slots := 0, locals := 12 } : Room) s m #[(.ref a)] below meth c s₁ [] 0 0 := Stand.of_body Bd
  have e0 : s₁.heap = h0 := by rw [← hh, Bd.state]; rfl
  have N0 := Fr.nil n0
  show Goes p e below (EndQ s (Q_in Z a bn h0 n0) ({ frames := 1, cells := 0, slots := 0, locals := 12 } : Room).cells ({ frames := 1, cells := 0, slots := 0, locals := 12 } : Room).slots) (s₁.setTop (entryFrame m #[(.ref a)] 1))
  refine Goes.pre (S' := (s₁.setTop (mkF m 0 #[.val (.ref a)] []))) (fun _ k => castTop (ef_in m a) k) ?_
  refine Goes.pre (S' := (s₁.setTop (mkF m 1 #[.val (.ref a)] [(.ref a)]))) (fun _ k => XS.aloadN X0.here hx rfl (hb hby din_0) rfl rfl k) ?_
  obtain ⟨T1, X1, e1, st1⟩ := initO X0 hx hZ hown (hw _ (List.mem_of_getElem? (i := 7) rfl)) (hw _ (List.mem_of_getElem? (i := 8) rfl)) (hw _ (List.mem_of_getElem? (i := 9) rfl)) e0 (g := (mkF m 1 #[.val (.ref a)] [(.ref a)])) rfl (by rw [hml]; rfl) rfl (hb hby din_1) (by decide) (W := 0) (by show 2 * 0 + _ ≤ _; exact Nat.le_of_eq rfl) (by decide)
  refine Goes.pre (S' := (T1.setTop (mkF m 4 #[.val (.ref a)] []))) st1 ?_
  refine Goes.pre (S' := (T1.setTop (mkF m 5 #[.val (.ref a)] [(.ref a)]))) (fun _ k => XS.aloadN X1.here hx rfl (hb hby din_4) rfl rfl k) ?_
  obtain ⟨T2, X2, e2, st2⟩ := getS (host := "") X1 hx hZ hown (hw _ (List.mem_of_getElem? (i := 10) rfl)) Via.refl e1 SN (g := (mkF m 5 #[.val (.ref a)] [(.ref a)])) rfl (hb hby din_5)
  refine Goes.pre (S' := (T2.setTop (mkF m 8 #[.val (.ref a)] [(.ref bn), (.ref a)]))) st2 ?_
  obtain ⟨T3, h3, X3, e3, W3, st3⟩ := putF X2 hx hZ hown (host := "") (Or.inl (hw _ (List.mem_of_getElem? (i := 12) rfl))) Via.refl e2 F1 E0 (Or.inl (hw _ (List.mem_of_getElem? (i := 13) rfl))) (hw _ (List.mem_of_getElem? (i := 2) rfl)) (ty := (.array .int)) (by decide) rfl rfl (g := (mkF m 8 #[.val (.ref a)] [(.ref bn), (.ref a)])) rfl rfl (hb hby din_8)
  have N3 := Fr.snoc X3 N0 ga
  have Zn3 : n0 ≤ h3.size := Nat.le_trans Z0 (Nat.le_of_eq W3.size.symm)
  refine Goes.pre (S' := (T3.setTop (mkF m 11 #[.val (.ref a)] []))) st3 ?_
  have sne := slot_ne (Z := Z) (a0 := a0) (Or.inl (hw _ (List.mem_of_getElem? (i := 13) rfl))) (Or.inl (hw _ (List.mem_of_getElem? (i := 20) rfl))) (by decide) (t := .array .int) (t' := .int) (by decide) (by decide)
  exact Goes.retV X3 hx hlk Bd.returns (hb hby din_11) (by rw [e3]; exact ⟨rfl, N3, Keep.of_wr W3, F1.same W3, F2.other W3 (Or.inr sne.symm)⟩) (by first | decide | exact Nat.le_of_ble_eq_true rfl | assumption | (simp [Value.category]; done)) (by first | decide | exact Nat.le_of_ble_eq_true rfl | assumption | (simp [Value.category]; done))
theorem dtr_0 : decode prog_15_method_6_code 0 = .ok (.aload_n 0, 1) := by decide +kernel
theorem dtr_1 : decode prog_15_method_6_code 1 = .ok (.iload_n 1, 1) := by decide +kernel
theorem dtr_2 : decode prog_15_method_6_code 2 = .ok (.putfield 16, 3) := by decide +kernel
theorem dtr_5 : decode prog_15_method_6_code 5 = .ok (.return_, 1) := by decide +kernel
theorem pd_tr : parseMethodDescriptor "(I)V" = some ⟨[.int], none⟩ := by decide +kernel
theorem pn_tr : plainName "com/example/clear_plan/clearplan/grounding/FactList" = true := by first | (simp [plainName, overriddenIn]; done) | decide +kernel
def Q_tr (Z : State) (a : Addr) (t : Int32) (h0 : Heap) (n0 : Nat) (v : Option Value) (h : Heap) (L : List Loc) : Prop := v = none ∧ Fr n0 L ∧ Keep h0 h [a] ∧ Fld Z h a "com/example/clear_plan/clearplan/grounding/FactList" "size" "I" (.int t) ∧ ∀ b, Fld Z h0 a "com/example/clear_plan/clearplan/grounding/FactList" "numbers" "[I" (.ref b) → Fld Z h a "com/example/clear_plan/clearplan/grounding/FactList" "numbers" "[I" (.ref b)
theorem ef_tr (m : MethodId) (a : Addr) (t : Int32) : entryFrame m #[(.ref a), (.int t)] 2 = mkF m 0 #[.val (.ref a), .val (.int t)] [] := by first | (simp [entryFrame, mkF, argsToLocals, Value.category]; done) | rfl
set_option maxRecDepth 65536 in
set_option maxHeartbeats 40000000 in
theorem rm_tr (l : Launch) (Z : State) (a0 : Array Value) (hw : ∀ d ∈ tables_1, d.before a0 Z = true) (ws : List Jvm.Cond) (a : Addr) (t : Int32) (z : Int32) (h0 : Heap) (n0 : Nat) (Z0 : n0 ≤ h0.size) (F2 : Fld Z h0 a "com/example/clear_plan/clearplan/grounding/FactList" "size" "I" (.int z)) (E0 : Exa Z h0 a "com/example/clear_plan/clearplan/grounding/FactList") (ga : n0 ≤ a) :
    Ctr l Z (⟨"com/example/clear_plan/clearplan/grounding/FactList", "truncate", "(I)V"⟩ : MethodName) prog_15_method_6_code 2 (none : Option FieldType) ws ({ frames := 0, cells := 0, slots := 0, locals := 0 } : Room) #[(.ref a), (.int t)] h0 (Q_tr Z a t h0 n0) := by
  refine MetFree.of_bodySF (plainFor_of_name pn_tr) hisR ?_
  intro p e s m args below meth c s₁ Bd hml0 hP hK
  obtain ⟨rfl, hZ, hh⟩ := hP
  have hx := Bd.exec
  have hby := Bd.bytes
  have hlk : meth.locks = false := Bd.notSynchronized
  have hml : c.maxLocals = 2 := hml0
  have hown : s.vm.findClass "com/example/clear_plan/clearplan/grounding/FactList" = some m.cls := findClass_of_methodNamed Bd.named
  have hnm := (name_of_methodNamed Bd.named Bd.method).1
  have X0 : Stand p l e ({ frames := 0, cells := 0, slots := 0, locals := 0 } : Room) s m #[(.ref a), (.int t)] below meth c s₁ [] 0 0 := Stand.of_body Bd
  have e0 : s₁.heap = h0 := by rw [← hh, Bd.state]; rfl
  have N0 := Fr.nil n0
  show Goes p e below (EndQ s (Q_tr Z a t h0 n0) ({ frames := 0, cells := 0, slots := 0, locals := 0 } : Room).cells ({ frames := 0, cells := 0, slots := 0, locals := 0 } : Room).slots) (s₁.setTop (entryFrame m #[(.ref a), (.int t)] 2))
  refine Goes.pre (S' := (s₁.setTop (mkF m 0 #[.val (.ref a), .val (.int t)] []))) (fun _ k => castTop (ef_tr m a t) k) ?_
  refine Goes.pre (S' := (s₁.setTop (mkF m 1 #[.val (.ref a), .val (.int t)] [(.ref a)]))) (fun _ k => XS.aloadN X0.here hx rfl (hb hby dtr_0) rfl rfl k) ?_
  refine Goes.pre (S' := (s₁.setTop (mkF m 2 #[.val (.ref a), .val (.int t)] [(.int t), (.ref a)]))) (fun _ k => XS.iloadN X0.here hx rfl (hb hby dtr_1) rfl k) ?_
  obtain ⟨T1, h1, X1, e1, W1, st1⟩ := putF X0 hx hZ hown (host := "") (Or.inl (hw _ (List.mem_of_getElem? (i := 19) rfl))) Via.refl e0 F2 E0 (Or.inl (hw _ (List.mem_of_getElem? (i := 20) rfl))) (hw _ (List.mem_of_getElem? (i := 2) rfl)) (ty := .int) (by decide) rfl rfl (g := (mkF m 2 #[.val (.ref a), .val (.int t)] [(.int t), (.ref a)])) rfl rfl (hb hby dtr_2)
  have N1 := Fr.snoc X1 N0 ga
  have Zn1 : n0 ≤ h1.size := Nat.le_trans Z0 (Nat.le_of_eq W1.size.symm)
  refine Goes.pre (S' := (T1.setTop (mkF m 5 #[.val (.ref a), .val (.int t)] []))) st1 ?_
  have sne := slot_ne (Z := Z) (a0 := a0) (Or.inl (hw _ (List.mem_of_getElem? (i := 13) rfl))) (Or.inl (hw _ (List.mem_of_getElem? (i := 20) rfl))) (by decide) (t := .array .int) (t' := .int) (by decide) (by decide)
  exact Goes.retV X1 hx hlk Bd.returns (hb hby dtr_5) (by rw [e1]; exact ⟨rfl, N1, Keep.of_wr W1, F2.same W1, fun b G => G.other W1 (Or.inr sne)⟩) (by first | decide | exact Nat.le_of_ble_eq_true rfl | assumption | (simp [Value.category]; done)) (by first | decide | exact Nat.le_of_ble_eq_true rfl | assumption | (simp [Value.category]; done))
theorem dmi_0 : decode jdk_29_method_69_code 0 = .ok (.iload_n 0, 1) := by decide +kernel
theorem dmi_1 : decode jdk_29_method_69_code 1 = .ok (.iload_n 1, 1) := by decide +kernel
theorem dmi_2 : decode jdk_29_method_69_code 2 = .ok (.if_icmp .gt 7, 3) := by decide +kernel
theorem dmi_5 : decode jdk_29_method_69_code 5 = .ok (.iload_n 0, 1) := by decide +kernel
theorem dmi_6 : decode jdk_29_method_69_code 6 = .ok (.goto 4, 3) := by decide +kernel
theorem dmi_9 : decode jdk_29_method_69_code 9 = .ok (.iload_n 1, 1) := by decide +kernel
theorem dmi_10 : decode jdk_29_method_69_code 10 = .ok (.ireturn, 1) := by decide +kernel
theorem pd_mi : parseMethodDescriptor "(II)I" = some ⟨[.int, .int], some .int⟩ := by decide +kernel
theorem pn_mi : plainFor (⟨"java/lang/Math", "min", "(II)I"⟩ : MethodName) = true := by decide +kernel
def Q_mi (x : Int32) (h0 : Heap) (n0 : Nat) (v : Option Value) (h : Heap) (L : List Loc) : Prop := v = some (.int x) ∧ Fr n0 L ∧ h = h0
theorem ef_mi (m : MethodId) (x : Int32) (y : Int32) : entryFrame m #[(.int x), (.int y)] 2 = mkF m 0 #[.val (.int x), .val (.int y)] [] := by first | (simp [entryFrame, mkF, argsToLocals, Value.category]; done) | rfl
set_option maxRecDepth 65536 in
set_option maxHeartbeats 40000000 in
theorem rm_mi (l : Launch) (Z : State) (a0 : Array Value) (hw : ∀ d ∈ tables_1, d.before a0 Z = true) (ws : List Jvm.Cond) (x : Int32) (y : Int32)  (h0 : Heap) (n0 : Nat) (Z0 : n0 ≤ h0.size) (hxy : ¬ y < x) :
    Ctr l Z (⟨"java/lang/Math", "min", "(II)I"⟩ : MethodName) jdk_29_method_69_code 2 (some .int) ws ({ frames := 0, cells := 0, slots := 0, locals := 0 } : Room) #[(.int x), (.int y)] h0 (Q_mi x h0 n0) := by
  refine MetFree.of_bodySF pn_mi hisR ?_
  intro p e s m args below meth c s₁ Bd hml0 hP hK
  obtain ⟨rfl, hZ, hh⟩ := hP
  have hx := Bd.exec
  have hby := Bd.bytes
  have hlk : meth.locks = false := Bd.notSynchronized
  have hml : c.maxLocals = 2 := hml0
  have hown : s.vm.findClass "java/lang/Math" = some m.cls := findClass_of_methodNamed Bd.named
  have hnm := (name_of_methodNamed Bd.named Bd.method).1
  have X0 : Stand p l e ({ frames := 0, cells := 0, slots := 0, locals := 0 } : Room) s m #[(.int x), (.int y)] below meth c s₁ [] 0 0 := Stand.of_body Bd
  have e0 : s₁.heap = h0 := by rw [← hh, Bd.state]; rfl
  have N0 := Fr.nil n0
  show Goes p e below (EndQ s (Q_mi x h0 n0) ({ frames := 0, cells := 0, slots := 0, locals := 0 } : Room).cells ({ frames := 0, cells := 0, slots := 0, locals := 0 } : Room).slots) (s₁.setTop (entryFrame m #[(.int x), (.int y)] 2))
  refine Goes.pre (S' := (s₁.setTop (mkF m 0 #[.val (.int x), .val (.int y)] []))) (fun _ k => castTop (ef_mi m x y) k) ?_
  refine Goes.pre (S' := (s₁.setTop (mkF m 1 #[.val (.int x), .val (.int y)] [(.int x)]))) (fun _ k => XS.iloadN X0.here hx rfl (hb hby dmi_0) rfl k) ?_
  refine Goes.pre (S' := (s₁.setTop (mkF m 2 #[.val (.int x), .val (.int y)] [(.int y), (.int x)]))) (fun _ k => XS.iloadN X0.here hx rfl (hb hby dmi_1) rfl k) ?_
  refine Goes.pre (S' := (s₁.setTop (mkF m 5 #[.val (.int x), .val (.int y)] []))) (fun _ k => XS.icmpNo X0.here hx rfl (hb hby dmi_2) rfl (XT.ii_gt_f hxy) k) ?_
  refine Goes.pre (S' := (s₁.setTop (mkF m 6 #[.val (.int x), .val (.int y)] [(.int x)]))) (fun _ k => XS.iloadN X0.here hx rfl (hb hby dmi_5) rfl k) ?_
  refine Goes.pre (S' := (s₁.setTop (mkF m 10 #[.val (.int x), .val (.int y)] [(.int x)]))) (fun _ k => XS.goto X0.here hx rfl (pc0 := 6) (pc' := 10) rfl (hb hby dmi_6) (by decide) (by decide) k) ?_
  exact Goes.ret X0 hx hlk (t := .int) Bd.returns rfl (Or.inl ⟨rfl, Or.inl rfl, _, rfl⟩) (hb hby dmi_10) ⟨rfl, N0, e0⟩ (by first | decide | exact Nat.le_of_ble_eq_true rfl | assumption | (simp [Value.category]; done)) (by first | decide | exact Nat.le_of_ble_eq_true rfl | assumption | (simp [Value.category]; done))
theorem dco_0 : decode jdk_65_method_123_code 0 = .ok (.iload_n 1, 1) := by decide +kernel
theorem dco_1 : decode jdk_65_method_123_code 1 = .ok (.aload_n 0, 1) := by decide +kernel
theorem dco_2 : decode jdk_65_method_123_code 2 = .ok (.arraylength, 1) := by decide +kernel
theorem dco_3 : decode jdk_65_method_123_code 3 = .ok (.if_icmp .ne 11, 3) := by decide +kernel
theorem dco_6 : decode jdk_65_method_123_code 6 = .ok (.aload_n 0, 1) := by decide +kernel
theorem dco_7 : decode jdk_65_method_123_code 7 = .ok (.invokevirtual 316, 3) := by decide +kernel
theorem dco_10 : decode jdk_65_method_123_code 10 = .ok (.checkcast 317, 3) := by decide +kernel
theorem dco_13 : decode jdk_65_method_123_code 13 = .ok (.areturn, 1) := by decide +kernel
theorem dco_14 : decode jdk_65_method_123_code 14 = .ok (.iload_n 1, 1) := by decide +kernel
theorem dco_15 : decode jdk_65_method_123_code 15 = .ok (.newarray .int, 2) := by decide +kernel
theorem dco_17 : decode jdk_65_method_123_code 17 = .ok (.astore_n 2, 1) := by decide +kernel
theorem dco_18 : decode jdk_65_method_123_code 18 = .ok (.aload_n 0, 1) := by decide +kernel
theorem dco_19 : decode jdk_65_method_123_code 19 = .ok (.iconst 0, 1) := by decide +kernel
theorem dco_20 : decode jdk_65_method_123_code 20 = .ok (.aload_n 2, 1) := by decide +kernel
theorem dco_21 : decode jdk_65_method_123_code 21 = .ok (.iconst 0, 1) := by decide +kernel
theorem dco_22 : decode jdk_65_method_123_code 22 = .ok (.aload_n 0, 1) := by decide +kernel
theorem dco_23 : decode jdk_65_method_123_code 23 = .ok (.arraylength, 1) := by decide +kernel
theorem dco_24 : decode jdk_65_method_123_code 24 = .ok (.iload_n 1, 1) := by decide +kernel
theorem dco_25 : decode jdk_65_method_123_code 25 = .ok (.invokestatic 304, 3) := by decide +kernel
theorem dco_28 : decode jdk_65_method_123_code 28 = .ok (.invokestatic 150, 3) := by decide +kernel
theorem dco_31 : decode jdk_65_method_123_code 31 = .ok (.aload_n 2, 1) := by decide +kernel
theorem dco_32 : decode jdk_65_method_123_code 32 = .ok (.areturn, 1) := by decide +kernel
theorem pd_co : parseMethodDescriptor "([II)[I" = some ⟨[(.array .int), .int], some (.array .int)⟩ := by decide +kernel
theorem pn_co : plainName "java/util/Arrays" = true := by first | (simp [plainName, overriddenIn]; done) | decide +kernel
def Q_co (Z : State) (y0 y1 y2 y3 : Value) (h0 : Heap) (n0 : Nat) (v : Option Value) (h : Heap) (L : List Loc) : Prop := ∃ (b : Addr) (k : ClassId), v = some (.ref b) ∧ Fr n0 L ∧ Keep h0 h [] ∧ h0.size ≤ b ∧ Arv Z h b k .int 8 ([y0, y1, y2, y3, .int 0, .int 0, .int 0, .int 0] : List Value) (.int 0)
theorem ef_co (m : MethodId) (r : Addr) (n : Int32) : entryFrame m #[(.ref r), (.int n)] 3 = mkF m 0 #[.val (.ref r), .val (.int n), .unset] [] := by first | (simp [entryFrame, mkF, argsToLocals, Value.category]; done) | rfl
set_option maxRecDepth 65536 in
set_option maxHeartbeats 40000000 in
theorem rm_co (l : Launch) (Z : State) (a0 : Array Value) (hw : ∀ d ∈ tables_1, d.before a0 Z = true) (ws : List Jvm.Cond) (r : Addr) (n : Int32) (kr : ClassId) (y0 y1 y2 y3 : Value) (h0 : Heap) (n0 : Nat) (Z0 : n0 ≤ h0.size) (hn : n = 8) (V : Arv Z h0 r kr .int 4 [y0, y1, y2, y3] (.int 0)) :
    Ctr l Z (⟨"java/util/Arrays", "copyOf", "([II)[I"⟩ : MethodName) jdk_65_method_123_code 3 (some (.array .int)) ws ({ frames := 1, cells := 1, slots := 8, locals := 40 } : Room) #[(.ref r), (.int n)] h0 (Q_co Z y0 y1 y2 y3 h0 n0) := by
  refine MetFree.of_bodySF (plainFor_of_name pn_co) hisR ?_
  intro p e s m args below meth c s₁ Bd hml0 hP hK
  obtain ⟨rfl, hZ, hh⟩ := hP
  have hx := Bd.exec
  have hby := Bd.bytes
  have hlk : meth.locks = false := Bd.notSynchronized
  have hml : c.maxLocals = 3 := hml0
  have hown : s.vm.findClass "java/util/Arrays" = some m.cls := findClass_of_methodNamed Bd.named
  have hnm := (name_of_methodNamed Bd.named Bd.method).1
  have X0 : Stand p l e ({ frames := 1, cells := 1, slots := 8, locals := 40 } : Room) s m #[(.ref r), (.int n)] below meth c s₁ [] 0 0 := Stand.of_body Bd
  have e0 : s₁.heap = h0 := by rw [← hh, Bd.state]; rfl
  have N0 := Fr.nil n0
  show Goes p e below (EndQ s (Q_co Z y0 y1 y2 y3 h0 n0) ({ frames := 1, cells := 1, slots := 8, locals := 40 } : Room).cells ({ frames := 1, cells := 1, slots := 8, locals := 40 } : Room).slots) (s₁.setTop (entryFrame m #[(.ref r), (.int n)] 3))
  refine Goes.pre (S' := (s₁.setTop (mkF m 0 #[.val (.ref r), .val (.int n), .unset] []))) (fun _ k => castTop (ef_co m r n) k) ?_
  subst hn
  show Goes p e below _ (s₁.setTop (mkF m 0 #[.val (.ref r), .val (.int (8 : Int32)), .unset] []))
  have K0 : Keep h0 h0 [] := Keep.refl h0 []
  refine Goes.pre (S' := (s₁.setTop (mkF m 1 #[.val (.ref r), .val (.int (8 : Int32)), .unset] [(.int (8 : Int32))]))) (fun _ k => XS.iloadN X0.here hx rfl (hb hby dco_0) rfl k) ?_
  refine Goes.pre (S' := (s₁.setTop (mkF m 2 #[.val (.ref r), .val (.int (8 : Int32)), .unset] [(.ref r), (.int (8 : Int32))]))) (fun _ k => XS.aloadN X0.here hx rfl (hb hby dco_1) rfl rfl k) ?_
  refine Goes.alen X0 hx hZ e0 V (hb hby dco_2) ?_
  show Goes p e below _ (s₁.setTop (mkF m 3 #[.val (.ref r), .val (.int (8 : Int32)), .unset] [(.int (4 : Int32)), (.int (8 : Int32))]))
  refine Goes.pre (S' := (s₁.setTop (mkF m 14 #[.val (.ref r), .val (.int (8 : Int32)), .unset] []))) (fun _ k => XS.icmpYes X0.here hx rfl (pc0 := 3) (pc' := 14) rfl (hb hby dco_3) rfl (XT.ii_ne_t (by decide)) (by decide) (by decide) k) ?_
  refine Goes.pre (S' := (s₁.setTop (mkF m 15 #[.val (.ref r), .val (.int (8 : Int32)), .unset] [(.int (8 : Int32))]))) (fun _ k => XS.iloadN X0.here hx rfl (hb hby dco_14) rfl k) ?_
  obtain ⟨T1, h1, k1, X1, e1, E1, A1, st1⟩ := newP X0 hx hZ (hw _ (List.mem_of_getElem? (i := 26) rfl)) e0 (g := (mkF m 15 #[.val (.ref r), .val (.int (8 : Int32)), .unset] [(.int (8 : Int32))])) rfl (hb hby dco_15) rfl (by decide) (cap := 8) (by decide) (by decide) (by decide) (by decide)
  obtain ⟨b1, g1⟩ : ∃ z, z = h0.size := ⟨_, rfl⟩
  rw [← g1] at A1 st1
  have V1 : Arv Z h1 b1 k1 .int (8 : Int32) [(.int (0 : Int32)), (.int (0 : Int32)), (.int (0 : Int32)), (.int (0 : Int32)), (.int (0 : Int32)), (.int (0 : Int32)), (.int (0 : Int32)), (.int (0 : Int32))] (.int (0 : Int32)) := (Arv.new A1 (by decide)).pad (pad_rep [] (.int (0 : Int32)) 8)
  have gb1 : n0 ≤ b1 := Nat.le_trans Z0 (Nat.le_of_eq g1.symm)
  have Zn1 : n0 ≤ h1.size := Nat.le_trans Z0 E1.1
  have szb1 : h0.size ≤ b1 := Nat.le_trans K0.1 (Nat.le_of_eq g1.symm)
  have K1 : Keep h0 h1 [] := K0.ext E1
  refine Goes.pre (S' := (T1.setTop (mkF m 17 #[.val (.ref r), .val (.int (8 : Int32)), .unset] [(.ref b1)]))) st1 ?_
  refine Goes.pre (S' := (T1.setTop (mkF m 18 #[.val (.ref r), .val (.int (8 : Int32)), .val (.ref b1)] []))) (fun _ k => XS.astoreN X1.here hx rfl (hb hby dco_17) rfl rfl (l' := #[.val (.ref r), .val (.int (8 : Int32)), .val (.ref b1)]) rfl k) ?_
  refine Goes.pre (S' := (T1.setTop (mkF m 19 #[.val (.ref r), .val (.int (8 : Int32)), .val (.ref b1)] [(.ref r)]))) (fun _ k => XS.aloadN X1.here hx rfl (hb hby dco_18) rfl rfl k) ?_
  refine Goes.pre (S' := (T1.setTop (mkF m 20 #[.val (.ref r), .val (.int (8 : Int32)), .val (.ref b1)] [(.int (0 : Int32)), (.ref r)]))) (fun _ k => XS.iconst X1.here hx rfl (hb hby dco_19) k) ?_
  refine Goes.pre (S' := (T1.setTop (mkF m 21 #[.val (.ref r), .val (.int (8 : Int32)), .val (.ref b1)] [(.ref b1), (.int (0 : Int32)), (.ref r)]))) (fun _ k => XS.aloadN X1.here hx rfl (hb hby dco_20) rfl rfl k) ?_
  refine Goes.pre (S' := (T1.setTop (mkF m 22 #[.val (.ref r), .val (.int (8 : Int32)), .val (.ref b1)] [(.int (0 : Int32)), (.ref b1), (.int (0 : Int32)), (.ref r)]))) (fun _ k => XS.iconst X1.here hx rfl (hb hby dco_21) k) ?_
  refine Goes.pre (S' := (T1.setTop (mkF m 23 #[.val (.ref r), .val (.int (8 : Int32)), .val (.ref b1)] [(.ref r), (.int (0 : Int32)), (.ref b1), (.int (0 : Int32)), (.ref r)]))) (fun _ k => XS.aloadN X1.here hx rfl (hb hby dco_22) rfl rfl k) ?_
  refine Goes.alen X1 hx hZ e1 (V.ext E1) (hb hby dco_23) ?_
  show Goes p e below _ (T1.setTop (mkF m 24 #[.val (.ref r), .val (.int (8 : Int32)), .val (.ref b1)] [(.int (4 : Int32)), (.int (0 : Int32)), (.ref b1), (.int (0 : Int32)), (.ref r)]))
  refine Goes.pre (S' := (T1.setTop (mkF m 25 #[.val (.ref r), .val (.int (8 : Int32)), .val (.ref b1)] [(.int (8 : Int32)), (.int (4 : Int32)), (.int (0 : Int32)), (.ref b1), (.int (0 : Int32)), (.ref r)]))) (fun _ k => XS.iloadN X1.here hx rfl (hb hby dco_24) rfl k) ?_
  refine Goes.callS (y := (⟨"java/lang/Math", "min", "(II)I"⟩ : MethodName)) X1 hx hZ hown (hw _ (List.mem_of_getElem? (i := 36) rfl)) (hw _ (List.mem_of_getElem? (i := 37) rfl)) (hw _ (List.mem_of_getElem? (i := 38) rfl)) (hw _ (List.mem_of_getElem? (i := 39) rfl)) (by decide) e1 (rm_mi l Z a0 hw [] (4 : Int32) (8 : Int32) h1 n0 Zn1 (by decide)) (by rw [hml]; rfl) [(.int (4 : Int32)), (.int (8 : Int32))] [(.int (0 : Int32)), (.ref b1), (.int (0 : Int32)), (.ref r)] pd_mi rfl rfl rfl (hb hby dco_25) (by decide) (by first | decide | exact Nat.le_of_ble_eq_true rfl | assumption | (simp [Value.category]; done)) (by first | decide | exact Nat.le_of_ble_eq_true rfl | assumption | (simp [Value.category]; done)) (by first | decide | exact Nat.le_of_ble_eq_true rfl | assumption | (simp [Value.category]; done)) ?_
  intro T2 v2 L2 X2 q2
  obtain ⟨rfl, N2a, e2⟩ := q2
  have N2 := Fr.app N0 N2a
  show Goes p e below _ (T2.setTop (mkF m 28 #[.val (.ref r), .val (.int (8 : Int32)), .val (.ref b1)] [(.int (4 : Int32)), (.int (0 : Int32)), (.ref b1), (.int (0 : Int32)), (.ref r)]))
  obtain ⟨T3, h3, L3, X3, e3, N3, K3a, V3, st3⟩ := cpA X2 hx hZ hown (hw _ (List.mem_of_getElem? (i := 40) rfl)) (hw _ (List.mem_of_getElem? (i := 43) rfl)) (hw _ (List.mem_of_getElem? (i := 41) rfl)) (hw _ (List.mem_of_getElem? (i := 42) rfl)) e2 (V.ext E1) V1 (Or.inl ⟨rfl, rfl⟩) (by decide) (by decide) (by decide) (by decide) (by decide) (us := [y0, y1, y2, y3]) rfl (by decide) N2 gb1 (g := (mkF m 28 #[.val (.ref r), .val (.int (8 : Int32)), .val (.ref b1)] [(.int (4 : Int32)), (.int (0 : Int32)), (.ref b1), (.int (0 : Int32)), (.ref r)])) rfl (by rw [hml]; rfl) rfl (hb hby dco_28) (by decide) (W := 0) (by show 2 * 0 + _ ≤ _; exact Nat.le_of_eq rfl) (by decide)
  have K3 : Keep h0 h3 [] := K1.trans K3a (allS (Or.inr szb1) all0)
  refine Goes.pre (S' := (T3.setTop (mkF m 31 #[.val (.ref r), .val (.int (8 : Int32)), .val (.ref b1)] []))) st3 ?_
  refine Goes.pre (S' := (T3.setTop (mkF m 32 #[.val (.ref r), .val (.int (8 : Int32)), .val (.ref b1)] [(.ref b1)]))) (fun _ k => XS.aloadN X3.here hx rfl (hb hby dco_31) rfl rfl k) ?_
  exact Goes.ret X3 hx hlk (t := (.array .int)) Bd.returns rfl (Or.inr (Or.inr (Or.inr (Or.inr ⟨rfl, rfl, rfl⟩)))) (hb hby dco_32) (by rw [e3]; exact ⟨b1, k1, rfl, N3, K3, szb1, V3⟩) (by first | decide | exact Nat.le_of_ble_eq_true rfl | assumption | (simp [Value.category]; done)) (by first | decide | exact Nat.le_of_ble_eq_true rfl | assumption | (simp [Value.category]; done))
theorem own_KeepMono {h0 h : Heap} {a : Addr} (K : Keep h0 h []) : Keep h0 h [a] := ⟨K.1, fun x c q _ => K.2.1 x c q nin0, K.2.2⟩
theorem own_setEnd (vs : List Value) (x d : Value) : (vs ++ List.replicate 1 d).set vs.length x = vs ++ [x] := by simp [List.set_append]
theorem da0_0 : decode prog_15_method_5_code 0 = .ok (.aload_n 0, 1) := by decide +kernel
theorem da0_1 : decode prog_15_method_5_code 1 = .ok (.getfield 16, 3) := by decide +kernel
theorem da0_4 : decode prog_15_method_5_code 4 = .ok (.aload_n 0, 1) := by decide +kernel
theorem da0_5 : decode prog_15_method_5_code 5 = .ok (.getfield 13, 3) := by decide +kernel
theorem da0_8 : decode prog_15_method_5_code 8 = .ok (.arraylength, 1) := by decide +kernel
theorem da0_9 : decode prog_15_method_5_code 9 = .ok (.if_icmp .ne 33, 3) := by decide +kernel
theorem da0_12 : decode prog_15_method_5_code 12 = .ok (.aload_n 0, 1) := by decide +kernel
theorem da0_13 : decode prog_15_method_5_code 13 = .ok (.aload_n 0, 1) := by decide +kernel
theorem da0_14 : decode prog_15_method_5_code 14 = .ok (.getfield 16, 3) := by decide +kernel
theorem da0_17 : decode prog_15_method_5_code 17 = .ok (.ifCond .ne 9, 3) := by decide +kernel
theorem da0_20 : decode prog_15_method_5_code 20 = .ok (.iconst 4, 1) := by decide +kernel
theorem da0_21 : decode prog_15_method_5_code 21 = .ok (.newarray .int, 2) := by decide +kernel
theorem da0_23 : decode prog_15_method_5_code 23 = .ok (.goto 16, 3) := by decide +kernel
theorem da0_26 : decode prog_15_method_5_code 26 = .ok (.aload_n 0, 1) := by decide +kernel
theorem da0_27 : decode prog_15_method_5_code 27 = .ok (.getfield 13, 3) := by decide +kernel
theorem da0_30 : decode prog_15_method_5_code 30 = .ok (.iconst 2, 1) := by decide +kernel
theorem da0_31 : decode prog_15_method_5_code 31 = .ok (.aload_n 0, 1) := by decide +kernel
theorem da0_32 : decode prog_15_method_5_code 32 = .ok (.getfield 16, 3) := by decide +kernel
theorem da0_35 : decode prog_15_method_5_code 35 = .ok (.imul, 1) := by decide +kernel
theorem da0_36 : decode prog_15_method_5_code 36 = .ok (.invokestatic 25, 3) := by decide +kernel
theorem da0_39 : decode prog_15_method_5_code 39 = .ok (.putfield 13, 3) := by decide +kernel
theorem da0_42 : decode prog_15_method_5_code 42 = .ok (.aload_n 0, 1) := by decide +kernel
theorem da0_43 : decode prog_15_method_5_code 43 = .ok (.getfield 13, 3) := by decide +kernel
theorem da0_46 : decode prog_15_method_5_code 46 = .ok (.aload_n 0, 1) := by decide +kernel
theorem da0_47 : decode prog_15_method_5_code 47 = .ok (.dup, 1) := by decide +kernel
theorem da0_48 : decode prog_15_method_5_code 48 = .ok (.getfield 16, 3) := by decide +kernel
theorem da0_51 : decode prog_15_method_5_code 51 = .ok (.dup_x1, 1) := by decide +kernel
theorem da0_52 : decode prog_15_method_5_code 52 = .ok (.iconst 1, 1) := by decide +kernel
theorem da0_53 : decode prog_15_method_5_code 53 = .ok (.iadd, 1) := by decide +kernel
theorem da0_54 : decode prog_15_method_5_code 54 = .ok (.putfield 16, 3) := by decide +kernel
theorem da0_57 : decode prog_15_method_5_code 57 = .ok (.iload_n 1, 1) := by decide +kernel
theorem da0_58 : decode prog_15_method_5_code 58 = .ok (.iastore, 1) := by decide +kernel
theorem da0_59 : decode prog_15_method_5_code 59 = .ok (.return_, 1) := by decide +kernel
theorem pd_a0 : parseMethodDescriptor "(I)V" = some ⟨[.int], none⟩ := by decide +kernel
theorem pn_a0 : plainName "com/example/clear_plan/clearplan/grounding/FactList" = true := by first | (simp [plainName, overriddenIn]; done) | decide +kernel
def Q_a0 (Z : State) (a : Addr) (x : Int32) (h0 : Heap) (n0 : Nat) (v : Option Value) (h : Heap) (L : List Loc) : Prop := ∃ (b : Addr) (k : ClassId), v = none ∧ Fr n0 L ∧ Keep h0 h [a] ∧ h0.size ≤ b ∧ Fld Z h a "com/example/clear_plan/clearplan/grounding/FactList" "numbers" "[I" (.ref b) ∧ Fld Z h a "com/example/clear_plan/clearplan/grounding/FactList" "size" "I" (.int (1 : Int32)) ∧ Arv Z h b k .int 4 [.int x] (.int 0)
theorem ef_a0 (m : MethodId) (a : Addr) (x : Int32) : entryFrame m #[(.ref a), (.int x)] 2 = mkF m 0 #[.val (.ref a), .val (.int x)] [] := by first | (simp [entryFrame, mkF, argsToLocals, Value.category]; done) | rfl
set_option maxRecDepth 65536 in
set_option maxHeartbeats 40000000 in
theorem rm_a0 (l : Launch) (Z : State) (a0 : Array Value) (hw : ∀ d ∈ tables_1, d.before a0 Z = true) (ws : List Jvm.Cond) (a : Addr) (x : Int32) (bn : Addr) (kn : ClassId) (h0 : Heap) (n0 : Nat) (Z0 : n0 ≤ h0.size) (F1 : Fld Z h0 a "com/example/clear_plan/clearplan/grounding/FactList" "numbers" "[I" (.ref bn)) (F2 : Fld Z h0 a "com/example/clear_plan/clearplan/grounding/FactList" "size" "I" (.int (0 : Int32))) (V : Arv Z h0 bn kn .int 0 [] (.int 0)) (E0 : Exa Z h0 a "com/example/clear_plan/clearplan/grounding/FactList") (ga : n0 ≤ a) :
    Ctr l Z (⟨"com/example/clear_plan/clearplan/grounding/FactList", "add", "(I)V"⟩ : MethodName) prog_15_method_5_code 2 (none : Option FieldType) ws ({ frames := 2, cells := 1, slots := 4, locals := 60 } : Room) #[(.ref a), (.int x)] h0 (Q_a0 Z a x h0 n0) := by
  refine MetFree.of_bodySF (plainFor_of_name pn_a0) hisR ?_
  intro p e s m args below meth c s₁ Bd hml0 hP hK
  obtain ⟨rfl, hZ, hh⟩ := hP
  have hx := Bd.exec
  have hby := Bd.bytes
  have hlk : meth.locks = false := Bd.notSynchronized
  have hml : c.maxLocals = 2 := hml0
  have hown : s.vm.findClass "com/example/clear_plan/clearplan/grounding/FactList" = some m.cls := findClass_of_methodNamed Bd.named
  have hnm := (name_of_methodNamed Bd.named Bd.method).1
  have X0 : Stand p l e ({ frames := 2, cells := 1, slots := 4, locals := 60 } : Room) s m #[(.ref a), (.int x)] below meth c s₁ [] 0 0 := Stand.of_body Bd
  have e0 : s₁.heap = h0 := by rw [← hh, Bd.state]; rfl
  have N0 := Fr.nil n0
  show Goes p e below (EndQ s (Q_a0 Z a x h0 n0) ({ frames := 2, cells := 1, slots := 4, locals := 60 } : Room).cells ({ frames := 2, cells := 1, slots := 4, locals := 60 } : Room).slots) (s₁.setTop (entryFrame m #[(.ref a), (.int x)] 2))
  refine Goes.pre (S' := (s₁.setTop (mkF m 0 #[.val (.ref a), .val (.int x)] []))) (fun _ k => castTop (ef_a0 m a x) k) ?_
  have sne := slot_ne (Z := Z) (a0 := a0) (Or.inl (hw _ (List.mem_of_getElem? (i := 13) rfl))) (Or.inl (hw _ (List.mem_of_getElem? (i := 20) rfl))) (by decide) (t := .array .int) (t' := .int) (by decide) (by decide)
  have K0 : Keep h0 h0 [] := Keep.refl h0 []
  refine Goes.pre (S' := (s₁.setTop (mkF m 1 #[.val (.ref a), .val (.int x)] [(.ref a)]))) (fun _ k => XS.aloadN X0.here hx rfl (hb hby da0_0) rfl rfl k) ?_
  obtain ⟨T1, X1, e1, st1⟩ := getF X0 hx hZ hown (host := "") (Or.inl (hw _ (List.mem_of_getElem? (i := 19) rfl))) Via.refl e0 F2 (g := (mkF m 1 #[.val (.ref a), .val (.int x)] [(.ref a)])) rfl rfl (hb hby da0_1)
  refine Goes.pre (S' := (T1.setTop (mkF m 4 #[.val (.ref a), .val (.int x)] [(.int (0 : Int32))]))) st1 ?_
  refine Goes.pre (S' := (T1.setTop (mkF m 5 #[.val (.ref a), .val (.int x)] [(.ref a), (.int (0 : Int32))]))) (fun _ k => XS.aloadN X1.here hx rfl (hb hby da0_4) rfl rfl k) ?_
  obtain ⟨T2, X2, e2, st2⟩ := getF X1 hx hZ hown (host := "") (Or.inl (hw _ (List.mem_of_getElem? (i := 12) rfl))) Via.refl e1 F1 (g := (mkF m 5 #[.val (.ref a), .val (.int x)] [(.ref a), (.int (0 : Int32))])) rfl rfl (hb hby da0_5)
  refine Goes.pre (S' := (T2.setTop (mkF m 8 #[.val (.ref a), .val (.int x)] [(.ref bn), (.int (0 : Int32))]))) st2 ?_
  refine Goes.alen X2 hx hZ e2 V (hb hby da0_8) ?_
  show Goes p e below _ (T2.setTop (mkF m 9 #[.val (.ref a), .val (.int x)] [(.int (0 : Int32)), (.int (0 : Int32))]))
  refine Goes.pre (S' := (T2.setTop (mkF m 12 #[.val (.ref a), .val (.int x)] []))) (fun _ k => XS.icmpNo X2.here hx rfl (hb hby da0_9) rfl (XT.ii_ne_f rfl) k) ?_
  refine Goes.pre (S' := (T2.setTop (mkF m 13 #[.val (.ref a), .val (.int x)] [(.ref a)]))) (fun _ k => XS.aloadN X2.here hx rfl (hb hby da0_12) rfl rfl k) ?_
  refine Goes.pre (S' := (T2.setTop (mkF m 14 #[.val (.ref a), .val (.int x)] [(.ref a), (.ref a)]))) (fun _ k => XS.aloadN X2.here hx rfl (hb hby da0_13) rfl rfl k) ?_
  obtain ⟨T3, X3, e3, st3⟩ := getF X2 hx hZ hown (host := "") (Or.inl (hw _ (List.mem_of_getElem? (i := 19) rfl))) Via.refl e2 F2 (g := (mkF m 14 #[.val (.ref a), .val (.int x)] [(.ref a), (.ref a)])) rfl rfl (hb hby da0_14)
  refine Goes.pre (S' := (T3.setTop (mkF m 17 #[.val (.ref a), .val (.int x)] [(.int (0 : Int32)), (.ref a)]))) st3 ?_
  refine Goes.pre (S' := (T3.setTop (mkF m 20 #[.val (.ref a), .val (.int x)] [(.ref a)]))) (fun _ k => XS.ifNo X3.here hx rfl (hb hby da0_17) rfl (XT.i0_ne_f rfl) k) ?_
  refine Goes.pre (S' := (T3.setTop (mkF m 21 #[.val (.ref a), .val (.int x)] [(.int (4 : Int32)), (.ref a)]))) (fun _ k => XS.iconst X3.here hx rfl (hb hby da0_20) k) ?_
  obtain ⟨T4, h4, k4, X4, e4, E4, A4, st4⟩ := newP X3 hx hZ (hw _ (List.mem_of_getElem? (i := 26) rfl)) e3 (g := (mkF m 21 #[.val (.ref a), .val (.int x)] [(.int (4 : Int32)), (.ref a)])) rfl (hb hby da0_21) rfl (by decide) (cap := 4) (by decide) (by decide) (by decide) (by decide)
  obtain ⟨b4, g4⟩ : ∃ z, z = h0.size := ⟨_, rfl⟩
  rw [← g4] at A4 st4
  have V4 : Arv Z h4 b4 k4 .int (4 : Int32) [(.int (0 : Int32)), (.int (0 : Int32)), (.int (0 : Int32)), (.int (0 : Int32))] (.int (0 : Int32)) := (Arv.new A4 (by decide)).pad (pad_rep [] (.int (0 : Int32)) 4)
  have gb4 : n0 ≤ b4 := Nat.le_trans Z0 (Nat.le_of_eq g4.symm)
  have Zn4 : n0 ≤ h4.size := Nat.le_trans Z0 E4.1
  have szb4 : h0.size ≤ b4 := Nat.le_trans K0.1 (Nat.le_of_eq g4.symm)
  have K4 : Keep h0 h4 [] := K0.ext E4
  refine Goes.pre (S' := (T4.setTop (mkF m 23 #[.val (.ref a), .val (.int x)] [(.ref b4), (.ref a)]))) st4 ?_
  refine Goes.pre (S' := (T4.setTop (mkF m 39 #[.val (.ref a), .val (.int x)] [(.ref b4), (.ref a)]))) (fun _ k => XS.goto X4.here hx rfl (pc0 := 23) (pc' := 39) rfl (hb hby da0_23) (by decide) (by decide) k) ?_
  have hab : a ≠ b4 := own_neLt F1.lt szb4
  obtain ⟨T5, h5, X5, e5, W5, st5⟩ := putF X4 hx hZ hown (host := "") (Or.inl (hw _ (List.mem_of_getElem? (i := 12) rfl))) Via.refl e4 (F1.ext E4) (E0.ext E4) (Or.inl (hw _ (List.mem_of_getElem? (i := 13) rfl))) (hw _ (List.mem_of_getElem? (i := 2) rfl)) (ty := (.array .int)) (by decide) rfl rfl (g := (mkF m 39 #[.val (.ref a), .val (.int x)] [(.ref b4), (.ref a)])) rfl rfl (hb hby da0_39)
  have N5 := Fr.snoc X5 N0 ga
  have Zn5 : n0 ≤ h5.size := Nat.le_trans Zn4 (Nat.le_of_eq W5.size.symm)
  refine Goes.pre (S' := (T5.setTop (mkF m 42 #[.val (.ref a), .val (.int x)] []))) st5 ?_
  have Fn1 := (F1.ext E4).same W5
  have Fs1 := (F2.ext E4).other W5 (Or.inr sne.symm)
  have Ex1 := (E0.ext E4).wr W5
  have V1 := V4.other W5 (Ne.symm hab)
  have Ka : Keep h0 h5 [a] := (own_KeepMono K4).wr W5 (Or.inl (List.mem_singleton.mpr rfl))
  refine Goes.pre (S' := (T5.setTop (mkF m 43 #[.val (.ref a), .val (.int x)] [(.ref a)]))) (fun _ k => XS.aloadN X5.here hx rfl (hb hby da0_42) rfl rfl k) ?_
  obtain ⟨T6, X6, e6, st6⟩ := getF X5 hx hZ hown (host := "") (Or.inl (hw _ (List.mem_of_getElem? (i := 12) rfl))) Via.refl e5 Fn1 (g := (mkF m 43 #[.val (.ref a), .val (.int x)] [(.ref a)])) rfl rfl (hb hby da0_43)
  refine Goes.pre (S' := (T6.setTop (mkF m 46 #[.val (.ref a), .val (.int x)] [(.ref b4)]))) st6 ?_
  refine Goes.pre (S' := (T6.setTop (mkF m 47 #[.val (.ref a), .val (.int x)] [(.ref a), (.ref b4)]))) (fun _ k => XS.aloadN X6.here hx rfl (hb hby da0_46) rfl rfl k) ?_
  refine Goes.pre (S' := (T6.setTop (mkF m 48 #[.val (.ref a), .val (.int x)] [(.ref a), (.ref a), (.ref b4)]))) (fun _ k => XS.dup X6.here hx rfl (hb hby da0_47) rfl rfl k) ?_
  obtain ⟨T7, X7, e7, st7⟩ := getF X6 hx hZ hown (host := "") (Or.inl (hw _ (List.mem_of_getElem? (i := 19) rfl))) Via.refl e6 Fs1 (g := (mkF m 48 #[.val (.ref a), .val (.int x)] [(.ref a), (.ref a), (.ref b4)])) rfl rfl (hb hby da0_48)
  refine Goes.pre (S' := (T7.setTop (mkF m 51 #[.val (.ref a), .val (.int x)] [(.int (0 : Int32)), (.ref a), (.ref b4)]))) st7 ?_
  refine Goes.pre (S' := (T7.setTop (mkF m 52 #[.val (.ref a), .val (.int x)] [(.int (0 : Int32)), (.ref a), (.int (0 : Int32)), (.ref b4)]))) (fun _ k => XT.dupX1 X7.here hx rfl (hb hby da0_51) rfl rfl rfl k) ?_
  refine Goes.pre (S' := (T7.setTop (mkF m 53 #[.val (.ref a), .val (.int x)] [(.int (1 : Int32)), (.int (0 : Int32)), (.ref a), (.int (0 : Int32)), (.ref b4)]))) (fun _ k => XS.iconst X7.here hx rfl (hb hby da0_52) k) ?_
  refine Goes.pre (S' := (T7.setTop (mkF m 54 #[.val (.ref a), .val (.int x)] [(.int (1 : Int32)), (.ref a), (.int (0 : Int32)), (.ref b4)]))) (fun _ k => XS.iadd X7.here hx rfl (hb hby da0_53) rfl k) ?_
  obtain ⟨T8, h8, X8, e8, W8, st8⟩ := putF X7 hx hZ hown (host := "") (Or.inl (hw _ (List.mem_of_getElem? (i := 19) rfl))) Via.refl e7 Fs1 Ex1 (Or.inl (hw _ (List.mem_of_getElem? (i := 20) rfl))) (hw _ (List.mem_of_getElem? (i := 2) rfl)) (ty := .int) (by decide) rfl rfl (g := (mkF m 54 #[.val (.ref a), .val (.int x)] [(.int (1 : Int32)), (.ref a), (.int (0 : Int32)), (.ref b4)])) rfl rfl (hb hby da0_54)
  have N8 := Fr.snoc X8 N5 ga
  have Zn8 : n0 ≤ h8.size := Nat.le_trans Zn5 (Nat.le_of_eq W8.size.symm)
  refine Goes.pre (S' := (T8.setTop (mkF m 57 #[.val (.ref a), .val (.int x)] [(.int (0 : Int32)), (.ref b4)]))) st8 ?_
  have Fn2 := Fn1.other W8 (Or.inr sne)
  have Fs2 := Fs1.same W8
  have V2 := V1.other W8 (Ne.symm hab)
  refine Goes.pre (S' := (T8.setTop (mkF m 58 #[.val (.ref a), .val (.int x)] [(.int x), (.int (0 : Int32)), (.ref b4)]))) (fun _ k => XS.iloadN X8.here hx rfl (hb hby da0_57) rfl k) ?_
  have V3 := V2
  obtain ⟨cl9, Ar9, q9, S9, M9, H9, G9⟩ := V3
  obtain ⟨T9, h9, X9, e9, W9, st9⟩ := stI X8 hx hZ e8 Ar9 (j := (0 : Int32)) (inb_of S9 ⟨by decide, by decide⟩) (g := (mkF m 58 #[.val (.ref a), .val (.int x)] [(.int x), (.int (0 : Int32)), (.ref b4)])) rfl rfl (hb hby da0_58)
  have N9 := Fr.snoc X9 N8 gb4
  refine Goes.pre (S' := (T9.setTop (mkF m 59 #[.val (.ref a), .val (.int x)] []))) st9 ?_
  have Fn3 := Fn2.other W9 (Or.inl hab)
  have Fs3 := Fs2.other W9 (Or.inl hab)
  have V4 := Arv.set Ar9 q9 S9 M9 H9 G9 rfl W9 0 rfl (Nat.le_of_ble_eq_true rfl)
  have V5 : Arv Z h9 b4 k4 .int 4 [.int x] (.int 0) := V4.pad (fun i => (pad_rep [.int x] (.int 0) 3 i).symm)
  have Kf : Keep h0 h9 [a] := (Ka.wr W8 (Or.inl (List.mem_singleton.mpr rfl))).wr W9 (Or.inr szb4)
  exact Goes.retV X9 hx hlk Bd.returns (hb hby da0_59) (by rw [e9]; exact ⟨b4, k4, rfl, N9, Kf, szb4, Fn3, Fs3, V5⟩) (by first | decide | exact Nat.le_of_ble_eq_true rfl | assumption | (simp [Value.category]; done)) (by first | decide | exact Nat.le_of_ble_eq_true rfl | assumption | (simp [Value.category]; done))
theorem dak_0 : decode prog_15_method_5_code 0 = .ok (.aload_n 0, 1) := by decide +kernel
theorem dak_1 : decode prog_15_method_5_code 1 = .ok (.getfield 16, 3) := by decide +kernel
theorem dak_4 : decode prog_15_method_5_code 4 = .ok (.aload_n 0, 1) := by decide +kernel
theorem dak_5 : decode prog_15_method_5_code 5 = .ok (.getfield 13, 3) := by decide +kernel
theorem dak_8 : decode prog_15_method_5_code 8 = .ok (.arraylength, 1) := by decide +kernel
theorem dak_9 : decode prog_15_method_5_code 9 = .ok (.if_icmp .ne 33, 3) := by decide +kernel
theorem dak_12 : decode prog_15_method_5_code 12 = .ok (.aload_n 0, 1) := by decide +kernel
theorem dak_13 : decode prog_15_method_5_code 13 = .ok (.aload_n 0, 1) := by decide +kernel
theorem dak_14 : decode prog_15_method_5_code 14 = .ok (.getfield 16, 3) := by decide +kernel
theorem dak_17 : decode prog_15_method_5_code 17 = .ok (.ifCond .ne 9, 3) := by decide +kernel
theorem dak_20 : decode prog_15_method_5_code 20 = .ok (.iconst 4, 1) := by decide +kernel
theorem dak_21 : decode prog_15_method_5_code 21 = .ok (.newarray .int, 2) := by decide +kernel
theorem dak_23 : decode prog_15_method_5_code 23 = .ok (.goto 16, 3) := by decide +kernel
theorem dak_26 : decode prog_15_method_5_code 26 = .ok (.aload_n 0, 1) := by decide +kernel
theorem dak_27 : decode prog_15_method_5_code 27 = .ok (.getfield 13, 3) := by decide +kernel
theorem dak_30 : decode prog_15_method_5_code 30 = .ok (.iconst 2, 1) := by decide +kernel
theorem dak_31 : decode prog_15_method_5_code 31 = .ok (.aload_n 0, 1) := by decide +kernel
theorem dak_32 : decode prog_15_method_5_code 32 = .ok (.getfield 16, 3) := by decide +kernel
theorem dak_35 : decode prog_15_method_5_code 35 = .ok (.imul, 1) := by decide +kernel
theorem dak_36 : decode prog_15_method_5_code 36 = .ok (.invokestatic 25, 3) := by decide +kernel
theorem dak_39 : decode prog_15_method_5_code 39 = .ok (.putfield 13, 3) := by decide +kernel
theorem dak_42 : decode prog_15_method_5_code 42 = .ok (.aload_n 0, 1) := by decide +kernel
theorem dak_43 : decode prog_15_method_5_code 43 = .ok (.getfield 13, 3) := by decide +kernel
theorem dak_46 : decode prog_15_method_5_code 46 = .ok (.aload_n 0, 1) := by decide +kernel
theorem dak_47 : decode prog_15_method_5_code 47 = .ok (.dup, 1) := by decide +kernel
theorem dak_48 : decode prog_15_method_5_code 48 = .ok (.getfield 16, 3) := by decide +kernel
theorem dak_51 : decode prog_15_method_5_code 51 = .ok (.dup_x1, 1) := by decide +kernel
theorem dak_52 : decode prog_15_method_5_code 52 = .ok (.iconst 1, 1) := by decide +kernel
theorem dak_53 : decode prog_15_method_5_code 53 = .ok (.iadd, 1) := by decide +kernel
theorem dak_54 : decode prog_15_method_5_code 54 = .ok (.putfield 16, 3) := by decide +kernel
theorem dak_57 : decode prog_15_method_5_code 57 = .ok (.iload_n 1, 1) := by decide +kernel
theorem dak_58 : decode prog_15_method_5_code 58 = .ok (.iastore, 1) := by decide +kernel
theorem dak_59 : decode prog_15_method_5_code 59 = .ok (.return_, 1) := by decide +kernel
theorem pd_ak : parseMethodDescriptor "(I)V" = some ⟨[.int], none⟩ := by decide +kernel
theorem pn_ak : plainName "com/example/clear_plan/clearplan/grounding/FactList" = true := by first | (simp [plainName, overriddenIn]; done) | decide +kernel
def Q_ak (Z : State) (a : Addr) (x : Int32) (bn : Addr) (kn : ClassId) (n : Int32) (vs : List Value) (h0 : Heap) (n0 : Nat) (v : Option Value) (h : Heap) (L : List Loc) : Prop := v = none ∧ Fr n0 L ∧ Keep h0 h [a, bn] ∧ Fld Z h a "com/example/clear_plan/clearplan/grounding/FactList" "numbers" "[I" (.ref bn) ∧ Fld Z h a "com/example/clear_plan/clearplan/grounding/FactList" "size" "I" (.int (n + 1)) ∧ Arv Z h bn kn .int 4 (vs ++ [.int x]) (.int 0)
theorem ef_ak (m : MethodId) (a : Addr) (x : Int32) : entryFrame m #[(.ref a), (.int x)] 2 = mkF m 0 #[.val (.ref a), .val (.int x)] [] := by first | (simp [entryFrame, mkF, argsToLocals, Value.category]; done) | rfl
set_option maxRecDepth 65536 in
set_option maxHeartbeats 40000000 in
theorem rm_ak (l : Launch) (Z : State) (a0 : Array Value) (hw : ∀ d ∈ tables_1, d.before a0 Z = true) (ws : List Jvm.Cond) (a : Addr) (x : Int32) (bn : Addr) (kn : ClassId) (n : Int32) (vs : List Value) (h0 : Heap) (n0 : Nat) (Z0 : n0 ≤ h0.size) (hn : ¬ n < 0 ∧ n < 4) (hl : n.toNatClampNeg = vs.length) (F1 : Fld Z h0 a "com/example/clear_plan/clearplan/grounding/FactList" "numbers" "[I" (.ref bn)) (F2 : Fld Z h0 a "com/example/clear_plan/clearplan/grounding/FactList" "size" "I" (.int n)) (V : Arv Z h0 bn kn .int 4 vs (.int 0)) (E0 : Exa Z h0 a "com/example/clear_plan/clearplan/grounding/FactList") (ga : n0 ≤ a) (gb : n0 ≤ bn) (hab : a ≠ bn) :
    Ctr l Z (⟨"com/example/clear_plan/clearplan/grounding/FactList", "add", "(I)V"⟩ : MethodName) prog_15_method_5_code 2 (none : Option FieldType) ws ({ frames := 2, cells := 0, slots := 0, locals := 60 } : Room) #[(.ref a), (.int x)] h0 (Q_ak Z a x bn kn n vs h0 n0) := by
  refine MetFree.of_bodySF (plainFor_of_name pn_ak) hisR ?_
  intro p e s m args below meth c s₁ Bd hml0 hP hK
  obtain ⟨rfl, hZ, hh⟩ := hP
  have hx := Bd.exec
  have hby := Bd.bytes
  have hlk : meth.locks = false := Bd.notSynchronized
  have hml : c.maxLocals = 2 := hml0
  have hown : s.vm.findClass "com/example/clear_plan/clearplan/grounding/FactList" = some m.cls := findClass_of_methodNamed Bd.named
  have hnm := (name_of_methodNamed Bd.named Bd.method).1
  have X0 : Stand p l e ({ frames := 2, cells := 0, slots := 0, locals := 60 } : Room) s m #[(.ref a), (.int x)] below meth c s₁ [] 0 0 := Stand.of_body Bd
  have e0 : s₁.heap = h0 := by rw [← hh, Bd.state]; rfl
  have N0 := Fr.nil n0
  show Goes p e below (EndQ s (Q_ak Z a x bn kn n vs h0 n0) ({ frames := 2, cells := 0, slots := 0, locals := 60 } : Room).cells ({ frames := 2, cells := 0, slots := 0, locals := 60 } : Room).slots) (s₁.setTop (entryFrame m #[(.ref a), (.int x)] 2))
  refine Goes.pre (S' := (s₁.setTop (mkF m 0 #[.val (.ref a), .val (.int x)] []))) (fun _ k => castTop (ef_ak m a x) k) ?_
  have sne := slot_ne (Z := Z) (a0 := a0) (Or.inl (hw _ (List.mem_of_getElem? (i := 13) rfl))) (Or.inl (hw _ (List.mem_of_getElem? (i := 20) rfl))) (by decide) (t := .array .int) (t' := .int) (by decide) (by decide)
  have K0 : Keep h0 h0 [] := Keep.refl h0 []
  refine Goes.pre (S' := (s₁.setTop (mkF m 1 #[.val (.ref a), .val (.int x)] [(.ref a)]))) (fun _ k => XS.aloadN X0.here hx rfl (hb hby dak_0) rfl rfl k) ?_
  obtain ⟨T1, X1, e1, st1⟩ := getF X0 hx hZ hown (host := "") (Or.inl (hw _ (List.mem_of_getElem? (i := 19) rfl))) Via.refl e0 F2 (g := (mkF m 1 #[.val (.ref a), .val (.int x)] [(.ref a)])) rfl rfl (hb hby dak_1)
  refine Goes.pre (S' := (T1.setTop (mkF m 4 #[.val (.ref a), .val (.int x)] [(.int n)]))) st1 ?_
  refine Goes.pre (S' := (T1.setTop (mkF m 5 #[.val (.ref a), .val (.int x)] [(.ref a), (.int n)]))) (fun _ k => XS.aloadN X1.here hx rfl (hb hby dak_4) rfl rfl k) ?_
  obtain ⟨T2, X2, e2, st2⟩ := getF X1 hx hZ hown (host := "") (Or.inl (hw _ (List.mem_of_getElem? (i := 12) rfl))) Via.refl e1 F1 (g := (mkF m 5 #[.val (.ref a), .val (.int x)] [(.ref a), (.int n)])) rfl rfl (hb hby dak_5)
  refine Goes.pre (S' := (T2.setTop (mkF m 8 #[.val (.ref a), .val (.int x)] [(.ref bn), (.int n)]))) st2 ?_
  refine Goes.alen X2 hx hZ e2 V (hb hby dak_8) ?_
  show Goes p e below _ (T2.setTop (mkF m 9 #[.val (.ref a), .val (.int x)] [(.int (4 : Int32)), (.int n)]))
  refine Goes.pre (S' := (T2.setTop (mkF m 42 #[.val (.ref a), .val (.int x)] []))) (fun _ k => XS.icmpYes X2.here hx rfl (pc0 := 9) (pc' := 42) rfl (hb hby dak_9) rfl (XT.ii_ne_t (fun q => by rw [q] at hn; exact absurd hn.2 (by decide))) (by decide) (by decide) k) ?_
  refine Goes.pre (S' := (T2.setTop (mkF m 43 #[.val (.ref a), .val (.int x)] [(.ref a)]))) (fun _ k => XS.aloadN X2.here hx rfl (hb hby dak_42) rfl rfl k) ?_
  obtain ⟨T3, X3, e3, st3⟩ := getF X2 hx hZ hown (host := "") (Or.inl (hw _ (List.mem_of_getElem? (i := 12) rfl))) Via.refl e2 F1 (g := (mkF m 43 #[.val (.ref a), .val (.int x)] [(.ref a)])) rfl rfl (hb hby dak_43)
  refine Goes.pre (S' := (T3.setTop (mkF m 46 #[.val (.ref a), .val (.int x)] [(.ref bn)]))) st3 ?_
  refine Goes.pre (S' := (T3.setTop (mkF m 47 #[.val (.ref a), .val (.int x)] [(.ref a), (.ref bn)]))) (fun _ k => XS.aloadN X3.here hx rfl (hb hby dak_46) rfl rfl k) ?_
  refine Goes.pre (S' := (T3.setTop (mkF m 48 #[.val (.ref a), .val (.int x)] [(.ref a), (.ref a), (.ref bn)]))) (fun _ k => XS.dup X3.here hx rfl (hb hby dak_47) rfl rfl k) ?_
  obtain ⟨T4, X4, e4, st4⟩ := getF X3 hx hZ hown (host := "") (Or.inl (hw _ (List.mem_of_getElem? (i := 19) rfl))) Via.refl e3 F2 (g := (mkF m 48 #[.val (.ref a), .val (.int x)] [(.ref a), (.ref a), (.ref bn)])) rfl rfl (hb hby dak_48)
  refine Goes.pre (S' := (T4.setTop (mkF m 51 #[.val (.ref a), .val (.int x)] [(.int n), (.ref a), (.ref bn)]))) st4 ?_
  refine Goes.pre (S' := (T4.setTop (mkF m 52 #[.val (.ref a), .val (.int x)] [(.int n), (.ref a), (.int n), (.ref bn)]))) (fun _ k => XT.dupX1 X4.here hx rfl (hb hby dak_51) rfl rfl rfl k) ?_
  refine Goes.pre (S' := (T4.setTop (mkF m 53 #[.val (.ref a), .val (.int x)] [(.int (1 : Int32)), (.int n), (.ref a), (.int n), (.ref bn)]))) (fun _ k => XS.iconst X4.here hx rfl (hb hby dak_52) k) ?_
  refine Goes.pre (S' := (T4.setTop (mkF m 54 #[.val (.ref a), .val (.int x)] [(.int (n + (1 : Int32))), (.ref a), (.int n), (.ref bn)]))) (fun _ k => XS.iadd X4.here hx rfl (hb hby dak_53) rfl k) ?_
  obtain ⟨T5, h5, X5, e5, W5, st5⟩ := putF X4 hx hZ hown (host := "") (Or.inl (hw _ (List.mem_of_getElem? (i := 19) rfl))) Via.refl e4 F2 E0 (Or.inl (hw _ (List.mem_of_getElem? (i := 20) rfl))) (hw _ (List.mem_of_getElem? (i := 2) rfl)) (ty := .int) (by decide) rfl rfl (g := (mkF m 54 #[.val (.ref a), .val (.int x)] [(.int (n + (1 : Int32))), (.ref a), (.int n), (.ref bn)])) rfl rfl (hb hby dak_54)
  have N5 := Fr.snoc X5 N0 ga
  have Zn5 : n0 ≤ h5.size := Nat.le_trans Z0 (Nat.le_of_eq W5.size.symm)
  refine Goes.pre (S' := (T5.setTop (mkF m 57 #[.val (.ref a), .val (.int x)] [(.int n), (.ref bn)]))) st5 ?_
  have Fn2 := F1.other W5 (Or.inr sne)
  have Fs2 := F2.same W5
  have V2 := V.other W5 (Ne.symm hab)
  refine Goes.pre (S' := (T5.setTop (mkF m 58 #[.val (.ref a), .val (.int x)] [(.int x), (.int n), (.ref bn)]))) (fun _ k => XS.iloadN X5.here hx rfl (hb hby dak_57) rfl k) ?_
  have V3 := V2.pad (pad_rep vs (.int 0) 1)
  obtain ⟨cl6, Ar6, q6, S6, M6, H6, G6⟩ := V3
  obtain ⟨T6, h6, X6, e6, W6, st6⟩ := stI X5 hx hZ e5 Ar6 (j := n) (inb_of S6 hn) (g := (mkF m 58 #[.val (.ref a), .val (.int x)] [(.int x), (.int n), (.ref bn)])) rfl rfl (hb hby dak_58)
  have N6 := Fr.snoc X6 N5 gb
  refine Goes.pre (S' := (T6.setTop (mkF m 59 #[.val (.ref a), .val (.int x)] []))) st6 ?_
  have Fn3 := Fn2.other W6 (Or.inl hab)
  have Fs3 := Fs2.other W6 (Or.inl hab)
  have V4 := Arv.set Ar6 q6 S6 M6 H6 G6 rfl W6 vs.length hl (by simp)
  rw [own_setEnd] at V4
  have Kf : Keep h0 h6 [a, bn] := ((Keep.refl h0 _).wr W5 (Or.inl (List.mem_of_getElem? (i := 0) rfl))).wr W6 (Or.inl (List.mem_of_getElem? (i := 1) rfl))
  exact Goes.retV X6 hx hlk Bd.returns (hb hby dak_59) (by rw [e6]; exact ⟨rfl, N6, Kf, Fn3, Fs3, V4⟩) (by first | decide | exact Nat.le_of_ble_eq_true rfl | assumption | (simp [Value.category]; done)) (by first | decide | exact Nat.le_of_ble_eq_true rfl | assumption | (simp [Value.category]; done))
theorem da4_0 : decode prog_15_method_5_code 0 = .ok (.aload_n 0, 1) := by decide +kernel
theorem da4_1 : decode prog_15_method_5_code 1 = .ok (.getfield 16, 3) := by decide +kernel
theorem da4_4 : decode prog_15_method_5_code 4 = .ok (.aload_n 0, 1) := by decide +kernel
theorem da4_5 : decode prog_15_method_5_code 5 = .ok (.getfield 13, 3) := by decide +kernel
theorem da4_8 : decode prog_15_method_5_code 8 = .ok (.arraylength, 1) := by decide +kernel
theorem da4_9 : decode prog_15_method_5_code 9 = .ok (.if_icmp .ne 33, 3) := by decide +kernel
theorem da4_12 : decode prog_15_method_5_code 12 = .ok (.aload_n 0, 1) := by decide +kernel
theorem da4_13 : decode prog_15_method_5_code 13 = .ok (.aload_n 0, 1) := by decide +kernel
theorem da4_14 : decode prog_15_method_5_code 14 = .ok (.getfield 16, 3) := by decide +kernel
theorem da4_17 : decode prog_15_method_5_code 17 = .ok (.ifCond .ne 9, 3) := by decide +kernel
theorem da4_20 : decode prog_15_method_5_code 20 = .ok (.iconst 4, 1) := by decide +kernel
theorem da4_21 : decode prog_15_method_5_code 21 = .ok (.newarray .int, 2) := by decide +kernel
theorem da4_23 : decode prog_15_method_5_code 23 = .ok (.goto 16, 3) := by decide +kernel
theorem da4_26 : decode prog_15_method_5_code 26 = .ok (.aload_n 0, 1) := by decide +kernel
theorem da4_27 : decode prog_15_method_5_code 27 = .ok (.getfield 13, 3) := by decide +kernel
theorem da4_30 : decode prog_15_method_5_code 30 = .ok (.iconst 2, 1) := by decide +kernel
theorem da4_31 : decode prog_15_method_5_code 31 = .ok (.aload_n 0, 1) := by decide +kernel
theorem da4_32 : decode prog_15_method_5_code 32 = .ok (.getfield 16, 3) := by decide +kernel
theorem da4_35 : decode prog_15_method_5_code 35 = .ok (.imul, 1) := by decide +kernel
theorem da4_36 : decode prog_15_method_5_code 36 = .ok (.invokestatic 25, 3) := by decide +kernel
theorem da4_39 : decode prog_15_method_5_code 39 = .ok (.putfield 13, 3) := by decide +kernel
theorem da4_42 : decode prog_15_method_5_code 42 = .ok (.aload_n 0, 1) := by decide +kernel
theorem da4_43 : decode prog_15_method_5_code 43 = .ok (.getfield 13, 3) := by decide +kernel
theorem da4_46 : decode prog_15_method_5_code 46 = .ok (.aload_n 0, 1) := by decide +kernel
theorem da4_47 : decode prog_15_method_5_code 47 = .ok (.dup, 1) := by decide +kernel
theorem da4_48 : decode prog_15_method_5_code 48 = .ok (.getfield 16, 3) := by decide +kernel
theorem da4_51 : decode prog_15_method_5_code 51 = .ok (.dup_x1, 1) := by decide +kernel
theorem da4_52 : decode prog_15_method_5_code 52 = .ok (.iconst 1, 1) := by decide +kernel
theorem da4_53 : decode prog_15_method_5_code 53 = .ok (.iadd, 1) := by decide +kernel
theorem da4_54 : decode prog_15_method_5_code 54 = .ok (.putfield 16, 3) := by decide +kernel
theorem da4_57 : decode prog_15_method_5_code 57 = .ok (.iload_n 1, 1) := by decide +kernel
theorem da4_58 : decode prog_15_method_5_code 58 = .ok (.iastore, 1) := by decide +kernel
theorem da4_59 : decode prog_15_method_5_code 59 = .ok (.return_, 1) := by decide +kernel
theorem pd_a4 : parseMethodDescriptor "(I)V" = some ⟨[.int], none⟩ := by decide +kernel
theorem pn_a4 : plainName "com/example/clear_plan/clearplan/grounding/FactList" = true := by first | (simp [plainName, overriddenIn]; done) | decide +kernel
def Q_a4 (Z : State) (a : Addr) (x : Int32) (y0 y1 y2 y3 : Value) (h0 : Heap) (n0 : Nat) (v : Option Value) (h : Heap) (L : List Loc) : Prop := ∃ (b : Addr) (k : ClassId), v = none ∧ Fr n0 L ∧ Keep h0 h [a] ∧ h0.size ≤ b ∧ Fld Z h a "com/example/clear_plan/clearplan/grounding/FactList" "numbers" "[I" (.ref b) ∧ Fld Z h a "com/example/clear_plan/clearplan/grounding/FactList" "size" "I" (.int (5 : Int32)) ∧ Arv Z h b k .int 8 ([y0, y1, y2, y3, .int x, .int 0, .int 0, .int 0] : List Value) (.int 0)
theorem ef_a4 (m : MethodId) (a : Addr) (x : Int32) : entryFrame m #[(.ref a), (.int x)] 2 = mkF m 0 #[.val (.ref a), .val (.int x)] [] := by first | (simp [entryFrame, mkF, argsToLocals, Value.category]; done) | rfl
set_option maxRecDepth 65536 in
set_option maxHeartbeats 40000000 in
theorem rm_a4 (l : Launch) (Z : State) (a0 : Array Value) (hw : ∀ d ∈ tables_1, d.before a0 Z = true) (ws : List Jvm.Cond) (a : Addr) (x : Int32) (bn : Addr) (kn : ClassId) (y0 y1 y2 y3 : Value) (h0 : Heap) (n0 : Nat) (Z0 : n0 ≤ h0.size) (F1 : Fld Z h0 a "com/example/clear_plan/clearplan/grounding/FactList" "numbers" "[I" (.ref bn)) (F2 : Fld Z h0 a "com/example/clear_plan/clearplan/grounding/FactList" "size" "I" (.int (4 : Int32))) (V : Arv Z h0 bn kn .int 4 [y0, y1, y2, y3] (.int 0)) (E0 : Exa Z h0 a "com/example/clear_plan/clearplan/grounding/FactList") (ga : n0 ≤ a) :
    Ctr l Z (⟨"com/example/clear_plan/clearplan/grounding/FactList", "add", "(I)V"⟩ : MethodName) prog_15_method_5_code 2 (none : Option FieldType) ws ({ frames := 2, cells := 1, slots := 8, locals := 60 } : Room) #[(.ref a), (.int x)] h0 (Q_a4 Z a x y0 y1 y2 y3 h0 n0) := by
  refine MetFree.of_bodySF (plainFor_of_name pn_a4) hisR ?_
  intro p e s m args below meth c s₁ Bd hml0 hP hK
  obtain ⟨rfl, hZ, hh⟩ := hP
  have hx := Bd.exec
  have hby := Bd.bytes
  have hlk : meth.locks = false := Bd.notSynchronized
  have hml : c.maxLocals = 2 := hml0
  have hown : s.vm.findClass "com/example/clear_plan/clearplan/grounding/FactList" = some m.cls := findClass_of_methodNamed Bd.named
  have hnm := (name_of_methodNamed Bd.named Bd.method).1
  have X0 : Stand p l e ({ frames := 2, cells := 1, slots := 8, locals := 60 } : Room) s m #[(.ref a), (.int x)] below meth c s₁ [] 0 0 := Stand.of_body Bd
  have e0 : s₁.heap = h0 := by rw [← hh, Bd.state]; rfl
  have N0 := Fr.nil n0
  show Goes p e below (EndQ s (Q_a4 Z a x y0 y1 y2 y3 h0 n0) ({ frames := 2, cells := 1, slots := 8, locals := 60 } : Room).cells ({ frames := 2, cells := 1, slots := 8, locals := 60 } : Room).slots) (s₁.setTop (entryFrame m #[(.ref a), (.int x)] 2))
  refine Goes.pre (S' := (s₁.setTop (mkF m 0 #[.val (.ref a), .val (.int x)] []))) (fun _ k => castTop (ef_a4 m a x) k) ?_
  have sne := slot_ne (Z := Z) (a0 := a0) (Or.inl (hw _ (List.mem_of_getElem? (i := 13) rfl))) (Or.inl (hw _ (List.mem_of_getElem? (i := 20) rfl))) (by decide) (t := .array .int) (t' := .int) (by decide) (by decide)
  have K0 : Keep h0 h0 [] := Keep.refl h0 []
  refine Goes.pre (S' := (s₁.setTop (mkF m 1 #[.val (.ref a), .val (.int x)] [(.ref a)]))) (fun _ k => XS.aloadN X0.here hx rfl (hb hby da4_0) rfl rfl k) ?_
  obtain ⟨T1, X1, e1, st1⟩ := getF X0 hx hZ hown (host := "") (Or.inl (hw _ (List.mem_of_getElem? (i := 19) rfl))) Via.refl e0 F2 (g := (mkF m 1 #[.val (.ref a), .val (.int x)] [(.ref a)])) rfl rfl (hb hby da4_1)
  refine Goes.pre (S' := (T1.setTop (mkF m 4 #[.val (.ref a), .val (.int x)] [(.int (4 : Int32))]))) st1 ?_
  refine Goes.pre (S' := (T1.setTop (mkF m 5 #[.val (.ref a), .val (.int x)] [(.ref a), (.int (4 : Int32))]))) (fun _ k => XS.aloadN X1.here hx rfl (hb hby da4_4) rfl rfl k) ?_
  obtain ⟨T2, X2, e2, st2⟩ := getF X1 hx hZ hown (host := "") (Or.inl (hw _ (List.mem_of_getElem? (i := 12) rfl))) Via.refl e1 F1 (g := (mkF m 5 #[.val (.ref a), .val (.int x)] [(.ref a), (.int (4 : Int32))])) rfl rfl (hb hby da4_5)
  refine Goes.pre (S' := (T2.setTop (mkF m 8 #[.val (.ref a), .val (.int x)] [(.ref bn), (.int (4 : Int32))]))) st2 ?_
  refine Goes.alen X2 hx hZ e2 V (hb hby da4_8) ?_
  show Goes p e below _ (T2.setTop (mkF m 9 #[.val (.ref a), .val (.int x)] [(.int (4 : Int32)), (.int (4 : Int32))]))
  refine Goes.pre (S' := (T2.setTop (mkF m 12 #[.val (.ref a), .val (.int x)] []))) (fun _ k => XS.icmpNo X2.here hx rfl (hb hby da4_9) rfl (XT.ii_ne_f rfl) k) ?_
  refine Goes.pre (S' := (T2.setTop (mkF m 13 #[.val (.ref a), .val (.int x)] [(.ref a)]))) (fun _ k => XS.aloadN X2.here hx rfl (hb hby da4_12) rfl rfl k) ?_
  refine Goes.pre (S' := (T2.setTop (mkF m 14 #[.val (.ref a), .val (.int x)] [(.ref a), (.ref a)]))) (fun _ k => XS.aloadN X2.here hx rfl (hb hby da4_13) rfl rfl k) ?_
  obtain ⟨T3, X3, e3, st3⟩ := getF X2 hx hZ hown (host := "") (Or.inl (hw _ (List.mem_of_getElem? (i := 19) rfl))) Via.refl e2 F2 (g := (mkF m 14 #[.val (.ref a), .val (.int x)] [(.ref a), (.ref a)])) rfl rfl (hb hby da4_14)
  refine Goes.pre (S' := (T3.setTop (mkF m 17 #[.val (.ref a), .val (.int x)] [(.int (4 : Int32)), (.ref a)]))) st3 ?_
  refine Goes.pre (S' := (T3.setTop (mkF m 26 #[.val (.ref a), .val (.int x)] [(.ref a)]))) (fun _ k => XS.ifYes X3.here hx rfl (pc0 := 17) (pc' := 26) rfl (hb hby da4_17) rfl (XT.i0_ne_t (by decide)) (by decide) (by decide) k) ?_
  refine Goes.pre (S' := (T3.setTop (mkF m 27 #[.val (.ref a), .val (.int x)] [(.ref a), (.ref a)]))) (fun _ k => XS.aloadN X3.here hx rfl (hb hby da4_26) rfl rfl k) ?_
  obtain ⟨T4, X4, e4, st4⟩ := getF X3 hx hZ hown (host := "") (Or.inl (hw _ (List.mem_of_getElem? (i := 12) rfl))) Via.refl e3 F1 (g := (mkF m 27 #[.val (.ref a), .val (.int x)] [(.ref a), (.ref a)])) rfl rfl (hb hby da4_27)
  refine Goes.pre (S' := (T4.setTop (mkF m 30 #[.val (.ref a), .val (.int x)] [(.ref bn), (.ref a)]))) st4 ?_
  refine Goes.pre (S' := (T4.setTop (mkF m 31 #[.val (.ref a), .val (.int x)] [(.int (2 : Int32)), (.ref bn), (.ref a)]))) (fun _ k => XS.iconst X4.here hx rfl (hb hby da4_30) k) ?_
  refine Goes.pre (S' := (T4.setTop (mkF m 32 #[.val (.ref a), .val (.int x)] [(.ref a), (.int (2 : Int32)), (.ref bn), (.ref a)]))) (fun _ k => XS.aloadN X4.here hx rfl (hb hby da4_31) rfl rfl k) ?_
  obtain ⟨T5, X5, e5, st5⟩ := getF X4 hx hZ hown (host := "") (Or.inl (hw _ (List.mem_of_getElem? (i := 19) rfl))) Via.refl e4 F2 (g := (mkF m 32 #[.val (.ref a), .val (.int x)] [(.ref a), (.int (2 : Int32)), (.ref bn), (.ref a)])) rfl rfl (hb hby da4_32)
  refine Goes.pre (S' := (T5.setTop (mkF m 35 #[.val (.ref a), .val (.int x)] [(.int (4 : Int32)), (.int (2 : Int32)), (.ref bn), (.ref a)]))) st5 ?_
  refine Goes.pre (S' := (T5.setTop (mkF m 36 #[.val (.ref a), .val (.int x)] [(.int (8 : Int32)), (.ref bn), (.ref a)]))) (fun _ k => XS.imul X5.here hx rfl (hb hby da4_35) rfl k) ?_
  refine Goes.callS (y := (⟨"java/util/Arrays", "copyOf", "([II)[I"⟩ : MethodName)) X5 hx hZ hown (hw _ (List.mem_of_getElem? (i := 32) rfl)) (hw _ (List.mem_of_getElem? (i := 33) rfl)) (hw _ (List.mem_of_getElem? (i := 34) rfl)) (hw _ (List.mem_of_getElem? (i := 35) rfl)) (by decide) e5 (rm_co l Z a0 hw [] bn (8 : Int32) kn y0 y1 y2 y3 h0 n0 Z0 rfl V) (by rw [hml]; rfl) [(.ref bn), (.int (8 : Int32))] [(.ref a)] pd_co rfl rfl rfl (hb hby da4_36) (by decide) (by first | decide | exact Nat.le_of_ble_eq_true rfl | assumption | (simp [Value.category]; done)) (by first | decide | exact Nat.le_of_ble_eq_true rfl | assumption | (simp [Value.category]; done)) (by first | decide | exact Nat.le_of_ble_eq_true rfl | assumption | (simp [Value.category]; done)) ?_
  intro T6 v6 L6 X6 q6
  obtain ⟨b6, k6, rfl, N6a, K6, szb6, V6⟩ := q6
  have N6 := Fr.app N0 N6a
  have gb6 : n0 ≤ b6 := Nat.le_trans Z0 szb6
  have Zn6 : n0 ≤ T6.heap.size := Nat.le_trans Z0 K6.1
  show Goes p e below _ (T6.setTop (mkF m 39 #[.val (.ref a), .val (.int x)] [(.ref b6), (.ref a)]))
  have hab : a ≠ b6 := own_neLt F1.lt szb6
  obtain ⟨T7, h7, X7, e7, W7, st7⟩ := putF X6 hx hZ hown (host := "") (Or.inl (hw _ (List.mem_of_getElem? (i := 12) rfl))) Via.refl rfl (F1.keep K6 nin0) (E0.keep K6) (Or.inl (hw _ (List.mem_of_getElem? (i := 13) rfl))) (hw _ (List.mem_of_getElem? (i := 2) rfl)) (ty := (.array .int)) (by decide) rfl rfl (g := (mkF m 39 #[.val (.ref a), .val (.int x)] [(.ref b6), (.ref a)])) rfl rfl (hb hby da4_39)
  have N7 := Fr.snoc X7 N6 ga
  have Zn7 : n0 ≤ h7.size := Nat.le_trans Zn6 (Nat.le_of_eq W7.size.symm)
  refine Goes.pre (S' := (T7.setTop (mkF m 42 #[.val (.ref a), .val (.int x)] []))) st7 ?_
  have Fn1 := (F1.keep K6 nin0).same W7
  have Fs1 := (F2.keep K6 nin0).other W7 (Or.inr sne.symm)
  have Ex1 := (E0.keep K6).wr W7
  have V1 := V6.other W7 (Ne.symm hab)
  have Ka : Keep h0 h7 [a] := (own_KeepMono K6).wr W7 (Or.inl (List.mem_singleton.mpr rfl))
  refine Goes.pre (S' := (T7.setTop (mkF m 43 #[.val (.ref a), .val (.int x)] [(.ref a)]))) (fun _ k => XS.aloadN X7.here hx rfl (hb hby da4_42) rfl rfl k) ?_
  obtain ⟨T8, X8, e8, st8⟩ := getF X7 hx hZ hown (host := "") (Or.inl (hw _ (List.mem_of_getElem? (i := 12) rfl))) Via.refl e7 Fn1 (g := (mkF m 43 #[.val (.ref a), .val (.int x)] [(.ref a)])) rfl rfl (hb hby da4_43)
  refine Goes.pre (S' := (T8.setTop (mkF m 46 #[.val (.ref a), .val (.int x)] [(.ref b6)]))) st8 ?_
  refine Goes.pre (S' := (T8.setTop (mkF m 47 #[.val (.ref a), .val (.int x)] [(.ref a), (.ref b6)]))) (fun _ k => XS.aloadN X8.here hx rfl (hb hby da4_46) rfl rfl k) ?_
  refine Goes.pre (S' := (T8.setTop (mkF m 48 #[.val (.ref a), .val (.int x)] [(.ref a), (.ref a), (.ref b6)]))) (fun _ k => XS.dup X8.here hx rfl (hb hby da4_47) rfl rfl k) ?_
  obtain ⟨T9, X9, e9, st9⟩ := getF X8 hx hZ hown (host := "") (Or.inl (hw _ (List.mem_of_getElem? (i := 19) rfl))) Via.refl e8 Fs1 (g := (mkF m 48 #[.val (.ref a), .val (.int x)] [(.ref a), (.ref a), (.ref b6)])) rfl rfl (hb hby da4_48)
  refine Goes.pre (S' := (T9.setTop (mkF m 51 #[.val (.ref a), .val (.int x)] [(.int (4 : Int32)), (.ref a), (.ref b6)]))) st9 ?_
  refine Goes.pre (S' := (T9.setTop (mkF m 52 #[.val (.ref a), .val (.int x)] [(.int (4 : Int32)), (.ref a), (.int (4 : Int32)), (.ref b6)]))) (fun _ k => XT.dupX1 X9.here hx rfl (hb hby da4_51) rfl rfl rfl k) ?_
  refine Goes.pre (S' := (T9.setTop (mkF m 53 #[.val (.ref a), .val (.int x)] [(.int (1 : Int32)), (.int (4 : Int32)), (.ref a), (.int (4 : Int32)), (.ref b6)]))) (fun _ k => XS.iconst X9.here hx rfl (hb hby da4_52) k) ?_
  refine Goes.pre (S' := (T9.setTop (mkF m 54 #[.val (.ref a), .val (.int x)] [(.int (5 : Int32)), (.ref a), (.int (4 : Int32)), (.ref b6)]))) (fun _ k => XS.iadd X9.here hx rfl (hb hby da4_53) rfl k) ?_
  obtain ⟨T10, h10, X10, e10, W10, st10⟩ := putF X9 hx hZ hown (host := "") (Or.inl (hw _ (List.mem_of_getElem? (i := 19) rfl))) Via.refl e9 Fs1 Ex1 (Or.inl (hw _ (List.mem_of_getElem? (i := 20) rfl))) (hw _ (List.mem_of_getElem? (i := 2) rfl)) (ty := .int) (by decide) rfl rfl (g := (mkF m 54 #[.val (.ref a), .val (.int x)] [(.int (5 : Int32)), (.ref a), (.int (4 : Int32)), (.ref b6)])) rfl rfl (hb hby da4_54)
  have N10 := Fr.snoc X10 N7 ga
  have Zn10 : n0 ≤ h10.size := Nat.le_trans Zn7 (Nat.le_of_eq W10.size.symm)
  refine Goes.pre (S' := (T10.setTop (mkF m 57 #[.val (.ref a), .val (.int x)] [(.int (4 : Int32)), (.ref b6)]))) st10 ?_
  have Fn2 := Fn1.other W10 (Or.inr sne)
  have Fs2 := Fs1.same W10
  have V2 := V1.other W10 (Ne.symm hab)
  refine Goes.pre (S' := (T10.setTop (mkF m 58 #[.val (.ref a), .val (.int x)] [(.int x), (.int (4 : Int32)), (.ref b6)]))) (fun _ k => XS.iloadN X10.here hx rfl (hb hby da4_57) rfl k) ?_
  have V3 := V2
  obtain ⟨cl11, Ar11, q11, S11, M11, H11, G11⟩ := V3
  obtain ⟨T11, h11, X11, e11, W11, st11⟩ := stI X10 hx hZ e10 Ar11 (j := (4 : Int32)) (inb_of S11 ⟨by decide, by decide⟩) (g := (mkF m 58 #[.val (.ref a), .val (.int x)] [(.int x), (.int (4 : Int32)), (.ref b6)])) rfl rfl (hb hby da4_58)
  have N11 := Fr.snoc X11 N10 gb6
  refine Goes.pre (S' := (T11.setTop (mkF m 59 #[.val (.ref a), .val (.int x)] []))) st11 ?_
  have Fn3 := Fn2.other W11 (Or.inl hab)
  have Fs3 := Fs2.other W11 (Or.inl hab)
  have V4 := Arv.set Ar11 q11 S11 M11 H11 G11 rfl W11 4 rfl (Nat.le_of_ble_eq_true rfl)
  have V5 := V4
  have Kf : Keep h0 h11 [a] := (Ka.wr W10 (Or.inl (List.mem_singleton.mpr rfl))).wr W11 (Or.inr szb6)
  exact Goes.retV X11 hx hlk Bd.returns (hb hby da4_59) (by rw [e11]; exact ⟨b6, k6, rfl, N11, Kf, szb6, Fn3, Fs3, V5⟩) (by first | decide | exact Nat.le_of_ble_eq_true rfl | assumption | (simp [Value.category]; done)) (by first | decide | exact Nat.le_of_ble_eq_true rfl | assumption | (simp [Value.category]; done))
theorem die_0 : decode prog_15_method_3_code 0 = .ok (.aload_n 0, 1) := by decide +kernel
theorem die_1 : decode prog_15_method_3_code 1 = .ok (.getfield 16, 3) := by decide +kernel
theorem die_4 : decode prog_15_method_3_code 4 = .ok (.ifCond .ne 7, 3) := by decide +kernel
theorem die_7 : decode prog_15_method_3_code 7 = .ok (.iconst 1, 1) := by decide +kernel
theorem die_8 : decode prog_15_method_3_code 8 = .ok (.goto 4, 3) := by decide +kernel
theorem die_11 : decode prog_15_method_3_code 11 = .ok (.iconst 0, 1) := by decide +kernel
theorem die_12 : decode prog_15_method_3_code 12 = .ok (.ireturn, 1) := by decide +kernel
theorem pd_ie : parseMethodDescriptor "()Z" = some ⟨[], some .boolean⟩ := by decide +kernel
theorem pn_ie : plainName "com/example/clear_plan/clearplan/grounding/FactList" = true := by first | (simp [plainName, overriddenIn]; done) | decide +kernel
def Q_ie (z : Int32) (h0 : Heap) (n0 : Nat) (v : Option Value) (h : Heap) (L : List Loc) : Prop := v = some (.int (if z = 0 then 1 else 0)) ∧ Fr n0 L ∧ h = h0
theorem ef_ie (m : MethodId) (a : Addr) : entryFrame m #[(.ref a)] 1 = mkF m 0 #[.val (.ref a)] [] := by first | (simp [entryFrame, mkF, argsToLocals, Value.category]; done) | rfl
set_option maxRecDepth 65536 in
set_option maxHeartbeats 40000000 in
theorem rm_ie (l : Launch) (Z : State) (a0 : Array Value) (hw : ∀ d ∈ tables_1, d.before a0 Z = true) (ws : List Jvm.Cond) (a : Addr) (z : Int32) (h0 : Heap) (n0 : Nat) (Z0 : n0 ≤ h0.size) (F2 : Fld Z h0 a "com/example/clear_plan/clearplan/grounding/FactList" "size" "I" (.int z)) :
    Ctr l Z (⟨"com/example/clear_plan/clearplan/grounding/FactList", "isEmpty", "()Z"⟩ : MethodName) prog_15_method_3_code 1 (some .boolean) ws ({ frames := 0, cells := 0, slots := 0, locals := 0 } : Room) #[(.ref a)] h0 (Q_ie z h0 n0) := by
  refine MetFree.of_bodySF (plainFor_of_name pn_ie) hisR ?_
  intro p e s m args below meth c s₁ Bd hml0 hP hK
  obtain ⟨rfl, hZ, hh⟩ := hP
  have hx := Bd.exec
  have hby := Bd.bytes
  have hlk : meth.locks = false := Bd.notSynchronized
  have hml : c.maxLocals = 1 := hml0
  have hown : s.vm.findClass "com/example/clear_plan/clearplan/grounding/FactList" = some m.cls := findClass_of_methodNamed Bd.named
  have hnm := (name_of_methodNamed Bd.named Bd.method).1
  have X0 : Stand p l e ({ frames := 0, cells := 0, slots := 0, locals := 0 } : Room) s m #[(.ref a)] below meth c s₁ [] 0 0 := Stand.of_body Bd
  have e0 : s₁.heap = h0 := by rw [← hh, Bd.state]; rfl
  have N0 := Fr.nil n0
  show Goes p e below (EndQ s (Q_ie z h0 n0) ({ frames := 0, cells := 0, slots := 0, locals := 0 } : Room).cells ({ frames := 0, cells := 0, slots := 0, locals := 0 } : Room).slots) (s₁.setTop (entryFrame m #[(.ref a)] 1))
  refine Goes.pre (S' := (s₁.setTop (mkF m 0 #[.val (.ref a)] []))) (fun _ k => castTop (ef_ie m a) k) ?_
  refine Goes.pre (S' := (s₁.setTop (mkF m 1 #[.val (.ref a)] [(.ref a)]))) (fun _ k => XS.aloadN X0.here hx rfl (hb hby die_0) rfl rfl k) ?_
  obtain ⟨T1, X1, e1, st1⟩ := getF X0 hx hZ hown (host := "") (Or.inl (hw _ (List.mem_of_getElem? (i := 19) rfl))) Via.refl e0 F2 (g := (mkF m 1 #[.val (.ref a)] [(.ref a)])) rfl rfl (hb hby die_1)
  refine Goes.pre (S' := (T1.setTop (mkF m 4 #[.val (.ref a)] [(.int z)]))) st1 ?_
  by_cases c4 : z = 0
  · skip
    refine Goes.pre (S' := (T1.setTop (mkF m 7 #[.val (.ref a)] []))) (fun _ k => XS.ifNo X1.here hx rfl (hb hby die_4) rfl (XT.i0_ne_f c4) k) ?_
    refine Goes.pre (S' := (T1.setTop (mkF m 8 #[.val (.ref a)] [(.int (1 : Int32))]))) (fun _ k => XS.iconst X1.here hx rfl (hb hby die_7) k) ?_
    refine Goes.pre (S' := (T1.setTop (mkF m 12 #[.val (.ref a)] [(.int (1 : Int32))]))) (fun _ k => XS.goto X1.here hx rfl (pc0 := 8) (pc' := 12) rfl (hb hby die_8) (by decide) (by decide) k) ?_
    exact Goes.retN X1 hx hlk (t := .boolean) Bd.returns (by simp) (hb hby die_12) ⟨by simp [c4]; rfl, N0, e1⟩ (by first | decide | exact Nat.le_of_ble_eq_true rfl | assumption | (simp [Value.category]; done)) (by first | decide | exact Nat.le_of_ble_eq_true rfl | assumption | (simp [Value.category]; done))
  · skip
    refine Goes.pre (S' := (T1.setTop (mkF m 11 #[.val (.ref a)] []))) (fun _ k => XS.ifYes X1.here hx rfl (pc0 := 4) (pc' := 11) rfl (hb hby die_4) rfl (XT.i0_ne_t c4) (by decide) (by decide) k) ?_
    refine Goes.pre (S' := (T1.setTop (mkF m 12 #[.val (.ref a)] [(.int (0 : Int32))]))) (fun _ k => XS.iconst X1.here hx rfl (hb hby die_11) k) ?_
    exact Goes.retN X1 hx hlk (t := .boolean) Bd.returns (by simp) (hb hby die_12) ⟨by simp [c4]; rfl, N0, e1⟩ (by first | decide | exact Nat.le_of_ble_eq_true rfl | assumption | (simp [Value.category]; done)) (by first | decide | exact Nat.le_of_ble_eq_true rfl | assumption | (simp [Value.category]; done))
theorem pn_law : plainName "com/example/clear_plan/clearplan/grounding/FactListIsEmptyPinLaw" = true := by first | (simp [plainName, overriddenIn]; done) | decide +kernel
def Q_law (h0 : Heap) (n0 : Nat) (v : Option Value) (h : Heap) (L : List Loc) : Prop := v = some (.int 1) ∧ Fr n0 L
theorem ef_law (m : MethodId) (i0 : Int32) (i1 : Int32) (i2 : Int32) (i3 : Int32) : entryFrame m #[(.int i0), (.int i1), (.int i2), (.int i3)] maxLocals = mkF m 0 #[.val (.int i0), .val (.int i1), .val (.int i2), .val (.int i3), .unset, .unset, .unset, .unset, .unset, .unset] [] := by first | (simp [entryFrame, mkF, argsToLocals, Value.category, maxLocals]; done) | rfl
set_option maxRecDepth 65536 in
set_option maxHeartbeats 40000000 in
theorem rm_law (l : Launch) (Z : State) (a0 : Array Value) (hw : ∀ d ∈ tables_1, d.before a0 Z = true) (ws : List Jvm.Cond) (i0 : Int32) (i1 : Int32) (i2 : Int32) (i3 : Int32) (bn : Addr) (kn : ClassId) (h0 : Heap) (n0 : Nat) (Z0 : n0 ≤ h0.size) (SN : Sta Z h0 "com/example/clear_plan/clearplan/grounding/FactList" "NONE" "[I" (.ref bn)) (VN : Arv Z h0 bn kn .int 0 [] (.int 0)) :
    Ctr l Z x code maxLocals ret ws room_1 #[(.int i0), (.int i1), (.int i2), (.int i3)] h0 (Q_law h0 n0) := by
  refine MetFree.of_bodySF (plainFor_of_name pn_law) hisR ?_
  intro p e s m args below meth c s₁ Bd hml0 hP hK
  obtain ⟨rfl, hZ, hh⟩ := hP
  have hx := Bd.exec
  have hby := Bd.bytes
  have hlk : meth.locks = false := Bd.notSynchronized
  have hml : c.maxLocals = 10 := hml0
  have hown : s.vm.findClass "com/example/clear_plan/clearplan/grounding/FactListIsEmptyPinLaw" = some m.cls := findClass_of_methodNamed Bd.named
  have hnm := (name_of_methodNamed Bd.named Bd.method).1
  have X0 : Stand p l e room_1 s m #[(.int i0), (.int i1), (.int i2), (.int i3)] below meth c s₁ [] 0 0 := Stand.of_body Bd
  have e0 : s₁.heap = h0 := by rw [← hh, Bd.state]; rfl
  have N0 := Fr.nil n0
  show Goes p e below (EndQ s (Q_law h0 n0) room_1.cells room_1.slots) (s₁.setTop (entryFrame m #[(.int i0), (.int i1), (.int i2), (.int i3)] maxLocals))
  refine Goes.pre (S' := (s₁.setTop (mkF m 0 #[.val (.int i0), .val (.int i1), .val (.int i2), .val (.int i3), .unset, .unset, .unset, .unset, .unset, .unset] []))) (fun _ k => castTop (ef_law m i0 i1 i2 i3) k) ?_
  have tail : ∀ (cnt t cut : Int32) (a : Addr) (TT : State) (LL : List Loc) (HH : Heap) (cc ss : Nat), Stand p l e room_1 s m #[(.int i0), (.int i1), (.int i2), (.int i3)] below meth c TT LL cc ss → TT.heap = HH → Fr n0 LL → n0 ≤ HH.size → Exa Z HH a "com/example/clear_plan/clearplan/grounding/FactList" → Fld Z HH a "com/example/clear_plan/clearplan/grounding/FactList" "size" "I" (.int cnt) → n0 ≤ a → cc ≤ 16 → ss ≤ 128 → Goes p e below (EndQ s (Q_law h0 n0) room_1.cells room_1.slots) (TT.setTop (mkF m 115 #[.val (.int i0), .val (.int i1), .val (.int i2), .val (.int i3), .val (.int cnt), .val (.int t), .val (.int cut), .val (.ref a), .val (.int (1 : Int32)), .unset] [])) := by
    intro cnt t cut a TT LL HH cc ss XX eX NX ZX EX FX gaX hcc hss
    refine Goes.pre (S' := (TT.setTop (mkF m 117 #[.val (.int i0), .val (.int i1), .val (.int i2), .val (.int i3), .val (.int cnt), .val (.int t), .val (.int cut), .val (.ref a), .val (.int (1 : Int32)), .unset] [(.int cut)]))) (fun _ k => XS.iload XX.here hx rfl (hb hby at_115) rfl k) ?_
    by_cases c117 : cut = 0
    · skip
      refine Goes.pre (S' := (TT.setTop (mkF m 127 #[.val (.int i0), .val (.int i1), .val (.int i2), .val (.int i3), .val (.int cnt), .val (.int t), .val (.int cut), .val (.ref a), .val (.int (1 : Int32)), .unset] []))) (fun _ k => XS.ifYes XX.here hx rfl (pc0 := 117) (pc' := 127) rfl (hb hby at_117) rfl (XT.i0_eq_t c117) (by decide) (by decide) k) ?_
      refine Goes.pre (S' := (TT.setTop (mkF m 129 #[.val (.int i0), .val (.int i1), .val (.int i2), .val (.int i3), .val (.int cnt), .val (.int t), .val (.int cut), .val (.ref a), .val (.int (1 : Int32)), .unset] [(.int cut)]))) (fun _ k => XS.iload XX.here hx rfl (hb hby at_127) rfl k) ?_
      refine Goes.pre (S' := (TT.setTop (mkF m 137 #[.val (.int i0), .val (.int i1), .val (.int i2), .val (.int i3), .val (.int cnt), .val (.int t), .val (.int cut), .val (.ref a), .val (.int (1 : Int32)), .unset] []))) (fun _ k => XS.ifYes XX.here hx rfl (pc0 := 129) (pc' := 137) rfl (hb hby at_129) rfl (XT.i0_eq_t c117) (by decide) (by decide) k) ?_
      refine Goes.pre (S' := (TT.setTop (mkF m 139 #[.val (.int i0), .val (.int i1), .val (.int i2), .val (.int i3), .val (.int cnt), .val (.int t), .val (.int cut), .val (.ref a), .val (.int (1 : Int32)), .unset] [(.int cnt)]))) (fun _ k => XS.iload XX.here hx rfl (hb hby at_137) rfl k) ?_
      refine Goes.pre (S' := (TT.setTop (mkF m 141 #[.val (.int i0), .val (.int i1), .val (.int i2), .val (.int i3), .val (.int cnt), .val (.int t), .val (.int cut), .val (.ref a), .val (.int (1 : Int32)), .val (.int cnt)] []))) (fun _ k => XS.istore XX.here hx rfl (hb hby at_139) rfl (l' := #[.val (.int i0), .val (.int i1), .val (.int i2), .val (.int i3), .val (.int cnt), .val (.int t), .val (.int cut), .val (.ref a), .val (.int (1 : Int32)), .val (.int cnt)]) rfl k) ?_
      refine Goes.pre (S' := (TT.setTop (mkF m 143 #[.val (.int i0), .val (.int i1), .val (.int i2), .val (.int i3), .val (.int cnt), .val (.int t), .val (.int cut), .val (.ref a), .val (.int (1 : Int32)), .val (.int cnt)] [(.int (1 : Int32))]))) (fun _ k => XS.iload XX.here hx rfl (hb hby at_141) rfl k) ?_
      refine Goes.pre (S' := (TT.setTop (mkF m 146 #[.val (.int i0), .val (.int i1), .val (.int i2), .val (.int i3), .val (.int cnt), .val (.int t), .val (.int cut), .val (.ref a), .val (.int (1 : Int32)), .val (.int cnt)] []))) (fun _ k => XS.ifNo XX.here hx rfl (hb hby at_143) rfl (XT.i0_eq_f (by decide)) k) ?_
      refine Goes.pre (S' := (TT.setTop (mkF m 148 #[.val (.int i0), .val (.int i1), .val (.int i2), .val (.int i3), .val (.int cnt), .val (.int t), .val (.int cut), .val (.ref a), .val (.int (1 : Int32)), .val (.int cnt)] [(.ref a)]))) (fun _ k => XS.aload XX.here hx rfl (hb hby at_146) rfl rfl k) ?_
      refine Goes.callV (y := (⟨"com/example/clear_plan/clearplan/grounding/FactList", "isEmpty", "()Z"⟩ : MethodName)) (C := "com/example/clear_plan/clearplan/grounding/FactList") XX hx hZ hown (hw _ (List.mem_of_getElem? (i := 14) rfl)) (hw _ (List.mem_of_getElem? (i := 15) rfl)) (hw _ (List.mem_of_getElem? (i := 17) rfl)) (hw _ (List.mem_of_getElem? (i := 16) rfl)) (hw _ (List.mem_of_getElem? (i := 3) rfl)) (hw _ (List.mem_of_getElem? (i := 18) rfl)) (by decide) eX EX (rm_ie l Z a0 hw [] a cnt HH n0 ZX FX) (by rw [hml]; rfl) [] [] pd_ie rfl rfl rfl (hb hby at_148) (by decide) (by first | decide | exact Nat.le_of_ble_eq_true rfl | assumption | (simp [Value.category]; done)) (by first | decide | exact Nat.le_of_ble_eq_true rfl | assumption | (simp [Value.category]; done)) (by first | decide | exact Nat.le_of_ble_eq_true rfl | assumption | (simp [Value.category]; done)) ?_
      intro T1 v1 L1 X1 q1
      obtain ⟨qv1, N1a, e1⟩ := q1
      have N1 := Fr.app NX N1a
      by_cases hz : cnt = 0
      · skip
        rw [if_pos hz] at qv1
        subst qv1
        show Goes p e below _ (T1.setTop (mkF m 151 #[.val (.int i0), .val (.int i1), .val (.int i2), .val (.int i3), .val (.int cnt), .val (.int t), .val (.int cut), .val (.ref a), .val (.int (1 : Int32)), .val (.int cnt)] [(.int (1 : Int32))]))
        refine Goes.pre (S' := (T1.setTop (mkF m 153 #[.val (.int i0), .val (.int i1), .val (.int i2), .val (.int i3), .val (.int cnt), .val (.int t), .val (.int cut), .val (.ref a), .val (.int (1 : Int32)), .val (.int cnt)] [(.int cnt), (.int (1 : Int32))]))) (fun _ k => XS.iload X1.here hx rfl (hb hby at_151) rfl k) ?_
        refine Goes.pre (S' := (T1.setTop (mkF m 156 #[.val (.int i0), .val (.int i1), .val (.int i2), .val (.int i3), .val (.int cnt), .val (.int t), .val (.int cut), .val (.ref a), .val (.int (1 : Int32)), .val (.int cnt)] [(.int (1 : Int32))]))) (fun _ k => XS.ifNo X1.here hx rfl (hb hby at_153) rfl (XT.i0_ne_f hz) k) ?_
        refine Goes.pre (S' := (T1.setTop (mkF m 157 #[.val (.int i0), .val (.int i1), .val (.int i2), .val (.int i3), .val (.int cnt), .val (.int t), .val (.int cut), .val (.ref a), .val (.int (1 : Int32)), .val (.int cnt)] [(.int (1 : Int32)), (.int (1 : Int32))]))) (fun _ k => XS.iconst X1.here hx rfl (hb hby at_156) k) ?_
        refine Goes.pre (S' := (T1.setTop (mkF m 161 #[.val (.int i0), .val (.int i1), .val (.int i2), .val (.int i3), .val (.int cnt), .val (.int t), .val (.int cut), .val (.ref a), .val (.int (1 : Int32)), .val (.int cnt)] [(.int (1 : Int32)), (.int (1 : Int32))]))) (fun _ k => XS.goto X1.here hx rfl (pc0 := 157) (pc' := 161) rfl (hb hby at_157) (by decide) (by decide) k) ?_
        refine Goes.pre (S' := (T1.setTop (mkF m 164 #[.val (.int i0), .val (.int i1), .val (.int i2), .val (.int i3), .val (.int cnt), .val (.int t), .val (.int cut), .val (.ref a), .val (.int (1 : Int32)), .val (.int cnt)] []))) (fun _ k => XS.icmpNo X1.here hx rfl (hb hby at_161) rfl (XT.ii_ne_f rfl) k) ?_
        refine Goes.pre (S' := (T1.setTop (mkF m 165 #[.val (.int i0), .val (.int i1), .val (.int i2), .val (.int i3), .val (.int cnt), .val (.int t), .val (.int cut), .val (.ref a), .val (.int (1 : Int32)), .val (.int cnt)] [(.int (1 : Int32))]))) (fun _ k => XS.iconst X1.here hx rfl (hb hby at_164) k) ?_
        refine Goes.pre (S' := (T1.setTop (mkF m 169 #[.val (.int i0), .val (.int i1), .val (.int i2), .val (.int i3), .val (.int cnt), .val (.int t), .val (.int cut), .val (.ref a), .val (.int (1 : Int32)), .val (.int cnt)] [(.int (1 : Int32))]))) (fun _ k => XS.goto X1.here hx rfl (pc0 := 165) (pc' := 169) rfl (hb hby at_165) (by decide) (by decide) k) ?_
        exact Goes.retN X1 hx hlk (t := .boolean) Bd.returns (by simp) (hb hby at_169) ⟨rfl, N1⟩ (by first | decide | exact Nat.le_of_ble_eq_true rfl | assumption | (simp [Value.category]; done)) (by first | decide | exact Nat.le_of_ble_eq_true rfl | assumption | (simp [Value.category]; done))
      · skip
        rw [if_neg hz] at qv1
        subst qv1
        show Goes p e below _ (T1.setTop (mkF m 151 #[.val (.int i0), .val (.int i1), .val (.int i2), .val (.int i3), .val (.int cnt), .val (.int t), .val (.int cut), .val (.ref a), .val (.int (1 : Int32)), .val (.int cnt)] [(.int (0 : Int32))]))
        refine Goes.pre (S' := (T1.setTop (mkF m 153 #[.val (.int i0), .val (.int i1), .val (.int i2), .val (.int i3), .val (.int cnt), .val (.int t), .val (.int cut), .val (.ref a), .val (.int (1 : Int32)), .val (.int cnt)] [(.int cnt), (.int (0 : Int32))]))) (fun _ k => XS.iload X1.here hx rfl (hb hby at_151) rfl k) ?_
        refine Goes.pre (S' := (T1.setTop (mkF m 160 #[.val (.int i0), .val (.int i1), .val (.int i2), .val (.int i3), .val (.int cnt), .val (.int t), .val (.int cut), .val (.ref a), .val (.int (1 : Int32)), .val (.int cnt)] [(.int (0 : Int32))]))) (fun _ k => XS.ifYes X1.here hx rfl (pc0 := 153) (pc' := 160) rfl (hb hby at_153) rfl (XT.i0_ne_t hz) (by decide) (by decide) k) ?_
        refine Goes.pre (S' := (T1.setTop (mkF m 161 #[.val (.int i0), .val (.int i1), .val (.int i2), .val (.int i3), .val (.int cnt), .val (.int t), .val (.int cut), .val (.ref a), .val (.int (1 : Int32)), .val (.int cnt)] [(.int (0 : Int32)), (.int (0 : Int32))]))) (fun _ k => XS.iconst X1.here hx rfl (hb hby at_160) k) ?_
        refine Goes.pre (S' := (T1.setTop (mkF m 164 #[.val (.int i0), .val (.int i1), .val (.int i2), .val (.int i3), .val (.int cnt), .val (.int t), .val (.int cut), .val (.ref a), .val (.int (1 : Int32)), .val (.int cnt)] []))) (fun _ k => XS.icmpNo X1.here hx rfl (hb hby at_161) rfl (XT.ii_ne_f rfl) k) ?_
        refine Goes.pre (S' := (T1.setTop (mkF m 165 #[.val (.int i0), .val (.int i1), .val (.int i2), .val (.int i3), .val (.int cnt), .val (.int t), .val (.int cut), .val (.ref a), .val (.int (1 : Int32)), .val (.int cnt)] [(.int (1 : Int32))]))) (fun _ k => XS.iconst X1.here hx rfl (hb hby at_164) k) ?_
        refine Goes.pre (S' := (T1.setTop (mkF m 169 #[.val (.int i0), .val (.int i1), .val (.int i2), .val (.int i3), .val (.int cnt), .val (.int t), .val (.int cut), .val (.ref a), .val (.int (1 : Int32)), .val (.int cnt)] [(.int (1 : Int32))]))) (fun _ k => XS.goto X1.here hx rfl (pc0 := 165) (pc' := 169) rfl (hb hby at_165) (by decide) (by decide) k) ?_
        exact Goes.retN X1 hx hlk (t := .boolean) Bd.returns (by simp) (hb hby at_169) ⟨rfl, N1⟩ (by first | decide | exact Nat.le_of_ble_eq_true rfl | assumption | (simp [Value.category]; done)) (by first | decide | exact Nat.le_of_ble_eq_true rfl | assumption | (simp [Value.category]; done))
    · skip
      refine Goes.pre (S' := (TT.setTop (mkF m 120 #[.val (.int i0), .val (.int i1), .val (.int i2), .val (.int i3), .val (.int cnt), .val (.int t), .val (.int cut), .val (.ref a), .val (.int (1 : Int32)), .unset] []))) (fun _ k => XS.ifNo XX.here hx rfl (hb hby at_117) rfl (XT.i0_eq_f c117) k) ?_
      refine Goes.pre (S' := (TT.setTop (mkF m 122 #[.val (.int i0), .val (.int i1), .val (.int i2), .val (.int i3), .val (.int cnt), .val (.int t), .val (.int cut), .val (.ref a), .val (.int (1 : Int32)), .unset] [(.ref a)]))) (fun _ k => XS.aload XX.here hx rfl (hb hby at_120) rfl rfl k) ?_
      refine Goes.pre (S' := (TT.setTop (mkF m 124 #[.val (.int i0), .val (.int i1), .val (.int i2), .val (.int i3), .val (.int cnt), .val (.int t), .val (.int cut), .val (.ref a), .val (.int (1 : Int32)), .unset] [(.int t), (.ref a)]))) (fun _ k => XS.iload XX.here hx rfl (hb hby at_122) rfl k) ?_
      refine Goes.callV (y := (⟨"com/example/clear_plan/clearplan/grounding/FactList", "truncate", "(I)V"⟩ : MethodName)) (C := "com/example/clear_plan/clearplan/grounding/FactList") XX hx hZ hown (hw _ (List.mem_of_getElem? (i := 27) rfl)) (hw _ (List.mem_of_getElem? (i := 28) rfl)) (hw _ (List.mem_of_getElem? (i := 30) rfl)) (hw _ (List.mem_of_getElem? (i := 29) rfl)) (hw _ (List.mem_of_getElem? (i := 3) rfl)) (hw _ (List.mem_of_getElem? (i := 31) rfl)) (by decide) eX EX (rm_tr l Z a0 hw [] a t cnt HH n0 ZX FX EX gaX) (by rw [hml]; rfl) [(.int t)] [] pd_tr rfl rfl rfl (hb hby at_124) (by decide) (by first | decide | exact Nat.le_of_ble_eq_true rfl | assumption | (simp [Value.category]; done)) (by first | decide | exact Nat.le_of_ble_eq_true rfl | assumption | (simp [Value.category]; done)) (by first | decide | exact Nat.le_of_ble_eq_true rfl | assumption | (simp [Value.category]; done)) ?_
      intro T2 v2 L2 X2 q2
      obtain ⟨rfl, N2a, K2, F2, -⟩ := q2
      have N2 := Fr.app NX N2a
      have Zn2 : n0 ≤ T2.heap.size := Nat.le_trans ZX K2.1
      have Ex2 := EX.keep K2
      show Goes p e below _ (T2.setTop (mkF m 127 #[.val (.int i0), .val (.int i1), .val (.int i2), .val (.int i3), .val (.int cnt), .val (.int t), .val (.int cut), .val (.ref a), .val (.int (1 : Int32)), .unset] []))
      refine Goes.pre (S' := (T2.setTop (mkF m 129 #[.val (.int i0), .val (.int i1), .val (.int i2), .val (.int i3), .val (.int cnt), .val (.int t), .val (.int cut), .val (.ref a), .val (.int (1 : Int32)), .unset] [(.int cut)]))) (fun _ k => XS.iload X2.here hx rfl (hb hby at_127) rfl k) ?_
      refine Goes.pre (S' := (T2.setTop (mkF m 132 #[.val (.int i0), .val (.int i1), .val (.int i2), .val (.int i3), .val (.int cnt), .val (.int t), .val (.int cut), .val (.ref a), .val (.int (1 : Int32)), .unset] []))) (fun _ k => XS.ifNo X2.here hx rfl (hb hby at_129) rfl (XT.i0_eq_f c117) k) ?_
      refine Goes.pre (S' := (T2.setTop (mkF m 134 #[.val (.int i0), .val (.int i1), .val (.int i2), .val (.int i3), .val (.int cnt), .val (.int t), .val (.int cut), .val (.ref a), .val (.int (1 : Int32)), .unset] [(.int t)]))) (fun _ k => XS.iload X2.here hx rfl (hb hby at_132) rfl k) ?_
      refine Goes.pre (S' := (T2.setTop (mkF m 139 #[.val (.int i0), .val (.int i1), .val (.int i2), .val (.int i3), .val (.int cnt), .val (.int t), .val (.int cut), .val (.ref a), .val (.int (1 : Int32)), .unset] [(.int t)]))) (fun _ k => XS.goto X2.here hx rfl (pc0 := 134) (pc' := 139) rfl (hb hby at_134) (by decide) (by decide) k) ?_
      refine Goes.pre (S' := (T2.setTop (mkF m 141 #[.val (.int i0), .val (.int i1), .val (.int i2), .val (.int i3), .val (.int cnt), .val (.int t), .val (.int cut), .val (.ref a), .val (.int (1 : Int32)), .val (.int t)] []))) (fun _ k => XS.istore X2.here hx rfl (hb hby at_139) rfl (l' := #[.val (.int i0), .val (.int i1), .val (.int i2), .val (.int i3), .val (.int cnt), .val (.int t), .val (.int cut), .val (.ref a), .val (.int (1 : Int32)), .val (.int t)]) rfl k) ?_
      refine Goes.pre (S' := (T2.setTop (mkF m 143 #[.val (.int i0), .val (.int i1), .val (.int i2), .val (.int i3), .val (.int cnt), .val (.int t), .val (.int cut), .val (.ref a), .val (.int (1 : Int32)), .val (.int t)] [(.int (1 : Int32))]))) (fun _ k => XS.iload X2.here hx rfl (hb hby at_141) rfl k) ?_
      refine Goes.pre (S' := (T2.setTop (mkF m 146 #[.val (.int i0), .val (.int i1), .val (.int i2), .val (.int i3), .val (.int cnt), .val (.int t), .val (.int cut), .val (.ref a), .val (.int (1 : Int32)), .val (.int t)] []))) (fun _ k => XS.ifNo X2.here hx rfl (hb hby at_143) rfl (XT.i0_eq_f (by decide)) k) ?_
      refine Goes.pre (S' := (T2.setTop (mkF m 148 #[.val (.int i0), .val (.int i1), .val (.int i2), .val (.int i3), .val (.int cnt), .val (.int t), .val (.int cut), .val (.ref a), .val (.int (1 : Int32)), .val (.int t)] [(.ref a)]))) (fun _ k => XS.aload X2.here hx rfl (hb hby at_146) rfl rfl k) ?_
      refine Goes.callV (y := (⟨"com/example/clear_plan/clearplan/grounding/FactList", "isEmpty", "()Z"⟩ : MethodName)) (C := "com/example/clear_plan/clearplan/grounding/FactList") X2 hx hZ hown (hw _ (List.mem_of_getElem? (i := 14) rfl)) (hw _ (List.mem_of_getElem? (i := 15) rfl)) (hw _ (List.mem_of_getElem? (i := 17) rfl)) (hw _ (List.mem_of_getElem? (i := 16) rfl)) (hw _ (List.mem_of_getElem? (i := 3) rfl)) (hw _ (List.mem_of_getElem? (i := 18) rfl)) (by decide) rfl Ex2 (rm_ie l Z a0 hw [] a t T2.heap n0 Zn2 F2) (by rw [hml]; rfl) [] [] pd_ie rfl rfl rfl (hb hby at_148) (by decide) (by first | decide | exact Nat.le_of_ble_eq_true rfl | assumption | (simp [Value.category]; done)) (by first | decide | exact Nat.le_of_ble_eq_true rfl | assumption | (simp [Value.category]; done)) (by first | decide | exact Nat.le_of_ble_eq_true rfl | assumption | (simp [Value.category]; done)) ?_
      intro T3 v3 L3 X3 q3
      obtain ⟨qv3, N3a, e3⟩ := q3
      have N3 := Fr.app N2 N3a
      by_cases hz : t = 0
      · skip
        rw [if_pos hz] at qv3
        subst qv3
        show Goes p e below _ (T3.setTop (mkF m 151 #[.val (.int i0), .val (.int i1), .val (.int i2), .val (.int i3), .val (.int cnt), .val (.int t), .val (.int cut), .val (.ref a), .val (.int (1 : Int32)), .val (.int t)] [(.int (1 : Int32))]))
        refine Goes.pre (S' := (T3.setTop (mkF m 153 #[.val (.int i0), .val (.int i1), .val (.int i2), .val (.int i3), .val (.int cnt), .val (.int t), .val (.int cut), .val (.ref a), .val (.int (1 : Int32)), .val (.int t)] [(.int t), (.int (1 : Int32))]))) (fun _ k => XS.iload X3.here hx rfl (hb hby at_151) rfl k) ?_
        refine Goes.pre (S' := (T3.setTop (mkF m 156 #[.val (.int i0), .val (.int i1), .val (.int i2), .val (.int i3), .val (.int cnt), .val (.int t), .val (.int cut), .val (.ref a), .val (.int (1 : Int32)), .val (.int t)] [(.int (1 : Int32))]))) (fun _ k => XS.ifNo X3.here hx rfl (hb hby at_153) rfl (XT.i0_ne_f hz) k) ?_
        refine Goes.pre (S' := (T3.setTop (mkF m 157 #[.val (.int i0), .val (.int i1), .val (.int i2), .val (.int i3), .val (.int cnt), .val (.int t), .val (.int cut), .val (.ref a), .val (.int (1 : Int32)), .val (.int t)] [(.int (1 : Int32)), (.int (1 : Int32))]))) (fun _ k => XS.iconst X3.here hx rfl (hb hby at_156) k) ?_
        refine Goes.pre (S' := (T3.setTop (mkF m 161 #[.val (.int i0), .val (.int i1), .val (.int i2), .val (.int i3), .val (.int cnt), .val (.int t), .val (.int cut), .val (.ref a), .val (.int (1 : Int32)), .val (.int t)] [(.int (1 : Int32)), (.int (1 : Int32))]))) (fun _ k => XS.goto X3.here hx rfl (pc0 := 157) (pc' := 161) rfl (hb hby at_157) (by decide) (by decide) k) ?_
        refine Goes.pre (S' := (T3.setTop (mkF m 164 #[.val (.int i0), .val (.int i1), .val (.int i2), .val (.int i3), .val (.int cnt), .val (.int t), .val (.int cut), .val (.ref a), .val (.int (1 : Int32)), .val (.int t)] []))) (fun _ k => XS.icmpNo X3.here hx rfl (hb hby at_161) rfl (XT.ii_ne_f rfl) k) ?_
        refine Goes.pre (S' := (T3.setTop (mkF m 165 #[.val (.int i0), .val (.int i1), .val (.int i2), .val (.int i3), .val (.int cnt), .val (.int t), .val (.int cut), .val (.ref a), .val (.int (1 : Int32)), .val (.int t)] [(.int (1 : Int32))]))) (fun _ k => XS.iconst X3.here hx rfl (hb hby at_164) k) ?_
        refine Goes.pre (S' := (T3.setTop (mkF m 169 #[.val (.int i0), .val (.int i1), .val (.int i2), .val (.int i3), .val (.int cnt), .val (.int t), .val (.int cut), .val (.ref a), .val (.int (1 : Int32)), .val (.int t)] [(.int (1 : Int32))]))) (fun _ k => XS.goto X3.here hx rfl (pc0 := 165) (pc' := 169) rfl (hb hby at_165) (by decide) (by decide) k) ?_
        exact Goes.retN X3 hx hlk (t := .boolean) Bd.returns (by simp) (hb hby at_169) ⟨rfl, N3⟩ (by first | decide | exact Nat.le_of_ble_eq_true rfl | assumption | (simp [Value.category]; done)) (by first | decide | exact Nat.le_of_ble_eq_true rfl | assumption | (simp [Value.category]; done))
      · skip
        rw [if_neg hz] at qv3
        subst qv3
        show Goes p e below _ (T3.setTop (mkF m 151 #[.val (.int i0), .val (.int i1), .val (.int i2), .val (.int i3), .val (.int cnt), .val (.int t), .val (.int cut), .val (.ref a), .val (.int (1 : Int32)), .val (.int t)] [(.int (0 : Int32))]))
        refine Goes.pre (S' := (T3.setTop (mkF m 153 #[.val (.int i0), .val (.int i1), .val (.int i2), .val (.int i3), .val (.int cnt), .val (.int t), .val (.int cut), .val (.ref a), .val (.int (1 : Int32)), .val (.int t)] [(.int t), (.int (0 : Int32))]))) (fun _ k => XS.iload X3.here hx rfl (hb hby at_151) rfl k) ?_
        refine Goes.pre (S' := (T3.setTop (mkF m 160 #[.val (.int i0), .val (.int i1), .val (.int i2), .val (.int i3), .val (.int cnt), .val (.int t), .val (.int cut), .val (.ref a), .val (.int (1 : Int32)), .val (.int t)] [(.int (0 : Int32))]))) (fun _ k => XS.ifYes X3.here hx rfl (pc0 := 153) (pc' := 160) rfl (hb hby at_153) rfl (XT.i0_ne_t hz) (by decide) (by decide) k) ?_
        refine Goes.pre (S' := (T3.setTop (mkF m 161 #[.val (.int i0), .val (.int i1), .val (.int i2), .val (.int i3), .val (.int cnt), .val (.int t), .val (.int cut), .val (.ref a), .val (.int (1 : Int32)), .val (.int t)] [(.int (0 : Int32)), (.int (0 : Int32))]))) (fun _ k => XS.iconst X3.here hx rfl (hb hby at_160) k) ?_
        refine Goes.pre (S' := (T3.setTop (mkF m 164 #[.val (.int i0), .val (.int i1), .val (.int i2), .val (.int i3), .val (.int cnt), .val (.int t), .val (.int cut), .val (.ref a), .val (.int (1 : Int32)), .val (.int t)] []))) (fun _ k => XS.icmpNo X3.here hx rfl (hb hby at_161) rfl (XT.ii_ne_f rfl) k) ?_
        refine Goes.pre (S' := (T3.setTop (mkF m 165 #[.val (.int i0), .val (.int i1), .val (.int i2), .val (.int i3), .val (.int cnt), .val (.int t), .val (.int cut), .val (.ref a), .val (.int (1 : Int32)), .val (.int t)] [(.int (1 : Int32))]))) (fun _ k => XS.iconst X3.here hx rfl (hb hby at_164) k) ?_
        refine Goes.pre (S' := (T3.setTop (mkF m 169 #[.val (.int i0), .val (.int i1), .val (.int i2), .val (.int i3), .val (.int cnt), .val (.int t), .val (.int cut), .val (.ref a), .val (.int (1 : Int32)), .val (.int t)] [(.int (1 : Int32))]))) (fun _ k => XS.goto X3.here hx rfl (pc0 := 165) (pc' := 169) rfl (hb hby at_165) (by decide) (by decide) k) ?_
        exact Goes.retN X3 hx hlk (t := .boolean) Bd.returns (by simp) (hb hby at_169) ⟨rfl, N3⟩ (by first | decide | exact Nat.le_of_ble_eq_true rfl | assumption | (simp [Value.category]; done)) (by first | decide | exact Nat.le_of_ble_eq_true rfl | assumption | (simp [Value.category]; done))
  obtain ⟨hc0, hc6⟩ := own_rem (i0 &&& 2147483647) 6 (own_mask31 i0) (by decide)
  refine Goes.pre (S' := (s₁.setTop (mkF m 1 #[.val (.int i0), .val (.int i1), .val (.int i2), .val (.int i3), .unset, .unset, .unset, .unset, .unset, .unset] [(.int i0)]))) (fun _ k => XS.iloadN X0.here hx rfl (hb hby at_0) rfl k) ?_
  refine Goes.pre (S' := (s₁.setTop (mkF m 3 #[.val (.int i0), .val (.int i1), .val (.int i2), .val (.int i3), .unset, .unset, .unset, .unset, .unset, .unset] [(.int (2147483647 : Int32)), (.int i0)]))) (fun _ k => Jvm.Stand.ldcI X0 hx hown (mvT hZ (hw _ (List.mem_of_getElem? (i := 0) rfl))) rfl (hb hby at_1) k) ?_
  refine Goes.pre (S' := (s₁.setTop (mkF m 4 #[.val (.int i0), .val (.int i1), .val (.int i2), .val (.int i3), .unset, .unset, .unset, .unset, .unset, .unset] [(.int (i0 &&& (2147483647 : Int32)))]))) (fun _ k => XS.iand X0.here hx rfl (hb hby at_3) rfl k) ?_
  refine Goes.pre (S' := (s₁.setTop (mkF m 6 #[.val (.int i0), .val (.int i1), .val (.int i2), .val (.int i3), .unset, .unset, .unset, .unset, .unset, .unset] [(.int (6 : Int32)), (.int (i0 &&& (2147483647 : Int32)))]))) (fun _ k => XS.bipush X0.here hx rfl (hb hby at_4) k) ?_
  refine Goes.pre (S' := (s₁.setTop (mkF m 7 #[.val (.int i0), .val (.int i1), .val (.int i2), .val (.int i3), .unset, .unset, .unset, .unset, .unset, .unset] [(.int ((i0 &&& (2147483647 : Int32)) % (6 : Int32)))]))) (fun _ k => iremM X0 hx rfl (hb hby at_6) rfl (by decide) k) ?_
  refine Goes.pre (S' := (s₁.setTop (mkF m 9 #[.val (.int i0), .val (.int i1), .val (.int i2), .val (.int i3), .val (.int ((i0 &&& (2147483647 : Int32)) % (6 : Int32))), .unset, .unset, .unset, .unset, .unset] []))) (fun _ k => XS.istore X0.here hx rfl (hb hby at_7) rfl (l' := #[.val (.int i0), .val (.int i1), .val (.int i2), .val (.int i3), .val (.int ((i0 &&& (2147483647 : Int32)) % (6 : Int32))), .unset, .unset, .unset, .unset, .unset]) rfl k) ?_
  refine Goes.pre (S' := (s₁.setTop (mkF m 10 #[.val (.int i0), .val (.int i1), .val (.int i2), .val (.int i3), .val (.int ((i0 &&& (2147483647 : Int32)) % (6 : Int32))), .unset, .unset, .unset, .unset, .unset] [(.int i1)]))) (fun _ k => XS.iloadN X0.here hx rfl (hb hby at_9) rfl k) ?_
  refine Goes.pre (S' := (s₁.setTop (mkF m 12 #[.val (.int i0), .val (.int i1), .val (.int i2), .val (.int i3), .val (.int ((i0 &&& (2147483647 : Int32)) % (6 : Int32))), .unset, .unset, .unset, .unset, .unset] [(.int (2147483647 : Int32)), (.int i1)]))) (fun _ k => Jvm.Stand.ldcI X0 hx hown (mvT hZ (hw _ (List.mem_of_getElem? (i := 0) rfl))) rfl (hb hby at_10) k) ?_
  refine Goes.pre (S' := (s₁.setTop (mkF m 13 #[.val (.int i0), .val (.int i1), .val (.int i2), .val (.int i3), .val (.int ((i0 &&& (2147483647 : Int32)) % (6 : Int32))), .unset, .unset, .unset, .unset, .unset] [(.int (i1 &&& (2147483647 : Int32)))]))) (fun _ k => XS.iand X0.here hx rfl (hb hby at_12) rfl k) ?_
  refine Goes.pre (S' := (s₁.setTop (mkF m 15 #[.val (.int i0), .val (.int i1), .val (.int i2), .val (.int i3), .val (.int ((i0 &&& (2147483647 : Int32)) % (6 : Int32))), .unset, .unset, .unset, .unset, .unset] [(.int ((i0 &&& (2147483647 : Int32)) % (6 : Int32))), (.int (i1 &&& (2147483647 : Int32)))]))) (fun _ k => XS.iload X0.here hx rfl (hb hby at_13) rfl k) ?_
  refine Goes.pre (S' := (s₁.setTop (mkF m 16 #[.val (.int i0), .val (.int i1), .val (.int i2), .val (.int i3), .val (.int ((i0 &&& (2147483647 : Int32)) % (6 : Int32))), .unset, .unset, .unset, .unset, .unset] [(.int (1 : Int32)), (.int ((i0 &&& (2147483647 : Int32)) % (6 : Int32))), (.int (i1 &&& (2147483647 : Int32)))]))) (fun _ k => XS.iconst X0.here hx rfl (hb hby at_15) k) ?_
  refine Goes.pre (S' := (s₁.setTop (mkF m 17 #[.val (.int i0), .val (.int i1), .val (.int i2), .val (.int i3), .val (.int ((i0 &&& (2147483647 : Int32)) % (6 : Int32))), .unset, .unset, .unset, .unset, .unset] [(.int (((i0 &&& (2147483647 : Int32)) % (6 : Int32)) + (1 : Int32))), (.int (i1 &&& (2147483647 : Int32)))]))) (fun _ k => XS.iadd X0.here hx rfl (hb hby at_16) rfl k) ?_
  refine Goes.pre (S' := (s₁.setTop (mkF m 18 #[.val (.int i0), .val (.int i1), .val (.int i2), .val (.int i3), .val (.int ((i0 &&& (2147483647 : Int32)) % (6 : Int32))), .unset, .unset, .unset, .unset, .unset] [(.int ((i1 &&& (2147483647 : Int32)) % (((i0 &&& (2147483647 : Int32)) % (6 : Int32)) + (1 : Int32))))]))) (fun _ k => iremM X0 hx rfl (hb hby at_17) rfl (own_pos1 hc0 hc6) k) ?_
  refine Goes.pre (S' := (s₁.setTop (mkF m 20 #[.val (.int i0), .val (.int i1), .val (.int i2), .val (.int i3), .val (.int ((i0 &&& (2147483647 : Int32)) % (6 : Int32))), .val (.int ((i1 &&& (2147483647 : Int32)) % (((i0 &&& (2147483647 : Int32)) % (6 : Int32)) + (1 : Int32)))), .unset, .unset, .unset, .unset] []))) (fun _ k => XS.istore X0.here hx rfl (hb hby at_18) rfl (l' := #[.val (.int i0), .val (.int i1), .val (.int i2), .val (.int i3), .val (.int ((i0 &&& (2147483647 : Int32)) % (6 : Int32))), .val (.int ((i1 &&& (2147483647 : Int32)) % (((i0 &&& (2147483647 : Int32)) % (6 : Int32)) + (1 : Int32)))), .unset, .unset, .unset, .unset]) rfl k) ?_
  refine Goes.pre (S' := (s₁.setTop (mkF m 21 #[.val (.int i0), .val (.int i1), .val (.int i2), .val (.int i3), .val (.int ((i0 &&& (2147483647 : Int32)) % (6 : Int32))), .val (.int ((i1 &&& (2147483647 : Int32)) % (((i0 &&& (2147483647 : Int32)) % (6 : Int32)) + (1 : Int32)))), .unset, .unset, .unset, .unset] [(.int i2)]))) (fun _ k => XS.iloadN X0.here hx rfl (hb hby at_20) rfl k) ?_
  refine Goes.pre (S' := (s₁.setTop (mkF m 22 #[.val (.int i0), .val (.int i1), .val (.int i2), .val (.int i3), .val (.int ((i0 &&& (2147483647 : Int32)) % (6 : Int32))), .val (.int ((i1 &&& (2147483647 : Int32)) % (((i0 &&& (2147483647 : Int32)) % (6 : Int32)) + (1 : Int32)))), .unset, .unset, .unset, .unset] [(.int (1 : Int32)), (.int i2)]))) (fun _ k => XS.iconst X0.here hx rfl (hb hby at_21) k) ?_
  refine Goes.pre (S' := (s₁.setTop (mkF m 23 #[.val (.int i0), .val (.int i1), .val (.int i2), .val (.int i3), .val (.int ((i0 &&& (2147483647 : Int32)) % (6 : Int32))), .val (.int ((i1 &&& (2147483647 : Int32)) % (((i0 &&& (2147483647 : Int32)) % (6 : Int32)) + (1 : Int32)))), .unset, .unset, .unset, .unset] [(.int (i2 &&& (1 : Int32)))]))) (fun _ k => XS.iand X0.here hx rfl (hb hby at_22) rfl k) ?_
  have mid : ∀ (cut : Int32), Goes p e below (EndQ s (Q_law h0 n0) room_1.cells room_1.slots) (s₁.setTop (mkF m 33 #[.val (.int i0), .val (.int i1), .val (.int i2), .val (.int i3), .val (.int ((i0 &&& (2147483647 : Int32)) % (6 : Int32))), .val (.int ((i1 &&& (2147483647 : Int32)) % (((i0 &&& (2147483647 : Int32)) % (6 : Int32)) + (1 : Int32)))), .val (.int cut), .unset, .unset, .unset] [])) := by
    intro cut
    obtain ⟨T4, h4, X4, e4, E4, A4, D4, U4, st4⟩ := newO X0 hx hZ hown (hw _ (List.mem_of_getElem? (i := 1) rfl)) (hw _ (List.mem_of_getElem? (i := 2) rfl)) (hw _ (List.mem_of_getElem? (i := 3) rfl)) e0 (g := (mkF m 33 #[.val (.int i0), .val (.int i1), .val (.int i2), .val (.int i3), .val (.int ((i0 &&& (2147483647 : Int32)) % (6 : Int32))), .val (.int ((i1 &&& (2147483647 : Int32)) % (((i0 &&& (2147483647 : Int32)) % (6 : Int32)) + (1 : Int32)))), .val (.int cut), .unset, .unset, .unset] [])) rfl (hb hby at_33) (by decide) (by decide)
    obtain ⟨a4, g4⟩ : ∃ z, z = h0.size := ⟨_, rfl⟩
    rw [← g4] at A4 D4 st4
    have ga4 : n0 ≤ a4 := Nat.le_trans Z0 (Nat.le_of_eq g4.symm)
    have Zn4 : n0 ≤ h4.size := Nat.le_trans Z0 E4.1
    refine Goes.pre (S' := (T4.setTop (mkF m 36 #[.val (.int i0), .val (.int i1), .val (.int i2), .val (.int i3), .val (.int ((i0 &&& (2147483647 : Int32)) % (6 : Int32))), .val (.int ((i1 &&& (2147483647 : Int32)) % (((i0 &&& (2147483647 : Int32)) % (6 : Int32)) + (1 : Int32)))), .val (.int cut), .unset, .unset, .unset] [(.ref a4)]))) st4 ?_
    have Fi1 : Fld Z h4 a4 "com/example/clear_plan/clearplan/grounding/FactList" "numbers" "[I" .null := D4 (Or.inl (hw _ (List.mem_of_getElem? (i := 13) rfl))) (ty := .array .int) (by decide)
    have Fi2 : Fld Z h4 a4 "com/example/clear_plan/clearplan/grounding/FactList" "size" "I" (.int (0 : Int32)) := D4 (Or.inl (hw _ (List.mem_of_getElem? (i := 20) rfl))) (ty := .int) (by decide)
    have SN1 := SN.ext E4
    have VN1 := VN.ext E4
    refine Goes.pre (S' := (T4.setTop (mkF m 37 #[.val (.int i0), .val (.int i1), .val (.int i2), .val (.int i3), .val (.int ((i0 &&& (2147483647 : Int32)) % (6 : Int32))), .val (.int ((i1 &&& (2147483647 : Int32)) % (((i0 &&& (2147483647 : Int32)) % (6 : Int32)) + (1 : Int32)))), .val (.int cut), .unset, .unset, .unset] [(.ref a4), (.ref a4)]))) (fun _ k => XS.dup X4.here hx rfl (hb hby at_36) rfl rfl k) ?_
    refine Goes.init (y := (⟨"com/example/clear_plan/clearplan/grounding/FactList", "<init>", "()V"⟩ : MethodName)) X4 hx hZ hown rfl (hw _ (List.mem_of_getElem? (i := 4) rfl)) (hw _ (List.mem_of_getElem? (i := 5) rfl)) (hw _ (List.mem_of_getElem? (i := 3) rfl)) (hw _ (List.mem_of_getElem? (i := 6) rfl)) (by decide) e4 (rm_in l Z a0 hw [] a4 bn h4 n0 Zn4 SN1 Fi1 Fi2 A4 ga4) (by rw [hml]; rfl) a4 [] [(.ref a4)] pd_in rfl rfl rfl (hb hby at_37) (by decide) (by first | decide | exact Nat.le_of_ble_eq_true rfl | assumption | (simp [Value.category]; done)) (by first | decide | exact Nat.le_of_ble_eq_true rfl | assumption | (simp [Value.category]; done)) (by first | decide | exact Nat.le_of_ble_eq_true rfl | assumption | (simp [Value.category]; done)) ?_
    intro T5 v5 L5 X5 q5
    obtain ⟨rfl, N5a, K5, Fn5, Fs5⟩ := q5
    have N5 := Fr.app N0 N5a
    have nab : bn ≠ a4 := own_neLt VN.lt (Nat.le_of_eq g4.symm)
    have VN2 := VN1.keep K5 (ninS nab nin0)
    have Zn5 : n0 ≤ T5.heap.size := Nat.le_trans Zn4 K5.1
    have Ex5 := A4.keep K5
    show Goes p e below _ (T5.setTop (mkF m 40 #[.val (.int i0), .val (.int i1), .val (.int i2), .val (.int i3), .val (.int ((i0 &&& (2147483647 : Int32)) % (6 : Int32))), .val (.int ((i1 &&& (2147483647 : Int32)) % (((i0 &&& (2147483647 : Int32)) % (6 : Int32)) + (1 : Int32)))), .val (.int cut), .unset, .unset, .unset] [(.ref a4)]))
    refine Goes.pre (S' := (T5.setTop (mkF m 42 #[.val (.int i0), .val (.int i1), .val (.int i2), .val (.int i3), .val (.int ((i0 &&& (2147483647 : Int32)) % (6 : Int32))), .val (.int ((i1 &&& (2147483647 : Int32)) % (((i0 &&& (2147483647 : Int32)) % (6 : Int32)) + (1 : Int32)))), .val (.int cut), .val (.ref a4), .unset, .unset] []))) (fun _ k => XS.astore X5.here hx rfl (hb hby at_40) rfl rfl (l' := #[.val (.int i0), .val (.int i1), .val (.int i2), .val (.int i3), .val (.int ((i0 &&& (2147483647 : Int32)) % (6 : Int32))), .val (.int ((i1 &&& (2147483647 : Int32)) % (((i0 &&& (2147483647 : Int32)) % (6 : Int32)) + (1 : Int32)))), .val (.int cut), .val (.ref a4), .unset, .unset]) rfl k) ?_
    refine Goes.pre (S' := (T5.setTop (mkF m 44 #[.val (.int i0), .val (.int i1), .val (.int i2), .val (.int i3), .val (.int ((i0 &&& (2147483647 : Int32)) % (6 : Int32))), .val (.int ((i1 &&& (2147483647 : Int32)) % (((i0 &&& (2147483647 : Int32)) % (6 : Int32)) + (1 : Int32)))), .val (.int cut), .val (.ref a4), .unset, .unset] [(.ref a4)]))) (fun _ k => XS.aload X5.here hx rfl (hb hby at_42) rfl rfl k) ?_
    refine Goes.callV (y := (⟨"com/example/clear_plan/clearplan/grounding/FactList", "isEmpty", "()Z"⟩ : MethodName)) (C := "com/example/clear_plan/clearplan/grounding/FactList") X5 hx hZ hown (hw _ (List.mem_of_getElem? (i := 14) rfl)) (hw _ (List.mem_of_getElem? (i := 15) rfl)) (hw _ (List.mem_of_getElem? (i := 17) rfl)) (hw _ (List.mem_of_getElem? (i := 16) rfl)) (hw _ (List.mem_of_getElem? (i := 3) rfl)) (hw _ (List.mem_of_getElem? (i := 18) rfl)) (by decide) rfl Ex5 (rm_ie l Z a0 hw [] a4 (0 : Int32) T5.heap n0 Zn5 Fs5) (by rw [hml]; rfl) [] [] pd_ie rfl rfl rfl (hb hby at_44) (by decide) (by first | decide | exact Nat.le_of_ble_eq_true rfl | assumption | (simp [Value.category]; done)) (by first | decide | exact Nat.le_of_ble_eq_true rfl | assumption | (simp [Value.category]; done)) (by first | decide | exact Nat.le_of_ble_eq_true rfl | assumption | (simp [Value.category]; done)) ?_
    intro T6 v6 L6 X6 q6
    obtain ⟨rfl, N6a, e6⟩ := q6
    have N6 := Fr.app N5 N6a
    show Goes p e below _ (T6.setTop (mkF m 47 #[.val (.int i0), .val (.int i1), .val (.int i2), .val (.int i3), .val (.int ((i0 &&& (2147483647 : Int32)) % (6 : Int32))), .val (.int ((i1 &&& (2147483647 : Int32)) % (((i0 &&& (2147483647 : Int32)) % (6 : Int32)) + (1 : Int32)))), .val (.int cut), .val (.ref a4), .unset, .unset] [(.int (1 : Int32))]))
    refine Goes.pre (S' := (T6.setTop (mkF m 49 #[.val (.int i0), .val (.int i1), .val (.int i2), .val (.int i3), .val (.int ((i0 &&& (2147483647 : Int32)) % (6 : Int32))), .val (.int ((i1 &&& (2147483647 : Int32)) % (((i0 &&& (2147483647 : Int32)) % (6 : Int32)) + (1 : Int32)))), .val (.int cut), .val (.ref a4), .val (.int (1 : Int32)), .unset] []))) (fun _ k => XS.istore X6.here hx rfl (hb hby at_47) rfl (l' := #[.val (.int i0), .val (.int i1), .val (.int i2), .val (.int i3), .val (.int ((i0 &&& (2147483647 : Int32)) % (6 : Int32))), .val (.int ((i1 &&& (2147483647 : Int32)) % (((i0 &&& (2147483647 : Int32)) % (6 : Int32)) + (1 : Int32)))), .val (.int cut), .val (.ref a4), .val (.int (1 : Int32)), .unset]) rfl k) ?_
    refine Goes.pre (S' := (T6.setTop (mkF m 51 #[.val (.int i0), .val (.int i1), .val (.int i2), .val (.int i3), .val (.int ((i0 &&& (2147483647 : Int32)) % (6 : Int32))), .val (.int ((i1 &&& (2147483647 : Int32)) % (((i0 &&& (2147483647 : Int32)) % (6 : Int32)) + (1 : Int32)))), .val (.int cut), .val (.ref a4), .val (.int (1 : Int32)), .unset] [(.int ((i0 &&& (2147483647 : Int32)) % (6 : Int32)))]))) (fun _ k => XS.iload X6.here hx rfl (hb hby at_49) rfl k) ?_
    rcases own_six hc0 hc6 with hq | hq | hq | hq | hq | hq
    · skip
      rw [hq]
      show Goes p e below _ (T6.setTop (mkF m 51 #[.val (.int i0), .val (.int i1), .val (.int i2), .val (.int i3), .val (.int (0 : Int32)), .val (.int ((i1 &&& (2147483647 : Int32)) % ((0 : Int32) + (1 : Int32)))), .val (.int cut), .val (.ref a4), .val (.int (1 : Int32)), .unset] [(.int (0 : Int32))]))
      refine Goes.pre (S' := (T6.setTop (mkF m 60 #[.val (.int i0), .val (.int i1), .val (.int i2), .val (.int i3), .val (.int (0 : Int32)), .val (.int ((i1 &&& (2147483647 : Int32)) % ((0 : Int32) + (1 : Int32)))), .val (.int cut), .val (.ref a4), .val (.int (1 : Int32)), .unset] []))) (fun _ k => XS.ifYes X6.here hx rfl (pc0 := 51) (pc' := 60) rfl (hb hby at_51) rfl (XT.i0_le_t (by decide)) (by decide) (by decide) k) ?_
      refine Goes.pre (S' := (T6.setTop (mkF m 62 #[.val (.int i0), .val (.int i1), .val (.int i2), .val (.int i3), .val (.int (0 : Int32)), .val (.int ((i1 &&& (2147483647 : Int32)) % ((0 : Int32) + (1 : Int32)))), .val (.int cut), .val (.ref a4), .val (.int (1 : Int32)), .unset] [(.int (0 : Int32))]))) (fun _ k => XS.iload X6.here hx rfl (hb hby at_60) rfl k) ?_
      refine Goes.pre (S' := (T6.setTop (mkF m 63 #[.val (.int i0), .val (.int i1), .val (.int i2), .val (.int i3), .val (.int (0 : Int32)), .val (.int ((i1 &&& (2147483647 : Int32)) % ((0 : Int32) + (1 : Int32)))), .val (.int cut), .val (.ref a4), .val (.int (1 : Int32)), .unset] [(.int (1 : Int32)), (.int (0 : Int32))]))) (fun _ k => XS.iconst X6.here hx rfl (hb hby at_62) k) ?_
      refine Goes.pre (S' := (T6.setTop (mkF m 74 #[.val (.int i0), .val (.int i1), .val (.int i2), .val (.int i3), .val (.int (0 : Int32)), .val (.int ((i1 &&& (2147483647 : Int32)) % ((0 : Int32) + (1 : Int32)))), .val (.int cut), .val (.ref a4), .val (.int (1 : Int32)), .unset] []))) (fun _ k => XS.icmpYes X6.here hx rfl (pc0 := 63) (pc' := 74) rfl (hb hby at_63) rfl (XT.ii_le_t (by decide)) (by decide) (by decide) k) ?_
      refine Goes.pre (S' := (T6.setTop (mkF m 76 #[.val (.int i0), .val (.int i1), .val (.int i2), .val (.int i3), .val (.int (0 : Int32)), .val (.int ((i1 &&& (2147483647 : Int32)) % ((0 : Int32) + (1 : Int32)))), .val (.int cut), .val (.ref a4), .val (.int (1 : Int32)), .unset] [(.int (0 : Int32))]))) (fun _ k => XS.iload X6.here hx rfl (hb hby at_74) rfl k) ?_
      refine Goes.pre (S' := (T6.setTop (mkF m 77 #[.val (.int i0), .val (.int i1), .val (.int i2), .val (.int i3), .val (.int (0 : Int32)), .val (.int ((i1 &&& (2147483647 : Int32)) % ((0 : Int32) + (1 : Int32)))), .val (.int cut), .val (.ref a4), .val (.int (1 : Int32)), .unset] [(.int (2 : Int32)), (.int (0 : Int32))]))) (fun _ k => XS.iconst X6.here hx rfl (hb hby at_76) k) ?_
      refine Goes.pre (S' := (T6.setTop (mkF m 88 #[.val (.int i0), .val (.int i1), .val (.int i2), .val (.int i3), .val (.int (0 : Int32)), .val (.int ((i1 &&& (2147483647 : Int32)) % ((0 : Int32) + (1 : Int32)))), .val (.int cut), .val (.ref a4), .val (.int (1 : Int32)), .unset] []))) (fun _ k => XS.icmpYes X6.here hx rfl (pc0 := 77) (pc' := 88) rfl (hb hby at_77) rfl (XT.ii_le_t (by decide)) (by decide) (by decide) k) ?_
      refine Goes.pre (S' := (T6.setTop (mkF m 90 #[.val (.int i0), .val (.int i1), .val (.int i2), .val (.int i3), .val (.int (0 : Int32)), .val (.int ((i1 &&& (2147483647 : Int32)) % ((0 : Int32) + (1 : Int32)))), .val (.int cut), .val (.ref a4), .val (.int (1 : Int32)), .unset] [(.int (0 : Int32))]))) (fun _ k => XS.iload X6.here hx rfl (hb hby at_88) rfl k) ?_
      refine Goes.pre (S' := (T6.setTop (mkF m 91 #[.val (.int i0), .val (.int i1), .val (.int i2), .val (.int i3), .val (.int (0 : Int32)), .val (.int ((i1 &&& (2147483647 : Int32)) % ((0 : Int32) + (1 : Int32)))), .val (.int cut), .val (.ref a4), .val (.int (1 : Int32)), .unset] [(.int (3 : Int32)), (.int (0 : Int32))]))) (fun _ k => XS.iconst X6.here hx rfl (hb hby at_90) k) ?_
      refine Goes.pre (S' := (T6.setTop (mkF m 102 #[.val (.int i0), .val (.int i1), .val (.int i2), .val (.int i3), .val (.int (0 : Int32)), .val (.int ((i1 &&& (2147483647 : Int32)) % ((0 : Int32) + (1 : Int32)))), .val (.int cut), .val (.ref a4), .val (.int (1 : Int32)), .unset] []))) (fun _ k => XS.icmpYes X6.here hx rfl (pc0 := 91) (pc' := 102) rfl (hb hby at_91) rfl (XT.ii_le_t (by decide)) (by decide) (by decide) k) ?_
      refine Goes.pre (S' := (T6.setTop (mkF m 104 #[.val (.int i0), .val (.int i1), .val (.int i2), .val (.int i3), .val (.int (0 : Int32)), .val (.int ((i1 &&& (2147483647 : Int32)) % ((0 : Int32) + (1 : Int32)))), .val (.int cut), .val (.ref a4), .val (.int (1 : Int32)), .unset] [(.int (0 : Int32))]))) (fun _ k => XS.iload X6.here hx rfl (hb hby at_102) rfl k) ?_
      refine Goes.pre (S' := (T6.setTop (mkF m 105 #[.val (.int i0), .val (.int i1), .val (.int i2), .val (.int i3), .val (.int (0 : Int32)), .val (.int ((i1 &&& (2147483647 : Int32)) % ((0 : Int32) + (1 : Int32)))), .val (.int cut), .val (.ref a4), .val (.int (1 : Int32)), .unset] [(.int (4 : Int32)), (.int (0 : Int32))]))) (fun _ k => XS.iconst X6.here hx rfl (hb hby at_104) k) ?_
      refine Goes.pre (S' := (T6.setTop (mkF m 115 #[.val (.int i0), .val (.int i1), .val (.int i2), .val (.int i3), .val (.int (0 : Int32)), .val (.int ((i1 &&& (2147483647 : Int32)) % ((0 : Int32) + (1 : Int32)))), .val (.int cut), .val (.ref a4), .val (.int (1 : Int32)), .unset] []))) (fun _ k => XS.icmpYes X6.here hx rfl (pc0 := 105) (pc' := 115) rfl (hb hby at_105) rfl (XT.ii_le_t (by decide)) (by decide) (by decide) k) ?_
      exact tail (0 : Int32) _ _ _ _ _ _ _ _ X6 e6 N6 Zn5 Ex5 Fs5 ga4 (by first | decide | exact Nat.le_of_ble_eq_true rfl | assumption | (simp [Value.category]; done)) (by first | decide | exact Nat.le_of_ble_eq_true rfl | assumption | (simp [Value.category]; done))
    · skip
      rw [hq]
      show Goes p e below _ (T6.setTop (mkF m 51 #[.val (.int i0), .val (.int i1), .val (.int i2), .val (.int i3), .val (.int (1 : Int32)), .val (.int ((i1 &&& (2147483647 : Int32)) % ((1 : Int32) + (1 : Int32)))), .val (.int cut), .val (.ref a4), .val (.int (1 : Int32)), .unset] [(.int (1 : Int32))]))
      refine Goes.pre (S' := (T6.setTop (mkF m 54 #[.val (.int i0), .val (.int i1), .val (.int i2), .val (.int i3), .val (.int (1 : Int32)), .val (.int ((i1 &&& (2147483647 : Int32)) % ((1 : Int32) + (1 : Int32)))), .val (.int cut), .val (.ref a4), .val (.int (1 : Int32)), .unset] []))) (fun _ k => XS.ifNo X6.here hx rfl (hb hby at_51) rfl (XT.i0_le_f (by decide)) k) ?_
      refine Goes.pre (S' := (T6.setTop (mkF m 56 #[.val (.int i0), .val (.int i1), .val (.int i2), .val (.int i3), .val (.int (1 : Int32)), .val (.int ((i1 &&& (2147483647 : Int32)) % ((1 : Int32) + (1 : Int32)))), .val (.int cut), .val (.ref a4), .val (.int (1 : Int32)), .unset] [(.ref a4)]))) (fun _ k => XS.aload X6.here hx rfl (hb hby at_54) rfl rfl k) ?_
      refine Goes.pre (S' := (T6.setTop (mkF m 57 #[.val (.int i0), .val (.int i1), .val (.int i2), .val (.int i3), .val (.int (1 : Int32)), .val (.int ((i1 &&& (2147483647 : Int32)) % ((1 : Int32) + (1 : Int32)))), .val (.int cut), .val (.ref a4), .val (.int (1 : Int32)), .unset] [(.int i3), (.ref a4)]))) (fun _ k => XS.iloadN X6.here hx rfl (hb hby at_56) rfl k) ?_
      refine Goes.callV (y := (⟨"com/example/clear_plan/clearplan/grounding/FactList", "add", "(I)V"⟩ : MethodName)) (C := "com/example/clear_plan/clearplan/grounding/FactList") X6 hx hZ hown (hw _ (List.mem_of_getElem? (i := 21) rfl)) (hw _ (List.mem_of_getElem? (i := 22) rfl)) (hw _ (List.mem_of_getElem? (i := 24) rfl)) (hw _ (List.mem_of_getElem? (i := 23) rfl)) (hw _ (List.mem_of_getElem? (i := 3) rfl)) (hw _ (List.mem_of_getElem? (i := 25) rfl)) (by decide) e6 Ex5 (rm_a0 l Z a0 hw [] a4 i3 bn kn T5.heap n0 Zn5 Fn5 Fs5 VN2 Ex5 ga4) (by rw [hml]; rfl) [(.int i3)] [] pd_a0 rfl rfl rfl (hb hby at_57) (by decide) (by first | decide | exact Nat.le_of_ble_eq_true rfl | assumption | (simp [Value.category]; done)) (by first | decide | exact Nat.le_of_ble_eq_true rfl | assumption | (simp [Value.category]; done)) (by first | decide | exact Nat.le_of_ble_eq_true rfl | assumption | (simp [Value.category]; done)) ?_
      intro T7 v7 L7 X7 q7
      obtain ⟨bq, kq, rfl, N7a, K7, szq, Fn7, Fs7, V7⟩ := q7
      have gbq : n0 ≤ bq := Nat.le_trans Zn5 szq
      have habq : a4 ≠ bq := own_neLt Fs5.lt szq
      have N7 := Fr.app N6 N7a
      have Zn7 : n0 ≤ T7.heap.size := Nat.le_trans Zn5 K7.1
      have Ex7 := Ex5.keep K7
      show Goes p e below _ (T7.setTop (mkF m 60 #[.val (.int i0), .val (.int i1), .val (.int i2), .val (.int i3), .val (.int (1 : Int32)), .val (.int ((i1 &&& (2147483647 : Int32)) % ((1 : Int32) + (1 : Int32)))), .val (.int cut), .val (.ref a4), .val (.int (1 : Int32)), .unset] []))
      refine Goes.pre (S' := (T7.setTop (mkF m 62 #[.val (.int i0), .val (.int i1), .val (.int i2), .val (.int i3), .val (.int (1 : Int32)), .val (.int ((i1 &&& (2147483647 : Int32)) % ((1 : Int32) + (1 : Int32)))), .val (.int cut), .val (.ref a4), .val (.int (1 : Int32)), .unset] [(.int (1 : Int32))]))) (fun _ k => XS.iload X7.here hx rfl (hb hby at_60) rfl k) ?_
      refine Goes.pre (S' := (T7.setTop (mkF m 63 #[.val (.int i0), .val (.int i1), .val (.int i2), .val (.int i3), .val (.int (1 : Int32)), .val (.int ((i1 &&& (2147483647 : Int32)) % ((1 : Int32) + (1 : Int32)))), .val (.int cut), .val (.ref a4), .val (.int (1 : Int32)), .unset] [(.int (1 : Int32)), (.int (1 : Int32))]))) (fun _ k => XS.iconst X7.here hx rfl (hb hby at_62) k) ?_
      refine Goes.pre (S' := (T7.setTop (mkF m 74 #[.val (.int i0), .val (.int i1), .val (.int i2), .val (.int i3), .val (.int (1 : Int32)), .val (.int ((i1 &&& (2147483647 : Int32)) % ((1 : Int32) + (1 : Int32)))), .val (.int cut), .val (.ref a4), .val (.int (1 : Int32)), .unset] []))) (fun _ k => XS.icmpYes X7.here hx rfl (pc0 := 63) (pc' := 74) rfl (hb hby at_63) rfl (XT.ii_le_t (by decide)) (by decide) (by decide) k) ?_
      refine Goes.pre (S' := (T7.setTop (mkF m 76 #[.val (.int i0), .val (.int i1), .val (.int i2), .val (.int i3), .val (.int (1 : Int32)), .val (.int ((i1 &&& (2147483647 : Int32)) % ((1 : Int32) + (1 : Int32)))), .val (.int cut), .val (.ref a4), .val (.int (1 : Int32)), .unset] [(.int (1 : Int32))]))) (fun _ k => XS.iload X7.here hx rfl (hb hby at_74) rfl k) ?_
      refine Goes.pre (S' := (T7.setTop (mkF m 77 #[.val (.int i0), .val (.int i1), .val (.int i2), .val (.int i3), .val (.int (1 : Int32)), .val (.int ((i1 &&& (2147483647 : Int32)) % ((1 : Int32) + (1 : Int32)))), .val (.int cut), .val (.ref a4), .val (.int (1 : Int32)), .unset] [(.int (2 : Int32)), (.int (1 : Int32))]))) (fun _ k => XS.iconst X7.here hx rfl (hb hby at_76) k) ?_
      refine Goes.pre (S' := (T7.setTop (mkF m 88 #[.val (.int i0), .val (.int i1), .val (.int i2), .val (.int i3), .val (.int (1 : Int32)), .val (.int ((i1 &&& (2147483647 : Int32)) % ((1 : Int32) + (1 : Int32)))), .val (.int cut), .val (.ref a4), .val (.int (1 : Int32)), .unset] []))) (fun _ k => XS.icmpYes X7.here hx rfl (pc0 := 77) (pc' := 88) rfl (hb hby at_77) rfl (XT.ii_le_t (by decide)) (by decide) (by decide) k) ?_
      refine Goes.pre (S' := (T7.setTop (mkF m 90 #[.val (.int i0), .val (.int i1), .val (.int i2), .val (.int i3), .val (.int (1 : Int32)), .val (.int ((i1 &&& (2147483647 : Int32)) % ((1 : Int32) + (1 : Int32)))), .val (.int cut), .val (.ref a4), .val (.int (1 : Int32)), .unset] [(.int (1 : Int32))]))) (fun _ k => XS.iload X7.here hx rfl (hb hby at_88) rfl k) ?_
      refine Goes.pre (S' := (T7.setTop (mkF m 91 #[.val (.int i0), .val (.int i1), .val (.int i2), .val (.int i3), .val (.int (1 : Int32)), .val (.int ((i1 &&& (2147483647 : Int32)) % ((1 : Int32) + (1 : Int32)))), .val (.int cut), .val (.ref a4), .val (.int (1 : Int32)), .unset] [(.int (3 : Int32)), (.int (1 : Int32))]))) (fun _ k => XS.iconst X7.here hx rfl (hb hby at_90) k) ?_
      refine Goes.pre (S' := (T7.setTop (mkF m 102 #[.val (.int i0), .val (.int i1), .val (.int i2), .val (.int i3), .val (.int (1 : Int32)), .val (.int ((i1 &&& (2147483647 : Int32)) % ((1 : Int32) + (1 : Int32)))), .val (.int cut), .val (.ref a4), .val (.int (1 : Int32)), .unset] []))) (fun _ k => XS.icmpYes X7.here hx rfl (pc0 := 91) (pc' := 102) rfl (hb hby at_91) rfl (XT.ii_le_t (by decide)) (by decide) (by decide) k) ?_
      refine Goes.pre (S' := (T7.setTop (mkF m 104 #[.val (.int i0), .val (.int i1), .val (.int i2), .val (.int i3), .val (.int (1 : Int32)), .val (.int ((i1 &&& (2147483647 : Int32)) % ((1 : Int32) + (1 : Int32)))), .val (.int cut), .val (.ref a4), .val (.int (1 : Int32)), .unset] [(.int (1 : Int32))]))) (fun _ k => XS.iload X7.here hx rfl (hb hby at_102) rfl k) ?_
      refine Goes.pre (S' := (T7.setTop (mkF m 105 #[.val (.int i0), .val (.int i1), .val (.int i2), .val (.int i3), .val (.int (1 : Int32)), .val (.int ((i1 &&& (2147483647 : Int32)) % ((1 : Int32) + (1 : Int32)))), .val (.int cut), .val (.ref a4), .val (.int (1 : Int32)), .unset] [(.int (4 : Int32)), (.int (1 : Int32))]))) (fun _ k => XS.iconst X7.here hx rfl (hb hby at_104) k) ?_
      refine Goes.pre (S' := (T7.setTop (mkF m 115 #[.val (.int i0), .val (.int i1), .val (.int i2), .val (.int i3), .val (.int (1 : Int32)), .val (.int ((i1 &&& (2147483647 : Int32)) % ((1 : Int32) + (1 : Int32)))), .val (.int cut), .val (.ref a4), .val (.int (1 : Int32)), .unset] []))) (fun _ k => XS.icmpYes X7.here hx rfl (pc0 := 105) (pc' := 115) rfl (hb hby at_105) rfl (XT.ii_le_t (by decide)) (by decide) (by decide) k) ?_
      exact tail (1 : Int32) _ _ _ _ _ _ _ _ X7 rfl N7 Zn7 Ex7 Fs7 ga4 (by first | decide | exact Nat.le_of_ble_eq_true rfl | assumption | (simp [Value.category]; done)) (by first | decide | exact Nat.le_of_ble_eq_true rfl | assumption | (simp [Value.category]; done))
    · skip
      rw [hq]
      show Goes p e below _ (T6.setTop (mkF m 51 #[.val (.int i0), .val (.int i1), .val (.int i2), .val (.int i3), .val (.int (2 : Int32)), .val (.int ((i1 &&& (2147483647 : Int32)) % ((2 : Int32) + (1 : Int32)))), .val (.int cut), .val (.ref a4), .val (.int (1 : Int32)), .unset] [(.int (2 : Int32))]))
      refine Goes.pre (S' := (T6.setTop (mkF m 54 #[.val (.int i0), .val (.int i1), .val (.int i2), .val (.int i3), .val (.int (2 : Int32)), .val (.int ((i1 &&& (2147483647 : Int32)) % ((2 : Int32) + (1 : Int32)))), .val (.int cut), .val (.ref a4), .val (.int (1 : Int32)), .unset] []))) (fun _ k => XS.ifNo X6.here hx rfl (hb hby at_51) rfl (XT.i0_le_f (by decide)) k) ?_
      refine Goes.pre (S' := (T6.setTop (mkF m 56 #[.val (.int i0), .val (.int i1), .val (.int i2), .val (.int i3), .val (.int (2 : Int32)), .val (.int ((i1 &&& (2147483647 : Int32)) % ((2 : Int32) + (1 : Int32)))), .val (.int cut), .val (.ref a4), .val (.int (1 : Int32)), .unset] [(.ref a4)]))) (fun _ k => XS.aload X6.here hx rfl (hb hby at_54) rfl rfl k) ?_
      refine Goes.pre (S' := (T6.setTop (mkF m 57 #[.val (.int i0), .val (.int i1), .val (.int i2), .val (.int i3), .val (.int (2 : Int32)), .val (.int ((i1 &&& (2147483647 : Int32)) % ((2 : Int32) + (1 : Int32)))), .val (.int cut), .val (.ref a4), .val (.int (1 : Int32)), .unset] [(.int i3), (.ref a4)]))) (fun _ k => XS.iloadN X6.here hx rfl (hb hby at_56) rfl k) ?_
      refine Goes.callV (y := (⟨"com/example/clear_plan/clearplan/grounding/FactList", "add", "(I)V"⟩ : MethodName)) (C := "com/example/clear_plan/clearplan/grounding/FactList") X6 hx hZ hown (hw _ (List.mem_of_getElem? (i := 21) rfl)) (hw _ (List.mem_of_getElem? (i := 22) rfl)) (hw _ (List.mem_of_getElem? (i := 24) rfl)) (hw _ (List.mem_of_getElem? (i := 23) rfl)) (hw _ (List.mem_of_getElem? (i := 3) rfl)) (hw _ (List.mem_of_getElem? (i := 25) rfl)) (by decide) e6 Ex5 (rm_a0 l Z a0 hw [] a4 i3 bn kn T5.heap n0 Zn5 Fn5 Fs5 VN2 Ex5 ga4) (by rw [hml]; rfl) [(.int i3)] [] pd_a0 rfl rfl rfl (hb hby at_57) (by decide) (by first | decide | exact Nat.le_of_ble_eq_true rfl | assumption | (simp [Value.category]; done)) (by first | decide | exact Nat.le_of_ble_eq_true rfl | assumption | (simp [Value.category]; done)) (by first | decide | exact Nat.le_of_ble_eq_true rfl | assumption | (simp [Value.category]; done)) ?_
      intro T8 v8 L8 X8 q8
      obtain ⟨bq, kq, rfl, N8a, K8, szq, Fn8, Fs8, V8⟩ := q8
      have gbq : n0 ≤ bq := Nat.le_trans Zn5 szq
      have habq : a4 ≠ bq := own_neLt Fs5.lt szq
      have N8 := Fr.app N6 N8a
      have Zn8 : n0 ≤ T8.heap.size := Nat.le_trans Zn5 K8.1
      have Ex8 := Ex5.keep K8
      show Goes p e below _ (T8.setTop (mkF m 60 #[.val (.int i0), .val (.int i1), .val (.int i2), .val (.int i3), .val (.int (2 : Int32)), .val (.int ((i1 &&& (2147483647 : Int32)) % ((2 : Int32) + (1 : Int32)))), .val (.int cut), .val (.ref a4), .val (.int (1 : Int32)), .unset] []))
      refine Goes.pre (S' := (T8.setTop (mkF m 62 #[.val (.int i0), .val (.int i1), .val (.int i2), .val (.int i3), .val (.int (2 : Int32)), .val (.int ((i1 &&& (2147483647 : Int32)) % ((2 : Int32) + (1 : Int32)))), .val (.int cut), .val (.ref a4), .val (.int (1 : Int32)), .unset] [(.int (2 : Int32))]))) (fun _ k => XS.iload X8.here hx rfl (hb hby at_60) rfl k) ?_
      refine Goes.pre (S' := (T8.setTop (mkF m 63 #[.val (.int i0), .val (.int i1), .val (.int i2), .val (.int i3), .val (.int (2 : Int32)), .val (.int ((i1 &&& (2147483647 : Int32)) % ((2 : Int32) + (1 : Int32)))), .val (.int cut), .val (.ref a4), .val (.int (1 : Int32)), .unset] [(.int (1 : Int32)), (.int (2 : Int32))]))) (fun _ k => XS.iconst X8.here hx rfl (hb hby at_62) k) ?_
      refine Goes.pre (S' := (T8.setTop (mkF m 66 #[.val (.int i0), .val (.int i1), .val (.int i2), .val (.int i3), .val (.int (2 : Int32)), .val (.int ((i1 &&& (2147483647 : Int32)) % ((2 : Int32) + (1 : Int32)))), .val (.int cut), .val (.ref a4), .val (.int (1 : Int32)), .unset] []))) (fun _ k => XS.icmpNo X8.here hx rfl (hb hby at_63) rfl (XT.ii_le_f (by decide)) k) ?_
      refine Goes.pre (S' := (T8.setTop (mkF m 68 #[.val (.int i0), .val (.int i1), .val (.int i2), .val (.int i3), .val (.int (2 : Int32)), .val (.int ((i1 &&& (2147483647 : Int32)) % ((2 : Int32) + (1 : Int32)))), .val (.int cut), .val (.ref a4), .val (.int (1 : Int32)), .unset] [(.ref a4)]))) (fun _ k => XS.aload X8.here hx rfl (hb hby at_66) rfl rfl k) ?_
      refine Goes.pre (S' := (T8.setTop (mkF m 69 #[.val (.int i0), .val (.int i1), .val (.int i2), .val (.int i3), .val (.int (2 : Int32)), .val (.int ((i1 &&& (2147483647 : Int32)) % ((2 : Int32) + (1 : Int32)))), .val (.int cut), .val (.ref a4), .val (.int (1 : Int32)), .unset] [(.int i3), (.ref a4)]))) (fun _ k => XS.iloadN X8.here hx rfl (hb hby at_68) rfl k) ?_
      refine Goes.pre (S' := (T8.setTop (mkF m 70 #[.val (.int i0), .val (.int i1), .val (.int i2), .val (.int i3), .val (.int (2 : Int32)), .val (.int ((i1 &&& (2147483647 : Int32)) % ((2 : Int32) + (1 : Int32)))), .val (.int cut), .val (.ref a4), .val (.int (1 : Int32)), .unset] [(.int (1 : Int32)), (.int i3), (.ref a4)]))) (fun _ k => XS.iconst X8.here hx rfl (hb hby at_69) k) ?_
      refine Goes.pre (S' := (T8.setTop (mkF m 71 #[.val (.int i0), .val (.int i1), .val (.int i2), .val (.int i3), .val (.int (2 : Int32)), .val (.int ((i1 &&& (2147483647 : Int32)) % ((2 : Int32) + (1 : Int32)))), .val (.int cut), .val (.ref a4), .val (.int (1 : Int32)), .unset] [(.int (i3 + (1 : Int32))), (.ref a4)]))) (fun _ k => XS.iadd X8.here hx rfl (hb hby at_70) rfl k) ?_
      refine Goes.callV (y := (⟨"com/example/clear_plan/clearplan/grounding/FactList", "add", "(I)V"⟩ : MethodName)) (C := "com/example/clear_plan/clearplan/grounding/FactList") X8 hx hZ hown (hw _ (List.mem_of_getElem? (i := 21) rfl)) (hw _ (List.mem_of_getElem? (i := 22) rfl)) (hw _ (List.mem_of_getElem? (i := 24) rfl)) (hw _ (List.mem_of_getElem? (i := 23) rfl)) (hw _ (List.mem_of_getElem? (i := 3) rfl)) (hw _ (List.mem_of_getElem? (i := 25) rfl)) (by decide) rfl Ex8 (rm_ak l Z a0 hw [] a4 (i3 + (1 : Int32)) bq kq (1 : Int32) [.int i3] T8.heap n0 Zn8 ⟨by decide, by decide⟩ rfl Fn8 Fs8 V8 Ex8 ga4 gbq habq) (by rw [hml]; rfl) [(.int (i3 + (1 : Int32)))] [] pd_ak rfl rfl rfl (hb hby at_71) (by decide) (by first | decide | exact Nat.le_of_ble_eq_true rfl | assumption | (simp [Value.category]; done)) (by first | decide | exact Nat.le_of_ble_eq_true rfl | assumption | (simp [Value.category]; done)) (by first | decide | exact Nat.le_of_ble_eq_true rfl | assumption | (simp [Value.category]; done)) ?_
      intro T9 v9 L9 X9 q9
      obtain ⟨rfl, N9a, K9, Fn9, Fs9, V9⟩ := q9
      have N9 := Fr.app N8 N9a
      have Zn9 : n0 ≤ T9.heap.size := Nat.le_trans Zn8 K9.1
      have Ex9 := Ex8.keep K9
      show Goes p e below _ (T9.setTop (mkF m 74 #[.val (.int i0), .val (.int i1), .val (.int i2), .val (.int i3), .val (.int (2 : Int32)), .val (.int ((i1 &&& (2147483647 : Int32)) % ((2 : Int32) + (1 : Int32)))), .val (.int cut), .val (.ref a4), .val (.int (1 : Int32)), .unset] []))
      refine Goes.pre (S' := (T9.setTop (mkF m 76 #[.val (.int i0), .val (.int i1), .val (.int i2), .val (.int i3), .val (.int (2 : Int32)), .val (.int ((i1 &&& (2147483647 : Int32)) % ((2 : Int32) + (1 : Int32)))), .val (.int cut), .val (.ref a4), .val (.int (1 : Int32)), .unset] [(.int (2 : Int32))]))) (fun _ k => XS.iload X9.here hx rfl (hb hby at_74) rfl k) ?_
      refine Goes.pre (S' := (T9.setTop (mkF m 77 #[.val (.int i0), .val (.int i1), .val (.int i2), .val (.int i3), .val (.int (2 : Int32)), .val (.int ((i1 &&& (2147483647 : Int32)) % ((2 : Int32) + (1 : Int32)))), .val (.int cut), .val (.ref a4), .val (.int (1 : Int32)), .unset] [(.int (2 : Int32)), (.int (2 : Int32))]))) (fun _ k => XS.iconst X9.here hx rfl (hb hby at_76) k) ?_
      refine Goes.pre (S' := (T9.setTop (mkF m 88 #[.val (.int i0), .val (.int i1), .val (.int i2), .val (.int i3), .val (.int (2 : Int32)), .val (.int ((i1 &&& (2147483647 : Int32)) % ((2 : Int32) + (1 : Int32)))), .val (.int cut), .val (.ref a4), .val (.int (1 : Int32)), .unset] []))) (fun _ k => XS.icmpYes X9.here hx rfl (pc0 := 77) (pc' := 88) rfl (hb hby at_77) rfl (XT.ii_le_t (by decide)) (by decide) (by decide) k) ?_
      refine Goes.pre (S' := (T9.setTop (mkF m 90 #[.val (.int i0), .val (.int i1), .val (.int i2), .val (.int i3), .val (.int (2 : Int32)), .val (.int ((i1 &&& (2147483647 : Int32)) % ((2 : Int32) + (1 : Int32)))), .val (.int cut), .val (.ref a4), .val (.int (1 : Int32)), .unset] [(.int (2 : Int32))]))) (fun _ k => XS.iload X9.here hx rfl (hb hby at_88) rfl k) ?_
      refine Goes.pre (S' := (T9.setTop (mkF m 91 #[.val (.int i0), .val (.int i1), .val (.int i2), .val (.int i3), .val (.int (2 : Int32)), .val (.int ((i1 &&& (2147483647 : Int32)) % ((2 : Int32) + (1 : Int32)))), .val (.int cut), .val (.ref a4), .val (.int (1 : Int32)), .unset] [(.int (3 : Int32)), (.int (2 : Int32))]))) (fun _ k => XS.iconst X9.here hx rfl (hb hby at_90) k) ?_
      refine Goes.pre (S' := (T9.setTop (mkF m 102 #[.val (.int i0), .val (.int i1), .val (.int i2), .val (.int i3), .val (.int (2 : Int32)), .val (.int ((i1 &&& (2147483647 : Int32)) % ((2 : Int32) + (1 : Int32)))), .val (.int cut), .val (.ref a4), .val (.int (1 : Int32)), .unset] []))) (fun _ k => XS.icmpYes X9.here hx rfl (pc0 := 91) (pc' := 102) rfl (hb hby at_91) rfl (XT.ii_le_t (by decide)) (by decide) (by decide) k) ?_
      refine Goes.pre (S' := (T9.setTop (mkF m 104 #[.val (.int i0), .val (.int i1), .val (.int i2), .val (.int i3), .val (.int (2 : Int32)), .val (.int ((i1 &&& (2147483647 : Int32)) % ((2 : Int32) + (1 : Int32)))), .val (.int cut), .val (.ref a4), .val (.int (1 : Int32)), .unset] [(.int (2 : Int32))]))) (fun _ k => XS.iload X9.here hx rfl (hb hby at_102) rfl k) ?_
      refine Goes.pre (S' := (T9.setTop (mkF m 105 #[.val (.int i0), .val (.int i1), .val (.int i2), .val (.int i3), .val (.int (2 : Int32)), .val (.int ((i1 &&& (2147483647 : Int32)) % ((2 : Int32) + (1 : Int32)))), .val (.int cut), .val (.ref a4), .val (.int (1 : Int32)), .unset] [(.int (4 : Int32)), (.int (2 : Int32))]))) (fun _ k => XS.iconst X9.here hx rfl (hb hby at_104) k) ?_
      refine Goes.pre (S' := (T9.setTop (mkF m 115 #[.val (.int i0), .val (.int i1), .val (.int i2), .val (.int i3), .val (.int (2 : Int32)), .val (.int ((i1 &&& (2147483647 : Int32)) % ((2 : Int32) + (1 : Int32)))), .val (.int cut), .val (.ref a4), .val (.int (1 : Int32)), .unset] []))) (fun _ k => XS.icmpYes X9.here hx rfl (pc0 := 105) (pc' := 115) rfl (hb hby at_105) rfl (XT.ii_le_t (by decide)) (by decide) (by decide) k) ?_
      exact tail (2 : Int32) _ _ _ _ _ _ _ _ X9 rfl N9 Zn9 Ex9 Fs9 ga4 (by first | decide | exact Nat.le_of_ble_eq_true rfl | assumption | (simp [Value.category]; done)) (by first | decide | exact Nat.le_of_ble_eq_true rfl | assumption | (simp [Value.category]; done))
    · skip
      rw [hq]
      show Goes p e below _ (T6.setTop (mkF m 51 #[.val (.int i0), .val (.int i1), .val (.int i2), .val (.int i3), .val (.int (3 : Int32)), .val (.int ((i1 &&& (2147483647 : Int32)) % ((3 : Int32) + (1 : Int32)))), .val (.int cut), .val (.ref a4), .val (.int (1 : Int32)), .unset] [(.int (3 : Int32))]))
      refine Goes.pre (S' := (T6.setTop (mkF m 54 #[.val (.int i0), .val (.int i1), .val (.int i2), .val (.int i3), .val (.int (3 : Int32)), .val (.int ((i1 &&& (2147483647 : Int32)) % ((3 : Int32) + (1 : Int32)))), .val (.int cut), .val (.ref a4), .val (.int (1 : Int32)), .unset] []))) (fun _ k => XS.ifNo X6.here hx rfl (hb hby at_51) rfl (XT.i0_le_f (by decide)) k) ?_
      refine Goes.pre (S' := (T6.setTop (mkF m 56 #[.val (.int i0), .val (.int i1), .val (.int i2), .val (.int i3), .val (.int (3 : Int32)), .val (.int ((i1 &&& (2147483647 : Int32)) % ((3 : Int32) + (1 : Int32)))), .val (.int cut), .val (.ref a4), .val (.int (1 : Int32)), .unset] [(.ref a4)]))) (fun _ k => XS.aload X6.here hx rfl (hb hby at_54) rfl rfl k) ?_
      refine Goes.pre (S' := (T6.setTop (mkF m 57 #[.val (.int i0), .val (.int i1), .val (.int i2), .val (.int i3), .val (.int (3 : Int32)), .val (.int ((i1 &&& (2147483647 : Int32)) % ((3 : Int32) + (1 : Int32)))), .val (.int cut), .val (.ref a4), .val (.int (1 : Int32)), .unset] [(.int i3), (.ref a4)]))) (fun _ k => XS.iloadN X6.here hx rfl (hb hby at_56) rfl k) ?_
      refine Goes.callV (y := (⟨"com/example/clear_plan/clearplan/grounding/FactList", "add", "(I)V"⟩ : MethodName)) (C := "com/example/clear_plan/clearplan/grounding/FactList") X6 hx hZ hown (hw _ (List.mem_of_getElem? (i := 21) rfl)) (hw _ (List.mem_of_getElem? (i := 22) rfl)) (hw _ (List.mem_of_getElem? (i := 24) rfl)) (hw _ (List.mem_of_getElem? (i := 23) rfl)) (hw _ (List.mem_of_getElem? (i := 3) rfl)) (hw _ (List.mem_of_getElem? (i := 25) rfl)) (by decide) e6 Ex5 (rm_a0 l Z a0 hw [] a4 i3 bn kn T5.heap n0 Zn5 Fn5 Fs5 VN2 Ex5 ga4) (by rw [hml]; rfl) [(.int i3)] [] pd_a0 rfl rfl rfl (hb hby at_57) (by decide) (by first | decide | exact Nat.le_of_ble_eq_true rfl | assumption | (simp [Value.category]; done)) (by first | decide | exact Nat.le_of_ble_eq_true rfl | assumption | (simp [Value.category]; done)) (by first | decide | exact Nat.le_of_ble_eq_true rfl | assumption | (simp [Value.category]; done)) ?_
      intro T10 v10 L10 X10 q10
      obtain ⟨bq, kq, rfl, N10a, K10, szq, Fn10, Fs10, V10⟩ := q10
      have gbq : n0 ≤ bq := Nat.le_trans Zn5 szq
      have habq : a4 ≠ bq := own_neLt Fs5.lt szq
      have N10 := Fr.app N6 N10a
      have Zn10 : n0 ≤ T10.heap.size := Nat.le_trans Zn5 K10.1
      have Ex10 := Ex5.keep K10
      show Goes p e below _ (T10.setTop (mkF m 60 #[.val (.int i0), .val (.int i1), .val (.int i2), .val (.int i3), .val (.int (3 : Int32)), .val (.int ((i1 &&& (2147483647 : Int32)) % ((3 : Int32) + (1 : Int32)))), .val (.int cut), .val (.ref a4), .val (.int (1 : Int32)), .unset] []))
      refine Goes.pre (S' := (T10.setTop (mkF m 62 #[.val (.int i0), .val (.int i1), .val (.int i2), .val (.int i3), .val (.int (3 : Int32)), .val (.int ((i1 &&& (2147483647 : Int32)) % ((3 : Int32) + (1 : Int32)))), .val (.int cut), .val (.ref a4), .val (.int (1 : Int32)), .unset] [(.int (3 : Int32))]))) (fun _ k => XS.iload X10.here hx rfl (hb hby at_60) rfl k) ?_
      refine Goes.pre (S' := (T10.setTop (mkF m 63 #[.val (.int i0), .val (.int i1), .val (.int i2), .val (.int i3), .val (.int (3 : Int32)), .val (.int ((i1 &&& (2147483647 : Int32)) % ((3 : Int32) + (1 : Int32)))), .val (.int cut), .val (.ref a4), .val (.int (1 : Int32)), .unset] [(.int (1 : Int32)), (.int (3 : Int32))]))) (fun _ k => XS.iconst X10.here hx rfl (hb hby at_62) k) ?_
      refine Goes.pre (S' := (T10.setTop (mkF m 66 #[.val (.int i0), .val (.int i1), .val (.int i2), .val (.int i3), .val (.int (3 : Int32)), .val (.int ((i1 &&& (2147483647 : Int32)) % ((3 : Int32) + (1 : Int32)))), .val (.int cut), .val (.ref a4), .val (.int (1 : Int32)), .unset] []))) (fun _ k => XS.icmpNo X10.here hx rfl (hb hby at_63) rfl (XT.ii_le_f (by decide)) k) ?_
      refine Goes.pre (S' := (T10.setTop (mkF m 68 #[.val (.int i0), .val (.int i1), .val (.int i2), .val (.int i3), .val (.int (3 : Int32)), .val (.int ((i1 &&& (2147483647 : Int32)) % ((3 : Int32) + (1 : Int32)))), .val (.int cut), .val (.ref a4), .val (.int (1 : Int32)), .unset] [(.ref a4)]))) (fun _ k => XS.aload X10.here hx rfl (hb hby at_66) rfl rfl k) ?_
      refine Goes.pre (S' := (T10.setTop (mkF m 69 #[.val (.int i0), .val (.int i1), .val (.int i2), .val (.int i3), .val (.int (3 : Int32)), .val (.int ((i1 &&& (2147483647 : Int32)) % ((3 : Int32) + (1 : Int32)))), .val (.int cut), .val (.ref a4), .val (.int (1 : Int32)), .unset] [(.int i3), (.ref a4)]))) (fun _ k => XS.iloadN X10.here hx rfl (hb hby at_68) rfl k) ?_
      refine Goes.pre (S' := (T10.setTop (mkF m 70 #[.val (.int i0), .val (.int i1), .val (.int i2), .val (.int i3), .val (.int (3 : Int32)), .val (.int ((i1 &&& (2147483647 : Int32)) % ((3 : Int32) + (1 : Int32)))), .val (.int cut), .val (.ref a4), .val (.int (1 : Int32)), .unset] [(.int (1 : Int32)), (.int i3), (.ref a4)]))) (fun _ k => XS.iconst X10.here hx rfl (hb hby at_69) k) ?_
      refine Goes.pre (S' := (T10.setTop (mkF m 71 #[.val (.int i0), .val (.int i1), .val (.int i2), .val (.int i3), .val (.int (3 : Int32)), .val (.int ((i1 &&& (2147483647 : Int32)) % ((3 : Int32) + (1 : Int32)))), .val (.int cut), .val (.ref a4), .val (.int (1 : Int32)), .unset] [(.int (i3 + (1 : Int32))), (.ref a4)]))) (fun _ k => XS.iadd X10.here hx rfl (hb hby at_70) rfl k) ?_
      refine Goes.callV (y := (⟨"com/example/clear_plan/clearplan/grounding/FactList", "add", "(I)V"⟩ : MethodName)) (C := "com/example/clear_plan/clearplan/grounding/FactList") X10 hx hZ hown (hw _ (List.mem_of_getElem? (i := 21) rfl)) (hw _ (List.mem_of_getElem? (i := 22) rfl)) (hw _ (List.mem_of_getElem? (i := 24) rfl)) (hw _ (List.mem_of_getElem? (i := 23) rfl)) (hw _ (List.mem_of_getElem? (i := 3) rfl)) (hw _ (List.mem_of_getElem? (i := 25) rfl)) (by decide) rfl Ex10 (rm_ak l Z a0 hw [] a4 (i3 + (1 : Int32)) bq kq (1 : Int32) [.int i3] T10.heap n0 Zn10 ⟨by decide, by decide⟩ rfl Fn10 Fs10 V10 Ex10 ga4 gbq habq) (by rw [hml]; rfl) [(.int (i3 + (1 : Int32)))] [] pd_ak rfl rfl rfl (hb hby at_71) (by decide) (by first | decide | exact Nat.le_of_ble_eq_true rfl | assumption | (simp [Value.category]; done)) (by first | decide | exact Nat.le_of_ble_eq_true rfl | assumption | (simp [Value.category]; done)) (by first | decide | exact Nat.le_of_ble_eq_true rfl | assumption | (simp [Value.category]; done)) ?_
      intro T11 v11 L11 X11 q11
      obtain ⟨rfl, N11a, K11, Fn11, Fs11, V11⟩ := q11
      have N11 := Fr.app N10 N11a
      have Zn11 : n0 ≤ T11.heap.size := Nat.le_trans Zn10 K11.1
      have Ex11 := Ex10.keep K11
      show Goes p e below _ (T11.setTop (mkF m 74 #[.val (.int i0), .val (.int i1), .val (.int i2), .val (.int i3), .val (.int (3 : Int32)), .val (.int ((i1 &&& (2147483647 : Int32)) % ((3 : Int32) + (1 : Int32)))), .val (.int cut), .val (.ref a4), .val (.int (1 : Int32)), .unset] []))
      refine Goes.pre (S' := (T11.setTop (mkF m 76 #[.val (.int i0), .val (.int i1), .val (.int i2), .val (.int i3), .val (.int (3 : Int32)), .val (.int ((i1 &&& (2147483647 : Int32)) % ((3 : Int32) + (1 : Int32)))), .val (.int cut), .val (.ref a4), .val (.int (1 : Int32)), .unset] [(.int (3 : Int32))]))) (fun _ k => XS.iload X11.here hx rfl (hb hby at_74) rfl k) ?_
      refine Goes.pre (S' := (T11.setTop (mkF m 77 #[.val (.int i0), .val (.int i1), .val (.int i2), .val (.int i3), .val (.int (3 : Int32)), .val (.int ((i1 &&& (2147483647 : Int32)) % ((3 : Int32) + (1 : Int32)))), .val (.int cut), .val (.ref a4), .val (.int (1 : Int32)), .unset] [(.int (2 : Int32)), (.int (3 : Int32))]))) (fun _ k => XS.iconst X11.here hx rfl (hb hby at_76) k) ?_
      refine Goes.pre (S' := (T11.setTop (mkF m 80 #[.val (.int i0), .val (.int i1), .val (.int i2), .val (.int i3), .val (.int (3 : Int32)), .val (.int ((i1 &&& (2147483647 : Int32)) % ((3 : Int32) + (1 : Int32)))), .val (.int cut), .val (.ref a4), .val (.int (1 : Int32)), .unset] []))) (fun _ k => XS.icmpNo X11.here hx rfl (hb hby at_77) rfl (XT.ii_le_f (by decide)) k) ?_
      refine Goes.pre (S' := (T11.setTop (mkF m 82 #[.val (.int i0), .val (.int i1), .val (.int i2), .val (.int i3), .val (.int (3 : Int32)), .val (.int ((i1 &&& (2147483647 : Int32)) % ((3 : Int32) + (1 : Int32)))), .val (.int cut), .val (.ref a4), .val (.int (1 : Int32)), .unset] [(.ref a4)]))) (fun _ k => XS.aload X11.here hx rfl (hb hby at_80) rfl rfl k) ?_
      refine Goes.pre (S' := (T11.setTop (mkF m 83 #[.val (.int i0), .val (.int i1), .val (.int i2), .val (.int i3), .val (.int (3 : Int32)), .val (.int ((i1 &&& (2147483647 : Int32)) % ((3 : Int32) + (1 : Int32)))), .val (.int cut), .val (.ref a4), .val (.int (1 : Int32)), .unset] [(.int i3), (.ref a4)]))) (fun _ k => XS.iloadN X11.here hx rfl (hb hby at_82) rfl k) ?_
      refine Goes.pre (S' := (T11.setTop (mkF m 84 #[.val (.int i0), .val (.int i1), .val (.int i2), .val (.int i3), .val (.int (3 : Int32)), .val (.int ((i1 &&& (2147483647 : Int32)) % ((3 : Int32) + (1 : Int32)))), .val (.int cut), .val (.ref a4), .val (.int (1 : Int32)), .unset] [(.int (1 : Int32)), (.int i3), (.ref a4)]))) (fun _ k => XS.iconst X11.here hx rfl (hb hby at_83) k) ?_
      refine Goes.pre (S' := (T11.setTop (mkF m 85 #[.val (.int i0), .val (.int i1), .val (.int i2), .val (.int i3), .val (.int (3 : Int32)), .val (.int ((i1 &&& (2147483647 : Int32)) % ((3 : Int32) + (1 : Int32)))), .val (.int cut), .val (.ref a4), .val (.int (1 : Int32)), .unset] [(.int (i3 - (1 : Int32))), (.ref a4)]))) (fun _ k => XS.isub X11.here hx rfl (hb hby at_84) rfl k) ?_
      refine Goes.callV (y := (⟨"com/example/clear_plan/clearplan/grounding/FactList", "add", "(I)V"⟩ : MethodName)) (C := "com/example/clear_plan/clearplan/grounding/FactList") X11 hx hZ hown (hw _ (List.mem_of_getElem? (i := 21) rfl)) (hw _ (List.mem_of_getElem? (i := 22) rfl)) (hw _ (List.mem_of_getElem? (i := 24) rfl)) (hw _ (List.mem_of_getElem? (i := 23) rfl)) (hw _ (List.mem_of_getElem? (i := 3) rfl)) (hw _ (List.mem_of_getElem? (i := 25) rfl)) (by decide) rfl Ex11 (rm_ak l Z a0 hw [] a4 (i3 - (1 : Int32)) bq kq (2 : Int32) [.int i3, .int (i3 + (1 : Int32))] T11.heap n0 Zn11 ⟨by decide, by decide⟩ rfl Fn11 Fs11 V11 Ex11 ga4 gbq habq) (by rw [hml]; rfl) [(.int (i3 - (1 : Int32)))] [] pd_ak rfl rfl rfl (hb hby at_85) (by decide) (by first | decide | exact Nat.le_of_ble_eq_true rfl | assumption | (simp [Value.category]; done)) (by first | decide | exact Nat.le_of_ble_eq_true rfl | assumption | (simp [Value.category]; done)) (by first | decide | exact Nat.le_of_ble_eq_true rfl | assumption | (simp [Value.category]; done)) ?_
      intro T12 v12 L12 X12 q12
      obtain ⟨rfl, N12a, K12, Fn12, Fs12, V12⟩ := q12
      have N12 := Fr.app N11 N12a
      have Zn12 : n0 ≤ T12.heap.size := Nat.le_trans Zn11 K12.1
      have Ex12 := Ex11.keep K12
      show Goes p e below _ (T12.setTop (mkF m 88 #[.val (.int i0), .val (.int i1), .val (.int i2), .val (.int i3), .val (.int (3 : Int32)), .val (.int ((i1 &&& (2147483647 : Int32)) % ((3 : Int32) + (1 : Int32)))), .val (.int cut), .val (.ref a4), .val (.int (1 : Int32)), .unset] []))
      refine Goes.pre (S' := (T12.setTop (mkF m 90 #[.val (.int i0), .val (.int i1), .val (.int i2), .val (.int i3), .val (.int (3 : Int32)), .val (.int ((i1 &&& (2147483647 : Int32)) % ((3 : Int32) + (1 : Int32)))), .val (.int cut), .val (.ref a4), .val (.int (1 : Int32)), .unset] [(.int (3 : Int32))]))) (fun _ k => XS.iload X12.here hx rfl (hb hby at_88) rfl k) ?_
      refine Goes.pre (S' := (T12.setTop (mkF m 91 #[.val (.int i0), .val (.int i1), .val (.int i2), .val (.int i3), .val (.int (3 : Int32)), .val (.int ((i1 &&& (2147483647 : Int32)) % ((3 : Int32) + (1 : Int32)))), .val (.int cut), .val (.ref a4), .val (.int (1 : Int32)), .unset] [(.int (3 : Int32)), (.int (3 : Int32))]))) (fun _ k => XS.iconst X12.here hx rfl (hb hby at_90) k) ?_
      refine Goes.pre (S' := (T12.setTop (mkF m 102 #[.val (.int i0), .val (.int i1), .val (.int i2), .val (.int i3), .val (.int (3 : Int32)), .val (.int ((i1 &&& (2147483647 : Int32)) % ((3 : Int32) + (1 : Int32)))), .val (.int cut), .val (.ref a4), .val (.int (1 : Int32)), .unset] []))) (fun _ k => XS.icmpYes X12.here hx rfl (pc0 := 91) (pc' := 102) rfl (hb hby at_91) rfl (XT.ii_le_t (by decide)) (by decide) (by decide) k) ?_
      refine Goes.pre (S' := (T12.setTop (mkF m 104 #[.val (.int i0), .val (.int i1), .val (.int i2), .val (.int i3), .val (.int (3 : Int32)), .val (.int ((i1 &&& (2147483647 : Int32)) % ((3 : Int32) + (1 : Int32)))), .val (.int cut), .val (.ref a4), .val (.int (1 : Int32)), .unset] [(.int (3 : Int32))]))) (fun _ k => XS.iload X12.here hx rfl (hb hby at_102) rfl k) ?_
      refine Goes.pre (S' := (T12.setTop (mkF m 105 #[.val (.int i0), .val (.int i1), .val (.int i2), .val (.int i3), .val (.int (3 : Int32)), .val (.int ((i1 &&& (2147483647 : Int32)) % ((3 : Int32) + (1 : Int32)))), .val (.int cut), .val (.ref a4), .val (.int (1 : Int32)), .unset] [(.int (4 : Int32)), (.int (3 : Int32))]))) (fun _ k => XS.iconst X12.here hx rfl (hb hby at_104) k) ?_
      refine Goes.pre (S' := (T12.setTop (mkF m 115 #[.val (.int i0), .val (.int i1), .val (.int i2), .val (.int i3), .val (.int (3 : Int32)), .val (.int ((i1 &&& (2147483647 : Int32)) % ((3 : Int32) + (1 : Int32)))), .val (.int cut), .val (.ref a4), .val (.int (1 : Int32)), .unset] []))) (fun _ k => XS.icmpYes X12.here hx rfl (pc0 := 105) (pc' := 115) rfl (hb hby at_105) rfl (XT.ii_le_t (by decide)) (by decide) (by decide) k) ?_
      exact tail (3 : Int32) _ _ _ _ _ _ _ _ X12 rfl N12 Zn12 Ex12 Fs12 ga4 (by first | decide | exact Nat.le_of_ble_eq_true rfl | assumption | (simp [Value.category]; done)) (by first | decide | exact Nat.le_of_ble_eq_true rfl | assumption | (simp [Value.category]; done))
    · skip
      rw [hq]
      show Goes p e below _ (T6.setTop (mkF m 51 #[.val (.int i0), .val (.int i1), .val (.int i2), .val (.int i3), .val (.int (4 : Int32)), .val (.int ((i1 &&& (2147483647 : Int32)) % ((4 : Int32) + (1 : Int32)))), .val (.int cut), .val (.ref a4), .val (.int (1 : Int32)), .unset] [(.int (4 : Int32))]))
      refine Goes.pre (S' := (T6.setTop (mkF m 54 #[.val (.int i0), .val (.int i1), .val (.int i2), .val (.int i3), .val (.int (4 : Int32)), .val (.int ((i1 &&& (2147483647 : Int32)) % ((4 : Int32) + (1 : Int32)))), .val (.int cut), .val (.ref a4), .val (.int (1 : Int32)), .unset] []))) (fun _ k => XS.ifNo X6.here hx rfl (hb hby at_51) rfl (XT.i0_le_f (by decide)) k) ?_
      refine Goes.pre (S' := (T6.setTop (mkF m 56 #[.val (.int i0), .val (.int i1), .val (.int i2), .val (.int i3), .val (.int (4 : Int32)), .val (.int ((i1 &&& (2147483647 : Int32)) % ((4 : Int32) + (1 : Int32)))), .val (.int cut), .val (.ref a4), .val (.int (1 : Int32)), .unset] [(.ref a4)]))) (fun _ k => XS.aload X6.here hx rfl (hb hby at_54) rfl rfl k) ?_
      refine Goes.pre (S' := (T6.setTop (mkF m 57 #[.val (.int i0), .val (.int i1), .val (.int i2), .val (.int i3), .val (.int (4 : Int32)), .val (.int ((i1 &&& (2147483647 : Int32)) % ((4 : Int32) + (1 : Int32)))), .val (.int cut), .val (.ref a4), .val (.int (1 : Int32)), .unset] [(.int i3), (.ref a4)]))) (fun _ k => XS.iloadN X6.here hx rfl (hb hby at_56) rfl k) ?_
      refine Goes.callV (y := (⟨"com/example/clear_plan/clearplan/grounding/FactList", "add", "(I)V"⟩ : MethodName)) (C := "com/example/clear_plan/clearplan/grounding/FactList") X6 hx hZ hown (hw _ (List.mem_of_getElem? (i := 21) rfl)) (hw _ (List.mem_of_getElem? (i := 22) rfl)) (hw _ (List.mem_of_getElem? (i := 24) rfl)) (hw _ (List.mem_of_getElem? (i := 23) rfl)) (hw _ (List.mem_of_getElem? (i := 3) rfl)) (hw _ (List.mem_of_getElem? (i := 25) rfl)) (by decide) e6 Ex5 (rm_a0 l Z a0 hw [] a4 i3 bn kn T5.heap n0 Zn5 Fn5 Fs5 VN2 Ex5 ga4) (by rw [hml]; rfl) [(.int i3)] [] pd_a0 rfl rfl rfl (hb hby at_57) (by decide) (by first | decide | exact Nat.le_of_ble_eq_true rfl | assumption | (simp [Value.category]; done)) (by first | decide | exact Nat.le_of_ble_eq_true rfl | assumption | (simp [Value.category]; done)) (by first | decide | exact Nat.le_of_ble_eq_true rfl | assumption | (simp [Value.category]; done)) ?_
      intro T13 v13 L13 X13 q13
      obtain ⟨bq, kq, rfl, N13a, K13, szq, Fn13, Fs13, V13⟩ := q13
      have gbq : n0 ≤ bq := Nat.le_trans Zn5 szq
      have habq : a4 ≠ bq := own_neLt Fs5.lt szq
      have N13 := Fr.app N6 N13a
      have Zn13 : n0 ≤ T13.heap.size := Nat.le_trans Zn5 K13.1
      have Ex13 := Ex5.keep K13
      show Goes p e below _ (T13.setTop (mkF m 60 #[.val (.int i0), .val (.int i1), .val (.int i2), .val (.int i3), .val (.int (4 : Int32)), .val (.int ((i1 &&& (2147483647 : Int32)) % ((4 : Int32) + (1 : Int32)))), .val (.int cut), .val (.ref a4), .val (.int (1 : Int32)), .unset] []))
      refine Goes.pre (S' := (T13.setTop (mkF m 62 #[.val (.int i0), .val (.int i1), .val (.int i2), .val (.int i3), .val (.int (4 : Int32)), .val (.int ((i1 &&& (2147483647 : Int32)) % ((4 : Int32) + (1 : Int32)))), .val (.int cut), .val (.ref a4), .val (.int (1 : Int32)), .unset] [(.int (4 : Int32))]))) (fun _ k => XS.iload X13.here hx rfl (hb hby at_60) rfl k) ?_
      refine Goes.pre (S' := (T13.setTop (mkF m 63 #[.val (.int i0), .val (.int i1), .val (.int i2), .val (.int i3), .val (.int (4 : Int32)), .val (.int ((i1 &&& (2147483647 : Int32)) % ((4 : Int32) + (1 : Int32)))), .val (.int cut), .val (.ref a4), .val (.int (1 : Int32)), .unset] [(.int (1 : Int32)), (.int (4 : Int32))]))) (fun _ k => XS.iconst X13.here hx rfl (hb hby at_62) k) ?_
      refine Goes.pre (S' := (T13.setTop (mkF m 66 #[.val (.int i0), .val (.int i1), .val (.int i2), .val (.int i3), .val (.int (4 : Int32)), .val (.int ((i1 &&& (2147483647 : Int32)) % ((4 : Int32) + (1 : Int32)))), .val (.int cut), .val (.ref a4), .val (.int (1 : Int32)), .unset] []))) (fun _ k => XS.icmpNo X13.here hx rfl (hb hby at_63) rfl (XT.ii_le_f (by decide)) k) ?_
      refine Goes.pre (S' := (T13.setTop (mkF m 68 #[.val (.int i0), .val (.int i1), .val (.int i2), .val (.int i3), .val (.int (4 : Int32)), .val (.int ((i1 &&& (2147483647 : Int32)) % ((4 : Int32) + (1 : Int32)))), .val (.int cut), .val (.ref a4), .val (.int (1 : Int32)), .unset] [(.ref a4)]))) (fun _ k => XS.aload X13.here hx rfl (hb hby at_66) rfl rfl k) ?_
      refine Goes.pre (S' := (T13.setTop (mkF m 69 #[.val (.int i0), .val (.int i1), .val (.int i2), .val (.int i3), .val (.int (4 : Int32)), .val (.int ((i1 &&& (2147483647 : Int32)) % ((4 : Int32) + (1 : Int32)))), .val (.int cut), .val (.ref a4), .val (.int (1 : Int32)), .unset] [(.int i3), (.ref a4)]))) (fun _ k => XS.iloadN X13.here hx rfl (hb hby at_68) rfl k) ?_
      refine Goes.pre (S' := (T13.setTop (mkF m 70 #[.val (.int i0), .val (.int i1), .val (.int i2), .val (.int i3), .val (.int (4 : Int32)), .val (.int ((i1 &&& (2147483647 : Int32)) % ((4 : Int32) + (1 : Int32)))), .val (.int cut), .val (.ref a4), .val (.int (1 : Int32)), .unset] [(.int (1 : Int32)), (.int i3), (.ref a4)]))) (fun _ k => XS.iconst X13.here hx rfl (hb hby at_69) k) ?_
      refine Goes.pre (S' := (T13.setTop (mkF m 71 #[.val (.int i0), .val (.int i1), .val (.int i2), .val (.int i3), .val (.int (4 : Int32)), .val (.int ((i1 &&& (2147483647 : Int32)) % ((4 : Int32) + (1 : Int32)))), .val (.int cut), .val (.ref a4), .val (.int (1 : Int32)), .unset] [(.int (i3 + (1 : Int32))), (.ref a4)]))) (fun _ k => XS.iadd X13.here hx rfl (hb hby at_70) rfl k) ?_
      refine Goes.callV (y := (⟨"com/example/clear_plan/clearplan/grounding/FactList", "add", "(I)V"⟩ : MethodName)) (C := "com/example/clear_plan/clearplan/grounding/FactList") X13 hx hZ hown (hw _ (List.mem_of_getElem? (i := 21) rfl)) (hw _ (List.mem_of_getElem? (i := 22) rfl)) (hw _ (List.mem_of_getElem? (i := 24) rfl)) (hw _ (List.mem_of_getElem? (i := 23) rfl)) (hw _ (List.mem_of_getElem? (i := 3) rfl)) (hw _ (List.mem_of_getElem? (i := 25) rfl)) (by decide) rfl Ex13 (rm_ak l Z a0 hw [] a4 (i3 + (1 : Int32)) bq kq (1 : Int32) [.int i3] T13.heap n0 Zn13 ⟨by decide, by decide⟩ rfl Fn13 Fs13 V13 Ex13 ga4 gbq habq) (by rw [hml]; rfl) [(.int (i3 + (1 : Int32)))] [] pd_ak rfl rfl rfl (hb hby at_71) (by decide) (by first | decide | exact Nat.le_of_ble_eq_true rfl | assumption | (simp [Value.category]; done)) (by first | decide | exact Nat.le_of_ble_eq_true rfl | assumption | (simp [Value.category]; done)) (by first | decide | exact Nat.le_of_ble_eq_true rfl | assumption | (simp [Value.category]; done)) ?_
      intro T14 v14 L14 X14 q14
      obtain ⟨rfl, N14a, K14, Fn14, Fs14, V14⟩ := q14
      have N14 := Fr.app N13 N14a
      have Zn14 : n0 ≤ T14.heap.size := Nat.le_trans Zn13 K14.1
      have Ex14 := Ex13.keep K14
      show Goes p e below _ (T14.setTop (mkF m 74 #[.val (.int i0), .val (.int i1), .val (.int i2), .val (.int i3), .val (.int (4 : Int32)), .val (.int ((i1 &&& (2147483647 : Int32)) % ((4 : Int32) + (1 : Int32)))), .val (.int cut), .val (.ref a4), .val (.int (1 : Int32)), .unset] []))
      refine Goes.pre (S' := (T14.setTop (mkF m 76 #[.val (.int i0), .val (.int i1), .val (.int i2), .val (.int i3), .val (.int (4 : Int32)), .val (.int ((i1 &&& (2147483647 : Int32)) % ((4 : Int32) + (1 : Int32)))), .val (.int cut), .val (.ref a4), .val (.int (1 : Int32)), .unset] [(.int (4 : Int32))]))) (fun _ k => XS.iload X14.here hx rfl (hb hby at_74) rfl k) ?_
      refine Goes.pre (S' := (T14.setTop (mkF m 77 #[.val (.int i0), .val (.int i1), .val (.int i2), .val (.int i3), .val (.int (4 : Int32)), .val (.int ((i1 &&& (2147483647 : Int32)) % ((4 : Int32) + (1 : Int32)))), .val (.int cut), .val (.ref a4), .val (.int (1 : Int32)), .unset] [(.int (2 : Int32)), (.int (4 : Int32))]))) (fun _ k => XS.iconst X14.here hx rfl (hb hby at_76) k) ?_
      refine Goes.pre (S' := (T14.setTop (mkF m 80 #[.val (.int i0), .val (.int i1), .val (.int i2), .val (.int i3), .val (.int (4 : Int32)), .val (.int ((i1 &&& (2147483647 : Int32)) % ((4 : Int32) + (1 : Int32)))), .val (.int cut), .val (.ref a4), .val (.int (1 : Int32)), .unset] []))) (fun _ k => XS.icmpNo X14.here hx rfl (hb hby at_77) rfl (XT.ii_le_f (by decide)) k) ?_
      refine Goes.pre (S' := (T14.setTop (mkF m 82 #[.val (.int i0), .val (.int i1), .val (.int i2), .val (.int i3), .val (.int (4 : Int32)), .val (.int ((i1 &&& (2147483647 : Int32)) % ((4 : Int32) + (1 : Int32)))), .val (.int cut), .val (.ref a4), .val (.int (1 : Int32)), .unset] [(.ref a4)]))) (fun _ k => XS.aload X14.here hx rfl (hb hby at_80) rfl rfl k) ?_
      refine Goes.pre (S' := (T14.setTop (mkF m 83 #[.val (.int i0), .val (.int i1), .val (.int i2), .val (.int i3), .val (.int (4 : Int32)), .val (.int ((i1 &&& (2147483647 : Int32)) % ((4 : Int32) + (1 : Int32)))), .val (.int cut), .val (.ref a4), .val (.int (1 : Int32)), .unset] [(.int i3), (.ref a4)]))) (fun _ k => XS.iloadN X14.here hx rfl (hb hby at_82) rfl k) ?_
      refine Goes.pre (S' := (T14.setTop (mkF m 84 #[.val (.int i0), .val (.int i1), .val (.int i2), .val (.int i3), .val (.int (4 : Int32)), .val (.int ((i1 &&& (2147483647 : Int32)) % ((4 : Int32) + (1 : Int32)))), .val (.int cut), .val (.ref a4), .val (.int (1 : Int32)), .unset] [(.int (1 : Int32)), (.int i3), (.ref a4)]))) (fun _ k => XS.iconst X14.here hx rfl (hb hby at_83) k) ?_
      refine Goes.pre (S' := (T14.setTop (mkF m 85 #[.val (.int i0), .val (.int i1), .val (.int i2), .val (.int i3), .val (.int (4 : Int32)), .val (.int ((i1 &&& (2147483647 : Int32)) % ((4 : Int32) + (1 : Int32)))), .val (.int cut), .val (.ref a4), .val (.int (1 : Int32)), .unset] [(.int (i3 - (1 : Int32))), (.ref a4)]))) (fun _ k => XS.isub X14.here hx rfl (hb hby at_84) rfl k) ?_
      refine Goes.callV (y := (⟨"com/example/clear_plan/clearplan/grounding/FactList", "add", "(I)V"⟩ : MethodName)) (C := "com/example/clear_plan/clearplan/grounding/FactList") X14 hx hZ hown (hw _ (List.mem_of_getElem? (i := 21) rfl)) (hw _ (List.mem_of_getElem? (i := 22) rfl)) (hw _ (List.mem_of_getElem? (i := 24) rfl)) (hw _ (List.mem_of_getElem? (i := 23) rfl)) (hw _ (List.mem_of_getElem? (i := 3) rfl)) (hw _ (List.mem_of_getElem? (i := 25) rfl)) (by decide) rfl Ex14 (rm_ak l Z a0 hw [] a4 (i3 - (1 : Int32)) bq kq (2 : Int32) [.int i3, .int (i3 + (1 : Int32))] T14.heap n0 Zn14 ⟨by decide, by decide⟩ rfl Fn14 Fs14 V14 Ex14 ga4 gbq habq) (by rw [hml]; rfl) [(.int (i3 - (1 : Int32)))] [] pd_ak rfl rfl rfl (hb hby at_85) (by decide) (by first | decide | exact Nat.le_of_ble_eq_true rfl | assumption | (simp [Value.category]; done)) (by first | decide | exact Nat.le_of_ble_eq_true rfl | assumption | (simp [Value.category]; done)) (by first | decide | exact Nat.le_of_ble_eq_true rfl | assumption | (simp [Value.category]; done)) ?_
      intro T15 v15 L15 X15 q15
      obtain ⟨rfl, N15a, K15, Fn15, Fs15, V15⟩ := q15
      have N15 := Fr.app N14 N15a
      have Zn15 : n0 ≤ T15.heap.size := Nat.le_trans Zn14 K15.1
      have Ex15 := Ex14.keep K15
      show Goes p e below _ (T15.setTop (mkF m 88 #[.val (.int i0), .val (.int i1), .val (.int i2), .val (.int i3), .val (.int (4 : Int32)), .val (.int ((i1 &&& (2147483647 : Int32)) % ((4 : Int32) + (1 : Int32)))), .val (.int cut), .val (.ref a4), .val (.int (1 : Int32)), .unset] []))
      refine Goes.pre (S' := (T15.setTop (mkF m 90 #[.val (.int i0), .val (.int i1), .val (.int i2), .val (.int i3), .val (.int (4 : Int32)), .val (.int ((i1 &&& (2147483647 : Int32)) % ((4 : Int32) + (1 : Int32)))), .val (.int cut), .val (.ref a4), .val (.int (1 : Int32)), .unset] [(.int (4 : Int32))]))) (fun _ k => XS.iload X15.here hx rfl (hb hby at_88) rfl k) ?_
      refine Goes.pre (S' := (T15.setTop (mkF m 91 #[.val (.int i0), .val (.int i1), .val (.int i2), .val (.int i3), .val (.int (4 : Int32)), .val (.int ((i1 &&& (2147483647 : Int32)) % ((4 : Int32) + (1 : Int32)))), .val (.int cut), .val (.ref a4), .val (.int (1 : Int32)), .unset] [(.int (3 : Int32)), (.int (4 : Int32))]))) (fun _ k => XS.iconst X15.here hx rfl (hb hby at_90) k) ?_
      refine Goes.pre (S' := (T15.setTop (mkF m 94 #[.val (.int i0), .val (.int i1), .val (.int i2), .val (.int i3), .val (.int (4 : Int32)), .val (.int ((i1 &&& (2147483647 : Int32)) % ((4 : Int32) + (1 : Int32)))), .val (.int cut), .val (.ref a4), .val (.int (1 : Int32)), .unset] []))) (fun _ k => XS.icmpNo X15.here hx rfl (hb hby at_91) rfl (XT.ii_le_f (by decide)) k) ?_
      refine Goes.pre (S' := (T15.setTop (mkF m 96 #[.val (.int i0), .val (.int i1), .val (.int i2), .val (.int i3), .val (.int (4 : Int32)), .val (.int ((i1 &&& (2147483647 : Int32)) % ((4 : Int32) + (1 : Int32)))), .val (.int cut), .val (.ref a4), .val (.int (1 : Int32)), .unset] [(.ref a4)]))) (fun _ k => XS.aload X15.here hx rfl (hb hby at_94) rfl rfl k) ?_
      refine Goes.pre (S' := (T15.setTop (mkF m 97 #[.val (.int i0), .val (.int i1), .val (.int i2), .val (.int i3), .val (.int (4 : Int32)), .val (.int ((i1 &&& (2147483647 : Int32)) % ((4 : Int32) + (1 : Int32)))), .val (.int cut), .val (.ref a4), .val (.int (1 : Int32)), .unset] [(.int i3), (.ref a4)]))) (fun _ k => XS.iloadN X15.here hx rfl (hb hby at_96) rfl k) ?_
      refine Goes.pre (S' := (T15.setTop (mkF m 98 #[.val (.int i0), .val (.int i1), .val (.int i2), .val (.int i3), .val (.int (4 : Int32)), .val (.int ((i1 &&& (2147483647 : Int32)) % ((4 : Int32) + (1 : Int32)))), .val (.int cut), .val (.ref a4), .val (.int (1 : Int32)), .unset] [(.int (5 : Int32)), (.int i3), (.ref a4)]))) (fun _ k => XS.iconst X15.here hx rfl (hb hby at_97) k) ?_
      refine Goes.pre (S' := (T15.setTop (mkF m 99 #[.val (.int i0), .val (.int i1), .val (.int i2), .val (.int i3), .val (.int (4 : Int32)), .val (.int ((i1 &&& (2147483647 : Int32)) % ((4 : Int32) + (1 : Int32)))), .val (.int cut), .val (.ref a4), .val (.int (1 : Int32)), .unset] [(.int (i3 ^^^ (5 : Int32))), (.ref a4)]))) (fun _ k => XT.ixor X15.here hx rfl (hb hby at_98) rfl k) ?_
      refine Goes.callV (y := (⟨"com/example/clear_plan/clearplan/grounding/FactList", "add", "(I)V"⟩ : MethodName)) (C := "com/example/clear_plan/clearplan/grounding/FactList") X15 hx hZ hown (hw _ (List.mem_of_getElem? (i := 21) rfl)) (hw _ (List.mem_of_getElem? (i := 22) rfl)) (hw _ (List.mem_of_getElem? (i := 24) rfl)) (hw _ (List.mem_of_getElem? (i := 23) rfl)) (hw _ (List.mem_of_getElem? (i := 3) rfl)) (hw _ (List.mem_of_getElem? (i := 25) rfl)) (by decide) rfl Ex15 (rm_ak l Z a0 hw [] a4 (i3 ^^^ (5 : Int32)) bq kq (3 : Int32) [.int i3, .int (i3 + (1 : Int32)), .int (i3 - (1 : Int32))] T15.heap n0 Zn15 ⟨by decide, by decide⟩ rfl Fn15 Fs15 V15 Ex15 ga4 gbq habq) (by rw [hml]; rfl) [(.int (i3 ^^^ (5 : Int32)))] [] pd_ak rfl rfl rfl (hb hby at_99) (by decide) (by first | decide | exact Nat.le_of_ble_eq_true rfl | assumption | (simp [Value.category]; done)) (by first | decide | exact Nat.le_of_ble_eq_true rfl | assumption | (simp [Value.category]; done)) (by first | decide | exact Nat.le_of_ble_eq_true rfl | assumption | (simp [Value.category]; done)) ?_
      intro T16 v16 L16 X16 q16
      obtain ⟨rfl, N16a, K16, Fn16, Fs16, V16⟩ := q16
      have N16 := Fr.app N15 N16a
      have Zn16 : n0 ≤ T16.heap.size := Nat.le_trans Zn15 K16.1
      have Ex16 := Ex15.keep K16
      show Goes p e below _ (T16.setTop (mkF m 102 #[.val (.int i0), .val (.int i1), .val (.int i2), .val (.int i3), .val (.int (4 : Int32)), .val (.int ((i1 &&& (2147483647 : Int32)) % ((4 : Int32) + (1 : Int32)))), .val (.int cut), .val (.ref a4), .val (.int (1 : Int32)), .unset] []))
      refine Goes.pre (S' := (T16.setTop (mkF m 104 #[.val (.int i0), .val (.int i1), .val (.int i2), .val (.int i3), .val (.int (4 : Int32)), .val (.int ((i1 &&& (2147483647 : Int32)) % ((4 : Int32) + (1 : Int32)))), .val (.int cut), .val (.ref a4), .val (.int (1 : Int32)), .unset] [(.int (4 : Int32))]))) (fun _ k => XS.iload X16.here hx rfl (hb hby at_102) rfl k) ?_
      refine Goes.pre (S' := (T16.setTop (mkF m 105 #[.val (.int i0), .val (.int i1), .val (.int i2), .val (.int i3), .val (.int (4 : Int32)), .val (.int ((i1 &&& (2147483647 : Int32)) % ((4 : Int32) + (1 : Int32)))), .val (.int cut), .val (.ref a4), .val (.int (1 : Int32)), .unset] [(.int (4 : Int32)), (.int (4 : Int32))]))) (fun _ k => XS.iconst X16.here hx rfl (hb hby at_104) k) ?_
      refine Goes.pre (S' := (T16.setTop (mkF m 115 #[.val (.int i0), .val (.int i1), .val (.int i2), .val (.int i3), .val (.int (4 : Int32)), .val (.int ((i1 &&& (2147483647 : Int32)) % ((4 : Int32) + (1 : Int32)))), .val (.int cut), .val (.ref a4), .val (.int (1 : Int32)), .unset] []))) (fun _ k => XS.icmpYes X16.here hx rfl (pc0 := 105) (pc' := 115) rfl (hb hby at_105) rfl (XT.ii_le_t (by decide)) (by decide) (by decide) k) ?_
      exact tail (4 : Int32) _ _ _ _ _ _ _ _ X16 rfl N16 Zn16 Ex16 Fs16 ga4 (by first | decide | exact Nat.le_of_ble_eq_true rfl | assumption | (simp [Value.category]; done)) (by first | decide | exact Nat.le_of_ble_eq_true rfl | assumption | (simp [Value.category]; done))
    · skip
      rw [hq]
      show Goes p e below _ (T6.setTop (mkF m 51 #[.val (.int i0), .val (.int i1), .val (.int i2), .val (.int i3), .val (.int (5 : Int32)), .val (.int ((i1 &&& (2147483647 : Int32)) % ((5 : Int32) + (1 : Int32)))), .val (.int cut), .val (.ref a4), .val (.int (1 : Int32)), .unset] [(.int (5 : Int32))]))
      refine Goes.pre (S' := (T6.setTop (mkF m 54 #[.val (.int i0), .val (.int i1), .val (.int i2), .val (.int i3), .val (.int (5 : Int32)), .val (.int ((i1 &&& (2147483647 : Int32)) % ((5 : Int32) + (1 : Int32)))), .val (.int cut), .val (.ref a4), .val (.int (1 : Int32)), .unset] []))) (fun _ k => XS.ifNo X6.here hx rfl (hb hby at_51) rfl (XT.i0_le_f (by decide)) k) ?_
      refine Goes.pre (S' := (T6.setTop (mkF m 56 #[.val (.int i0), .val (.int i1), .val (.int i2), .val (.int i3), .val (.int (5 : Int32)), .val (.int ((i1 &&& (2147483647 : Int32)) % ((5 : Int32) + (1 : Int32)))), .val (.int cut), .val (.ref a4), .val (.int (1 : Int32)), .unset] [(.ref a4)]))) (fun _ k => XS.aload X6.here hx rfl (hb hby at_54) rfl rfl k) ?_
      refine Goes.pre (S' := (T6.setTop (mkF m 57 #[.val (.int i0), .val (.int i1), .val (.int i2), .val (.int i3), .val (.int (5 : Int32)), .val (.int ((i1 &&& (2147483647 : Int32)) % ((5 : Int32) + (1 : Int32)))), .val (.int cut), .val (.ref a4), .val (.int (1 : Int32)), .unset] [(.int i3), (.ref a4)]))) (fun _ k => XS.iloadN X6.here hx rfl (hb hby at_56) rfl k) ?_
      refine Goes.callV (y := (⟨"com/example/clear_plan/clearplan/grounding/FactList", "add", "(I)V"⟩ : MethodName)) (C := "com/example/clear_plan/clearplan/grounding/FactList") X6 hx hZ hown (hw _ (List.mem_of_getElem? (i := 21) rfl)) (hw _ (List.mem_of_getElem? (i := 22) rfl)) (hw _ (List.mem_of_getElem? (i := 24) rfl)) (hw _ (List.mem_of_getElem? (i := 23) rfl)) (hw _ (List.mem_of_getElem? (i := 3) rfl)) (hw _ (List.mem_of_getElem? (i := 25) rfl)) (by decide) e6 Ex5 (rm_a0 l Z a0 hw [] a4 i3 bn kn T5.heap n0 Zn5 Fn5 Fs5 VN2 Ex5 ga4) (by rw [hml]; rfl) [(.int i3)] [] pd_a0 rfl rfl rfl (hb hby at_57) (by decide) (by first | decide | exact Nat.le_of_ble_eq_true rfl | assumption | (simp [Value.category]; done)) (by first | decide | exact Nat.le_of_ble_eq_true rfl | assumption | (simp [Value.category]; done)) (by first | decide | exact Nat.le_of_ble_eq_true rfl | assumption | (simp [Value.category]; done)) ?_
      intro T17 v17 L17 X17 q17
      obtain ⟨bq, kq, rfl, N17a, K17, szq, Fn17, Fs17, V17⟩ := q17
      have gbq : n0 ≤ bq := Nat.le_trans Zn5 szq
      have habq : a4 ≠ bq := own_neLt Fs5.lt szq
      have N17 := Fr.app N6 N17a
      have Zn17 : n0 ≤ T17.heap.size := Nat.le_trans Zn5 K17.1
      have Ex17 := Ex5.keep K17
      show Goes p e below _ (T17.setTop (mkF m 60 #[.val (.int i0), .val (.int i1), .val (.int i2), .val (.int i3), .val (.int (5 : Int32)), .val (.int ((i1 &&& (2147483647 : Int32)) % ((5 : Int32) + (1 : Int32)))), .val (.int cut), .val (.ref a4), .val (.int (1 : Int32)), .unset] []))
      refine Goes.pre (S' := (T17.setTop (mkF m 62 #[.val (.int i0), .val (.int i1), .val (.int i2), .val (.int i3), .val (.int (5 : Int32)), .val (.int ((i1 &&& (2147483647 : Int32)) % ((5 : Int32) + (1 : Int32)))), .val (.int cut), .val (.ref a4), .val (.int (1 : Int32)), .unset] [(.int (5 : Int32))]))) (fun _ k => XS.iload X17.here hx rfl (hb hby at_60) rfl k) ?_
      refine Goes.pre (S' := (T17.setTop (mkF m 63 #[.val (.int i0), .val (.int i1), .val (.int i2), .val (.int i3), .val (.int (5 : Int32)), .val (.int ((i1 &&& (2147483647 : Int32)) % ((5 : Int32) + (1 : Int32)))), .val (.int cut), .val (.ref a4), .val (.int (1 : Int32)), .unset] [(.int (1 : Int32)), (.int (5 : Int32))]))) (fun _ k => XS.iconst X17.here hx rfl (hb hby at_62) k) ?_
      refine Goes.pre (S' := (T17.setTop (mkF m 66 #[.val (.int i0), .val (.int i1), .val (.int i2), .val (.int i3), .val (.int (5 : Int32)), .val (.int ((i1 &&& (2147483647 : Int32)) % ((5 : Int32) + (1 : Int32)))), .val (.int cut), .val (.ref a4), .val (.int (1 : Int32)), .unset] []))) (fun _ k => XS.icmpNo X17.here hx rfl (hb hby at_63) rfl (XT.ii_le_f (by decide)) k) ?_
      refine Goes.pre (S' := (T17.setTop (mkF m 68 #[.val (.int i0), .val (.int i1), .val (.int i2), .val (.int i3), .val (.int (5 : Int32)), .val (.int ((i1 &&& (2147483647 : Int32)) % ((5 : Int32) + (1 : Int32)))), .val (.int cut), .val (.ref a4), .val (.int (1 : Int32)), .unset] [(.ref a4)]))) (fun _ k => XS.aload X17.here hx rfl (hb hby at_66) rfl rfl k) ?_
      refine Goes.pre (S' := (T17.setTop (mkF m 69 #[.val (.int i0), .val (.int i1), .val (.int i2), .val (.int i3), .val (.int (5 : Int32)), .val (.int ((i1 &&& (2147483647 : Int32)) % ((5 : Int32) + (1 : Int32)))), .val (.int cut), .val (.ref a4), .val (.int (1 : Int32)), .unset] [(.int i3), (.ref a4)]))) (fun _ k => XS.iloadN X17.here hx rfl (hb hby at_68) rfl k) ?_
      refine Goes.pre (S' := (T17.setTop (mkF m 70 #[.val (.int i0), .val (.int i1), .val (.int i2), .val (.int i3), .val (.int (5 : Int32)), .val (.int ((i1 &&& (2147483647 : Int32)) % ((5 : Int32) + (1 : Int32)))), .val (.int cut), .val (.ref a4), .val (.int (1 : Int32)), .unset] [(.int (1 : Int32)), (.int i3), (.ref a4)]))) (fun _ k => XS.iconst X17.here hx rfl (hb hby at_69) k) ?_
      refine Goes.pre (S' := (T17.setTop (mkF m 71 #[.val (.int i0), .val (.int i1), .val (.int i2), .val (.int i3), .val (.int (5 : Int32)), .val (.int ((i1 &&& (2147483647 : Int32)) % ((5 : Int32) + (1 : Int32)))), .val (.int cut), .val (.ref a4), .val (.int (1 : Int32)), .unset] [(.int (i3 + (1 : Int32))), (.ref a4)]))) (fun _ k => XS.iadd X17.here hx rfl (hb hby at_70) rfl k) ?_
      refine Goes.callV (y := (⟨"com/example/clear_plan/clearplan/grounding/FactList", "add", "(I)V"⟩ : MethodName)) (C := "com/example/clear_plan/clearplan/grounding/FactList") X17 hx hZ hown (hw _ (List.mem_of_getElem? (i := 21) rfl)) (hw _ (List.mem_of_getElem? (i := 22) rfl)) (hw _ (List.mem_of_getElem? (i := 24) rfl)) (hw _ (List.mem_of_getElem? (i := 23) rfl)) (hw _ (List.mem_of_getElem? (i := 3) rfl)) (hw _ (List.mem_of_getElem? (i := 25) rfl)) (by decide) rfl Ex17 (rm_ak l Z a0 hw [] a4 (i3 + (1 : Int32)) bq kq (1 : Int32) [.int i3] T17.heap n0 Zn17 ⟨by decide, by decide⟩ rfl Fn17 Fs17 V17 Ex17 ga4 gbq habq) (by rw [hml]; rfl) [(.int (i3 + (1 : Int32)))] [] pd_ak rfl rfl rfl (hb hby at_71) (by decide) (by first | decide | exact Nat.le_of_ble_eq_true rfl | assumption | (simp [Value.category]; done)) (by first | decide | exact Nat.le_of_ble_eq_true rfl | assumption | (simp [Value.category]; done)) (by first | decide | exact Nat.le_of_ble_eq_true rfl | assumption | (simp [Value.category]; done)) ?_
      intro T18 v18 L18 X18 q18
      obtain ⟨rfl, N18a, K18, Fn18, Fs18, V18⟩ := q18
      have N18 := Fr.app N17 N18a
      have Zn18 : n0 ≤ T18.heap.size := Nat.le_trans Zn17 K18.1
      have Ex18 := Ex17.keep K18
      show Goes p e below _ (T18.setTop (mkF m 74 #[.val (.int i0), .val (.int i1), .val (.int i2), .val (.int i3), .val (.int (5 : Int32)), .val (.int ((i1 &&& (2147483647 : Int32)) % ((5 : Int32) + (1 : Int32)))), .val (.int cut), .val (.ref a4), .val (.int (1 : Int32)), .unset] []))
      refine Goes.pre (S' := (T18.setTop (mkF m 76 #[.val (.int i0), .val (.int i1), .val (.int i2), .val (.int i3), .val (.int (5 : Int32)), .val (.int ((i1 &&& (2147483647 : Int32)) % ((5 : Int32) + (1 : Int32)))), .val (.int cut), .val (.ref a4), .val (.int (1 : Int32)), .unset] [(.int (5 : Int32))]))) (fun _ k => XS.iload X18.here hx rfl (hb hby at_74) rfl k) ?_
      refine Goes.pre (S' := (T18.setTop (mkF m 77 #[.val (.int i0), .val (.int i1), .val (.int i2), .val (.int i3), .val (.int (5 : Int32)), .val (.int ((i1 &&& (2147483647 : Int32)) % ((5 : Int32) + (1 : Int32)))), .val (.int cut), .val (.ref a4), .val (.int (1 : Int32)), .unset] [(.int (2 : Int32)), (.int (5 : Int32))]))) (fun _ k => XS.iconst X18.here hx rfl (hb hby at_76) k) ?_
      refine Goes.pre (S' := (T18.setTop (mkF m 80 #[.val (.int i0), .val (.int i1), .val (.int i2), .val (.int i3), .val (.int (5 : Int32)), .val (.int ((i1 &&& (2147483647 : Int32)) % ((5 : Int32) + (1 : Int32)))), .val (.int cut), .val (.ref a4), .val (.int (1 : Int32)), .unset] []))) (fun _ k => XS.icmpNo X18.here hx rfl (hb hby at_77) rfl (XT.ii_le_f (by decide)) k) ?_
      refine Goes.pre (S' := (T18.setTop (mkF m 82 #[.val (.int i0), .val (.int i1), .val (.int i2), .val (.int i3), .val (.int (5 : Int32)), .val (.int ((i1 &&& (2147483647 : Int32)) % ((5 : Int32) + (1 : Int32)))), .val (.int cut), .val (.ref a4), .val (.int (1 : Int32)), .unset] [(.ref a4)]))) (fun _ k => XS.aload X18.here hx rfl (hb hby at_80) rfl rfl k) ?_
      refine Goes.pre (S' := (T18.setTop (mkF m 83 #[.val (.int i0), .val (.int i1), .val (.int i2), .val (.int i3), .val (.int (5 : Int32)), .val (.int ((i1 &&& (2147483647 : Int32)) % ((5 : Int32) + (1 : Int32)))), .val (.int cut), .val (.ref a4), .val (.int (1 : Int32)), .unset] [(.int i3), (.ref a4)]))) (fun _ k => XS.iloadN X18.here hx rfl (hb hby at_82) rfl k) ?_
      refine Goes.pre (S' := (T18.setTop (mkF m 84 #[.val (.int i0), .val (.int i1), .val (.int i2), .val (.int i3), .val (.int (5 : Int32)), .val (.int ((i1 &&& (2147483647 : Int32)) % ((5 : Int32) + (1 : Int32)))), .val (.int cut), .val (.ref a4), .val (.int (1 : Int32)), .unset] [(.int (1 : Int32)), (.int i3), (.ref a4)]))) (fun _ k => XS.iconst X18.here hx rfl (hb hby at_83) k) ?_
      refine Goes.pre (S' := (T18.setTop (mkF m 85 #[.val (.int i0), .val (.int i1), .val (.int i2), .val (.int i3), .val (.int (5 : Int32)), .val (.int ((i1 &&& (2147483647 : Int32)) % ((5 : Int32) + (1 : Int32)))), .val (.int cut), .val (.ref a4), .val (.int (1 : Int32)), .unset] [(.int (i3 - (1 : Int32))), (.ref a4)]))) (fun _ k => XS.isub X18.here hx rfl (hb hby at_84) rfl k) ?_
      refine Goes.callV (y := (⟨"com/example/clear_plan/clearplan/grounding/FactList", "add", "(I)V"⟩ : MethodName)) (C := "com/example/clear_plan/clearplan/grounding/FactList") X18 hx hZ hown (hw _ (List.mem_of_getElem? (i := 21) rfl)) (hw _ (List.mem_of_getElem? (i := 22) rfl)) (hw _ (List.mem_of_getElem? (i := 24) rfl)) (hw _ (List.mem_of_getElem? (i := 23) rfl)) (hw _ (List.mem_of_getElem? (i := 3) rfl)) (hw _ (List.mem_of_getElem? (i := 25) rfl)) (by decide) rfl Ex18 (rm_ak l Z a0 hw [] a4 (i3 - (1 : Int32)) bq kq (2 : Int32) [.int i3, .int (i3 + (1 : Int32))] T18.heap n0 Zn18 ⟨by decide, by decide⟩ rfl Fn18 Fs18 V18 Ex18 ga4 gbq habq) (by rw [hml]; rfl) [(.int (i3 - (1 : Int32)))] [] pd_ak rfl rfl rfl (hb hby at_85) (by decide) (by first | decide | exact Nat.le_of_ble_eq_true rfl | assumption | (simp [Value.category]; done)) (by first | decide | exact Nat.le_of_ble_eq_true rfl | assumption | (simp [Value.category]; done)) (by first | decide | exact Nat.le_of_ble_eq_true rfl | assumption | (simp [Value.category]; done)) ?_
      intro T19 v19 L19 X19 q19
      obtain ⟨rfl, N19a, K19, Fn19, Fs19, V19⟩ := q19
      have N19 := Fr.app N18 N19a
      have Zn19 : n0 ≤ T19.heap.size := Nat.le_trans Zn18 K19.1
      have Ex19 := Ex18.keep K19
      show Goes p e below _ (T19.setTop (mkF m 88 #[.val (.int i0), .val (.int i1), .val (.int i2), .val (.int i3), .val (.int (5 : Int32)), .val (.int ((i1 &&& (2147483647 : Int32)) % ((5 : Int32) + (1 : Int32)))), .val (.int cut), .val (.ref a4), .val (.int (1 : Int32)), .unset] []))
      refine Goes.pre (S' := (T19.setTop (mkF m 90 #[.val (.int i0), .val (.int i1), .val (.int i2), .val (.int i3), .val (.int (5 : Int32)), .val (.int ((i1 &&& (2147483647 : Int32)) % ((5 : Int32) + (1 : Int32)))), .val (.int cut), .val (.ref a4), .val (.int (1 : Int32)), .unset] [(.int (5 : Int32))]))) (fun _ k => XS.iload X19.here hx rfl (hb hby at_88) rfl k) ?_
      refine Goes.pre (S' := (T19.setTop (mkF m 91 #[.val (.int i0), .val (.int i1), .val (.int i2), .val (.int i3), .val (.int (5 : Int32)), .val (.int ((i1 &&& (2147483647 : Int32)) % ((5 : Int32) + (1 : Int32)))), .val (.int cut), .val (.ref a4), .val (.int (1 : Int32)), .unset] [(.int (3 : Int32)), (.int (5 : Int32))]))) (fun _ k => XS.iconst X19.here hx rfl (hb hby at_90) k) ?_
      refine Goes.pre (S' := (T19.setTop (mkF m 94 #[.val (.int i0), .val (.int i1), .val (.int i2), .val (.int i3), .val (.int (5 : Int32)), .val (.int ((i1 &&& (2147483647 : Int32)) % ((5 : Int32) + (1 : Int32)))), .val (.int cut), .val (.ref a4), .val (.int (1 : Int32)), .unset] []))) (fun _ k => XS.icmpNo X19.here hx rfl (hb hby at_91) rfl (XT.ii_le_f (by decide)) k) ?_
      refine Goes.pre (S' := (T19.setTop (mkF m 96 #[.val (.int i0), .val (.int i1), .val (.int i2), .val (.int i3), .val (.int (5 : Int32)), .val (.int ((i1 &&& (2147483647 : Int32)) % ((5 : Int32) + (1 : Int32)))), .val (.int cut), .val (.ref a4), .val (.int (1 : Int32)), .unset] [(.ref a4)]))) (fun _ k => XS.aload X19.here hx rfl (hb hby at_94) rfl rfl k) ?_
      refine Goes.pre (S' := (T19.setTop (mkF m 97 #[.val (.int i0), .val (.int i1), .val (.int i2), .val (.int i3), .val (.int (5 : Int32)), .val (.int ((i1 &&& (2147483647 : Int32)) % ((5 : Int32) + (1 : Int32)))), .val (.int cut), .val (.ref a4), .val (.int (1 : Int32)), .unset] [(.int i3), (.ref a4)]))) (fun _ k => XS.iloadN X19.here hx rfl (hb hby at_96) rfl k) ?_
      refine Goes.pre (S' := (T19.setTop (mkF m 98 #[.val (.int i0), .val (.int i1), .val (.int i2), .val (.int i3), .val (.int (5 : Int32)), .val (.int ((i1 &&& (2147483647 : Int32)) % ((5 : Int32) + (1 : Int32)))), .val (.int cut), .val (.ref a4), .val (.int (1 : Int32)), .unset] [(.int (5 : Int32)), (.int i3), (.ref a4)]))) (fun _ k => XS.iconst X19.here hx rfl (hb hby at_97) k) ?_
      refine Goes.pre (S' := (T19.setTop (mkF m 99 #[.val (.int i0), .val (.int i1), .val (.int i2), .val (.int i3), .val (.int (5 : Int32)), .val (.int ((i1 &&& (2147483647 : Int32)) % ((5 : Int32) + (1 : Int32)))), .val (.int cut), .val (.ref a4), .val (.int (1 : Int32)), .unset] [(.int (i3 ^^^ (5 : Int32))), (.ref a4)]))) (fun _ k => XT.ixor X19.here hx rfl (hb hby at_98) rfl k) ?_
      refine Goes.callV (y := (⟨"com/example/clear_plan/clearplan/grounding/FactList", "add", "(I)V"⟩ : MethodName)) (C := "com/example/clear_plan/clearplan/grounding/FactList") X19 hx hZ hown (hw _ (List.mem_of_getElem? (i := 21) rfl)) (hw _ (List.mem_of_getElem? (i := 22) rfl)) (hw _ (List.mem_of_getElem? (i := 24) rfl)) (hw _ (List.mem_of_getElem? (i := 23) rfl)) (hw _ (List.mem_of_getElem? (i := 3) rfl)) (hw _ (List.mem_of_getElem? (i := 25) rfl)) (by decide) rfl Ex19 (rm_ak l Z a0 hw [] a4 (i3 ^^^ (5 : Int32)) bq kq (3 : Int32) [.int i3, .int (i3 + (1 : Int32)), .int (i3 - (1 : Int32))] T19.heap n0 Zn19 ⟨by decide, by decide⟩ rfl Fn19 Fs19 V19 Ex19 ga4 gbq habq) (by rw [hml]; rfl) [(.int (i3 ^^^ (5 : Int32)))] [] pd_ak rfl rfl rfl (hb hby at_99) (by decide) (by first | decide | exact Nat.le_of_ble_eq_true rfl | assumption | (simp [Value.category]; done)) (by first | decide | exact Nat.le_of_ble_eq_true rfl | assumption | (simp [Value.category]; done)) (by first | decide | exact Nat.le_of_ble_eq_true rfl | assumption | (simp [Value.category]; done)) ?_
      intro T20 v20 L20 X20 q20
      obtain ⟨rfl, N20a, K20, Fn20, Fs20, V20⟩ := q20
      have N20 := Fr.app N19 N20a
      have Zn20 : n0 ≤ T20.heap.size := Nat.le_trans Zn19 K20.1
      have Ex20 := Ex19.keep K20
      show Goes p e below _ (T20.setTop (mkF m 102 #[.val (.int i0), .val (.int i1), .val (.int i2), .val (.int i3), .val (.int (5 : Int32)), .val (.int ((i1 &&& (2147483647 : Int32)) % ((5 : Int32) + (1 : Int32)))), .val (.int cut), .val (.ref a4), .val (.int (1 : Int32)), .unset] []))
      refine Goes.pre (S' := (T20.setTop (mkF m 104 #[.val (.int i0), .val (.int i1), .val (.int i2), .val (.int i3), .val (.int (5 : Int32)), .val (.int ((i1 &&& (2147483647 : Int32)) % ((5 : Int32) + (1 : Int32)))), .val (.int cut), .val (.ref a4), .val (.int (1 : Int32)), .unset] [(.int (5 : Int32))]))) (fun _ k => XS.iload X20.here hx rfl (hb hby at_102) rfl k) ?_
      refine Goes.pre (S' := (T20.setTop (mkF m 105 #[.val (.int i0), .val (.int i1), .val (.int i2), .val (.int i3), .val (.int (5 : Int32)), .val (.int ((i1 &&& (2147483647 : Int32)) % ((5 : Int32) + (1 : Int32)))), .val (.int cut), .val (.ref a4), .val (.int (1 : Int32)), .unset] [(.int (4 : Int32)), (.int (5 : Int32))]))) (fun _ k => XS.iconst X20.here hx rfl (hb hby at_104) k) ?_
      refine Goes.pre (S' := (T20.setTop (mkF m 108 #[.val (.int i0), .val (.int i1), .val (.int i2), .val (.int i3), .val (.int (5 : Int32)), .val (.int ((i1 &&& (2147483647 : Int32)) % ((5 : Int32) + (1 : Int32)))), .val (.int cut), .val (.ref a4), .val (.int (1 : Int32)), .unset] []))) (fun _ k => XS.icmpNo X20.here hx rfl (hb hby at_105) rfl (XT.ii_le_f (by decide)) k) ?_
      refine Goes.pre (S' := (T20.setTop (mkF m 110 #[.val (.int i0), .val (.int i1), .val (.int i2), .val (.int i3), .val (.int (5 : Int32)), .val (.int ((i1 &&& (2147483647 : Int32)) % ((5 : Int32) + (1 : Int32)))), .val (.int cut), .val (.ref a4), .val (.int (1 : Int32)), .unset] [(.ref a4)]))) (fun _ k => XS.aload X20.here hx rfl (hb hby at_108) rfl rfl k) ?_
      refine Goes.pre (S' := (T20.setTop (mkF m 111 #[.val (.int i0), .val (.int i1), .val (.int i2), .val (.int i3), .val (.int (5 : Int32)), .val (.int ((i1 &&& (2147483647 : Int32)) % ((5 : Int32) + (1 : Int32)))), .val (.int cut), .val (.ref a4), .val (.int (1 : Int32)), .unset] [(.int i3), (.ref a4)]))) (fun _ k => XS.iloadN X20.here hx rfl (hb hby at_110) rfl k) ?_
      refine Goes.pre (S' := (T20.setTop (mkF m 112 #[.val (.int i0), .val (.int i1), .val (.int i2), .val (.int i3), .val (.int (5 : Int32)), .val (.int ((i1 &&& (2147483647 : Int32)) % ((5 : Int32) + (1 : Int32)))), .val (.int cut), .val (.ref a4), .val (.int (1 : Int32)), .unset] [(.int (-i3)), (.ref a4)]))) (fun _ k => XS.ineg X20.here hx rfl (hb hby at_111) rfl k) ?_
      refine Goes.callV (y := (⟨"com/example/clear_plan/clearplan/grounding/FactList", "add", "(I)V"⟩ : MethodName)) (C := "com/example/clear_plan/clearplan/grounding/FactList") X20 hx hZ hown (hw _ (List.mem_of_getElem? (i := 21) rfl)) (hw _ (List.mem_of_getElem? (i := 22) rfl)) (hw _ (List.mem_of_getElem? (i := 24) rfl)) (hw _ (List.mem_of_getElem? (i := 23) rfl)) (hw _ (List.mem_of_getElem? (i := 3) rfl)) (hw _ (List.mem_of_getElem? (i := 25) rfl)) (by decide) rfl Ex20 (rm_a4 l Z a0 hw [] a4 (-i3) bq kq (.int i3) (.int (i3 + (1 : Int32))) (.int (i3 - (1 : Int32))) (.int (i3 ^^^ (5 : Int32))) T20.heap n0 Zn20 Fn20 Fs20 V20 Ex20 ga4) (by rw [hml]; rfl) [(.int (-i3))] [] pd_a4 rfl rfl rfl (hb hby at_112) (by decide) (by first | decide | exact Nat.le_of_ble_eq_true rfl | assumption | (simp [Value.category]; done)) (by first | decide | exact Nat.le_of_ble_eq_true rfl | assumption | (simp [Value.category]; done)) (by first | decide | exact Nat.le_of_ble_eq_true rfl | assumption | (simp [Value.category]; done)) ?_
      intro T21 v21 L21 X21 q21
      obtain ⟨b5, k5, rfl, N21a, K21, sz5, Fn21, Fs21, V21⟩ := q21
      have N21 := Fr.app N20 N21a
      have Zn21 : n0 ≤ T21.heap.size := Nat.le_trans Zn20 K21.1
      have Ex21 := Ex20.keep K21
      show Goes p e below _ (T21.setTop (mkF m 115 #[.val (.int i0), .val (.int i1), .val (.int i2), .val (.int i3), .val (.int (5 : Int32)), .val (.int ((i1 &&& (2147483647 : Int32)) % ((5 : Int32) + (1 : Int32)))), .val (.int cut), .val (.ref a4), .val (.int (1 : Int32)), .unset] []))
      exact tail (5 : Int32) _ _ _ _ _ _ _ _ X21 rfl N21 Zn21 Ex21 Fs21 ga4 (by first | decide | exact Nat.le_of_ble_eq_true rfl | assumption | (simp [Value.category]; done)) (by first | decide | exact Nat.le_of_ble_eq_true rfl | assumption | (simp [Value.category]; done))
  by_cases c23 : (i2 &&& (1 : Int32)) = 0
  · skip
    refine Goes.pre (S' := (s₁.setTop (mkF m 30 #[.val (.int i0), .val (.int i1), .val (.int i2), .val (.int i3), .val (.int ((i0 &&& (2147483647 : Int32)) % (6 : Int32))), .val (.int ((i1 &&& (2147483647 : Int32)) % (((i0 &&& (2147483647 : Int32)) % (6 : Int32)) + (1 : Int32)))), .unset, .unset, .unset, .unset] []))) (fun _ k => XS.ifYes X0.here hx rfl (pc0 := 23) (pc' := 30) rfl (hb hby at_23) rfl (XT.i0_eq_t c23) (by decide) (by decide) k) ?_
    refine Goes.pre (S' := (s₁.setTop (mkF m 31 #[.val (.int i0), .val (.int i1), .val (.int i2), .val (.int i3), .val (.int ((i0 &&& (2147483647 : Int32)) % (6 : Int32))), .val (.int ((i1 &&& (2147483647 : Int32)) % (((i0 &&& (2147483647 : Int32)) % (6 : Int32)) + (1 : Int32)))), .unset, .unset, .unset, .unset] [(.int (0 : Int32))]))) (fun _ k => XS.iconst X0.here hx rfl (hb hby at_30) k) ?_
    refine Goes.pre (S' := (s₁.setTop (mkF m 33 #[.val (.int i0), .val (.int i1), .val (.int i2), .val (.int i3), .val (.int ((i0 &&& (2147483647 : Int32)) % (6 : Int32))), .val (.int ((i1 &&& (2147483647 : Int32)) % (((i0 &&& (2147483647 : Int32)) % (6 : Int32)) + (1 : Int32)))), .val (.int (0 : Int32)), .unset, .unset, .unset] []))) (fun _ k => XS.istore X0.here hx rfl (hb hby at_31) rfl (l' := #[.val (.int i0), .val (.int i1), .val (.int i2), .val (.int i3), .val (.int ((i0 &&& (2147483647 : Int32)) % (6 : Int32))), .val (.int ((i1 &&& (2147483647 : Int32)) % (((i0 &&& (2147483647 : Int32)) % (6 : Int32)) + (1 : Int32)))), .val (.int (0 : Int32)), .unset, .unset, .unset]) rfl k) ?_
    exact mid _
  · skip
    refine Goes.pre (S' := (s₁.setTop (mkF m 26 #[.val (.int i0), .val (.int i1), .val (.int i2), .val (.int i3), .val (.int ((i0 &&& (2147483647 : Int32)) % (6 : Int32))), .val (.int ((i1 &&& (2147483647 : Int32)) % (((i0 &&& (2147483647 : Int32)) % (6 : Int32)) + (1 : Int32)))), .unset, .unset, .unset, .unset] []))) (fun _ k => XS.ifNo X0.here hx rfl (hb hby at_23) rfl (XT.i0_eq_f c23) k) ?_
    refine Goes.pre (S' := (s₁.setTop (mkF m 27 #[.val (.int i0), .val (.int i1), .val (.int i2), .val (.int i3), .val (.int ((i0 &&& (2147483647 : Int32)) % (6 : Int32))), .val (.int ((i1 &&& (2147483647 : Int32)) % (((i0 &&& (2147483647 : Int32)) % (6 : Int32)) + (1 : Int32)))), .unset, .unset, .unset, .unset] [(.int (1 : Int32))]))) (fun _ k => XS.iconst X0.here hx rfl (hb hby at_26) k) ?_
    refine Goes.pre (S' := (s₁.setTop (mkF m 31 #[.val (.int i0), .val (.int i1), .val (.int i2), .val (.int i3), .val (.int ((i0 &&& (2147483647 : Int32)) % (6 : Int32))), .val (.int ((i1 &&& (2147483647 : Int32)) % (((i0 &&& (2147483647 : Int32)) % (6 : Int32)) + (1 : Int32)))), .unset, .unset, .unset, .unset] [(.int (1 : Int32))]))) (fun _ k => XS.goto X0.here hx rfl (pc0 := 27) (pc' := 31) rfl (hb hby at_27) (by decide) (by decide) k) ?_
    refine Goes.pre (S' := (s₁.setTop (mkF m 33 #[.val (.int i0), .val (.int i1), .val (.int i2), .val (.int i3), .val (.int ((i0 &&& (2147483647 : Int32)) % (6 : Int32))), .val (.int ((i1 &&& (2147483647 : Int32)) % (((i0 &&& (2147483647 : Int32)) % (6 : Int32)) + (1 : Int32)))), .val (.int (1 : Int32)), .unset, .unset, .unset] []))) (fun _ k => XS.istore X0.here hx rfl (hb hby at_31) rfl (l' := #[.val (.int i0), .val (.int i1), .val (.int i2), .val (.int i3), .val (.int ((i0 &&& (2147483647 : Int32)) % (6 : Int32))), .val (.int ((i1 &&& (2147483647 : Int32)) % (((i0 &&& (2147483647 : Int32)) % (6 : Int32)) + (1 : Int32)))), .val (.int (1 : Int32)), .unset, .unset, .unset]) rfl k) ?_
    exact mid _
set_option maxRecDepth 65536 in
set_option maxHeartbeats 40000000 in
theorem comes_1 {Post : Tables → Env → Array Value → State → Outcome → State → Prop} (hpost : ∀ tb e args s v u, (limb_1_1.after args s (.returned v) u = true ∧ limb_1_2.after args s (.returned v) u = true ∧ True) → FrameEnd s (.returned v) u (Jvm.fieldLocs frame_1_writes args s ++ Jvm.arrayLocs frame_1_arrays args s ++ Jvm.staticLocs frame_1_statics s) 16 128 → Post tb e args s (.returned v) u) :
    ArmFor flags0 classFile x code maxLocals ret World_1 tables_1 room_1 Calls_1 rest_1 Pre_1 Post := by
  intro l hfl _ _ p e ha hc hk s m args below hf hA hF happ hP
  obtain ⟨hcalls, hrest, hpre⟩ := hP
  obtain ⟨-, -, -, hnamed, -, -, -, hat⟩ := (Spec.applies_iff hf).mp happ
  obtain ⟨hg, hn⟩ := and_e (Cond.before_iff.mp (show (Jvm.Cond.and given_1 narrow_1).before args s = true from hpre))
  obtain ⟨gc, gr0⟩ := and_e hg
  obtain ⟨ga0, gr1⟩ := and_e gr0
  obtain ⟨ga1, gr2⟩ := and_e gr1
  obtain ⟨ga2, gr3⟩ := and_e gr2
  obtain ⟨w0, w1, w2, w3, rfl⟩ : ∃ w0 w1 w2 w3 : Value, args = #[w0, w1, w2, w3] := by
    have hs : args.size = 4 := by simpa [Cond.value, given_1] using gc
    obtain ⟨L⟩ := args
    match L, hs with
    | [w0, w1, w2, w3], _ => exact ⟨w0, w1, w2, w3, rfl⟩
  have hw := fun d (hd : d ∈ tables_1) => atoms_spec (ws := Jvm.Cond.code x code maxLocals ret :: tables_1) hat d (List.mem_cons_of_mem _ hd)
  have hfit : Fit s := fun {y c} hc i hi => by
    obtain ⟨ha, rfl⟩ := Array.getElem?_eq_some_iff.mp hc
    have q := List.all_eq_true.mp ((Array.all_eq_true_iff_forall_mem.mp hF) _ (Array.getElem_mem ha)) i (List.mem_range.mpr hi)
    simpa [Array.getElem?_eq_getElem hi] using q
  obtain ⟨i0, ei0⟩ := is_v ga0
  obtain rfl : w0 = (.int i0) := Option.some.inj ei0
  obtain ⟨i1, ei1⟩ := is_v ga1
  obtain rfl : w1 = (.int i1) := Option.some.inj ei1
  obtain ⟨i2, ei2⟩ := is_v ga2
  obtain rfl : w2 = (.int i2) := Option.some.inj ei2
  obtain ⟨i3, ei3⟩ := is_v gr3
  obtain rfl : w3 = (.int i3) := Option.some.inj ei3
  obtain ⟨nw0, nwr0⟩ := and_e hn
  have nw1 := nwr0
  obtain ⟨bn, evb⟩ := arr_v nw0
  obtain ⟨cb, Ab⟩ := Arr.start evb nw0
  obtain ⟨lb1, lb2⟩ := own_len evb Ab (eqv_i (Term.int_eval _) nw1)
  have SN : Sta s s.heap "com/example/clear_plan/clearplan/grounding/FactList" "NONE" "[I" (.ref bn) := Sta.start evb (Or.inr ⟨(hw _ (List.mem_of_getElem? (i := 3) rfl)), (hw _ (List.mem_of_getElem? (i := 11) rfl))⟩)
  have VN : Arv s s.heap bn cb.cls .int 0 [] (.int 0) := Arv.start hfit Ab lb1 lb2 (by decide) rfl trivial
  obtain ⟨n, o, h1, h2, h3, _, L, rfl, ⟨rfl, N⟩, hq⟩ := rm_law l s _ hw tables_1 i0 i1 i2 i3 bn cb.cls s.heap s.heap.size (Nat.le_refl _) SN VN p e ha hc hk s m _ below hf ((Spec.applies_iff_loose hf).mp happ).1 ⟨rfl, State.Warmed39.refl s, rfl⟩ trivial
  refine ⟨n, _, h1, h2, h3, hpost _ _ _ _ _ _ ⟨Cond.after_iff.mpr rfl, Cond.after_iff.mpr (eq_i res_at (Term.int_eval (1)) rfl), trivial⟩ ⟨hq.1, hq.2.1, (hq.2.2.sift fun y hy => Or.inr (N y hy)).mono (by decide) (by decide)⟩⟩
theorem main_1_1 : Claimed_1_1 := comes_1 fun _ _ _ _ _ _ h hF => ⟨h.1, hF⟩
theorem main_1_2 : Claimed_1_2 := comes_1 fun _ _ _ _ _ _ h hF => ⟨h.2.1, hF⟩
end Jvm.Pilot.@@N@@
namespace Jvm.Pilot.@@N@@
open Jvm Jvm.ClassFile Sem Op Lib Jvm.Free Jvm.Stand Jvm.Pilot.@@N@@.Jvm.D
/-! MADE BY PROGRAM (witnessworld.py) out of the Statement's table words and the real class files: 12 classes; the members and pool entries that the words name. The judged class is class 1, her method 1. -/
namespace start1
open Jvm.ClassFile
def u (s : String) : CpInfo := .utf8 (stringToUtf16 s)
/-- a pool by its gaps: so many unusable entries, then the entry; so many at the end -/
def gap : Nat → List CpInfo → List CpInfo
  | 0, r => r
  | n + 1, r => .unusable :: gap n r
def poolList (es : List (Nat × CpInfo)) (last : Nat) : List CpInfo := es.foldr (fun e r => gap e.1 (e.2 :: r)) (gap last [])
def pool (es : List (Nat × CpInfo)) (last : Nat) : Array CpInfo := ⟨poolList es last⟩
def fileOf (pool : Array CpInfo) (this : Nat) (attrs : Array Attribute := #[]) (ms : Array MethodInfo := #[]) (fl : Nat := 33) (sup : Nat := 0) (ifs : Array Nat := #[]) (fds : Array FieldInfo := #[]) : ClassFile where
  minorVersion := 0
  majorVersion := 65
  constantPool := pool
  accessFlags := fl
  thisClass := this
  superClass := sup
  interfaces := ifs
  fields := fds
  methods := ms
  attributes := attrs
def plain (name : String) (sup : Option ClassId) : Class where
  name := name
  kind := .ordinary
  loader := none
  accessFlags := 33
  super := sup
  interfaces := #[]
  cf := none
  fields := #[]
  methods := #[]
  instanceTypes := #[]
  staticTypes := #[]
  resolved := #[]
  callSites := []
  init := .initialized
  statics := none
  mirror := none

def pool0 : Array CpInfo := pool [(5, u "<init>"), (0, u "()V"), (1, .class_ 10), (1, u "java/lang/Object")] 113

def k0c0 : Code := { maxStack := 0, maxLocals := 1, code := object_method_1_code, exceptionTable := #[], attributes := #[] }
def k0m0 : Method := { name := "<init>", desc := "()V", sig := { parameters := [], returnType := none }, accessFlags := 1, code := some k0c0 }
/-- java/lang/Object -/
def k0 : Class := { plain "java/lang/Object" none with
  accessFlags := 33
  interfaces := #[]
  cf := some (fileOf pool0 8 #[] #[{ accessFlags := 1, nameIndex := 5, descriptorIndex := 6, attributes := #[] }] 33 0 #[] #[])
  fields := #[]
  methods := #[k0m0]
  instanceTypes := #[]
  staticTypes := #[]
  resolved := Array.replicate 124 none
  statics := none }

def pool1 : Array CpInfo := pool [(2, .class_ 4), (0, .nameAndType 5 6), (0, u "java/lang/Object"), (0, u "<init>"), (0, u "()V"), (0, .integer 2147483647), (0, .class_ 9), (0, u "com/example/clear_plan/clearplan/grounding/FactList"), (0, .methodref 8 3), (0, .methodref 8 12), (0, .nameAndType 13 14), (0, u "isEmpty"), (0, u "()Z"), (0, .methodref 8 16), (0, .nameAndType 17 18), (0, u "add"), (0, u "(I)V"), (0, .methodref 8 20), (0, .nameAndType 21 18), (0, u "truncate"), (0, .class_ 23), (0, u "com/example/clear_plan/clearplan/grounding/FactListIsEmptyPinLaw"), (2, u "law"), (0, u "(IIII)Z")] 3

def k1m0 : Method := { name := "<init>", desc := "()V", sig := { parameters := [], returnType := none }, accessFlags := 1, code := none }
def k1c1 : Code := { maxStack := 3, maxLocals := 10, code := code, exceptionTable := #[], attributes := #[] }
def k1m1 : Method := { name := "law", desc := "(IIII)Z", sig := { parameters := [.int, .int, .int, .int], returnType := some .boolean }, accessFlags := 9, code := some k1c1 }
/-- com/example/clear_plan/clearplan/grounding/FactListIsEmptyPinLaw -/
def k1 : Class := { plain "com/example/clear_plan/clearplan/grounding/FactListIsEmptyPinLaw" (some 0) with
  accessFlags := 49
  interfaces := #[]
  cf := some (fileOf pool1 22 #[] #[{ accessFlags := 1, nameIndex := 5, descriptorIndex := 6, attributes := #[] }, { accessFlags := 9, nameIndex := 26, descriptorIndex := 27, attributes := #[] }] 49 2 #[] #[])
  fields := #[]
  methods := #[k1m0, k1m1]
  instanceTypes := #[]
  staticTypes := #[]
  resolved := Array.replicate 31 none
  statics := none }

def pool2 : Array CpInfo := pool [(1, .methodref 2 3), (0, .class_ 4), (0, .nameAndType 5 6), (0, u "java/lang/Object"), (0, u "<init>"), (0, u "()V"), (0, .fieldref 8 9), (0, .class_ 10), (0, .nameAndType 11 12), (0, u "com/example/clear_plan/clearplan/grounding/FactList"), (0, u "NONE"), (0, u "[I"), (0, .fieldref 8 14), (0, .nameAndType 15 12), (0, u "numbers"), (0, .fieldref 8 17), (0, .nameAndType 18 19), (0, u "size"), (0, u "I"), (4, u "(I)V"), (0, .methodref 26 27), (0, .class_ 28), (0, .nameAndType 29 30), (0, u "java/util/Arrays"), (0, u "copyOf"), (0, u "([II)[I"), (3, u "isEmpty"), (0, u "()Z"), (3, u "add"), (1, u "truncate")] 4

def k2c0 : Code := { maxStack := 2, maxLocals := 1, code := prog_15_method_1_code, exceptionTable := #[], attributes := #[] }
def k2m0 : Method := { name := "<init>", desc := "()V", sig := { parameters := [], returnType := none }, accessFlags := 0, code := some k2c0 }
def k2c1 : Code := { maxStack := 1, maxLocals := 1, code := prog_15_method_3_code, exceptionTable := #[], attributes := #[] }
def k2m1 : Method := { name := "isEmpty", desc := "()Z", sig := { parameters := [], returnType := some .boolean }, accessFlags := 1, code := some k2c1 }
def k2c2 : Code := { maxStack := 5, maxLocals := 2, code := prog_15_method_5_code, exceptionTable := #[], attributes := #[] }
def k2m2 : Method := { name := "add", desc := "(I)V", sig := { parameters := [.int], returnType := none }, accessFlags := 0, code := some k2c2 }
def k2c3 : Code := { maxStack := 2, maxLocals := 2, code := prog_15_method_6_code, exceptionTable := #[], attributes := #[] }
def k2m3 : Method := { name := "truncate", desc := "(I)V", sig := { parameters := [.int], returnType := none }, accessFlags := 0, code := some k2c3 }
/-- com/example/clear_plan/clearplan/grounding/FactList -/
def k2 : Class := { plain "com/example/clear_plan/clearplan/grounding/FactList" (some 0) with
  accessFlags := 49
  interfaces := #[]
  cf := some (fileOf pool2 8 #[] #[{ accessFlags := 0, nameIndex := 5, descriptorIndex := 6, attributes := #[] }, { accessFlags := 1, nameIndex := 34, descriptorIndex := 35, attributes := #[] }, { accessFlags := 0, nameIndex := 39, descriptorIndex := 24, attributes := #[] }, { accessFlags := 0, nameIndex := 41, descriptorIndex := 24, attributes := #[] }] 49 2 #[] #[{ accessFlags := 26, nameIndex := 11, descriptorIndex := 12, attributes := #[] }, { accessFlags := 2, nameIndex := 15, descriptorIndex := 12, attributes := #[] }, { accessFlags := 2, nameIndex := 18, descriptorIndex := 19, attributes := #[] }])
  fields := #[{ name := "NONE", type := (.array .int), accessFlags := 26, slot := 0, constantValue := 0 }, { name := "numbers", type := (.array .int), accessFlags := 2, slot := 0, constantValue := 0 }, { name := "size", type := .int, accessFlags := 2, slot := 1, constantValue := 0 }]
  methods := #[k2m0, k2m1, k2m2, k2m3]
  instanceTypes := #[(.array .int), .int]
  staticTypes := #[(.array .int)]
  resolved := Array.replicate 46 none
  statics := some 0 }

def pool3 : Array CpInfo := pool [(2, .class_ 4), (1, u "java/lang/Object"), (0, u "<init>"), (0, u "()V"), (7, .class_ 16), (1, u "java/util/Arrays"), (57, .class_ 76), (1, u "java/util/Arrays$NaturalOrder"), (36, .class_ 115), (1, u "java/util/Arrays$LegacyMergeSort"), (1, u "Z"), (32, .methodref 151 152), (0, .class_ 153), (0, .nameAndType 154 155), (0, u "java/lang/System"), (0, u "arraycopy"), (0, u "(Ljava/lang/Object;ILjava/lang/Object;II)V"), (146, u "copyOf"), (1, .methodref 305 306), (0, .class_ 307), (0, .nameAndType 308 309), (0, u "java/lang/Math"), (0, u "min"), (0, u "(II)I"), (65, .class_ 376), (0, u "java/util/Arrays$ArrayList"), (68, u "$assertionsDisabled"), (269, u "MIN_ARRAY_SORT_GRAN"), (0, u "I"), (2, u "INSERTIONSORT_THRESHOLD"), (151, u "([II)[I"), (103, .class_ 976), (0, u "java/util/Arrays$ArrayItr")] 52

def k3m0 : Method := { name := "<init>", desc := "()V", sig := { parameters := [], returnType := none }, accessFlags := 2, code := none }
def k3c1 : Code := { maxStack := 6, maxLocals := 3, code := jdk_65_method_123_code, exceptionTable := #[], attributes := #[] }
def k3m1 : Method := { name := "copyOf", desc := "([II)[I", sig := { parameters := [(.array .int), .int], returnType := some (.array .int) }, accessFlags := 9, code := some k3c1 }
/-- java/util/Arrays -/
def k3 : Class := { plain "java/util/Arrays" (some 0) with
  accessFlags := 49
  interfaces := #[]
  cf := some (fileOf pool3 14 #[.nestMembers #[975, 375, 113, 74]] #[{ accessFlags := 2, nameIndex := 5, descriptorIndex := 6, attributes := #[] }, { accessFlags := 9, nameIndex := 302, descriptorIndex := 871, attributes := #[] }] 49 2 #[] #[{ accessFlags := 26, nameIndex := 715, descriptorIndex := 716, attributes := #[] }, { accessFlags := 26, nameIndex := 719, descriptorIndex := 716, attributes := #[] }, { accessFlags := 4120, nameIndex := 445, descriptorIndex := 117, attributes := #[] }])
  fields := #[{ name := "MIN_ARRAY_SORT_GRAN", type := .int, accessFlags := 26, slot := 0, constantValue := 0 }, { name := "INSERTIONSORT_THRESHOLD", type := .int, accessFlags := 26, slot := 1, constantValue := 0 }, { name := "$assertionsDisabled", type := .boolean, accessFlags := 4120, slot := 2, constantValue := 0 }]
  methods := #[k3m0, k3m1]
  instanceTypes := #[]
  staticTypes := #[.int, .int, .boolean]
  resolved := Array.replicate 1029 none
  statics := none }

def pool4 : Array CpInfo := pool [(1, .class_ 2), (0, u "java/lang/Math"), (1, .class_ 6), (1, u "java/lang/Object"), (0, u "<init>"), (0, u "()V"), (89, .class_ 100), (1, u "java/lang/Math$RandomNumberGeneratorHolder"), (71, u "negativeZeroFloatBits"), (0, u "J"), (2, u "negativeZeroDoubleBits"), (24, u "min"), (43, u "$assertionsDisabled"), (0, u "Z"), (88, u "(II)I"), (2, u "twoToTheDoubleScaleDown"), (0, u "D"), (4, u "twoToTheDoubleScaleUp"), (9, u "E"), (3, u "PI"), (2, u "TAU"), (2, u "DEGREES_TO_RADIANS"), (0, u "RADIANS_TO_DEGREES")] 94

def k4m0 : Method := { name := "<init>", desc := "()V", sig := { parameters := [], returnType := none }, accessFlags := 2, code := none }
def k4c1 : Code := { maxStack := 2, maxLocals := 2, code := jdk_29_method_69_code, exceptionTable := #[], attributes := #[] }
def k4m1 : Method := { name := "min", desc := "(II)I", sig := { parameters := [.int, .int], returnType := some .int }, accessFlags := 9, code := some k4c1 }
/-- java/lang/Math -/
def k4 : Class := { plain "java/lang/Math" (some 0) with
  accessFlags := 49
  interfaces := #[]
  cf := some (fileOf pool4 1 #[.nestMembers #[98]] #[{ accessFlags := 2, nameIndex := 7, descriptorIndex := 8, attributes := #[] }, { accessFlags := 9, nameIndex := 201, descriptorIndex := 335, attributes := #[] }] 49 4 #[] #[{ accessFlags := 25, nameIndex := 354, descriptorIndex := 339, attributes := #[] }, { accessFlags := 25, nameIndex := 358, descriptorIndex := 339, attributes := #[] }, { accessFlags := 25, nameIndex := 361, descriptorIndex := 339, attributes := #[] }, { accessFlags := 26, nameIndex := 364, descriptorIndex := 339, attributes := #[] }, { accessFlags := 26, nameIndex := 365, descriptorIndex := 339, attributes := #[] }, { accessFlags := 26, nameIndex := 172, descriptorIndex := 173, attributes := #[] }, { accessFlags := 26, nameIndex := 176, descriptorIndex := 173, attributes := #[] }, { accessFlags := 8, nameIndex := 344, descriptorIndex := 339, attributes := #[] }, { accessFlags := 8, nameIndex := 338, descriptorIndex := 339, attributes := #[] }, { accessFlags := 4120, nameIndex := 245, descriptorIndex := 246, attributes := #[] }])
  fields := #[{ name := "E", type := .double, accessFlags := 25, slot := 0, constantValue := 0 }, { name := "PI", type := .double, accessFlags := 25, slot := 1, constantValue := 0 }, { name := "TAU", type := .double, accessFlags := 25, slot := 2, constantValue := 0 }, { name := "DEGREES_TO_RADIANS", type := .double, accessFlags := 26, slot := 3, constantValue := 0 }, { name := "RADIANS_TO_DEGREES", type := .double, accessFlags := 26, slot := 4, constantValue := 0 }, { name := "negativeZeroFloatBits", type := .long, accessFlags := 26, slot := 5, constantValue := 0 }, { name := "negativeZeroDoubleBits", type := .long, accessFlags := 26, slot := 6, constantValue := 0 }, { name := "twoToTheDoubleScaleUp", type := .double, accessFlags := 8, slot := 7, constantValue := 0 }, { name := "twoToTheDoubleScaleDown", type := .double, accessFlags := 8, slot := 8, constantValue := 0 }, { name := "$assertionsDisabled", type := .boolean, accessFlags := 4120, slot := 9, constantValue := 0 }]
  methods := #[k4m0, k4m1]
  instanceTypes := #[]
  staticTypes := #[.double, .double, .double, .double, .double, .long, .long, .double, .double, .boolean]
  resolved := Array.replicate 460 none
  statics := none }

def pool5 : Array CpInfo := pool [(2, .class_ 4), (1, u "java/lang/Object"), (0, u "<init>"), (0, u "()V"), (1, .class_ 10), (1, u "java/lang/System"), (0, u "allowSecurityManager"), (0, u "I"), (16, u "cons"), (0, u "Ljava/io/Console;"), (77, .class_ 110), (1, u "java/lang/System$CallersHolder"), (43, u "initialErrStream"), (0, u "Ljava/io/PrintStream;"), (19, u "security"), (0, u "Ljava/lang/SecurityManager;"), (31, .class_ 209), (0, u "java/lang/System$1"), (7, u "props"), (0, u "Ljava/util/Properties;"), (2, u "lineSeparator"), (0, u "Ljava/lang/String;"), (96, .class_ 321), (1, u "java/lang/System$LoggerFinder"), (5, .class_ 328), (0, u "java/lang/System$Logger"), (67, u "err"), (2, u "out"), (91, u "notSupportedJnuEncoding"), (15, u "in"), (17, u "initialIn"), (0, u "Ljava/io/InputStream;"), (35, u "bootLayer"), (0, u "Ljava/lang/ModuleLayer;"), (99, .class_ 664), (0, u "java/lang/System$2"), (9, u "NEVER"), (2, u "MAYBE"), (49, u "arraycopy"), (0, u "(Ljava/lang/Object;ILjava/lang/Object;II)V"), (72, .class_ 802), (0, u "java/lang/System$Logger$Level")] 31

def k5m0 : Method := { name := "<init>", desc := "()V", sig := { parameters := [], returnType := none }, accessFlags := 2, code := none }
def k5m1 : Method := { name := "arraycopy", desc := "(Ljava/lang/Object;ILjava/lang/Object;II)V", sig := { parameters := [(.object "java/lang/Object"), .int, (.object "java/lang/Object"), .int, .int], returnType := none }, accessFlags := 265, code := none }
/-- java/lang/System -/
def k5 : Class := { plain "java/lang/System" (some 0) with
  accessFlags := 49
  interfaces := #[]
  cf := some (fileOf pool5 8 #[.nestMembers #[319, 327, 801, 108, 663, 208]] #[{ accessFlags := 2, nameIndex := 5, descriptorIndex := 6, attributes := #[] }, { accessFlags := 265, nameIndex := 727, descriptorIndex := 728, attributes := #[] }] 49 2 #[] #[{ accessFlags := 25, nameIndex := 507, descriptorIndex := 526, attributes := #[] }, { accessFlags := 25, nameIndex := 399, descriptorIndex := 155, attributes := #[] }, { accessFlags := 25, nameIndex := 396, descriptorIndex := 155, attributes := #[] }, { accessFlags := 10, nameIndex := 525, descriptorIndex := 526, attributes := #[] }, { accessFlags := 26, nameIndex := 674, descriptorIndex := 12, attributes := #[] }, { accessFlags := 26, nameIndex := 677, descriptorIndex := 12, attributes := #[] }, { accessFlags := 10, nameIndex := 11, descriptorIndex := 12, attributes := #[] }, { accessFlags := 74, nameIndex := 175, descriptorIndex := 176, attributes := #[] }, { accessFlags := 10, nameIndex := 491, descriptorIndex := 222, attributes := #[] }, { accessFlags := 74, nameIndex := 29, descriptorIndex := 30, attributes := #[] }, { accessFlags := 74, nameIndex := 154, descriptorIndex := 155, attributes := #[] }, { accessFlags := 10, nameIndex := 217, descriptorIndex := 218, attributes := #[] }, { accessFlags := 10, nameIndex := 221, descriptorIndex := 222, attributes := #[] }, { accessFlags := 8, nameIndex := 562, descriptorIndex := 563, attributes := #[] }])
  fields := #[{ name := "in", type := (.object "java/io/InputStream"), accessFlags := 25, slot := 0, constantValue := 0 }, { name := "out", type := (.object "java/io/PrintStream"), accessFlags := 25, slot := 1, constantValue := 0 }, { name := "err", type := (.object "java/io/PrintStream"), accessFlags := 25, slot := 2, constantValue := 0 }, { name := "initialIn", type := (.object "java/io/InputStream"), accessFlags := 10, slot := 3, constantValue := 0 }, { name := "NEVER", type := .int, accessFlags := 26, slot := 4, constantValue := 0 }, { name := "MAYBE", type := .int, accessFlags := 26, slot := 5, constantValue := 0 }, { name := "allowSecurityManager", type := .int, accessFlags := 10, slot := 6, constantValue := 0 }, { name := "security", type := (.object "java/lang/SecurityManager"), accessFlags := 74, slot := 7, constantValue := 0 }, { name := "notSupportedJnuEncoding", type := (.object "java/lang/String"), accessFlags := 10, slot := 8, constantValue := 0 }, { name := "cons", type := (.object "java/io/Console"), accessFlags := 74, slot := 9, constantValue := 0 }, { name := "initialErrStream", type := (.object "java/io/PrintStream"), accessFlags := 74, slot := 10, constantValue := 0 }, { name := "props", type := (.object "java/util/Properties"), accessFlags := 10, slot := 11, constantValue := 0 }, { name := "lineSeparator", type := (.object "java/lang/String"), accessFlags := 10, slot := 12, constantValue := 0 }, { name := "bootLayer", type := (.object "java/lang/ModuleLayer"), accessFlags := 8, slot := 13, constantValue := 0 }]
  methods := #[k5m0, k5m1]
  instanceTypes := #[]
  staticTypes := #[(.object "java/io/InputStream"), (.object "java/io/PrintStream"), (.object "java/io/PrintStream"), (.object "java/io/InputStream"), .int, .int, .int, (.object "java/lang/SecurityManager"), (.object "java/lang/String"), (.object "java/io/Console"), (.object "java/io/PrintStream"), (.object "java/util/Properties"), (.object "java/lang/String"), (.object "java/lang/ModuleLayer")]
  resolved := Array.replicate 834 none
  statics := none }

def pool6 : Array CpInfo := pool [(1, u "java/lang/Cloneable"), (0, .class_ 1), (0, u "java/lang/Object"), (0, .class_ 3)] 3

/-- java/lang/Cloneable -/
def k6 : Class := { plain "java/lang/Cloneable" (some 0) with
  accessFlags := 1537
  interfaces := #[]
  cf := some (fileOf pool6 2 #[] #[] 1537 4 #[] #[])
  fields := #[]
  methods := #[]
  instanceTypes := #[]
  staticTypes := #[]
  resolved := Array.replicate 8 none
  statics := none }

def pool7 : Array CpInfo := pool [(1, u "java/io/Serializable"), (0, .class_ 1), (0, u "java/lang/Object"), (0, .class_ 3)] 3

/-- java/io/Serializable -/
def k7 : Class := { plain "java/io/Serializable" (some 0) with
  accessFlags := 1537
  interfaces := #[]
  cf := some (fileOf pool7 2 #[] #[] 1537 4 #[] #[])
  fields := #[]
  methods := #[]
  instanceTypes := #[]
  staticTypes := #[]
  resolved := Array.replicate 8 none
  statics := none }

/-- the primitive byte -/
def k8 : Class := { plain "byte" none with kind := .primitive 'B', accessFlags := 0x411 }
/-- [B -/
def k9 : Class := { plain "[B" (some 0) with kind := .array 8 .byte, interfaces := #[6, 7], accessFlags := 1041 }

/-- the primitive int -/
def k10 : Class := { plain "int" none with kind := .primitive 'I', accessFlags := 0x411 }
/-- [I -/
def k11 : Class := { plain "[I" (some 0) with kind := .array 10 .int, interfaces := #[6, 7], accessFlags := 1041 }

def heap : Heap := #[{ cls := 2, slots := #[.ref 1], vm := .statics 2 },
  { cls := 11, slots := #[], vm := .none }]
def classes : Array Class := #[k0, k1, k2, k3, k4, k5, k6, k7, k8, k9, k10, k11]
def interned : List (Array UInt16 × Addr) := []
def slotsUsed : Nat := 1
def theMethod : MethodId := ⟨1, 1⟩
def args0 : Array Value := #[.int 5, .int 4, .int 3, .int 2]
def aboutOver (below : List Frame) : State where
  vm := { classes := classes, interned := interned.toArray }
  heap := heap
  slotsUsed := slotsUsed
  threads := #[{ frames := .invoking theMethod args0 :: below }]
def below0 : List Frame := [.native { method := ⟨0, 0⟩, args := #[] }]
def about1 : State := aboutOver below0
def p0 : Program := .bare "" "" ""
def e0 : Env := launch0.env 0 0 0
theorem w_frames : about1.frames = Frame.invoking theMethod args0 :: below0 := rfl
set_option maxRecDepth 65536 in
theorem w_args : argsFit about1.vm theMethod args0 = true := by decide +kernel
set_option maxRecDepth 65536 in
theorem w_heap : heapFits about1 = true := by decide +kernel
set_option maxRecDepth 65536 in
theorem w_runnable : about1.curStatus? = some .runnable := by decide +kernel
set_option maxRecDepth 65536 in
theorem w_alone : about1.alone = true := by decide +kernel
set_option maxRecDepth 65536 in
theorem w_named : about1.methodNamed? x = some theMethod := by decide +kernel
set_option maxRecDepth 65536 in
theorem w_hears : about1.hears theMethod below0 = true := by decide +kernel
set_option maxRecDepth 65536 in
theorem w_ripe : about1.ripe theMethod args0 below0 = true := by decide +kernel
theorem w_running : about1.status = .running := rfl
set_option maxRecDepth 65536 in
theorem w_room : about1.hasRoom e0.platform room_1 = true :=
  launch0.hasRoom_least _ room_1 (by decide +kernel) (by decide +kernel) (by decide +kernel) (by decide +kernel) (by decide +kernel) (by decide +kernel)
theorem allAtoms_all (ts : List Jvm.Cond) (a : Array Jvm.Value) (st : Jvm.State) : (allAtoms ts).before a st = ts.all (fun c => c.before a st) := by
  induction ts with
  | nil => rfl
  | cons c t ih =>
    show (Jvm.Cond.and c (allAtoms t)).before a st = _
    rw [Jvm.Cond.before_and, ih, List.all_cons]
def words1 : List Jvm.Cond := Jvm.Cond.code x code maxLocals ret :: tables_1
/-- a 'code' word, met by the world's own term for the bytes: nothing is compared byte by byte -/
theorem code_word {y : MethodName} {bytes : ByteArray} {mx : Nat} {rt : Option FieldType} {a : Array Value} {s : State} {m : MethodId} {meth : Method} {c : Code} (h1 : s.methodNamed? y = some m) (h2 : s.vm.method? m = some meth) (h3 : meth.code = some c) (h4 : c.code = bytes)
    (h5 : (c.maxLocals == mx && c.exceptionTable.isEmpty && decide (c.maxStack ≤ mostOperands) && decide (meth.sig.returnType = rt) && !meth.locks && decide (parseMethodDescriptor y.desc = some meth.sig)) = true) : (Jvm.Cond.code y bytes mx rt).before a s = true := by
  simp only [Bool.and_eq_true, beq_iff_eq, Bool.not_eq_true', decide_eq_true_eq] at h5
  obtain ⟨⟨⟨⟨⟨g1, g2⟩, g3⟩, g4⟩, g5⟩, g6⟩ := h5
  simp [Cond.before, Cond.holds, Cond.value, h1, h2, h3, h4, g1, g2, g3, g4, g5, g6]
def isCode : Jvm.Cond → Bool
  | .code _ _ _ _ => true
  | _ => false
theorem all_split {L : List Jvm.Cond} {P : Jvm.Cond → Bool} (h1 : L.all (fun c => isCode c || P c) = true) (h2 : ∀ c ∈ L.filter isCode, P c = true) : L.all P = true := by
  refine List.all_eq_true.mpr fun c hc => ?_
  have h := List.all_eq_true.mp h1 c hc
  rcases Bool.eq_false_or_eq_true (isCode c) with hi | hi
  · exact h2 c (List.mem_filter.mpr ⟨hc, hi⟩)
  · simpa [hi] using h
set_option maxRecDepth 65536 in
theorem w_c0 : (Jvm.Cond.code x code maxLocals ret).before args0 about1 = true := code_word (m := ⟨1, 1⟩) (meth := k1m1) (c := k1c1) (by decide +kernel) rfl rfl rfl (by decide +kernel)
set_option maxRecDepth 65536 in
theorem w_c1 : (Jvm.Cond.code ({ cls := "com/example/clear_plan/clearplan/grounding/FactList", name := "<init>", desc := "()V" } : Jvm.MethodName) prog_15_method_1_code (1 : Nat) (Option.none : Option Jvm.ClassFile.FieldType)).before args0 about1 = true := code_word (m := ⟨2, 0⟩) (meth := k2m0) (c := k2c0) (by decide +kernel) rfl rfl rfl (by decide +kernel)
set_option maxRecDepth 65536 in
theorem w_c2 : (Jvm.Cond.code ({ cls := "java/lang/Object", name := "<init>", desc := "()V" } : Jvm.MethodName) object_method_1_code (1 : Nat) (Option.none : Option Jvm.ClassFile.FieldType)).before args0 about1 = true := code_word (m := ⟨0, 0⟩) (meth := k0m0) (c := k0c0) (by decide +kernel) rfl rfl rfl (by decide +kernel)
set_option maxRecDepth 65536 in
theorem w_c3 : (Jvm.Cond.code ({ cls := "com/example/clear_plan/clearplan/grounding/FactList", name := "isEmpty", desc := "()Z" } : Jvm.MethodName) prog_15_method_3_code (1 : Nat) (Option.some Jvm.ClassFile.FieldType.boolean)).before args0 about1 = true := code_word (m := ⟨2, 1⟩) (meth := k2m1) (c := k2c1) (by decide +kernel) rfl rfl rfl (by decide +kernel)
set_option maxRecDepth 65536 in
theorem w_c4 : (Jvm.Cond.code ({ cls := "com/example/clear_plan/clearplan/grounding/FactList", name := "add", desc := "(I)V" } : Jvm.MethodName) prog_15_method_5_code (2 : Nat) (Option.none : Option Jvm.ClassFile.FieldType)).before args0 about1 = true := code_word (m := ⟨2, 2⟩) (meth := k2m2) (c := k2c2) (by decide +kernel) rfl rfl rfl (by decide +kernel)
set_option maxRecDepth 65536 in
theorem w_c5 : (Jvm.Cond.code ({ cls := "com/example/clear_plan/clearplan/grounding/FactList", name := "truncate", desc := "(I)V" } : Jvm.MethodName) prog_15_method_6_code (2 : Nat) (Option.none : Option Jvm.ClassFile.FieldType)).before args0 about1 = true := code_word (m := ⟨2, 3⟩) (meth := k2m3) (c := k2c3) (by decide +kernel) rfl rfl rfl (by decide +kernel)
set_option maxRecDepth 65536 in
theorem w_c6 : (Jvm.Cond.code ({ cls := "java/util/Arrays", name := "copyOf", desc := "([II)[I" } : Jvm.MethodName) jdk_65_method_123_code (3 : Nat) (Option.some (Jvm.ClassFile.FieldType.array Jvm.ClassFile.FieldType.int))).before args0 about1 = true := code_word (m := ⟨3, 1⟩) (meth := k3m1) (c := k3c1) (by decide +kernel) rfl rfl rfl (by decide +kernel)
set_option maxRecDepth 65536 in
theorem w_c7 : (Jvm.Cond.code ({ cls := "java/lang/Math", name := "min", desc := "(II)I" } : Jvm.MethodName) jdk_29_method_69_code (2 : Nat) (Option.some Jvm.ClassFile.FieldType.int)).before args0 about1 = true := code_word (m := ⟨4, 1⟩) (meth := k4m1) (c := k4c1) (by decide +kernel) rfl rfl rfl (by decide +kernel)
def codes1 : List Jvm.Cond := [Jvm.Cond.code x code maxLocals ret, Jvm.Cond.code ({ cls := "com/example/clear_plan/clearplan/grounding/FactList", name := "<init>", desc := "()V" } : Jvm.MethodName) prog_15_method_1_code (1 : Nat) (Option.none : Option Jvm.ClassFile.FieldType), Jvm.Cond.code ({ cls := "java/lang/Object", name := "<init>", desc := "()V" } : Jvm.MethodName) object_method_1_code (1 : Nat) (Option.none : Option Jvm.ClassFile.FieldType), Jvm.Cond.code ({ cls := "com/example/clear_plan/clearplan/grounding/FactList", name := "isEmpty", desc := "()Z" } : Jvm.MethodName) prog_15_method_3_code (1 : Nat) (Option.some Jvm.ClassFile.FieldType.boolean), Jvm.Cond.code ({ cls := "com/example/clear_plan/clearplan/grounding/FactList", name := "add", desc := "(I)V" } : Jvm.MethodName) prog_15_method_5_code (2 : Nat) (Option.none : Option Jvm.ClassFile.FieldType), Jvm.Cond.code ({ cls := "com/example/clear_plan/clearplan/grounding/FactList", name := "truncate", desc := "(I)V" } : Jvm.MethodName) prog_15_method_6_code (2 : Nat) (Option.none : Option Jvm.ClassFile.FieldType), Jvm.Cond.code ({ cls := "java/util/Arrays", name := "copyOf", desc := "([II)[I" } : Jvm.MethodName) jdk_65_method_123_code (3 : Nat) (Option.some (Jvm.ClassFile.FieldType.array Jvm.ClassFile.FieldType.int)), Jvm.Cond.code ({ cls := "java/lang/Math", name := "min", desc := "(II)I" } : Jvm.MethodName) jdk_29_method_69_code (2 : Nat) (Option.some Jvm.ClassFile.FieldType.int)]
set_option maxRecDepth 65536 in
theorem codes_eq : words1.filter isCode = codes1 := rfl
theorem w_codes : ∀ c ∈ words1.filter isCode, c.before args0 about1 = true := by
  rw [codes_eq]
  intro c hc
  simp only [codes1, List.mem_cons, List.not_mem_nil, or_false] at hc
  rcases hc with rfl | rfl | rfl | rfl | rfl | rfl | rfl | rfl
  · exact w_c0
  · exact w_c1
  · exact w_c2
  · exact w_c3
  · exact w_c4
  · exact w_c5
  · exact w_c6
  · exact w_c7
set_option maxRecDepth 65536 in
theorem w_t1 : (words1.take 24).all (fun c => isCode c || c.before args0 about1) = true := by decide +kernel
set_option maxRecDepth 65536 in
theorem w_t2 : (words1.drop 24).all (fun c => isCode c || c.before args0 about1) = true := by decide +kernel
theorem w_tables : (allAtoms (Jvm.Cond.code x code maxLocals ret :: tables_1)).before args0 about1 = true := by
  rw [allAtoms_all]
  show words1.all (fun c => c.before args0 about1) = true
  refine all_split ?_ w_codes
  rw [← List.take_append_drop 24 words1, List.all_append, w_t1, w_t2]
  rfl
set_option maxRecDepth 65536 in
theorem w_case : (Jvm.Cond.and given_1 narrow_1).before args0 about1 = true := by decide +kernel
theorem w_applies : (headSpec (Jvm.Cond.code x code maxLocals ret :: tables_1) room_1).applies x e0.platform about1 = true :=
  (Spec.applies_iff w_frames).mpr ⟨w_running, w_runnable, w_alone, w_named, w_hears, w_ripe, w_room, w_tables⟩
theorem atStart : AtStart classFile x code maxLocals ret World_1 tables_1 room_1 Calls_1 rest_1 Pre_1 launch0 p0 e0 about1 theMethod args0 below0 :=
  ⟨lists_1, trivial, launch0.admits_env _ _ _, launch0.least_env, fairChoices_fair.cas, fairChoices_fair.clock, w_frames, w_args, w_heap, w_applies, trivial, trivial, w_case⟩
end start1
theorem witness_1 : WitnessClaimed_1 := ⟨start1.p0, start1.e0, start1.about1, start1.theMethod, start1.args0, start1.below0, start1.atStart⟩
end Jvm.Pilot.@@N@@
