import JvmDerived
import JvmDerived.Pilot.@@N@@Statement
import JvmDerived.Pilot.@@N@@Code
set_option linter.unusedVariables false
set_option linter.unusedSimpArgs false
@@BLOCK:NumsL.lean.txt@@
namespace Jvm.Pilot.@@N@@
open Jvm Jvm.ClassFile Sem Op Lib Jvm.Free Jvm.Stand Jvm.LawKit Jvm.RoadKit Bundle Jvm.Pilot.@@N@@.Jvm.D
/-! The own kit: a walk forwards. 'Goes .. S': from S the body runs to its end, and Q holds there. -/
def Goes (p : Program) (e : Env) (below : List Frame) (P : Outcome → State → Prop) (S : State) : Prop :=
  ∃ s₂ o, Steps p.tables e below S s₂ ∧ s₂.status = .running ∧ Ended s₂ below o ∧ P o s₂
abbrev EndQ (s : State) (Q : Option Value → Heap → List Loc → Prop) (k n : Nat) : Outcome → State → Prop := fun o U => ∃ v L, o = .returned v ∧ Q v U.heap L ∧ FrameEnd s o U L k n
abbrev Ctr (l : Launch) (Z : State) (y : MethodName) (bytes : ByteArray) (maxL : Nat) (ret : Option FieldType) (ws : List Jvm.Cond) (rm : Room) (as' : Array Value) (h0 : Heap) (Q : Option Value → Heap → List Loc → Prop) : Prop :=
  MetFree l y (head1 (Jvm.Cond.code y bytes maxL ret :: ws) rm) (fun a U => a = as' ∧ Z.Warmed39 U.vm ∧ U.heap = h0) (fun _ _ _ _ _ => True) (fun _ U o U' => ∃ v L, o = .returned v ∧ Q v U'.heap L ∧ FrameEnd U o U' L rm.cells rm.slots)
abbrev CtrW (l : Launch) (Z : State) (y : MethodName) (bytes : ByteArray) (maxL : Nat) (ret : Option FieldType) (ws : List Jvm.Cond) (rm : Room) (as' : Array Value) (h0 : Heap) (Q : Option Value → Heap → List Loc → Prop) : Prop :=
  MetFree l y (head1 (Jvm.Cond.code y bytes maxL ret :: ws) rm) (fun a U => a = as' ∧ Z.Warmed39 U.vm ∧ U.heap = h0 ∧ U.vm = Z.vm) (fun _ _ _ _ _ => True) (fun _ U o U' => ∃ v L, o = .returned v ∧ Q v U'.heap L ∧ ReturnedEndW U o U' L rm.cells rm.slots)
section Own
variable {p : Program} {l : Launch} {e : Env} {R : Room} {s : State} {m : MethodId} {args : Array Value} {below : List Frame} {meth : Method} {c : Code} {T : State} {locs : List Loc} {cells slots : Nat} {Z : State} {a0 : Array Value} {h : Heap}
variable {Q : Option Value → Heap → List Loc → Prop} {k n : Nat} {S S' : State} {P : Outcome → State → Prop}
theorem Goes.pre (hs : ∀ t, Steps p.tables e below S' t → Steps p.tables e below S t) (g : Goes p e below P S') : Goes p e below P S := by
  obtain ⟨s₂, o, a, b⟩ := g
  exact ⟨s₂, o, hs _ a, b⟩
theorem Goes.via (hs : Steps p.tables e below S S') (g : Goes p e below P S') : Goes p e below P S := by
  obtain ⟨s₂, o, a, b⟩ := g
  exact ⟨s₂, o, hs.trans a, b⟩
theorem Goes.out (X : Stand p l e R s m args below meth c T locs cells slots) {v : Option Value} (hv : meth.sig.returnType = none → v = none) (hlocks : meth.locks = false) (hq : Q v T.heap locs) (hk : cells ≤ k) (hn : slots ≤ n)
    (hs : ∀ fs, (∀ (f : JFrame) (acts : List Action), f.method = m → f.locked = none → f.entered = [] → (doReturn e (T.setTop f) acts v).1 = T.setFrames fs) → Steps p.tables e below S (T.setFrames fs)) : Goes p e below (EndQ s Q k n) S := by
  obtain ⟨fs, hr, hrun, hended, hW, hsame⟩ := X.leave (v := v) hv hlocks
  exact ⟨_, _, hs fs hr, hrun, hended, _, _, rfl, hq, ⟨_, rfl⟩, hW, hsame.mono hk hn⟩
/-- ireturn of a boolean, byte, char, short -/
theorem Goes.retN (X : Stand p l e R s m args below meth c T locs cells slots) (hx : p.tables.exec = Jvm.exec) (hlocks : meth.locks = false) {t : FieldType} (hret : meth.sig.returnType = some t) (ht : t = .boolean ∨ t = .byte ∨ t = .char ∨ t = .short) {pc : Nat} (hd : decode c.code pc = .ok (.ireturn, 1)) {Ls : Array Slot} {z : Int32} {rest : List Value}
    (hq : Q (some (.int (nar t z))) T.heap locs) (hk : cells ≤ k) (hn : slots ≤ n) : Goes p e below (EndQ s Q k n) (T.setTop (mkF m pc Ls (.int z :: rest))) :=
  Goes.out X (v := some (.int (nar t z))) (fun q => by rw [hret] at q; cases q) hlocks hq hk hn fun _ hr => Jvm.RoadKit.retN X hx (t := t) hret ht hd hr
/-- ireturn of an int, areturn, lreturn -/
theorem Goes.ret (X : Stand p l e R s m args below meth c T locs cells slots) (hx : p.tables.exec = Jvm.exec) (hlocks : meth.locks = false) {t : FieldType} (hret : meth.sig.returnType = some t) {w : Value} (hnw : narrow t w = w) {i : Instr}
    (hi : (i = .ireturn ∧ (t = .int ∨ t = .boolean ∨ t = .byte ∨ t = .char ∨ t = .short) ∧ ∃ z, w = .int z) ∨ (i = .lreturn ∧ t = .long ∧ ∃ z, w = .long z) ∨ (i = .dreturn ∧ t = .double ∧ ∃ z, w = .double z) ∨ (i = .freturn ∧ t = .float ∧ ∃ z, w = .float z) ∨ (i = .areturn ∧ t.isReference = true ∧ w.isRef = true))
    {pc : Nat} (hd : decode c.code pc = .ok (i, 1)) {Ls : Array Slot} {rest : List Value}
    (hq : Q (some w) T.heap locs) (hk : cells ≤ k) (hn : slots ≤ n) : Goes p e below (EndQ s Q k n) (T.setTop (mkF m pc Ls (w :: rest))) :=
  Goes.out X (v := some w) (fun q => by rw [hret] at q; cases q) hlocks hq hk hn fun _ hr => retOut X hx hret hnw hi hd hr
theorem Goes.retV (X : Stand p l e R s m args below meth c T locs cells slots) (hx : p.tables.exec = Jvm.exec) (hlocks : meth.locks = false) (hret : meth.sig.returnType = none) {pc : Nat} (hd : decode c.code pc = .ok (.return_, 1)) {Ls : Array Slot}
    (hq : Q none T.heap locs) (hk : cells ≤ k) (hn : slots ≤ n) : Goes p e below (EndQ s Q k n) (T.setTop (mkF m pc Ls [])) :=
  Goes.out X (v := none) (fun _ => rfl) hlocks hq hk hn fun _ hr => X.returnOut hx hret hd hr
/-- the end of a walk that may have interned -/
abbrev EndW (s : State) (Q : Option Value → Heap → List Loc → Prop) (k n : Nat) : Outcome → State → Prop := fun o U => ∃ v L, o = .returned v ∧ Q v U.heap L ∧ ReturnedEndW s o U L k n
theorem Goes.retNW {vm₁ : Vm} (X : Stand p l e R (s.setVm vm₁) m args below meth c T locs cells slots) {j : Nat} (hS : s.Since vm₁ j) (hj : j ≤ T.heap.size) (hx : p.tables.exec = Jvm.exec) (hlocks : meth.locks = false) {t : FieldType} (hret : meth.sig.returnType = some t) (ht : t = .boolean ∨ t = .byte ∨ t = .char ∨ t = .short) {pc : Nat} (hd : decode c.code pc = .ok (.ireturn, 1)) {Ls : Array Slot} {z : Int32} {rest : List Value}
    (hq : Q (some (.int (nar t z))) T.heap locs) (hk : cells ≤ k) (hn : slots ≤ n) : Goes p e below (EndW s Q k n) (T.setTop (mkF m pc Ls (.int z :: rest))) := by
  obtain ⟨fs, hr, hrun, hended, h1, h2, h3, h4⟩ := X.leaveW hS hj (v := some (.int (nar t z))) (fun q => by rw [hret] at q; cases q) hlocks
  exact ⟨_, _, Jvm.RoadKit.retN X hx (t := t) hret ht hd hr, hrun, hended, _, _, rfl, hq, h1, h2, h3, h4.mono hk hn⟩
/-- a static call by its contract -/
theorem Goes.callS {y : MethodName} {bytes : ByteArray} {maxL : Nat} {ret : Option FieldType} {rm : Room} {as' : Array Value} {Qc : Option Value → Heap → List Loc → Prop}
    (X : Stand p l e R s m args below meth c T locs cells slots) (hx : p.tables.exec = Jvm.exec) (hZ : Z.Warmed39 s.vm) {own : String} {index : Nat} (hown : s.vm.findClass own = some m.cls)
    (w1 : (Jvm.Cond.methodLink own index y).before a0 Z = true) (w2 : (Jvm.Cond.static y).before a0 Z = true) (w3 : (Jvm.Cond.initialized y.cls).before a0 Z = true) (w4 : (Jvm.Cond.code y bytes maxL ret).before a0 Z = true)
    (hy : y.cls ≠ "java/lang/invoke/MethodHandle" ∧ y.cls ≠ "java/lang/invoke/VarHandle") (eT : T.heap = h) (hM : Ctr l Z y bytes maxL ret [] rm as' h Qc)
    {pc : Nat} {Ls : Array Slot} {stk : List Value} (hsize : Ls.size = c.maxLocals) (argsL rest : List Value) {ps : List FieldType} {r : Option FieldType} (hpd : parseMethodDescriptor y.desc = some ⟨ps, r⟩) (hlen : argsL.length = ps.length)
    (hstk : stk = argsL.reverse ++ rest) (has : argsL.toArray = as') (hd : decode c.code pc = .ok (.invokestatic index, 3))
    (hf : rm.frames + 1 ≤ R.frames) (hl : (rest.map fun v => v.category).sum + (maxL + 11) + rm.locals ≤ R.locals) (hc : cells + rm.cells ≤ R.cells) (hs : slots + rm.slots ≤ R.slots)
    (g : ∀ (T' : State) (v : Option Value) (L : List Loc), Stand p l e R s m args below meth c T' (locs ++ L) (cells + rm.cells) (slots + rm.slots) → Qc v T'.heap L → Goes p e below P (T'.setTop (mkF m (pc + 3) Ls (v.toList ++ rest)))) :
    Goes p e below P (T.setTop (mkF m pc Ls stk)) := by
  subst has
  obtain ⟨v, _, ⟨T', L', k', n'⟩, -, X', ⟨Lc, hQ, l1, l2, l3⟩, st⟩ := Jvm.LawKit.callS X hx (y := y) hown (mvT hZ w1) (mvT hZ w2) (mvT hZ w3) (mvT hZ w4) hy (backOf (W := (rest.map fun v => v.category).sum) hM hZ w4 w3 hf hl) (g := mkF m pc Ls stk) rfl hsize (argsL := argsL) (rest := rest) (lenOf hpd hlen) hstk (by show 2 * 0 + _ ≤ _; omega) hd (fun _ _ => ⟨rfl, eT, hc, hs⟩)
  dsimp only [Pt.U, Pt.locs, Pt.cells, Pt.slots] at X' l1 l2 l3 st hQ
  subst l1 l2 l3
  exact Goes.pre st (g T' v Lc X' hQ)
/-- a constructor by its contract -/
theorem Goes.init {y : MethodName} {bytes : ByteArray} {maxL : Nat} {rm : Room} {as' : Array Value} {Qc : Option Value → Heap → List Loc → Prop}
    (X : Stand p l e R s m args below meth c T locs cells slots) (hx : p.tables.exec = Jvm.exec) (hZ : Z.Warmed39 s.vm) {own : String} {index : Nat} (hown : s.vm.findClass own = some m.cls) (hnm : y.name = "<init>")
    (w1 : (Jvm.Cond.methodLink own index y).before a0 Z = true) (w2 : (Jvm.Cond.instanceMethod y).before a0 Z = true) (w3 : (Jvm.Cond.initialized y.cls).before a0 Z = true) (w4 : (Jvm.Cond.code y bytes maxL none).before a0 Z = true)
    (hy : y.cls ≠ "java/lang/invoke/MethodHandle" ∧ y.cls ≠ "java/lang/invoke/VarHandle") (eT : T.heap = h) (hM : Ctr l Z y bytes maxL none [] rm as' h Qc)
    {pc : Nat} {Ls : Array Slot} {stk : List Value} (hsize : Ls.size = c.maxLocals) (a : Addr) (argsL rest : List Value) {ps : List FieldType} {r : Option FieldType} (hpd : parseMethodDescriptor y.desc = some ⟨ps, r⟩) (hlen : argsL.length = ps.length)
    (hstk : stk = argsL.reverse ++ .ref a :: rest) (has : (.ref a :: argsL).toArray = as') (hd : decode c.code pc = .ok (.invokespecial index, 3))
    (hf : rm.frames + 1 ≤ R.frames) (hl : (rest.map fun v => v.category).sum + (maxL + 11) + rm.locals ≤ R.locals) (hc : cells + rm.cells ≤ R.cells) (hs : slots + rm.slots ≤ R.slots)
    (g : ∀ (T' : State) (v : Option Value) (L : List Loc), Stand p l e R s m args below meth c T' (locs ++ L) (cells + rm.cells) (slots + rm.slots) → Qc v T'.heap L → Goes p e below P (T'.setTop (mkF m (pc + 3) Ls (v.toList ++ rest)))) :
    Goes p e below P (T.setTop (mkF m pc Ls stk)) := by
  subst has
  obtain ⟨v, _, ⟨T', L', k', n'⟩, -, X', ⟨Lc, hQ, l1, l2, l3⟩, st⟩ := X.specialBack hx (y := y) hnm hown (mvT hZ w1) (mvT hZ w2) (mvT hZ w4) hy (backOf (W := (rest.map fun v => v.category).sum) hM hZ w4 w3 hf hl) (g := mkF m pc Ls stk) rfl hsize (Steps.refl _) (a := a) (argsL := argsL) (rest := rest) (lenOf hpd hlen) hstk (by show 2 * 0 + _ ≤ _; omega) hd (fun _ _ => ⟨rfl, eT, hc, hs⟩)
  dsimp only [Pt.U, Pt.locs, Pt.cells, Pt.slots] at X' l1 l2 l3 st hQ
  subst l1 l2 l3
  exact Goes.via st (g T' v Lc X' hQ)
/-- an instance method by its contract -/
theorem Goes.callV {y : MethodName} {C : String} {bytes : ByteArray} {maxL : Nat} {ret : Option FieldType} {rm : Room} {as' : Array Value} {Qc : Option Value → Heap → List Loc → Prop}
    (X : Stand p l e R s m args below meth c T locs cells slots) (hx : p.tables.exec = Jvm.exec) (hZ : Z.Warmed39 s.vm) {own : String} {index : Nat} (hown : s.vm.findClass own = some m.cls)
    (w1 : (Jvm.Cond.methodLink own index y).before a0 Z = true) (w2 : (Jvm.Cond.declares y).before a0 Z = true) (w5 : (Jvm.Cond.selects C y y).before a0 Z = true) (w6 : (Jvm.Cond.instanceMethod y).before a0 Z = true) (w3 : (Jvm.Cond.initialized y.cls).before a0 Z = true) (w4 : (Jvm.Cond.code y bytes maxL ret).before a0 Z = true)
    (hy : y.cls ≠ "java/lang/invoke/MethodHandle" ∧ y.cls ≠ "java/lang/invoke/VarHandle") (eT : T.heap = h) {a : Addr} (E : Exa Z h a C) (hM : Ctr l Z y bytes maxL ret [] rm as' h Qc)
    {pc : Nat} {Ls : Array Slot} {stk : List Value} (hsize : Ls.size = c.maxLocals) (argsL rest : List Value) {ps : List FieldType} {r : Option FieldType} (hpd : parseMethodDescriptor y.desc = some ⟨ps, r⟩) (hlen : argsL.length = ps.length)
    (hstk : stk = argsL.reverse ++ .ref a :: rest) (has : (.ref a :: argsL).toArray = as') (hd : decode c.code pc = .ok (.invokevirtual index, 3))
    (hf : rm.frames + 1 ≤ R.frames) (hl : (rest.map fun v => v.category).sum + (maxL + 11) + rm.locals ≤ R.locals) (hc : cells + rm.cells ≤ R.cells) (hs : slots + rm.slots ≤ R.slots)
    (g : ∀ (T' : State) (v : Option Value) (L : List Loc), Stand p l e R s m args below meth c T' (locs ++ L) (cells + rm.cells) (slots + rm.slots) → Qc v T'.heap L → Goes p e below P (T'.setTop (mkF m (pc + 3) Ls (v.toList ++ rest)))) :
    Goes p e below P (T.setTop (mkF m pc Ls stk)) := by
  subst has
  obtain ⟨cB, kB, q1, -, q3⟩ := isOf hZ eT E
  obtain ⟨v, _, ⟨T', L', k', n'⟩, -, X', ⟨Lc, hQ, l1, l2, l3⟩, st⟩ := X.virtualBack hx (y := y) (z := y) hown (mvT hZ w1) (mvT hZ w2) (notFace_of_selects (args := #[]) (mvT hZ w5)) (mvT hZ w5) (mvT hZ w6) hy (backOf (W := (rest.map fun v => v.category).sum) hM hZ w4 w3 hf hl) q1 q3 (g := mkF m pc Ls stk) rfl hsize (Steps.refl _) (argsL := argsL) (rest := rest) (lenOf hpd hlen) hstk (by show 2 * 0 + _ ≤ _; omega) hd (fun _ _ => ⟨rfl, eT, hc, hs⟩)
  dsimp only [Pt.U, Pt.locs, Pt.cells, Pt.slots] at X' l1 l2 l3 st hQ
  subst l1 l2 l3
  exact Goes.via st (g T' v Lc X' hQ)
theorem Goes.iaload (X : Stand p l e R s m args below meth c T locs cells slots) (hx : p.tables.exec = Jvm.exec) (hZ : Z.Warmed39 s.vm) (eT : T.heap = h) {a : Addr} {kc : ClassId} {z : Int32} {vs : List Value} {dv : Value} (V : Arv Z h a kc .int z vs dv) {j : Int32} (hj : ¬ j < 0 ∧ j < z) {w : Value} (hw : vs.getD j.toNatClampNeg dv = w)
    {pc : Nat} {Ls : Array Slot} {rest : List Value} (hd : decode c.code pc = .ok (.iaload, 1)) (g : Goes p e below P (T.setTop (mkF m (pc + 1) Ls (w :: rest)))) : Goes p e below P (T.setTop (mkF m pc Ls (.int j :: .ref a :: rest))) := by
  obtain ⟨cl, A, -, S, -, H, -⟩ := V
  exact Goes.pre (fun t kk => X.iaload hx (by rw [eT]; exact A.1) (State.isArrayOf_alike hZ.alike A.2.1) A.2.2 (inb_of S hj) (H.at (inb_of S hj) hw) (g := mkF m pc Ls (.int j :: .ref a :: rest)) rfl rfl hd t kk) g
theorem Goes.baloadZ (X : Stand p l e R s m args below meth c T locs cells slots) (hx : p.tables.exec = Jvm.exec) (hZ : Z.Warmed39 s.vm) (eT : T.heap = h) {a : Addr} {kc : ClassId} {z : Int32} {vs : List Value} {dv : Value} (V : Arv Z h a kc .boolean z vs dv) {j : Int32} (hj : ¬ j < 0 ∧ j < z) {w : Value} (hw : vs.getD j.toNatClampNeg dv = w)
    {pc : Nat} {Ls : Array Slot} {rest : List Value} (hd : decode c.code pc = .ok (.baload, 1)) (g : Goes p e below P (T.setTop (mkF m (pc + 1) Ls (w :: rest)))) : Goes p e below P (T.setTop (mkF m pc Ls (.int j :: .ref a :: rest))) := by
  obtain ⟨cl, A, -, S, -, H, -⟩ := V
  exact Goes.pre (fun t kk => X.baloadBooleans hx (by rw [eT]; exact A.1) (State.isArrayOf_alike hZ.alike A.2.1) A.2.2 (inb_of S hj) (H.at (inb_of S hj) hw) (g := mkF m pc Ls (.int j :: .ref a :: rest)) rfl rfl hd t kk) g
theorem Goes.baloadB (X : Stand p l e R s m args below meth c T locs cells slots) (hx : p.tables.exec = Jvm.exec) (hZ : Z.Warmed39 s.vm) (eT : T.heap = h) {a : Addr} {kc : ClassId} {z : Int32} {vs : List Value} {dv : Value} (V : Arv Z h a kc .byte z vs dv) {j : Int32} (hj : ¬ j < 0 ∧ j < z) {w : Value} (hw : vs.getD j.toNatClampNeg dv = w)
    {pc : Nat} {Ls : Array Slot} {rest : List Value} (hd : decode c.code pc = .ok (.baload, 1)) (g : Goes p e below P (T.setTop (mkF m (pc + 1) Ls (w :: rest)))) : Goes p e below P (T.setTop (mkF m pc Ls (.int j :: .ref a :: rest))) := by
  obtain ⟨cl, A, -, S, -, H, -⟩ := V
  exact Goes.pre (fun t kk => X.baloadBytes hx (by rw [eT]; exact A.1) (State.isArrayOf_alike hZ.alike A.2.1) A.2.2 (inb_of S hj) (H.at (inb_of S hj) hw) (g := mkF m pc Ls (.int j :: .ref a :: rest)) rfl rfl hd t kk) g
theorem Goes.aaload (X : Stand p l e R s m args below meth c T locs cells slots) (hx : p.tables.exec = Jvm.exec) (hZ : Z.Warmed39 s.vm) (eT : T.heap = h) {a : Addr} {kc : ClassId} {ty : FieldType} (hty : ty.isReference = true) {z : Int32} {vs : List Value} {dv : Value} (V : Arv Z h a kc ty z vs dv) {j : Int32} (hj : ¬ j < 0 ∧ j < z) {w : Value} (hw : vs.getD j.toNatClampNeg dv = w)
    {pc : Nat} {Ls : Array Slot} {rest : List Value} (hd : decode c.code pc = .ok (.aaload, 1)) (g : Goes p e below P (T.setTop (mkF m (pc + 1) Ls (w :: rest)))) : Goes p e below P (T.setTop (mkF m pc Ls (.int j :: .ref a :: rest))) := by
  obtain ⟨cl, A, -, S, -, H, -⟩ := V
  exact Goes.pre (fun t kk => X.aaload hx (by rw [eT]; exact A.1) (State.isArrayOf_alike hZ.alike A.2.1) hty A.2.2 (inb_of S hj) (H.at (inb_of S hj) hw) (g := mkF m pc Ls (.int j :: .ref a :: rest)) rfl rfl hd t kk) g
theorem Goes.alen (X : Stand p l e R s m args below meth c T locs cells slots) (hx : p.tables.exec = Jvm.exec) (hZ : Z.Warmed39 s.vm) (eT : T.heap = h) {a : Addr} {kc : ClassId} {ty : FieldType} {z : Int32} {vs : List Value} {dv : Value} (V : Arv Z h a kc ty z vs dv)
    {pc : Nat} {Ls : Array Slot} {rest : List Value} (hd : decode c.code pc = .ok (.arraylength, 1)) (g : Goes p e below P (T.setTop (mkF m (pc + 1) Ls (.int z :: rest)))) : Goes p e below P (T.setTop (mkF m pc Ls (.ref a :: rest))) := by
  obtain ⟨cl, A, -, S, M, -, -⟩ := V
  rw [← len_of S M] at g
  exact Goes.pre (fun t kk => X.arraylength hx (cell := cl) (by rw [eT]; exact A.1) (State.isArrayOf_alike hZ.alike A.2.1) (g := mkF m pc Ls (.ref a :: rest)) rfl rfl hd t kk) g
end Own
theorem own_ltI {a b : Int32} : a < b ↔ a.toInt < b.toInt := Int32.lt_iff_toInt_lt
theorem own_eqI {a b : Int32} : a = b ↔ a.toInt = b.toInt := Int32.toInt_inj.symm
theorem own_ints (xs : List Int32) (i : Nat) : (xs.map Value.int).getD i (.int 0) = .int (xs.getD i 0) := by
  induction xs generalizing i with
  | nil => rfl
  | cons x xs ih => cases i with
    | zero => rfl
    | succ i => exact ih i
theorem own_mask31 (x : Int32) : ¬ (x &&& 2147483647) < 0 := by
  rw [own_ltI, Jvm.Kit.i32_mask x 2147483647 (k := 31) (by decide) (by decide), show (0 : Int32).toInt = 0 from rfl]
  omega
theorem own_rem (x y : Int32) (hx : ¬ x < 0) (hy : 0 < y) : ¬ x % y < 0 ∧ x % y < y := by
  rw [own_ltI, show (0 : Int32).toInt = 0 from rfl] at hx hy
  have e := Jvm.Kit.i32_rem_nonneg (x := x) (y := y) (by omega)
  rw [own_ltI, own_ltI, e, show (0 : Int32).toInt = 0 from rfl]
  have a := Int.emod_nonneg x.toInt (show y.toInt ≠ 0 by omega)
  have b := Int.emod_lt_of_pos x.toInt hy
  omega
theorem own_len {Z : State} {args : Array Value} {t : Term} {a : Addr} {cl : Cell} {ty : FieldType} {z : Int32} (ev : t.eval args Z none [] Z = some (.ref a)) (A : Arr Z Z.heap a cl ty) (h : (Term.length t).eval args Z none [] Z = some (.int z)) : cl.slots.size < 2 ^ 31 ∧ cl.slots.size.toInt32 = z := by
  have hA : Z.arrayAt? a = some cl := Arr.fin (State.Warmed39.refl Z).alike A
  simp [Term.eval, ev, hA] at h
  exact h
theorem own_eqvR {Z : State} {args : Array Value} {X F : Term} {idx : List Nat} {x : Addr} (hF : F.eval args Z none idx Z = some (.ref x)) (h : (Cond.eq X F).value args Z none Z idx = some true) : X.eval args Z none idx Z = some (.ref x) := by
  obtain ⟨u, y, hu, hy, k1, k2⟩ := cmp_v (Or.inl h)
  cases hF.symm.trans hy
  have hr : u.isRef = true := k2.2
  have q := gotT (eq_R hu hy hr rfl) h
  rw [hu, q]
theorem own_StaKeep {Z : State} {h h' : Heap} {C n d : String} {v : Value} (F : Sta Z h C n d v) (K : Keep h h' []) : Sta Z h' C n d v := by
  obtain ⟨cf, i, k, f, st, cell, h1, h2, h3, h4, h5, r⟩ := F
  exact ⟨cf, i, k, f, st, cell, h1, h2, h3, h4, K.2.1 _ _ h5 nin0, r⟩
theorem own_neLt {a b n : Nat} (h : a < n) (h2 : n ≤ b) : a ≠ b := Nat.ne_of_lt (Nat.lt_of_lt_of_le h h2)
def own_sel (c : Int32) (x_BOOLEAN x_BYTE x_CHAR x_SHORT x_INT x_LONG x_FLOAT x_DOUBLE : Addr) : Value := if c = 90 then .ref x_BOOLEAN else if c = 66 then .ref x_BYTE else if c = 67 then .ref x_CHAR else if c = 83 then .ref x_SHORT else if c = 73 then .ref x_INT else if c = 74 then .ref x_LONG else if c = 70 then .ref x_FLOAT else if c = 68 then .ref x_DOUBLE else .null
theorem own_selR (c : Int32) (x_BOOLEAN x_BYTE x_CHAR x_SHORT x_INT x_LONG x_FLOAT x_DOUBLE : Addr) : (own_sel c x_BOOLEAN x_BYTE x_CHAR x_SHORT x_INT x_LONG x_FLOAT x_DOUBLE).isRef = true := by unfold own_sel; repeat (first | rfl | split)
def own_En (Z : State) (h : Heap) (nm : String) (a : Addr) (t : Int32) : Prop := Sta Z h "com/example/quarry/quarry/descriptor/PrimitiveType" nm "Lcom/example/quarry/quarry/descriptor/PrimitiveType;" (.ref a) ∧ Fld Z h a "com/example/quarry/quarry/descriptor/PrimitiveType" "descriptor" "C" (.int t)
theorem dfo_0 : decode prog_44_method_4_code 0 = .ok (.getstatic 59, 3) := by decide +kernel
theorem dfo_3 : decode prog_44_method_4_code 3 = .ok (.astore_n 1, 1) := by decide +kernel
theorem dfo_4 : decode prog_44_method_4_code 4 = .ok (.aload_n 1, 1) := by decide +kernel
theorem dfo_5 : decode prog_44_method_4_code 5 = .ok (.arraylength, 1) := by decide +kernel
theorem dfo_6 : decode prog_44_method_4_code 6 = .ok (.istore_n 2, 1) := by decide +kernel
theorem dfo_7 : decode prog_44_method_4_code 7 = .ok (.iconst 0, 1) := by decide +kernel
theorem dfo_8 : decode prog_44_method_4_code 8 = .ok (.istore_n 3, 1) := by decide +kernel
theorem dfo_9 : decode prog_44_method_4_code 9 = .ok (.iload_n 3, 1) := by decide +kernel
theorem dfo_10 : decode prog_44_method_4_code 10 = .ok (.iload_n 2, 1) := by decide +kernel
theorem dfo_11 : decode prog_44_method_4_code 11 = .ok (.if_icmp .ge 26, 3) := by decide +kernel
theorem dfo_14 : decode prog_44_method_4_code 14 = .ok (.aload_n 1, 1) := by decide +kernel
theorem dfo_15 : decode prog_44_method_4_code 15 = .ok (.iload_n 3, 1) := by decide +kernel
theorem dfo_16 : decode prog_44_method_4_code 16 = .ok (.aaload, 1) := by decide +kernel
theorem dfo_17 : decode prog_44_method_4_code 17 = .ok (.astore 4, 2) := by decide +kernel
theorem dfo_19 : decode prog_44_method_4_code 19 = .ok (.aload 4, 2) := by decide +kernel
theorem dfo_21 : decode prog_44_method_4_code 21 = .ok (.getfield 47, 3) := by decide +kernel
theorem dfo_24 : decode prog_44_method_4_code 24 = .ok (.iload_n 0, 1) := by decide +kernel
theorem dfo_25 : decode prog_44_method_4_code 25 = .ok (.if_icmp .ne 6, 3) := by decide +kernel
theorem dfo_28 : decode prog_44_method_4_code 28 = .ok (.aload 4, 2) := by decide +kernel
theorem dfo_30 : decode prog_44_method_4_code 30 = .ok (.areturn, 1) := by decide +kernel
theorem dfo_31 : decode prog_44_method_4_code 31 = .ok (.iinc 3 1, 3) := by decide +kernel
theorem dfo_34 : decode prog_44_method_4_code 34 = .ok (.goto (-25), 3) := by decide +kernel
theorem dfo_37 : decode prog_44_method_4_code 37 = .ok (.aconst_null, 1) := by decide +kernel
theorem dfo_38 : decode prog_44_method_4_code 38 = .ok (.areturn, 1) := by decide +kernel
theorem pd_fo : parseMethodDescriptor "(C)Lcom/example/quarry/quarry/descriptor/PrimitiveType;" = some ⟨[.char], some (.object "com/example/quarry/quarry/descriptor/PrimitiveType")⟩ := by decide +kernel
theorem pn_fo : plainName "com/example/quarry/quarry/descriptor/PrimitiveType" = true := by first | (simp [plainName, overriddenIn]; done) | decide +kernel
def Q_fo (c : Int32) (x_BOOLEAN x_BYTE x_CHAR x_SHORT x_INT x_LONG x_FLOAT x_DOUBLE : Addr) (h0 : Heap) (n0 : Nat) (v : Option Value) (h : Heap) (L : List Loc) : Prop := v = some (own_sel c x_BOOLEAN x_BYTE x_CHAR x_SHORT x_INT x_LONG x_FLOAT x_DOUBLE) ∧ Fr n0 L ∧ h = h0
theorem ef_fo (m : MethodId) (c0 : Int32) : entryFrame m #[(.int c0)] 5 = mkF m 0 #[.val (.int c0), .unset, .unset, .unset, .unset] [] := by first | (simp [entryFrame, mkF, argsToLocals, Value.category]; done) | rfl
set_option maxRecDepth 65536 in
set_option maxHeartbeats 40000000 in
theorem rm_fo (l : Launch) (Z : State) (a0 : Array Value) (hw : ∀ d ∈ tables_1, d.before a0 Z = true) (ws : List Jvm.Cond) (c0 : Int32) (b : Addr) (kc : ClassId) (x_BOOLEAN x_BYTE x_CHAR x_SHORT x_INT x_LONG x_FLOAT x_DOUBLE : Addr) (h0 : Heap) (n0 : Nat) (Z0 : n0 ≤ h0.size) (SA : Sta Z h0 "com/example/quarry/quarry/descriptor/PrimitiveType" "ALL" "[Lcom/example/quarry/quarry/descriptor/PrimitiveType;" (.ref b)) (V : Arv Z h0 b kc (.object "com/example/quarry/quarry/descriptor/PrimitiveType") 8 [(.ref x_BOOLEAN), (.ref x_BYTE), (.ref x_CHAR), (.ref x_SHORT), (.ref x_INT), (.ref x_LONG), (.ref x_FLOAT), (.ref x_DOUBLE)] .null) (H_BOOLEAN : own_En Z h0 "BOOLEAN" x_BOOLEAN (90 : Int32)) (H_BYTE : own_En Z h0 "BYTE" x_BYTE (66 : Int32)) (H_CHAR : own_En Z h0 "CHAR" x_CHAR (67 : Int32)) (H_SHORT : own_En Z h0 "SHORT" x_SHORT (83 : Int32)) (H_INT : own_En Z h0 "INT" x_INT (73 : Int32)) (H_LONG : own_En Z h0 "LONG" x_LONG (74 : Int32)) (H_FLOAT : own_En Z h0 "FLOAT" x_FLOAT (70 : Int32)) (H_DOUBLE : own_En Z h0 "DOUBLE" x_DOUBLE (68 : Int32)) :
    Ctr l Z (⟨"com/example/quarry/quarry/descriptor/PrimitiveType", "forDescriptor", "(C)Lcom/example/quarry/quarry/descriptor/PrimitiveType;"⟩ : MethodName) prog_44_method_4_code 5 (some (.object "com/example/quarry/quarry/descriptor/PrimitiveType")) ws ({ frames := 0, cells := 0, slots := 0, locals := 0 } : Room) #[(.int c0)] h0 (Q_fo c0 x_BOOLEAN x_BYTE x_CHAR x_SHORT x_INT x_LONG x_FLOAT x_DOUBLE h0 n0) := by
  refine MetFree.of_bodySF (plainFor_of_name pn_fo) hisR ?_
  intro p e s m args below meth c s₁ Bd hml0 hP hK
  obtain ⟨rfl, hZ, hh⟩ := hP
  have hx := Bd.exec
  have hby := Bd.bytes
  have hlk : meth.locks = false := Bd.notSynchronized
  have hml : c.maxLocals = 5 := hml0
  have hown : s.vm.findClass "com/example/quarry/quarry/descriptor/PrimitiveType" = some m.cls := findClass_of_methodNamed Bd.named
  have hnm := (name_of_methodNamed Bd.named Bd.method).1
  have X0 : Stand p l e ({ frames := 0, cells := 0, slots := 0, locals := 0 } : Room) s m #[(.int c0)] below meth c s₁ [] 0 0 := Stand.of_body Bd
  have e0 : s₁.heap = h0 := by rw [← hh, Bd.state]; rfl
  have N0 := Fr.nil n0
  show Goes p e below (EndQ s (Q_fo c0 x_BOOLEAN x_BYTE x_CHAR x_SHORT x_INT x_LONG x_FLOAT x_DOUBLE h0 n0) ({ frames := 0, cells := 0, slots := 0, locals := 0 } : Room).cells ({ frames := 0, cells := 0, slots := 0, locals := 0 } : Room).slots) (s₁.setTop (entryFrame m #[(.int c0)] 5))
  refine Goes.pre (S' := (s₁.setTop (mkF m 0 #[.val (.int c0), .unset, .unset, .unset, .unset] []))) (fun t k => castTop (ef_fo m c0) k) ?_
  obtain ⟨T1, X1, e1, st1⟩ := getS (host := "") X0 hx hZ hown (hw _ (List.mem_of_getElem? (i := 8) rfl)) Via.refl e0 SA (g := (mkF m 0 #[.val (.int c0), .unset, .unset, .unset, .unset] [])) rfl (hb hby dfo_0)
  refine Goes.pre (S' := (T1.setTop (mkF m 3 #[.val (.int c0), .unset, .unset, .unset, .unset] [(.ref b)]))) st1 ?_
  refine Goes.pre (S' := (T1.setTop (mkF m 4 #[.val (.int c0), .val (.ref b), .unset, .unset, .unset] []))) (fun _ k => XS.astoreN X1.here hx rfl (hb hby dfo_3) rfl rfl (l' := #[.val (.int c0), .val (.ref b), .unset, .unset, .unset]) rfl k) ?_
  refine Goes.pre (S' := (T1.setTop (mkF m 5 #[.val (.int c0), .val (.ref b), .unset, .unset, .unset] [(.ref b)]))) (fun _ k => XS.aloadN X1.here hx rfl (hb hby dfo_4) rfl rfl k) ?_
  refine Goes.alen X1 hx hZ e1 V (hb hby dfo_5) ?_
  show Goes p e below _ (T1.setTop (mkF m 6 #[.val (.int c0), .val (.ref b), .unset, .unset, .unset] [(.int (8 : Int32))]))
  refine Goes.pre (S' := (T1.setTop (mkF m 7 #[.val (.int c0), .val (.ref b), .val (.int (8 : Int32)), .unset, .unset] []))) (fun _ k => XS.istoreN X1.here hx rfl (hb hby dfo_6) rfl (l' := #[.val (.int c0), .val (.ref b), .val (.int (8 : Int32)), .unset, .unset]) rfl k) ?_
  refine Goes.pre (S' := (T1.setTop (mkF m 8 #[.val (.int c0), .val (.ref b), .val (.int (8 : Int32)), .unset, .unset] [(.int (0 : Int32))]))) (fun _ k => XS.iconst X1.here hx rfl (hb hby dfo_7) k) ?_
  refine Goes.pre (S' := (T1.setTop (mkF m 9 #[.val (.int c0), .val (.ref b), .val (.int (8 : Int32)), .val (.int (0 : Int32)), .unset] []))) (fun _ k => XS.istoreN X1.here hx rfl (hb hby dfo_8) rfl (l' := #[.val (.int c0), .val (.ref b), .val (.int (8 : Int32)), .val (.int (0 : Int32)), .unset]) rfl k) ?_
  refine Goes.pre (S' := (T1.setTop (mkF m 10 #[.val (.int c0), .val (.ref b), .val (.int (8 : Int32)), .val (.int (0 : Int32)), .unset] [(.int (0 : Int32))]))) (fun _ k => XS.iloadN X1.here hx rfl (hb hby dfo_9) rfl k) ?_
  refine Goes.pre (S' := (T1.setTop (mkF m 11 #[.val (.int c0), .val (.ref b), .val (.int (8 : Int32)), .val (.int (0 : Int32)), .unset] [(.int (8 : Int32)), (.int (0 : Int32))]))) (fun _ k => XS.iloadN X1.here hx rfl (hb hby dfo_10) rfl k) ?_
  refine Goes.pre (S' := (T1.setTop (mkF m 14 #[.val (.int c0), .val (.ref b), .val (.int (8 : Int32)), .val (.int (0 : Int32)), .unset] []))) (fun _ k => XS.icmpNo X1.here hx rfl (hb hby dfo_11) rfl (XT.ii_ge_f (by decide)) k) ?_
  refine Goes.pre (S' := (T1.setTop (mkF m 15 #[.val (.int c0), .val (.ref b), .val (.int (8 : Int32)), .val (.int (0 : Int32)), .unset] [(.ref b)]))) (fun _ k => XS.aloadN X1.here hx rfl (hb hby dfo_14) rfl rfl k) ?_
  refine Goes.pre (S' := (T1.setTop (mkF m 16 #[.val (.int c0), .val (.ref b), .val (.int (8 : Int32)), .val (.int (0 : Int32)), .unset] [(.int (0 : Int32)), (.ref b)]))) (fun _ k => XS.iloadN X1.here hx rfl (hb hby dfo_15) rfl k) ?_
  refine Goes.aaload X1 hx hZ e1 rfl V (j := (0 : Int32)) ⟨by decide, by decide⟩ (w := .ref x_BOOLEAN) rfl (hb hby dfo_16) ?_
  show Goes p e below _ (T1.setTop (mkF m 17 #[.val (.int c0), .val (.ref b), .val (.int (8 : Int32)), .val (.int (0 : Int32)), .unset] [(.ref x_BOOLEAN)]))
  refine Goes.pre (S' := (T1.setTop (mkF m 19 #[.val (.int c0), .val (.ref b), .val (.int (8 : Int32)), .val (.int (0 : Int32)), .val (.ref x_BOOLEAN)] []))) (fun _ k => XS.astore X1.here hx rfl (hb hby dfo_17) rfl rfl (l' := #[.val (.int c0), .val (.ref b), .val (.int (8 : Int32)), .val (.int (0 : Int32)), .val (.ref x_BOOLEAN)]) rfl k) ?_
  refine Goes.pre (S' := (T1.setTop (mkF m 21 #[.val (.int c0), .val (.ref b), .val (.int (8 : Int32)), .val (.int (0 : Int32)), .val (.ref x_BOOLEAN)] [(.ref x_BOOLEAN)]))) (fun _ k => XS.aload X1.here hx rfl (hb hby dfo_19) rfl rfl k) ?_
  obtain ⟨T2, X2, e2, st2⟩ := getF X1 hx hZ hown (host := "") (Or.inl (hw _ (List.mem_of_getElem? (i := 11) rfl))) Via.refl e1 H_BOOLEAN.2 (g := (mkF m 21 #[.val (.int c0), .val (.ref b), .val (.int (8 : Int32)), .val (.int (0 : Int32)), .val (.ref x_BOOLEAN)] [(.ref x_BOOLEAN)])) rfl rfl (hb hby dfo_21)
  refine Goes.pre (S' := (T2.setTop (mkF m 24 #[.val (.int c0), .val (.ref b), .val (.int (8 : Int32)), .val (.int (0 : Int32)), .val (.ref x_BOOLEAN)] [(.int (90 : Int32))]))) st2 ?_
  refine Goes.pre (S' := (T2.setTop (mkF m 25 #[.val (.int c0), .val (.ref b), .val (.int (8 : Int32)), .val (.int (0 : Int32)), .val (.ref x_BOOLEAN)] [(.int c0), (.int (90 : Int32))]))) (fun _ k => XS.iloadN X2.here hx rfl (hb hby dfo_24) rfl k) ?_
  by_cases c_0 : (90 : Int32) = c0
  · skip
    refine Goes.pre (S' := (T2.setTop (mkF m 28 #[.val (.int c0), .val (.ref b), .val (.int (8 : Int32)), .val (.int (0 : Int32)), .val (.ref x_BOOLEAN)] []))) (fun _ k => XS.icmpNo X2.here hx rfl (hb hby dfo_25) rfl (XT.ii_ne_f c_0) k) ?_
    have hit : c0 = 90 := c_0.symm
    refine Goes.pre (S' := (T2.setTop (mkF m 30 #[.val (.int c0), .val (.ref b), .val (.int (8 : Int32)), .val (.int (0 : Int32)), .val (.ref x_BOOLEAN)] [(.ref x_BOOLEAN)]))) (fun _ k => XS.aload X2.here hx rfl (hb hby dfo_28) rfl rfl k) ?_
    have hsel : own_sel c0 x_BOOLEAN x_BYTE x_CHAR x_SHORT x_INT x_LONG x_FLOAT x_DOUBLE = .ref x_BOOLEAN := by simp [own_sel, hit]
    exact Goes.ret X2 hx hlk (t := (.object "com/example/quarry/quarry/descriptor/PrimitiveType")) Bd.returns rfl (Or.inr (Or.inr (Or.inr (Or.inr ⟨rfl, rfl, rfl⟩)))) (hb hby dfo_30) ⟨by rw [hsel], N0, e2⟩ (by first | decide | exact Nat.le_of_ble_eq_true rfl | assumption | (simp [Value.category]; done)) (by first | decide | exact Nat.le_of_ble_eq_true rfl | assumption | (simp [Value.category]; done))
  · skip
    refine Goes.pre (S' := (T2.setTop (mkF m 31 #[.val (.int c0), .val (.ref b), .val (.int (8 : Int32)), .val (.int (0 : Int32)), .val (.ref x_BOOLEAN)] []))) (fun _ k => XS.icmpYes X2.here hx rfl (pc0 := 25) (pc' := 31) rfl (hb hby dfo_25) rfl (XT.ii_ne_t c_0) (by decide) (by decide) k) ?_
    have n_0 : ¬ c0 = 90 := fun q => c_0 q.symm
    refine Goes.pre (S' := (T2.setTop (mkF m 34 #[.val (.int c0), .val (.ref b), .val (.int (8 : Int32)), .val (.int (1 : Int32)), .val (.ref x_BOOLEAN)] []))) (fun _ k => XT.iincV X2.here hx rfl (1 : Int32) (hb hby dfo_31) rfl rfl (l' := #[.val (.int c0), .val (.ref b), .val (.int (8 : Int32)), .val (.int (1 : Int32)), .val (.ref x_BOOLEAN)]) rfl k) ?_
    refine Goes.pre (S' := (T2.setTop (mkF m 9 #[.val (.int c0), .val (.ref b), .val (.int (8 : Int32)), .val (.int (1 : Int32)), .val (.ref x_BOOLEAN)] []))) (fun _ k => XS.goto X2.here hx rfl (pc0 := 34) (pc' := 9) rfl (hb hby dfo_34) (by decide) (by decide) k) ?_
    refine Goes.pre (S' := (T2.setTop (mkF m 10 #[.val (.int c0), .val (.ref b), .val (.int (8 : Int32)), .val (.int (1 : Int32)), .val (.ref x_BOOLEAN)] [(.int (1 : Int32))]))) (fun _ k => XS.iloadN X2.here hx rfl (hb hby dfo_9) rfl k) ?_
    refine Goes.pre (S' := (T2.setTop (mkF m 11 #[.val (.int c0), .val (.ref b), .val (.int (8 : Int32)), .val (.int (1 : Int32)), .val (.ref x_BOOLEAN)] [(.int (8 : Int32)), (.int (1 : Int32))]))) (fun _ k => XS.iloadN X2.here hx rfl (hb hby dfo_10) rfl k) ?_
    refine Goes.pre (S' := (T2.setTop (mkF m 14 #[.val (.int c0), .val (.ref b), .val (.int (8 : Int32)), .val (.int (1 : Int32)), .val (.ref x_BOOLEAN)] []))) (fun _ k => XS.icmpNo X2.here hx rfl (hb hby dfo_11) rfl (XT.ii_ge_f (by decide)) k) ?_
    refine Goes.pre (S' := (T2.setTop (mkF m 15 #[.val (.int c0), .val (.ref b), .val (.int (8 : Int32)), .val (.int (1 : Int32)), .val (.ref x_BOOLEAN)] [(.ref b)]))) (fun _ k => XS.aloadN X2.here hx rfl (hb hby dfo_14) rfl rfl k) ?_
    refine Goes.pre (S' := (T2.setTop (mkF m 16 #[.val (.int c0), .val (.ref b), .val (.int (8 : Int32)), .val (.int (1 : Int32)), .val (.ref x_BOOLEAN)] [(.int (1 : Int32)), (.ref b)]))) (fun _ k => XS.iloadN X2.here hx rfl (hb hby dfo_15) rfl k) ?_
    refine Goes.aaload X2 hx hZ e2 rfl V (j := (1 : Int32)) ⟨by decide, by decide⟩ (w := .ref x_BYTE) rfl (hb hby dfo_16) ?_
    show Goes p e below _ (T2.setTop (mkF m 17 #[.val (.int c0), .val (.ref b), .val (.int (8 : Int32)), .val (.int (1 : Int32)), .val (.ref x_BOOLEAN)] [(.ref x_BYTE)]))
    refine Goes.pre (S' := (T2.setTop (mkF m 19 #[.val (.int c0), .val (.ref b), .val (.int (8 : Int32)), .val (.int (1 : Int32)), .val (.ref x_BYTE)] []))) (fun _ k => XS.astore X2.here hx rfl (hb hby dfo_17) rfl rfl (l' := #[.val (.int c0), .val (.ref b), .val (.int (8 : Int32)), .val (.int (1 : Int32)), .val (.ref x_BYTE)]) rfl k) ?_
    refine Goes.pre (S' := (T2.setTop (mkF m 21 #[.val (.int c0), .val (.ref b), .val (.int (8 : Int32)), .val (.int (1 : Int32)), .val (.ref x_BYTE)] [(.ref x_BYTE)]))) (fun _ k => XS.aload X2.here hx rfl (hb hby dfo_19) rfl rfl k) ?_
    obtain ⟨T3, X3, e3, st3⟩ := getF X2 hx hZ hown (host := "") (Or.inl (hw _ (List.mem_of_getElem? (i := 11) rfl))) Via.refl e2 H_BYTE.2 (g := (mkF m 21 #[.val (.int c0), .val (.ref b), .val (.int (8 : Int32)), .val (.int (1 : Int32)), .val (.ref x_BYTE)] [(.ref x_BYTE)])) rfl rfl (hb hby dfo_21)
    refine Goes.pre (S' := (T3.setTop (mkF m 24 #[.val (.int c0), .val (.ref b), .val (.int (8 : Int32)), .val (.int (1 : Int32)), .val (.ref x_BYTE)] [(.int (66 : Int32))]))) st3 ?_
    refine Goes.pre (S' := (T3.setTop (mkF m 25 #[.val (.int c0), .val (.ref b), .val (.int (8 : Int32)), .val (.int (1 : Int32)), .val (.ref x_BYTE)] [(.int c0), (.int (66 : Int32))]))) (fun _ k => XS.iloadN X3.here hx rfl (hb hby dfo_24) rfl k) ?_
    by_cases c_1 : (66 : Int32) = c0
    · skip
      refine Goes.pre (S' := (T3.setTop (mkF m 28 #[.val (.int c0), .val (.ref b), .val (.int (8 : Int32)), .val (.int (1 : Int32)), .val (.ref x_BYTE)] []))) (fun _ k => XS.icmpNo X3.here hx rfl (hb hby dfo_25) rfl (XT.ii_ne_f c_1) k) ?_
      have hit : c0 = 66 := c_1.symm
      refine Goes.pre (S' := (T3.setTop (mkF m 30 #[.val (.int c0), .val (.ref b), .val (.int (8 : Int32)), .val (.int (1 : Int32)), .val (.ref x_BYTE)] [(.ref x_BYTE)]))) (fun _ k => XS.aload X3.here hx rfl (hb hby dfo_28) rfl rfl k) ?_
      have hsel : own_sel c0 x_BOOLEAN x_BYTE x_CHAR x_SHORT x_INT x_LONG x_FLOAT x_DOUBLE = .ref x_BYTE := by simp [own_sel, hit]
      exact Goes.ret X3 hx hlk (t := (.object "com/example/quarry/quarry/descriptor/PrimitiveType")) Bd.returns rfl (Or.inr (Or.inr (Or.inr (Or.inr ⟨rfl, rfl, rfl⟩)))) (hb hby dfo_30) ⟨by rw [hsel], N0, e3⟩ (by first | decide | exact Nat.le_of_ble_eq_true rfl | assumption | (simp [Value.category]; done)) (by first | decide | exact Nat.le_of_ble_eq_true rfl | assumption | (simp [Value.category]; done))
    · skip
      refine Goes.pre (S' := (T3.setTop (mkF m 31 #[.val (.int c0), .val (.ref b), .val (.int (8 : Int32)), .val (.int (1 : Int32)), .val (.ref x_BYTE)] []))) (fun _ k => XS.icmpYes X3.here hx rfl (pc0 := 25) (pc' := 31) rfl (hb hby dfo_25) rfl (XT.ii_ne_t c_1) (by decide) (by decide) k) ?_
      have n_1 : ¬ c0 = 66 := fun q => c_1 q.symm
      refine Goes.pre (S' := (T3.setTop (mkF m 34 #[.val (.int c0), .val (.ref b), .val (.int (8 : Int32)), .val (.int (2 : Int32)), .val (.ref x_BYTE)] []))) (fun _ k => XT.iincV X3.here hx rfl (1 : Int32) (hb hby dfo_31) rfl rfl (l' := #[.val (.int c0), .val (.ref b), .val (.int (8 : Int32)), .val (.int (2 : Int32)), .val (.ref x_BYTE)]) rfl k) ?_
      refine Goes.pre (S' := (T3.setTop (mkF m 9 #[.val (.int c0), .val (.ref b), .val (.int (8 : Int32)), .val (.int (2 : Int32)), .val (.ref x_BYTE)] []))) (fun _ k => XS.goto X3.here hx rfl (pc0 := 34) (pc' := 9) rfl (hb hby dfo_34) (by decide) (by decide) k) ?_
      refine Goes.pre (S' := (T3.setTop (mkF m 10 #[.val (.int c0), .val (.ref b), .val (.int (8 : Int32)), .val (.int (2 : Int32)), .val (.ref x_BYTE)] [(.int (2 : Int32))]))) (fun _ k => XS.iloadN X3.here hx rfl (hb hby dfo_9) rfl k) ?_
      refine Goes.pre (S' := (T3.setTop (mkF m 11 #[.val (.int c0), .val (.ref b), .val (.int (8 : Int32)), .val (.int (2 : Int32)), .val (.ref x_BYTE)] [(.int (8 : Int32)), (.int (2 : Int32))]))) (fun _ k => XS.iloadN X3.here hx rfl (hb hby dfo_10) rfl k) ?_
      refine Goes.pre (S' := (T3.setTop (mkF m 14 #[.val (.int c0), .val (.ref b), .val (.int (8 : Int32)), .val (.int (2 : Int32)), .val (.ref x_BYTE)] []))) (fun _ k => XS.icmpNo X3.here hx rfl (hb hby dfo_11) rfl (XT.ii_ge_f (by decide)) k) ?_
      refine Goes.pre (S' := (T3.setTop (mkF m 15 #[.val (.int c0), .val (.ref b), .val (.int (8 : Int32)), .val (.int (2 : Int32)), .val (.ref x_BYTE)] [(.ref b)]))) (fun _ k => XS.aloadN X3.here hx rfl (hb hby dfo_14) rfl rfl k) ?_
      refine Goes.pre (S' := (T3.setTop (mkF m 16 #[.val (.int c0), .val (.ref b), .val (.int (8 : Int32)), .val (.int (2 : Int32)), .val (.ref x_BYTE)] [(.int (2 : Int32)), (.ref b)]))) (fun _ k => XS.iloadN X3.here hx rfl (hb hby dfo_15) rfl k) ?_
      refine Goes.aaload X3 hx hZ e3 rfl V (j := (2 : Int32)) ⟨by decide, by decide⟩ (w := .ref x_CHAR) rfl (hb hby dfo_16) ?_
      show Goes p e below _ (T3.setTop (mkF m 17 #[.val (.int c0), .val (.ref b), .val (.int (8 : Int32)), .val (.int (2 : Int32)), .val (.ref x_BYTE)] [(.ref x_CHAR)]))
      refine Goes.pre (S' := (T3.setTop (mkF m 19 #[.val (.int c0), .val (.ref b), .val (.int (8 : Int32)), .val (.int (2 : Int32)), .val (.ref x_CHAR)] []))) (fun _ k => XS.astore X3.here hx rfl (hb hby dfo_17) rfl rfl (l' := #[.val (.int c0), .val (.ref b), .val (.int (8 : Int32)), .val (.int (2 : Int32)), .val (.ref x_CHAR)]) rfl k) ?_
      refine Goes.pre (S' := (T3.setTop (mkF m 21 #[.val (.int c0), .val (.ref b), .val (.int (8 : Int32)), .val (.int (2 : Int32)), .val (.ref x_CHAR)] [(.ref x_CHAR)]))) (fun _ k => XS.aload X3.here hx rfl (hb hby dfo_19) rfl rfl k) ?_
      obtain ⟨T4, X4, e4, st4⟩ := getF X3 hx hZ hown (host := "") (Or.inl (hw _ (List.mem_of_getElem? (i := 11) rfl))) Via.refl e3 H_CHAR.2 (g := (mkF m 21 #[.val (.int c0), .val (.ref b), .val (.int (8 : Int32)), .val (.int (2 : Int32)), .val (.ref x_CHAR)] [(.ref x_CHAR)])) rfl rfl (hb hby dfo_21)
      refine Goes.pre (S' := (T4.setTop (mkF m 24 #[.val (.int c0), .val (.ref b), .val (.int (8 : Int32)), .val (.int (2 : Int32)), .val (.ref x_CHAR)] [(.int (67 : Int32))]))) st4 ?_
      refine Goes.pre (S' := (T4.setTop (mkF m 25 #[.val (.int c0), .val (.ref b), .val (.int (8 : Int32)), .val (.int (2 : Int32)), .val (.ref x_CHAR)] [(.int c0), (.int (67 : Int32))]))) (fun _ k => XS.iloadN X4.here hx rfl (hb hby dfo_24) rfl k) ?_
      by_cases c_2 : (67 : Int32) = c0
      · skip
        refine Goes.pre (S' := (T4.setTop (mkF m 28 #[.val (.int c0), .val (.ref b), .val (.int (8 : Int32)), .val (.int (2 : Int32)), .val (.ref x_CHAR)] []))) (fun _ k => XS.icmpNo X4.here hx rfl (hb hby dfo_25) rfl (XT.ii_ne_f c_2) k) ?_
        have hit : c0 = 67 := c_2.symm
        refine Goes.pre (S' := (T4.setTop (mkF m 30 #[.val (.int c0), .val (.ref b), .val (.int (8 : Int32)), .val (.int (2 : Int32)), .val (.ref x_CHAR)] [(.ref x_CHAR)]))) (fun _ k => XS.aload X4.here hx rfl (hb hby dfo_28) rfl rfl k) ?_
        have hsel : own_sel c0 x_BOOLEAN x_BYTE x_CHAR x_SHORT x_INT x_LONG x_FLOAT x_DOUBLE = .ref x_CHAR := by simp [own_sel, hit]
        exact Goes.ret X4 hx hlk (t := (.object "com/example/quarry/quarry/descriptor/PrimitiveType")) Bd.returns rfl (Or.inr (Or.inr (Or.inr (Or.inr ⟨rfl, rfl, rfl⟩)))) (hb hby dfo_30) ⟨by rw [hsel], N0, e4⟩ (by first | decide | exact Nat.le_of_ble_eq_true rfl | assumption | (simp [Value.category]; done)) (by first | decide | exact Nat.le_of_ble_eq_true rfl | assumption | (simp [Value.category]; done))
      · skip
        refine Goes.pre (S' := (T4.setTop (mkF m 31 #[.val (.int c0), .val (.ref b), .val (.int (8 : Int32)), .val (.int (2 : Int32)), .val (.ref x_CHAR)] []))) (fun _ k => XS.icmpYes X4.here hx rfl (pc0 := 25) (pc' := 31) rfl (hb hby dfo_25) rfl (XT.ii_ne_t c_2) (by decide) (by decide) k) ?_
        have n_2 : ¬ c0 = 67 := fun q => c_2 q.symm
        refine Goes.pre (S' := (T4.setTop (mkF m 34 #[.val (.int c0), .val (.ref b), .val (.int (8 : Int32)), .val (.int (3 : Int32)), .val (.ref x_CHAR)] []))) (fun _ k => XT.iincV X4.here hx rfl (1 : Int32) (hb hby dfo_31) rfl rfl (l' := #[.val (.int c0), .val (.ref b), .val (.int (8 : Int32)), .val (.int (3 : Int32)), .val (.ref x_CHAR)]) rfl k) ?_
        refine Goes.pre (S' := (T4.setTop (mkF m 9 #[.val (.int c0), .val (.ref b), .val (.int (8 : Int32)), .val (.int (3 : Int32)), .val (.ref x_CHAR)] []))) (fun _ k => XS.goto X4.here hx rfl (pc0 := 34) (pc' := 9) rfl (hb hby dfo_34) (by decide) (by decide) k) ?_
        refine Goes.pre (S' := (T4.setTop (mkF m 10 #[.val (.int c0), .val (.ref b), .val (.int (8 : Int32)), .val (.int (3 : Int32)), .val (.ref x_CHAR)] [(.int (3 : Int32))]))) (fun _ k => XS.iloadN X4.here hx rfl (hb hby dfo_9) rfl k) ?_
        refine Goes.pre (S' := (T4.setTop (mkF m 11 #[.val (.int c0), .val (.ref b), .val (.int (8 : Int32)), .val (.int (3 : Int32)), .val (.ref x_CHAR)] [(.int (8 : Int32)), (.int (3 : Int32))]))) (fun _ k => XS.iloadN X4.here hx rfl (hb hby dfo_10) rfl k) ?_
        refine Goes.pre (S' := (T4.setTop (mkF m 14 #[.val (.int c0), .val (.ref b), .val (.int (8 : Int32)), .val (.int (3 : Int32)), .val (.ref x_CHAR)] []))) (fun _ k => XS.icmpNo X4.here hx rfl (hb hby dfo_11) rfl (XT.ii_ge_f (by decide)) k) ?_
        refine Goes.pre (S' := (T4.setTop (mkF m 15 #[.val (.int c0), .val (.ref b), .val (.int (8 : Int32)), .val (.int (3 : Int32)), .val (.ref x_CHAR)] [(.ref b)]))) (fun _ k => XS.aloadN X4.here hx rfl (hb hby dfo_14) rfl rfl k) ?_
        refine Goes.pre (S' := (T4.setTop (mkF m 16 #[.val (.int c0), .val (.ref b), .val (.int (8 : Int32)), .val (.int (3 : Int32)), .val (.ref x_CHAR)] [(.int (3 : Int32)), (.ref b)]))) (fun _ k => XS.iloadN X4.here hx rfl (hb hby dfo_15) rfl k) ?_
        refine Goes.aaload X4 hx hZ e4 rfl V (j := (3 : Int32)) ⟨by decide, by decide⟩ (w := .ref x_SHORT) rfl (hb hby dfo_16) ?_
        show Goes p e below _ (T4.setTop (mkF m 17 #[.val (.int c0), .val (.ref b), .val (.int (8 : Int32)), .val (.int (3 : Int32)), .val (.ref x_CHAR)] [(.ref x_SHORT)]))
        refine Goes.pre (S' := (T4.setTop (mkF m 19 #[.val (.int c0), .val (.ref b), .val (.int (8 : Int32)), .val (.int (3 : Int32)), .val (.ref x_SHORT)] []))) (fun _ k => XS.astore X4.here hx rfl (hb hby dfo_17) rfl rfl (l' := #[.val (.int c0), .val (.ref b), .val (.int (8 : Int32)), .val (.int (3 : Int32)), .val (.ref x_SHORT)]) rfl k) ?_
        refine Goes.pre (S' := (T4.setTop (mkF m 21 #[.val (.int c0), .val (.ref b), .val (.int (8 : Int32)), .val (.int (3 : Int32)), .val (.ref x_SHORT)] [(.ref x_SHORT)]))) (fun _ k => XS.aload X4.here hx rfl (hb hby dfo_19) rfl rfl k) ?_
        obtain ⟨T5, X5, e5, st5⟩ := getF X4 hx hZ hown (host := "") (Or.inl (hw _ (List.mem_of_getElem? (i := 11) rfl))) Via.refl e4 H_SHORT.2 (g := (mkF m 21 #[.val (.int c0), .val (.ref b), .val (.int (8 : Int32)), .val (.int (3 : Int32)), .val (.ref x_SHORT)] [(.ref x_SHORT)])) rfl rfl (hb hby dfo_21)
        refine Goes.pre (S' := (T5.setTop (mkF m 24 #[.val (.int c0), .val (.ref b), .val (.int (8 : Int32)), .val (.int (3 : Int32)), .val (.ref x_SHORT)] [(.int (83 : Int32))]))) st5 ?_
        refine Goes.pre (S' := (T5.setTop (mkF m 25 #[.val (.int c0), .val (.ref b), .val (.int (8 : Int32)), .val (.int (3 : Int32)), .val (.ref x_SHORT)] [(.int c0), (.int (83 : Int32))]))) (fun _ k => XS.iloadN X5.here hx rfl (hb hby dfo_24) rfl k) ?_
        by_cases c_3 : (83 : Int32) = c0
        · skip
          refine Goes.pre (S' := (T5.setTop (mkF m 28 #[.val (.int c0), .val (.ref b), .val (.int (8 : Int32)), .val (.int (3 : Int32)), .val (.ref x_SHORT)] []))) (fun _ k => XS.icmpNo X5.here hx rfl (hb hby dfo_25) rfl (XT.ii_ne_f c_3) k) ?_
          have hit : c0 = 83 := c_3.symm
          refine Goes.pre (S' := (T5.setTop (mkF m 30 #[.val (.int c0), .val (.ref b), .val (.int (8 : Int32)), .val (.int (3 : Int32)), .val (.ref x_SHORT)] [(.ref x_SHORT)]))) (fun _ k => XS.aload X5.here hx rfl (hb hby dfo_28) rfl rfl k) ?_
          have hsel : own_sel c0 x_BOOLEAN x_BYTE x_CHAR x_SHORT x_INT x_LONG x_FLOAT x_DOUBLE = .ref x_SHORT := by simp [own_sel, hit]
          exact Goes.ret X5 hx hlk (t := (.object "com/example/quarry/quarry/descriptor/PrimitiveType")) Bd.returns rfl (Or.inr (Or.inr (Or.inr (Or.inr ⟨rfl, rfl, rfl⟩)))) (hb hby dfo_30) ⟨by rw [hsel], N0, e5⟩ (by first | decide | exact Nat.le_of_ble_eq_true rfl | assumption | (simp [Value.category]; done)) (by first | decide | exact Nat.le_of_ble_eq_true rfl | assumption | (simp [Value.category]; done))
        · skip
          refine Goes.pre (S' := (T5.setTop (mkF m 31 #[.val (.int c0), .val (.ref b), .val (.int (8 : Int32)), .val (.int (3 : Int32)), .val (.ref x_SHORT)] []))) (fun _ k => XS.icmpYes X5.here hx rfl (pc0 := 25) (pc' := 31) rfl (hb hby dfo_25) rfl (XT.ii_ne_t c_3) (by decide) (by decide) k) ?_
          have n_3 : ¬ c0 = 83 := fun q => c_3 q.symm
          refine Goes.pre (S' := (T5.setTop (mkF m 34 #[.val (.int c0), .val (.ref b), .val (.int (8 : Int32)), .val (.int (4 : Int32)), .val (.ref x_SHORT)] []))) (fun _ k => XT.iincV X5.here hx rfl (1 : Int32) (hb hby dfo_31) rfl rfl (l' := #[.val (.int c0), .val (.ref b), .val (.int (8 : Int32)), .val (.int (4 : Int32)), .val (.ref x_SHORT)]) rfl k) ?_
          refine Goes.pre (S' := (T5.setTop (mkF m 9 #[.val (.int c0), .val (.ref b), .val (.int (8 : Int32)), .val (.int (4 : Int32)), .val (.ref x_SHORT)] []))) (fun _ k => XS.goto X5.here hx rfl (pc0 := 34) (pc' := 9) rfl (hb hby dfo_34) (by decide) (by decide) k) ?_
          refine Goes.pre (S' := (T5.setTop (mkF m 10 #[.val (.int c0), .val (.ref b), .val (.int (8 : Int32)), .val (.int (4 : Int32)), .val (.ref x_SHORT)] [(.int (4 : Int32))]))) (fun _ k => XS.iloadN X5.here hx rfl (hb hby dfo_9) rfl k) ?_
          refine Goes.pre (S' := (T5.setTop (mkF m 11 #[.val (.int c0), .val (.ref b), .val (.int (8 : Int32)), .val (.int (4 : Int32)), .val (.ref x_SHORT)] [(.int (8 : Int32)), (.int (4 : Int32))]))) (fun _ k => XS.iloadN X5.here hx rfl (hb hby dfo_10) rfl k) ?_
          refine Goes.pre (S' := (T5.setTop (mkF m 14 #[.val (.int c0), .val (.ref b), .val (.int (8 : Int32)), .val (.int (4 : Int32)), .val (.ref x_SHORT)] []))) (fun _ k => XS.icmpNo X5.here hx rfl (hb hby dfo_11) rfl (XT.ii_ge_f (by decide)) k) ?_
          refine Goes.pre (S' := (T5.setTop (mkF m 15 #[.val (.int c0), .val (.ref b), .val (.int (8 : Int32)), .val (.int (4 : Int32)), .val (.ref x_SHORT)] [(.ref b)]))) (fun _ k => XS.aloadN X5.here hx rfl (hb hby dfo_14) rfl rfl k) ?_
          refine Goes.pre (S' := (T5.setTop (mkF m 16 #[.val (.int c0), .val (.ref b), .val (.int (8 : Int32)), .val (.int (4 : Int32)), .val (.ref x_SHORT)] [(.int (4 : Int32)), (.ref b)]))) (fun _ k => XS.iloadN X5.here hx rfl (hb hby dfo_15) rfl k) ?_
          refine Goes.aaload X5 hx hZ e5 rfl V (j := (4 : Int32)) ⟨by decide, by decide⟩ (w := .ref x_INT) rfl (hb hby dfo_16) ?_
          show Goes p e below _ (T5.setTop (mkF m 17 #[.val (.int c0), .val (.ref b), .val (.int (8 : Int32)), .val (.int (4 : Int32)), .val (.ref x_SHORT)] [(.ref x_INT)]))
          refine Goes.pre (S' := (T5.setTop (mkF m 19 #[.val (.int c0), .val (.ref b), .val (.int (8 : Int32)), .val (.int (4 : Int32)), .val (.ref x_INT)] []))) (fun _ k => XS.astore X5.here hx rfl (hb hby dfo_17) rfl rfl (l' := #[.val (.int c0), .val (.ref b), .val (.int (8 : Int32)), .val (.int (4 : Int32)), .val (.ref x_INT)]) rfl k) ?_
          refine Goes.pre (S' := (T5.setTop (mkF m 21 #[.val (.int c0), .val (.ref b), .val (.int (8 : Int32)), .val (.int (4 : Int32)), .val (.ref x_INT)] [(.ref x_INT)]))) (fun _ k => XS.aload X5.here hx rfl (hb hby dfo_19) rfl rfl k) ?_
          obtain ⟨T6, X6, e6, st6⟩ := getF X5 hx hZ hown (host := "") (Or.inl (hw _ (List.mem_of_getElem? (i := 11) rfl))) Via.refl e5 H_INT.2 (g := (mkF m 21 #[.val (.int c0), .val (.ref b), .val (.int (8 : Int32)), .val (.int (4 : Int32)), .val (.ref x_INT)] [(.ref x_INT)])) rfl rfl (hb hby dfo_21)
          refine Goes.pre (S' := (T6.setTop (mkF m 24 #[.val (.int c0), .val (.ref b), .val (.int (8 : Int32)), .val (.int (4 : Int32)), .val (.ref x_INT)] [(.int (73 : Int32))]))) st6 ?_
          refine Goes.pre (S' := (T6.setTop (mkF m 25 #[.val (.int c0), .val (.ref b), .val (.int (8 : Int32)), .val (.int (4 : Int32)), .val (.ref x_INT)] [(.int c0), (.int (73 : Int32))]))) (fun _ k => XS.iloadN X6.here hx rfl (hb hby dfo_24) rfl k) ?_
          by_cases c_4 : (73 : Int32) = c0
          · skip
            refine Goes.pre (S' := (T6.setTop (mkF m 28 #[.val (.int c0), .val (.ref b), .val (.int (8 : Int32)), .val (.int (4 : Int32)), .val (.ref x_INT)] []))) (fun _ k => XS.icmpNo X6.here hx rfl (hb hby dfo_25) rfl (XT.ii_ne_f c_4) k) ?_
            have hit : c0 = 73 := c_4.symm
            refine Goes.pre (S' := (T6.setTop (mkF m 30 #[.val (.int c0), .val (.ref b), .val (.int (8 : Int32)), .val (.int (4 : Int32)), .val (.ref x_INT)] [(.ref x_INT)]))) (fun _ k => XS.aload X6.here hx rfl (hb hby dfo_28) rfl rfl k) ?_
            have hsel : own_sel c0 x_BOOLEAN x_BYTE x_CHAR x_SHORT x_INT x_LONG x_FLOAT x_DOUBLE = .ref x_INT := by simp [own_sel, hit]
            exact Goes.ret X6 hx hlk (t := (.object "com/example/quarry/quarry/descriptor/PrimitiveType")) Bd.returns rfl (Or.inr (Or.inr (Or.inr (Or.inr ⟨rfl, rfl, rfl⟩)))) (hb hby dfo_30) ⟨by rw [hsel], N0, e6⟩ (by first | decide | exact Nat.le_of_ble_eq_true rfl | assumption | (simp [Value.category]; done)) (by first | decide | exact Nat.le_of_ble_eq_true rfl | assumption | (simp [Value.category]; done))
          · skip
            refine Goes.pre (S' := (T6.setTop (mkF m 31 #[.val (.int c0), .val (.ref b), .val (.int (8 : Int32)), .val (.int (4 : Int32)), .val (.ref x_INT)] []))) (fun _ k => XS.icmpYes X6.here hx rfl (pc0 := 25) (pc' := 31) rfl (hb hby dfo_25) rfl (XT.ii_ne_t c_4) (by decide) (by decide) k) ?_
            have n_4 : ¬ c0 = 73 := fun q => c_4 q.symm
            refine Goes.pre (S' := (T6.setTop (mkF m 34 #[.val (.int c0), .val (.ref b), .val (.int (8 : Int32)), .val (.int (5 : Int32)), .val (.ref x_INT)] []))) (fun _ k => XT.iincV X6.here hx rfl (1 : Int32) (hb hby dfo_31) rfl rfl (l' := #[.val (.int c0), .val (.ref b), .val (.int (8 : Int32)), .val (.int (5 : Int32)), .val (.ref x_INT)]) rfl k) ?_
            refine Goes.pre (S' := (T6.setTop (mkF m 9 #[.val (.int c0), .val (.ref b), .val (.int (8 : Int32)), .val (.int (5 : Int32)), .val (.ref x_INT)] []))) (fun _ k => XS.goto X6.here hx rfl (pc0 := 34) (pc' := 9) rfl (hb hby dfo_34) (by decide) (by decide) k) ?_
            refine Goes.pre (S' := (T6.setTop (mkF m 10 #[.val (.int c0), .val (.ref b), .val (.int (8 : Int32)), .val (.int (5 : Int32)), .val (.ref x_INT)] [(.int (5 : Int32))]))) (fun _ k => XS.iloadN X6.here hx rfl (hb hby dfo_9) rfl k) ?_
            refine Goes.pre (S' := (T6.setTop (mkF m 11 #[.val (.int c0), .val (.ref b), .val (.int (8 : Int32)), .val (.int (5 : Int32)), .val (.ref x_INT)] [(.int (8 : Int32)), (.int (5 : Int32))]))) (fun _ k => XS.iloadN X6.here hx rfl (hb hby dfo_10) rfl k) ?_
            refine Goes.pre (S' := (T6.setTop (mkF m 14 #[.val (.int c0), .val (.ref b), .val (.int (8 : Int32)), .val (.int (5 : Int32)), .val (.ref x_INT)] []))) (fun _ k => XS.icmpNo X6.here hx rfl (hb hby dfo_11) rfl (XT.ii_ge_f (by decide)) k) ?_
            refine Goes.pre (S' := (T6.setTop (mkF m 15 #[.val (.int c0), .val (.ref b), .val (.int (8 : Int32)), .val (.int (5 : Int32)), .val (.ref x_INT)] [(.ref b)]))) (fun _ k => XS.aloadN X6.here hx rfl (hb hby dfo_14) rfl rfl k) ?_
            refine Goes.pre (S' := (T6.setTop (mkF m 16 #[.val (.int c0), .val (.ref b), .val (.int (8 : Int32)), .val (.int (5 : Int32)), .val (.ref x_INT)] [(.int (5 : Int32)), (.ref b)]))) (fun _ k => XS.iloadN X6.here hx rfl (hb hby dfo_15) rfl k) ?_
            refine Goes.aaload X6 hx hZ e6 rfl V (j := (5 : Int32)) ⟨by decide, by decide⟩ (w := .ref x_LONG) rfl (hb hby dfo_16) ?_
            show Goes p e below _ (T6.setTop (mkF m 17 #[.val (.int c0), .val (.ref b), .val (.int (8 : Int32)), .val (.int (5 : Int32)), .val (.ref x_INT)] [(.ref x_LONG)]))
            refine Goes.pre (S' := (T6.setTop (mkF m 19 #[.val (.int c0), .val (.ref b), .val (.int (8 : Int32)), .val (.int (5 : Int32)), .val (.ref x_LONG)] []))) (fun _ k => XS.astore X6.here hx rfl (hb hby dfo_17) rfl rfl (l' := #[.val (.int c0), .val (.ref b), .val (.int (8 : Int32)), .val (.int (5 : Int32)), .val (.ref x_LONG)]) rfl k) ?_
            refine Goes.pre (S' := (T6.setTop (mkF m 21 #[.val (.int c0), .val (.ref b), .val (.int (8 : Int32)), .val (.int (5 : Int32)), .val (.ref x_LONG)] [(.ref x_LONG)]))) (fun _ k => XS.aload X6.here hx rfl (hb hby dfo_19) rfl rfl k) ?_
            obtain ⟨T7, X7, e7, st7⟩ := getF X6 hx hZ hown (host := "") (Or.inl (hw _ (List.mem_of_getElem? (i := 11) rfl))) Via.refl e6 H_LONG.2 (g := (mkF m 21 #[.val (.int c0), .val (.ref b), .val (.int (8 : Int32)), .val (.int (5 : Int32)), .val (.ref x_LONG)] [(.ref x_LONG)])) rfl rfl (hb hby dfo_21)
            refine Goes.pre (S' := (T7.setTop (mkF m 24 #[.val (.int c0), .val (.ref b), .val (.int (8 : Int32)), .val (.int (5 : Int32)), .val (.ref x_LONG)] [(.int (74 : Int32))]))) st7 ?_
            refine Goes.pre (S' := (T7.setTop (mkF m 25 #[.val (.int c0), .val (.ref b), .val (.int (8 : Int32)), .val (.int (5 : Int32)), .val (.ref x_LONG)] [(.int c0), (.int (74 : Int32))]))) (fun _ k => XS.iloadN X7.here hx rfl (hb hby dfo_24) rfl k) ?_
            by_cases c_5 : (74 : Int32) = c0
            · skip
              refine Goes.pre (S' := (T7.setTop (mkF m 28 #[.val (.int c0), .val (.ref b), .val (.int (8 : Int32)), .val (.int (5 : Int32)), .val (.ref x_LONG)] []))) (fun _ k => XS.icmpNo X7.here hx rfl (hb hby dfo_25) rfl (XT.ii_ne_f c_5) k) ?_
              have hit : c0 = 74 := c_5.symm
              refine Goes.pre (S' := (T7.setTop (mkF m 30 #[.val (.int c0), .val (.ref b), .val (.int (8 : Int32)), .val (.int (5 : Int32)), .val (.ref x_LONG)] [(.ref x_LONG)]))) (fun _ k => XS.aload X7.here hx rfl (hb hby dfo_28) rfl rfl k) ?_
              have hsel : own_sel c0 x_BOOLEAN x_BYTE x_CHAR x_SHORT x_INT x_LONG x_FLOAT x_DOUBLE = .ref x_LONG := by simp [own_sel, hit]
              exact Goes.ret X7 hx hlk (t := (.object "com/example/quarry/quarry/descriptor/PrimitiveType")) Bd.returns rfl (Or.inr (Or.inr (Or.inr (Or.inr ⟨rfl, rfl, rfl⟩)))) (hb hby dfo_30) ⟨by rw [hsel], N0, e7⟩ (by first | decide | exact Nat.le_of_ble_eq_true rfl | assumption | (simp [Value.category]; done)) (by first | decide | exact Nat.le_of_ble_eq_true rfl | assumption | (simp [Value.category]; done))
            · skip
              refine Goes.pre (S' := (T7.setTop (mkF m 31 #[.val (.int c0), .val (.ref b), .val (.int (8 : Int32)), .val (.int (5 : Int32)), .val (.ref x_LONG)] []))) (fun _ k => XS.icmpYes X7.here hx rfl (pc0 := 25) (pc' := 31) rfl (hb hby dfo_25) rfl (XT.ii_ne_t c_5) (by decide) (by decide) k) ?_
              have n_5 : ¬ c0 = 74 := fun q => c_5 q.symm
              refine Goes.pre (S' := (T7.setTop (mkF m 34 #[.val (.int c0), .val (.ref b), .val (.int (8 : Int32)), .val (.int (6 : Int32)), .val (.ref x_LONG)] []))) (fun _ k => XT.iincV X7.here hx rfl (1 : Int32) (hb hby dfo_31) rfl rfl (l' := #[.val (.int c0), .val (.ref b), .val (.int (8 : Int32)), .val (.int (6 : Int32)), .val (.ref x_LONG)]) rfl k) ?_
              refine Goes.pre (S' := (T7.setTop (mkF m 9 #[.val (.int c0), .val (.ref b), .val (.int (8 : Int32)), .val (.int (6 : Int32)), .val (.ref x_LONG)] []))) (fun _ k => XS.goto X7.here hx rfl (pc0 := 34) (pc' := 9) rfl (hb hby dfo_34) (by decide) (by decide) k) ?_
              refine Goes.pre (S' := (T7.setTop (mkF m 10 #[.val (.int c0), .val (.ref b), .val (.int (8 : Int32)), .val (.int (6 : Int32)), .val (.ref x_LONG)] [(.int (6 : Int32))]))) (fun _ k => XS.iloadN X7.here hx rfl (hb hby dfo_9) rfl k) ?_
              refine Goes.pre (S' := (T7.setTop (mkF m 11 #[.val (.int c0), .val (.ref b), .val (.int (8 : Int32)), .val (.int (6 : Int32)), .val (.ref x_LONG)] [(.int (8 : Int32)), (.int (6 : Int32))]))) (fun _ k => XS.iloadN X7.here hx rfl (hb hby dfo_10) rfl k) ?_
              refine Goes.pre (S' := (T7.setTop (mkF m 14 #[.val (.int c0), .val (.ref b), .val (.int (8 : Int32)), .val (.int (6 : Int32)), .val (.ref x_LONG)] []))) (fun _ k => XS.icmpNo X7.here hx rfl (hb hby dfo_11) rfl (XT.ii_ge_f (by decide)) k) ?_
              refine Goes.pre (S' := (T7.setTop (mkF m 15 #[.val (.int c0), .val (.ref b), .val (.int (8 : Int32)), .val (.int (6 : Int32)), .val (.ref x_LONG)] [(.ref b)]))) (fun _ k => XS.aloadN X7.here hx rfl (hb hby dfo_14) rfl rfl k) ?_
              refine Goes.pre (S' := (T7.setTop (mkF m 16 #[.val (.int c0), .val (.ref b), .val (.int (8 : Int32)), .val (.int (6 : Int32)), .val (.ref x_LONG)] [(.int (6 : Int32)), (.ref b)]))) (fun _ k => XS.iloadN X7.here hx rfl (hb hby dfo_15) rfl k) ?_
              refine Goes.aaload X7 hx hZ e7 rfl V (j := (6 : Int32)) ⟨by decide, by decide⟩ (w := .ref x_FLOAT) rfl (hb hby dfo_16) ?_
              show Goes p e below _ (T7.setTop (mkF m 17 #[.val (.int c0), .val (.ref b), .val (.int (8 : Int32)), .val (.int (6 : Int32)), .val (.ref x_LONG)] [(.ref x_FLOAT)]))
              refine Goes.pre (S' := (T7.setTop (mkF m 19 #[.val (.int c0), .val (.ref b), .val (.int (8 : Int32)), .val (.int (6 : Int32)), .val (.ref x_FLOAT)] []))) (fun _ k => XS.astore X7.here hx rfl (hb hby dfo_17) rfl rfl (l' := #[.val (.int c0), .val (.ref b), .val (.int (8 : Int32)), .val (.int (6 : Int32)), .val (.ref x_FLOAT)]) rfl k) ?_
              refine Goes.pre (S' := (T7.setTop (mkF m 21 #[.val (.int c0), .val (.ref b), .val (.int (8 : Int32)), .val (.int (6 : Int32)), .val (.ref x_FLOAT)] [(.ref x_FLOAT)]))) (fun _ k => XS.aload X7.here hx rfl (hb hby dfo_19) rfl rfl k) ?_
              obtain ⟨T8, X8, e8, st8⟩ := getF X7 hx hZ hown (host := "") (Or.inl (hw _ (List.mem_of_getElem? (i := 11) rfl))) Via.refl e7 H_FLOAT.2 (g := (mkF m 21 #[.val (.int c0), .val (.ref b), .val (.int (8 : Int32)), .val (.int (6 : Int32)), .val (.ref x_FLOAT)] [(.ref x_FLOAT)])) rfl rfl (hb hby dfo_21)
              refine Goes.pre (S' := (T8.setTop (mkF m 24 #[.val (.int c0), .val (.ref b), .val (.int (8 : Int32)), .val (.int (6 : Int32)), .val (.ref x_FLOAT)] [(.int (70 : Int32))]))) st8 ?_
              refine Goes.pre (S' := (T8.setTop (mkF m 25 #[.val (.int c0), .val (.ref b), .val (.int (8 : Int32)), .val (.int (6 : Int32)), .val (.ref x_FLOAT)] [(.int c0), (.int (70 : Int32))]))) (fun _ k => XS.iloadN X8.here hx rfl (hb hby dfo_24) rfl k) ?_
              by_cases c_6 : (70 : Int32) = c0
              · skip
                refine Goes.pre (S' := (T8.setTop (mkF m 28 #[.val (.int c0), .val (.ref b), .val (.int (8 : Int32)), .val (.int (6 : Int32)), .val (.ref x_FLOAT)] []))) (fun _ k => XS.icmpNo X8.here hx rfl (hb hby dfo_25) rfl (XT.ii_ne_f c_6) k) ?_
                have hit : c0 = 70 := c_6.symm
                refine Goes.pre (S' := (T8.setTop (mkF m 30 #[.val (.int c0), .val (.ref b), .val (.int (8 : Int32)), .val (.int (6 : Int32)), .val (.ref x_FLOAT)] [(.ref x_FLOAT)]))) (fun _ k => XS.aload X8.here hx rfl (hb hby dfo_28) rfl rfl k) ?_
                have hsel : own_sel c0 x_BOOLEAN x_BYTE x_CHAR x_SHORT x_INT x_LONG x_FLOAT x_DOUBLE = .ref x_FLOAT := by simp [own_sel, hit]
                exact Goes.ret X8 hx hlk (t := (.object "com/example/quarry/quarry/descriptor/PrimitiveType")) Bd.returns rfl (Or.inr (Or.inr (Or.inr (Or.inr ⟨rfl, rfl, rfl⟩)))) (hb hby dfo_30) ⟨by rw [hsel], N0, e8⟩ (by first | decide | exact Nat.le_of_ble_eq_true rfl | assumption | (simp [Value.category]; done)) (by first | decide | exact Nat.le_of_ble_eq_true rfl | assumption | (simp [Value.category]; done))
              · skip
                refine Goes.pre (S' := (T8.setTop (mkF m 31 #[.val (.int c0), .val (.ref b), .val (.int (8 : Int32)), .val (.int (6 : Int32)), .val (.ref x_FLOAT)] []))) (fun _ k => XS.icmpYes X8.here hx rfl (pc0 := 25) (pc' := 31) rfl (hb hby dfo_25) rfl (XT.ii_ne_t c_6) (by decide) (by decide) k) ?_
                have n_6 : ¬ c0 = 70 := fun q => c_6 q.symm
                refine Goes.pre (S' := (T8.setTop (mkF m 34 #[.val (.int c0), .val (.ref b), .val (.int (8 : Int32)), .val (.int (7 : Int32)), .val (.ref x_FLOAT)] []))) (fun _ k => XT.iincV X8.here hx rfl (1 : Int32) (hb hby dfo_31) rfl rfl (l' := #[.val (.int c0), .val (.ref b), .val (.int (8 : Int32)), .val (.int (7 : Int32)), .val (.ref x_FLOAT)]) rfl k) ?_
                refine Goes.pre (S' := (T8.setTop (mkF m 9 #[.val (.int c0), .val (.ref b), .val (.int (8 : Int32)), .val (.int (7 : Int32)), .val (.ref x_FLOAT)] []))) (fun _ k => XS.goto X8.here hx rfl (pc0 := 34) (pc' := 9) rfl (hb hby dfo_34) (by decide) (by decide) k) ?_
                refine Goes.pre (S' := (T8.setTop (mkF m 10 #[.val (.int c0), .val (.ref b), .val (.int (8 : Int32)), .val (.int (7 : Int32)), .val (.ref x_FLOAT)] [(.int (7 : Int32))]))) (fun _ k => XS.iloadN X8.here hx rfl (hb hby dfo_9) rfl k) ?_
                refine Goes.pre (S' := (T8.setTop (mkF m 11 #[.val (.int c0), .val (.ref b), .val (.int (8 : Int32)), .val (.int (7 : Int32)), .val (.ref x_FLOAT)] [(.int (8 : Int32)), (.int (7 : Int32))]))) (fun _ k => XS.iloadN X8.here hx rfl (hb hby dfo_10) rfl k) ?_
                refine Goes.pre (S' := (T8.setTop (mkF m 14 #[.val (.int c0), .val (.ref b), .val (.int (8 : Int32)), .val (.int (7 : Int32)), .val (.ref x_FLOAT)] []))) (fun _ k => XS.icmpNo X8.here hx rfl (hb hby dfo_11) rfl (XT.ii_ge_f (by decide)) k) ?_
                refine Goes.pre (S' := (T8.setTop (mkF m 15 #[.val (.int c0), .val (.ref b), .val (.int (8 : Int32)), .val (.int (7 : Int32)), .val (.ref x_FLOAT)] [(.ref b)]))) (fun _ k => XS.aloadN X8.here hx rfl (hb hby dfo_14) rfl rfl k) ?_
                refine Goes.pre (S' := (T8.setTop (mkF m 16 #[.val (.int c0), .val (.ref b), .val (.int (8 : Int32)), .val (.int (7 : Int32)), .val (.ref x_FLOAT)] [(.int (7 : Int32)), (.ref b)]))) (fun _ k => XS.iloadN X8.here hx rfl (hb hby dfo_15) rfl k) ?_
                refine Goes.aaload X8 hx hZ e8 rfl V (j := (7 : Int32)) ⟨by decide, by decide⟩ (w := .ref x_DOUBLE) rfl (hb hby dfo_16) ?_
                show Goes p e below _ (T8.setTop (mkF m 17 #[.val (.int c0), .val (.ref b), .val (.int (8 : Int32)), .val (.int (7 : Int32)), .val (.ref x_FLOAT)] [(.ref x_DOUBLE)]))
                refine Goes.pre (S' := (T8.setTop (mkF m 19 #[.val (.int c0), .val (.ref b), .val (.int (8 : Int32)), .val (.int (7 : Int32)), .val (.ref x_DOUBLE)] []))) (fun _ k => XS.astore X8.here hx rfl (hb hby dfo_17) rfl rfl (l' := #[.val (.int c0), .val (.ref b), .val (.int (8 : Int32)), .val (.int (7 : Int32)), .val (.ref x_DOUBLE)]) rfl k) ?_
                refine Goes.pre (S' := (T8.setTop (mkF m 21 #[.val (.int c0), .val (.ref b), .val (.int (8 : Int32)), .val (.int (7 : Int32)), .val (.ref x_DOUBLE)] [(.ref x_DOUBLE)]))) (fun _ k => XS.aload X8.here hx rfl (hb hby dfo_19) rfl rfl k) ?_
                obtain ⟨T9, X9, e9, st9⟩ := getF X8 hx hZ hown (host := "") (Or.inl (hw _ (List.mem_of_getElem? (i := 11) rfl))) Via.refl e8 H_DOUBLE.2 (g := (mkF m 21 #[.val (.int c0), .val (.ref b), .val (.int (8 : Int32)), .val (.int (7 : Int32)), .val (.ref x_DOUBLE)] [(.ref x_DOUBLE)])) rfl rfl (hb hby dfo_21)
                refine Goes.pre (S' := (T9.setTop (mkF m 24 #[.val (.int c0), .val (.ref b), .val (.int (8 : Int32)), .val (.int (7 : Int32)), .val (.ref x_DOUBLE)] [(.int (68 : Int32))]))) st9 ?_
                refine Goes.pre (S' := (T9.setTop (mkF m 25 #[.val (.int c0), .val (.ref b), .val (.int (8 : Int32)), .val (.int (7 : Int32)), .val (.ref x_DOUBLE)] [(.int c0), (.int (68 : Int32))]))) (fun _ k => XS.iloadN X9.here hx rfl (hb hby dfo_24) rfl k) ?_
                by_cases c_7 : (68 : Int32) = c0
                · skip
                  refine Goes.pre (S' := (T9.setTop (mkF m 28 #[.val (.int c0), .val (.ref b), .val (.int (8 : Int32)), .val (.int (7 : Int32)), .val (.ref x_DOUBLE)] []))) (fun _ k => XS.icmpNo X9.here hx rfl (hb hby dfo_25) rfl (XT.ii_ne_f c_7) k) ?_
                  have hit : c0 = 68 := c_7.symm
                  refine Goes.pre (S' := (T9.setTop (mkF m 30 #[.val (.int c0), .val (.ref b), .val (.int (8 : Int32)), .val (.int (7 : Int32)), .val (.ref x_DOUBLE)] [(.ref x_DOUBLE)]))) (fun _ k => XS.aload X9.here hx rfl (hb hby dfo_28) rfl rfl k) ?_
                  have hsel : own_sel c0 x_BOOLEAN x_BYTE x_CHAR x_SHORT x_INT x_LONG x_FLOAT x_DOUBLE = .ref x_DOUBLE := by simp [own_sel, hit]
                  exact Goes.ret X9 hx hlk (t := (.object "com/example/quarry/quarry/descriptor/PrimitiveType")) Bd.returns rfl (Or.inr (Or.inr (Or.inr (Or.inr ⟨rfl, rfl, rfl⟩)))) (hb hby dfo_30) ⟨by rw [hsel], N0, e9⟩ (by first | decide | exact Nat.le_of_ble_eq_true rfl | assumption | (simp [Value.category]; done)) (by first | decide | exact Nat.le_of_ble_eq_true rfl | assumption | (simp [Value.category]; done))
                · skip
                  refine Goes.pre (S' := (T9.setTop (mkF m 31 #[.val (.int c0), .val (.ref b), .val (.int (8 : Int32)), .val (.int (7 : Int32)), .val (.ref x_DOUBLE)] []))) (fun _ k => XS.icmpYes X9.here hx rfl (pc0 := 25) (pc' := 31) rfl (hb hby dfo_25) rfl (XT.ii_ne_t c_7) (by decide) (by decide) k) ?_
                  have n_7 : ¬ c0 = 68 := fun q => c_7 q.symm
                  refine Goes.pre (S' := (T9.setTop (mkF m 34 #[.val (.int c0), .val (.ref b), .val (.int (8 : Int32)), .val (.int (8 : Int32)), .val (.ref x_DOUBLE)] []))) (fun _ k => XT.iincV X9.here hx rfl (1 : Int32) (hb hby dfo_31) rfl rfl (l' := #[.val (.int c0), .val (.ref b), .val (.int (8 : Int32)), .val (.int (8 : Int32)), .val (.ref x_DOUBLE)]) rfl k) ?_
                  refine Goes.pre (S' := (T9.setTop (mkF m 9 #[.val (.int c0), .val (.ref b), .val (.int (8 : Int32)), .val (.int (8 : Int32)), .val (.ref x_DOUBLE)] []))) (fun _ k => XS.goto X9.here hx rfl (pc0 := 34) (pc' := 9) rfl (hb hby dfo_34) (by decide) (by decide) k) ?_
                  refine Goes.pre (S' := (T9.setTop (mkF m 10 #[.val (.int c0), .val (.ref b), .val (.int (8 : Int32)), .val (.int (8 : Int32)), .val (.ref x_DOUBLE)] [(.int (8 : Int32))]))) (fun _ k => XS.iloadN X9.here hx rfl (hb hby dfo_9) rfl k) ?_
                  refine Goes.pre (S' := (T9.setTop (mkF m 11 #[.val (.int c0), .val (.ref b), .val (.int (8 : Int32)), .val (.int (8 : Int32)), .val (.ref x_DOUBLE)] [(.int (8 : Int32)), (.int (8 : Int32))]))) (fun _ k => XS.iloadN X9.here hx rfl (hb hby dfo_10) rfl k) ?_
                  refine Goes.pre (S' := (T9.setTop (mkF m 37 #[.val (.int c0), .val (.ref b), .val (.int (8 : Int32)), .val (.int (8 : Int32)), .val (.ref x_DOUBLE)] []))) (fun _ k => XS.icmpYes X9.here hx rfl (pc0 := 11) (pc' := 37) rfl (hb hby dfo_11) rfl (XT.ii_ge_t (by decide)) (by decide) (by decide) k) ?_
                  refine Goes.pre (S' := (T9.setTop (mkF m 38 #[.val (.int c0), .val (.ref b), .val (.int (8 : Int32)), .val (.int (8 : Int32)), .val (.ref x_DOUBLE)] [.null]))) (fun _ k => XS.aconstNull X9.here hx rfl (hb hby dfo_37) k) ?_
                  have hsel : own_sel c0 x_BOOLEAN x_BYTE x_CHAR x_SHORT x_INT x_LONG x_FLOAT x_DOUBLE = .null := by simp [own_sel, n_0, n_1, n_2, n_3, n_4, n_5, n_6, n_7]
                  exact Goes.ret X9 hx hlk (t := (.object "com/example/quarry/quarry/descriptor/PrimitiveType")) Bd.returns rfl (Or.inr (Or.inr (Or.inr (Or.inr ⟨rfl, rfl, rfl⟩)))) (hb hby dfo_38) ⟨by rw [hsel], N0, e9⟩ (by first | decide | exact Nat.le_of_ble_eq_true rfl | assumption | (simp [Value.category]; done)) (by first | decide | exact Nat.le_of_ble_eq_true rfl | assumption | (simp [Value.category]; done))
theorem dex_0 : decode method_4_code 0 = .ok (.iload_n 0, 1) := by decide +kernel
theorem dex_1 : decode method_4_code 1 = .ok (.bipush 90, 2) := by decide +kernel
theorem dex_3 : decode method_4_code 3 = .ok (.if_icmp .ne 7, 3) := by decide +kernel
theorem dex_6 : decode method_4_code 6 = .ok (.getstatic 22, 3) := by decide +kernel
theorem dex_9 : decode method_4_code 9 = .ok (.areturn, 1) := by decide +kernel
theorem dex_10 : decode method_4_code 10 = .ok (.iload_n 0, 1) := by decide +kernel
theorem dex_11 : decode method_4_code 11 = .ok (.bipush 66, 2) := by decide +kernel
theorem dex_13 : decode method_4_code 13 = .ok (.if_icmp .ne 7, 3) := by decide +kernel
theorem dex_16 : decode method_4_code 16 = .ok (.getstatic 26, 3) := by decide +kernel
theorem dex_19 : decode method_4_code 19 = .ok (.areturn, 1) := by decide +kernel
theorem dex_20 : decode method_4_code 20 = .ok (.iload_n 0, 1) := by decide +kernel
theorem dex_21 : decode method_4_code 21 = .ok (.bipush 67, 2) := by decide +kernel
theorem dex_23 : decode method_4_code 23 = .ok (.if_icmp .ne 7, 3) := by decide +kernel
theorem dex_26 : decode method_4_code 26 = .ok (.getstatic 29, 3) := by decide +kernel
theorem dex_29 : decode method_4_code 29 = .ok (.areturn, 1) := by decide +kernel
theorem dex_30 : decode method_4_code 30 = .ok (.iload_n 0, 1) := by decide +kernel
theorem dex_31 : decode method_4_code 31 = .ok (.bipush 83, 2) := by decide +kernel
theorem dex_33 : decode method_4_code 33 = .ok (.if_icmp .ne 7, 3) := by decide +kernel
theorem dex_36 : decode method_4_code 36 = .ok (.getstatic 32, 3) := by decide +kernel
theorem dex_39 : decode method_4_code 39 = .ok (.areturn, 1) := by decide +kernel
theorem dex_40 : decode method_4_code 40 = .ok (.iload_n 0, 1) := by decide +kernel
theorem dex_41 : decode method_4_code 41 = .ok (.bipush 73, 2) := by decide +kernel
theorem dex_43 : decode method_4_code 43 = .ok (.if_icmp .ne 7, 3) := by decide +kernel
theorem dex_46 : decode method_4_code 46 = .ok (.getstatic 35, 3) := by decide +kernel
theorem dex_49 : decode method_4_code 49 = .ok (.areturn, 1) := by decide +kernel
theorem dex_50 : decode method_4_code 50 = .ok (.iload_n 0, 1) := by decide +kernel
theorem dex_51 : decode method_4_code 51 = .ok (.bipush 74, 2) := by decide +kernel
theorem dex_53 : decode method_4_code 53 = .ok (.if_icmp .ne 7, 3) := by decide +kernel
theorem dex_56 : decode method_4_code 56 = .ok (.getstatic 38, 3) := by decide +kernel
theorem dex_59 : decode method_4_code 59 = .ok (.areturn, 1) := by decide +kernel
theorem dex_60 : decode method_4_code 60 = .ok (.iload_n 0, 1) := by decide +kernel
theorem dex_61 : decode method_4_code 61 = .ok (.bipush 70, 2) := by decide +kernel
theorem dex_63 : decode method_4_code 63 = .ok (.if_icmp .ne 7, 3) := by decide +kernel
theorem dex_66 : decode method_4_code 66 = .ok (.getstatic 41, 3) := by decide +kernel
theorem dex_69 : decode method_4_code 69 = .ok (.areturn, 1) := by decide +kernel
theorem dex_70 : decode method_4_code 70 = .ok (.iload_n 0, 1) := by decide +kernel
theorem dex_71 : decode method_4_code 71 = .ok (.bipush 68, 2) := by decide +kernel
theorem dex_73 : decode method_4_code 73 = .ok (.if_icmp .ne 7, 3) := by decide +kernel
theorem dex_76 : decode method_4_code 76 = .ok (.getstatic 44, 3) := by decide +kernel
theorem dex_79 : decode method_4_code 79 = .ok (.areturn, 1) := by decide +kernel
theorem dex_80 : decode method_4_code 80 = .ok (.aconst_null, 1) := by decide +kernel
theorem dex_81 : decode method_4_code 81 = .ok (.areturn, 1) := by decide +kernel
theorem pd_ex : parseMethodDescriptor "(C)Lcom/example/quarry/quarry/descriptor/PrimitiveType;" = some ⟨[.char], some (.object "com/example/quarry/quarry/descriptor/PrimitiveType")⟩ := by decide +kernel
theorem pn_ex : plainName "com/example/quarry/quarry/descriptor/PrimitiveTypeForDescriptorPinLaw" = true := by first | (simp [plainName, overriddenIn]; done) | decide +kernel
def Q_ex (c : Int32) (x_BOOLEAN x_BYTE x_CHAR x_SHORT x_INT x_LONG x_FLOAT x_DOUBLE : Addr) (h0 : Heap) (n0 : Nat) (v : Option Value) (h : Heap) (L : List Loc) : Prop := v = some (own_sel c x_BOOLEAN x_BYTE x_CHAR x_SHORT x_INT x_LONG x_FLOAT x_DOUBLE) ∧ Fr n0 L ∧ h = h0
theorem ef_ex (m : MethodId) (c0 : Int32) : entryFrame m #[(.int c0)] 1 = mkF m 0 #[.val (.int c0)] [] := by first | (simp [entryFrame, mkF, argsToLocals, Value.category]; done) | rfl
set_option maxRecDepth 65536 in
set_option maxHeartbeats 40000000 in
theorem rm_ex (l : Launch) (Z : State) (a0 : Array Value) (hw : ∀ d ∈ tables_1, d.before a0 Z = true) (ws : List Jvm.Cond) (c0 : Int32) (b : Addr) (kc : ClassId) (x_BOOLEAN x_BYTE x_CHAR x_SHORT x_INT x_LONG x_FLOAT x_DOUBLE : Addr) (h0 : Heap) (n0 : Nat) (Z0 : n0 ≤ h0.size) (SA : Sta Z h0 "com/example/quarry/quarry/descriptor/PrimitiveType" "ALL" "[Lcom/example/quarry/quarry/descriptor/PrimitiveType;" (.ref b)) (V : Arv Z h0 b kc (.object "com/example/quarry/quarry/descriptor/PrimitiveType") 8 [(.ref x_BOOLEAN), (.ref x_BYTE), (.ref x_CHAR), (.ref x_SHORT), (.ref x_INT), (.ref x_LONG), (.ref x_FLOAT), (.ref x_DOUBLE)] .null) (H_BOOLEAN : own_En Z h0 "BOOLEAN" x_BOOLEAN (90 : Int32)) (H_BYTE : own_En Z h0 "BYTE" x_BYTE (66 : Int32)) (H_CHAR : own_En Z h0 "CHAR" x_CHAR (67 : Int32)) (H_SHORT : own_En Z h0 "SHORT" x_SHORT (83 : Int32)) (H_INT : own_En Z h0 "INT" x_INT (73 : Int32)) (H_LONG : own_En Z h0 "LONG" x_LONG (74 : Int32)) (H_FLOAT : own_En Z h0 "FLOAT" x_FLOAT (70 : Int32)) (H_DOUBLE : own_En Z h0 "DOUBLE" x_DOUBLE (68 : Int32)) :
    Ctr l Z (⟨"com/example/quarry/quarry/descriptor/PrimitiveTypeForDescriptorPinLaw", "expected", "(C)Lcom/example/quarry/quarry/descriptor/PrimitiveType;"⟩ : MethodName) method_4_code 1 (some (.object "com/example/quarry/quarry/descriptor/PrimitiveType")) ws ({ frames := 0, cells := 0, slots := 0, locals := 0 } : Room) #[(.int c0)] h0 (Q_ex c0 x_BOOLEAN x_BYTE x_CHAR x_SHORT x_INT x_LONG x_FLOAT x_DOUBLE h0 n0) := by
  refine MetFree.of_bodySF (plainFor_of_name pn_ex) hisR ?_
  intro p e s m args below meth c s₁ Bd hml0 hP hK
  obtain ⟨rfl, hZ, hh⟩ := hP
  have hx := Bd.exec
  have hby := Bd.bytes
  have hlk : meth.locks = false := Bd.notSynchronized
  have hml : c.maxLocals = 1 := hml0
  have hown : s.vm.findClass "com/example/quarry/quarry/descriptor/PrimitiveTypeForDescriptorPinLaw" = some m.cls := findClass_of_methodNamed Bd.named
  have hnm := (name_of_methodNamed Bd.named Bd.method).1
  have X0 : Stand p l e ({ frames := 0, cells := 0, slots := 0, locals := 0 } : Room) s m #[(.int c0)] below meth c s₁ [] 0 0 := Stand.of_body Bd
  have e0 : s₁.heap = h0 := by rw [← hh, Bd.state]; rfl
  have N0 := Fr.nil n0
  show Goes p e below (EndQ s (Q_ex c0 x_BOOLEAN x_BYTE x_CHAR x_SHORT x_INT x_LONG x_FLOAT x_DOUBLE h0 n0) ({ frames := 0, cells := 0, slots := 0, locals := 0 } : Room).cells ({ frames := 0, cells := 0, slots := 0, locals := 0 } : Room).slots) (s₁.setTop (entryFrame m #[(.int c0)] 1))
  refine Goes.pre (S' := (s₁.setTop (mkF m 0 #[.val (.int c0)] []))) (fun t k => castTop (ef_ex m c0) k) ?_
  refine Goes.pre (S' := (s₁.setTop (mkF m 1 #[.val (.int c0)] [(.int c0)]))) (fun _ k => XS.iloadN X0.here hx rfl (hb hby dex_0) rfl k) ?_
  refine Goes.pre (S' := (s₁.setTop (mkF m 3 #[.val (.int c0)] [(.int (90 : Int32)), (.int c0)]))) (fun _ k => XS.bipush X0.here hx rfl (hb hby dex_1) k) ?_
  by_cases c_0 : c0 = (90 : Int32)
  · skip
    refine Goes.pre (S' := (s₁.setTop (mkF m 6 #[.val (.int c0)] []))) (fun _ k => XS.icmpNo X0.here hx rfl (hb hby dex_3) rfl (XT.ii_ne_f c_0) k) ?_
    obtain ⟨T1, X1, e1, st1⟩ := getS (host := "") X0 hx hZ hown (hw _ (List.mem_of_getElem? (i := 18) rfl)) Via.refl e0 H_BOOLEAN.1 (g := (mkF m 6 #[.val (.int c0)] [])) rfl (hb hby dex_6)
    refine Goes.pre (S' := (T1.setTop (mkF m 9 #[.val (.int c0)] [(.ref x_BOOLEAN)]))) st1 ?_
    have hit := c_0
    have hsel : own_sel c0 x_BOOLEAN x_BYTE x_CHAR x_SHORT x_INT x_LONG x_FLOAT x_DOUBLE = .ref x_BOOLEAN := by simp [own_sel, hit]
    exact Goes.ret X1 hx hlk (t := (.object "com/example/quarry/quarry/descriptor/PrimitiveType")) Bd.returns rfl (Or.inr (Or.inr (Or.inr (Or.inr ⟨rfl, rfl, rfl⟩)))) (hb hby dex_9) ⟨by rw [hsel], N0, e1⟩ (by first | decide | exact Nat.le_of_ble_eq_true rfl | assumption | (simp [Value.category]; done)) (by first | decide | exact Nat.le_of_ble_eq_true rfl | assumption | (simp [Value.category]; done))
  · skip
    refine Goes.pre (S' := (s₁.setTop (mkF m 10 #[.val (.int c0)] []))) (fun _ k => XS.icmpYes X0.here hx rfl (pc0 := 3) (pc' := 10) rfl (hb hby dex_3) rfl (XT.ii_ne_t c_0) (by decide) (by decide) k) ?_
    refine Goes.pre (S' := (s₁.setTop (mkF m 11 #[.val (.int c0)] [(.int c0)]))) (fun _ k => XS.iloadN X0.here hx rfl (hb hby dex_10) rfl k) ?_
    refine Goes.pre (S' := (s₁.setTop (mkF m 13 #[.val (.int c0)] [(.int (66 : Int32)), (.int c0)]))) (fun _ k => XS.bipush X0.here hx rfl (hb hby dex_11) k) ?_
    by_cases c_1 : c0 = (66 : Int32)
    · skip
      refine Goes.pre (S' := (s₁.setTop (mkF m 16 #[.val (.int c0)] []))) (fun _ k => XS.icmpNo X0.here hx rfl (hb hby dex_13) rfl (XT.ii_ne_f c_1) k) ?_
      obtain ⟨T2, X2, e2, st2⟩ := getS (host := "") X0 hx hZ hown (hw _ (List.mem_of_getElem? (i := 17) rfl)) Via.refl e0 H_BYTE.1 (g := (mkF m 16 #[.val (.int c0)] [])) rfl (hb hby dex_16)
      refine Goes.pre (S' := (T2.setTop (mkF m 19 #[.val (.int c0)] [(.ref x_BYTE)]))) st2 ?_
      have hit := c_1
      have hsel : own_sel c0 x_BOOLEAN x_BYTE x_CHAR x_SHORT x_INT x_LONG x_FLOAT x_DOUBLE = .ref x_BYTE := by simp [own_sel, hit]
      exact Goes.ret X2 hx hlk (t := (.object "com/example/quarry/quarry/descriptor/PrimitiveType")) Bd.returns rfl (Or.inr (Or.inr (Or.inr (Or.inr ⟨rfl, rfl, rfl⟩)))) (hb hby dex_19) ⟨by rw [hsel], N0, e2⟩ (by first | decide | exact Nat.le_of_ble_eq_true rfl | assumption | (simp [Value.category]; done)) (by first | decide | exact Nat.le_of_ble_eq_true rfl | assumption | (simp [Value.category]; done))
    · skip
      refine Goes.pre (S' := (s₁.setTop (mkF m 20 #[.val (.int c0)] []))) (fun _ k => XS.icmpYes X0.here hx rfl (pc0 := 13) (pc' := 20) rfl (hb hby dex_13) rfl (XT.ii_ne_t c_1) (by decide) (by decide) k) ?_
      refine Goes.pre (S' := (s₁.setTop (mkF m 21 #[.val (.int c0)] [(.int c0)]))) (fun _ k => XS.iloadN X0.here hx rfl (hb hby dex_20) rfl k) ?_
      refine Goes.pre (S' := (s₁.setTop (mkF m 23 #[.val (.int c0)] [(.int (67 : Int32)), (.int c0)]))) (fun _ k => XS.bipush X0.here hx rfl (hb hby dex_21) k) ?_
      by_cases c_2 : c0 = (67 : Int32)
      · skip
        refine Goes.pre (S' := (s₁.setTop (mkF m 26 #[.val (.int c0)] []))) (fun _ k => XS.icmpNo X0.here hx rfl (hb hby dex_23) rfl (XT.ii_ne_f c_2) k) ?_
        obtain ⟨T3, X3, e3, st3⟩ := getS (host := "") X0 hx hZ hown (hw _ (List.mem_of_getElem? (i := 27) rfl)) Via.refl e0 H_CHAR.1 (g := (mkF m 26 #[.val (.int c0)] [])) rfl (hb hby dex_26)
        refine Goes.pre (S' := (T3.setTop (mkF m 29 #[.val (.int c0)] [(.ref x_CHAR)]))) st3 ?_
        have hit := c_2
        have hsel : own_sel c0 x_BOOLEAN x_BYTE x_CHAR x_SHORT x_INT x_LONG x_FLOAT x_DOUBLE = .ref x_CHAR := by simp [own_sel, hit]
        exact Goes.ret X3 hx hlk (t := (.object "com/example/quarry/quarry/descriptor/PrimitiveType")) Bd.returns rfl (Or.inr (Or.inr (Or.inr (Or.inr ⟨rfl, rfl, rfl⟩)))) (hb hby dex_29) ⟨by rw [hsel], N0, e3⟩ (by first | decide | exact Nat.le_of_ble_eq_true rfl | assumption | (simp [Value.category]; done)) (by first | decide | exact Nat.le_of_ble_eq_true rfl | assumption | (simp [Value.category]; done))
      · skip
        refine Goes.pre (S' := (s₁.setTop (mkF m 30 #[.val (.int c0)] []))) (fun _ k => XS.icmpYes X0.here hx rfl (pc0 := 23) (pc' := 30) rfl (hb hby dex_23) rfl (XT.ii_ne_t c_2) (by decide) (by decide) k) ?_
        refine Goes.pre (S' := (s₁.setTop (mkF m 31 #[.val (.int c0)] [(.int c0)]))) (fun _ k => XS.iloadN X0.here hx rfl (hb hby dex_30) rfl k) ?_
        refine Goes.pre (S' := (s₁.setTop (mkF m 33 #[.val (.int c0)] [(.int (83 : Int32)), (.int c0)]))) (fun _ k => XS.bipush X0.here hx rfl (hb hby dex_31) k) ?_
        by_cases c_3 : c0 = (83 : Int32)
        · skip
          refine Goes.pre (S' := (s₁.setTop (mkF m 36 #[.val (.int c0)] []))) (fun _ k => XS.icmpNo X0.here hx rfl (hb hby dex_33) rfl (XT.ii_ne_f c_3) k) ?_
          obtain ⟨T4, X4, e4, st4⟩ := getS (host := "") X0 hx hZ hown (hw _ (List.mem_of_getElem? (i := 28) rfl)) Via.refl e0 H_SHORT.1 (g := (mkF m 36 #[.val (.int c0)] [])) rfl (hb hby dex_36)
          refine Goes.pre (S' := (T4.setTop (mkF m 39 #[.val (.int c0)] [(.ref x_SHORT)]))) st4 ?_
          have hit := c_3
          have hsel : own_sel c0 x_BOOLEAN x_BYTE x_CHAR x_SHORT x_INT x_LONG x_FLOAT x_DOUBLE = .ref x_SHORT := by simp [own_sel, hit]
          exact Goes.ret X4 hx hlk (t := (.object "com/example/quarry/quarry/descriptor/PrimitiveType")) Bd.returns rfl (Or.inr (Or.inr (Or.inr (Or.inr ⟨rfl, rfl, rfl⟩)))) (hb hby dex_39) ⟨by rw [hsel], N0, e4⟩ (by first | decide | exact Nat.le_of_ble_eq_true rfl | assumption | (simp [Value.category]; done)) (by first | decide | exact Nat.le_of_ble_eq_true rfl | assumption | (simp [Value.category]; done))
        · skip
          refine Goes.pre (S' := (s₁.setTop (mkF m 40 #[.val (.int c0)] []))) (fun _ k => XS.icmpYes X0.here hx rfl (pc0 := 33) (pc' := 40) rfl (hb hby dex_33) rfl (XT.ii_ne_t c_3) (by decide) (by decide) k) ?_
          refine Goes.pre (S' := (s₁.setTop (mkF m 41 #[.val (.int c0)] [(.int c0)]))) (fun _ k => XS.iloadN X0.here hx rfl (hb hby dex_40) rfl k) ?_
          refine Goes.pre (S' := (s₁.setTop (mkF m 43 #[.val (.int c0)] [(.int (73 : Int32)), (.int c0)]))) (fun _ k => XS.bipush X0.here hx rfl (hb hby dex_41) k) ?_
          by_cases c_4 : c0 = (73 : Int32)
          · skip
            refine Goes.pre (S' := (s₁.setTop (mkF m 46 #[.val (.int c0)] []))) (fun _ k => XS.icmpNo X0.here hx rfl (hb hby dex_43) rfl (XT.ii_ne_f c_4) k) ?_
            obtain ⟨T5, X5, e5, st5⟩ := getS (host := "") X0 hx hZ hown (hw _ (List.mem_of_getElem? (i := 29) rfl)) Via.refl e0 H_INT.1 (g := (mkF m 46 #[.val (.int c0)] [])) rfl (hb hby dex_46)
            refine Goes.pre (S' := (T5.setTop (mkF m 49 #[.val (.int c0)] [(.ref x_INT)]))) st5 ?_
            have hit := c_4
            have hsel : own_sel c0 x_BOOLEAN x_BYTE x_CHAR x_SHORT x_INT x_LONG x_FLOAT x_DOUBLE = .ref x_INT := by simp [own_sel, hit]
            exact Goes.ret X5 hx hlk (t := (.object "com/example/quarry/quarry/descriptor/PrimitiveType")) Bd.returns rfl (Or.inr (Or.inr (Or.inr (Or.inr ⟨rfl, rfl, rfl⟩)))) (hb hby dex_49) ⟨by rw [hsel], N0, e5⟩ (by first | decide | exact Nat.le_of_ble_eq_true rfl | assumption | (simp [Value.category]; done)) (by first | decide | exact Nat.le_of_ble_eq_true rfl | assumption | (simp [Value.category]; done))
          · skip
            refine Goes.pre (S' := (s₁.setTop (mkF m 50 #[.val (.int c0)] []))) (fun _ k => XS.icmpYes X0.here hx rfl (pc0 := 43) (pc' := 50) rfl (hb hby dex_43) rfl (XT.ii_ne_t c_4) (by decide) (by decide) k) ?_
            refine Goes.pre (S' := (s₁.setTop (mkF m 51 #[.val (.int c0)] [(.int c0)]))) (fun _ k => XS.iloadN X0.here hx rfl (hb hby dex_50) rfl k) ?_
            refine Goes.pre (S' := (s₁.setTop (mkF m 53 #[.val (.int c0)] [(.int (74 : Int32)), (.int c0)]))) (fun _ k => XS.bipush X0.here hx rfl (hb hby dex_51) k) ?_
            by_cases c_5 : c0 = (74 : Int32)
            · skip
              refine Goes.pre (S' := (s₁.setTop (mkF m 56 #[.val (.int c0)] []))) (fun _ k => XS.icmpNo X0.here hx rfl (hb hby dex_53) rfl (XT.ii_ne_f c_5) k) ?_
              obtain ⟨T6, X6, e6, st6⟩ := getS (host := "") X0 hx hZ hown (hw _ (List.mem_of_getElem? (i := 30) rfl)) Via.refl e0 H_LONG.1 (g := (mkF m 56 #[.val (.int c0)] [])) rfl (hb hby dex_56)
              refine Goes.pre (S' := (T6.setTop (mkF m 59 #[.val (.int c0)] [(.ref x_LONG)]))) st6 ?_
              have hit := c_5
              have hsel : own_sel c0 x_BOOLEAN x_BYTE x_CHAR x_SHORT x_INT x_LONG x_FLOAT x_DOUBLE = .ref x_LONG := by simp [own_sel, hit]
              exact Goes.ret X6 hx hlk (t := (.object "com/example/quarry/quarry/descriptor/PrimitiveType")) Bd.returns rfl (Or.inr (Or.inr (Or.inr (Or.inr ⟨rfl, rfl, rfl⟩)))) (hb hby dex_59) ⟨by rw [hsel], N0, e6⟩ (by first | decide | exact Nat.le_of_ble_eq_true rfl | assumption | (simp [Value.category]; done)) (by first | decide | exact Nat.le_of_ble_eq_true rfl | assumption | (simp [Value.category]; done))
            · skip
              refine Goes.pre (S' := (s₁.setTop (mkF m 60 #[.val (.int c0)] []))) (fun _ k => XS.icmpYes X0.here hx rfl (pc0 := 53) (pc' := 60) rfl (hb hby dex_53) rfl (XT.ii_ne_t c_5) (by decide) (by decide) k) ?_
              refine Goes.pre (S' := (s₁.setTop (mkF m 61 #[.val (.int c0)] [(.int c0)]))) (fun _ k => XS.iloadN X0.here hx rfl (hb hby dex_60) rfl k) ?_
              refine Goes.pre (S' := (s₁.setTop (mkF m 63 #[.val (.int c0)] [(.int (70 : Int32)), (.int c0)]))) (fun _ k => XS.bipush X0.here hx rfl (hb hby dex_61) k) ?_
              by_cases c_6 : c0 = (70 : Int32)
              · skip
                refine Goes.pre (S' := (s₁.setTop (mkF m 66 #[.val (.int c0)] []))) (fun _ k => XS.icmpNo X0.here hx rfl (hb hby dex_63) rfl (XT.ii_ne_f c_6) k) ?_
                obtain ⟨T7, X7, e7, st7⟩ := getS (host := "") X0 hx hZ hown (hw _ (List.mem_of_getElem? (i := 25) rfl)) Via.refl e0 H_FLOAT.1 (g := (mkF m 66 #[.val (.int c0)] [])) rfl (hb hby dex_66)
                refine Goes.pre (S' := (T7.setTop (mkF m 69 #[.val (.int c0)] [(.ref x_FLOAT)]))) st7 ?_
                have hit := c_6
                have hsel : own_sel c0 x_BOOLEAN x_BYTE x_CHAR x_SHORT x_INT x_LONG x_FLOAT x_DOUBLE = .ref x_FLOAT := by simp [own_sel, hit]
                exact Goes.ret X7 hx hlk (t := (.object "com/example/quarry/quarry/descriptor/PrimitiveType")) Bd.returns rfl (Or.inr (Or.inr (Or.inr (Or.inr ⟨rfl, rfl, rfl⟩)))) (hb hby dex_69) ⟨by rw [hsel], N0, e7⟩ (by first | decide | exact Nat.le_of_ble_eq_true rfl | assumption | (simp [Value.category]; done)) (by first | decide | exact Nat.le_of_ble_eq_true rfl | assumption | (simp [Value.category]; done))
              · skip
                refine Goes.pre (S' := (s₁.setTop (mkF m 70 #[.val (.int c0)] []))) (fun _ k => XS.icmpYes X0.here hx rfl (pc0 := 63) (pc' := 70) rfl (hb hby dex_63) rfl (XT.ii_ne_t c_6) (by decide) (by decide) k) ?_
                refine Goes.pre (S' := (s₁.setTop (mkF m 71 #[.val (.int c0)] [(.int c0)]))) (fun _ k => XS.iloadN X0.here hx rfl (hb hby dex_70) rfl k) ?_
                refine Goes.pre (S' := (s₁.setTop (mkF m 73 #[.val (.int c0)] [(.int (68 : Int32)), (.int c0)]))) (fun _ k => XS.bipush X0.here hx rfl (hb hby dex_71) k) ?_
                by_cases c_7 : c0 = (68 : Int32)
                · skip
                  refine Goes.pre (S' := (s₁.setTop (mkF m 76 #[.val (.int c0)] []))) (fun _ k => XS.icmpNo X0.here hx rfl (hb hby dex_73) rfl (XT.ii_ne_f c_7) k) ?_
                  obtain ⟨T8, X8, e8, st8⟩ := getS (host := "") X0 hx hZ hown (hw _ (List.mem_of_getElem? (i := 26) rfl)) Via.refl e0 H_DOUBLE.1 (g := (mkF m 76 #[.val (.int c0)] [])) rfl (hb hby dex_76)
                  refine Goes.pre (S' := (T8.setTop (mkF m 79 #[.val (.int c0)] [(.ref x_DOUBLE)]))) st8 ?_
                  have hit := c_7
                  have hsel : own_sel c0 x_BOOLEAN x_BYTE x_CHAR x_SHORT x_INT x_LONG x_FLOAT x_DOUBLE = .ref x_DOUBLE := by simp [own_sel, hit]
                  exact Goes.ret X8 hx hlk (t := (.object "com/example/quarry/quarry/descriptor/PrimitiveType")) Bd.returns rfl (Or.inr (Or.inr (Or.inr (Or.inr ⟨rfl, rfl, rfl⟩)))) (hb hby dex_79) ⟨by rw [hsel], N0, e8⟩ (by first | decide | exact Nat.le_of_ble_eq_true rfl | assumption | (simp [Value.category]; done)) (by first | decide | exact Nat.le_of_ble_eq_true rfl | assumption | (simp [Value.category]; done))
                · skip
                  refine Goes.pre (S' := (s₁.setTop (mkF m 80 #[.val (.int c0)] []))) (fun _ k => XS.icmpYes X0.here hx rfl (pc0 := 73) (pc' := 80) rfl (hb hby dex_73) rfl (XT.ii_ne_t c_7) (by decide) (by decide) k) ?_
                  refine Goes.pre (S' := (s₁.setTop (mkF m 81 #[.val (.int c0)] [.null]))) (fun _ k => XS.aconstNull X0.here hx rfl (hb hby dex_80) k) ?_
                  have hsel : own_sel c0 x_BOOLEAN x_BYTE x_CHAR x_SHORT x_INT x_LONG x_FLOAT x_DOUBLE = .null := by simp [own_sel, c_0, c_1, c_2, c_3, c_4, c_5, c_6, c_7]
                  exact Goes.ret X0 hx hlk (t := (.object "com/example/quarry/quarry/descriptor/PrimitiveType")) Bd.returns rfl (Or.inr (Or.inr (Or.inr (Or.inr ⟨rfl, rfl, rfl⟩)))) (hb hby dex_81) ⟨by rw [hsel], N0, e0⟩ (by first | decide | exact Nat.le_of_ble_eq_true rfl | assumption | (simp [Value.category]; done)) (by first | decide | exact Nat.le_of_ble_eq_true rfl | assumption | (simp [Value.category]; done))
theorem dle_0 : decode method_3_code 0 = .ok (.iload_n 0, 1) := by decide +kernel
theorem dle_1 : decode method_3_code 1 = .ok (.ifCond .ne 6, 3) := by decide +kernel
theorem dle_4 : decode method_3_code 4 = .ok (.bipush 90, 2) := by decide +kernel
theorem dle_6 : decode method_3_code 6 = .ok (.ireturn, 1) := by decide +kernel
theorem dle_7 : decode method_3_code 7 = .ok (.iload_n 0, 1) := by decide +kernel
theorem dle_8 : decode method_3_code 8 = .ok (.iconst 1, 1) := by decide +kernel
theorem dle_9 : decode method_3_code 9 = .ok (.if_icmp .ne 6, 3) := by decide +kernel
theorem dle_12 : decode method_3_code 12 = .ok (.bipush 66, 2) := by decide +kernel
theorem dle_14 : decode method_3_code 14 = .ok (.ireturn, 1) := by decide +kernel
theorem dle_15 : decode method_3_code 15 = .ok (.iload_n 0, 1) := by decide +kernel
theorem dle_16 : decode method_3_code 16 = .ok (.iconst 2, 1) := by decide +kernel
theorem dle_17 : decode method_3_code 17 = .ok (.if_icmp .ne 6, 3) := by decide +kernel
theorem dle_20 : decode method_3_code 20 = .ok (.bipush 67, 2) := by decide +kernel
theorem dle_22 : decode method_3_code 22 = .ok (.ireturn, 1) := by decide +kernel
theorem dle_23 : decode method_3_code 23 = .ok (.iload_n 0, 1) := by decide +kernel
theorem dle_24 : decode method_3_code 24 = .ok (.iconst 3, 1) := by decide +kernel
theorem dle_25 : decode method_3_code 25 = .ok (.if_icmp .ne 6, 3) := by decide +kernel
theorem dle_28 : decode method_3_code 28 = .ok (.bipush 83, 2) := by decide +kernel
theorem dle_30 : decode method_3_code 30 = .ok (.ireturn, 1) := by decide +kernel
theorem dle_31 : decode method_3_code 31 = .ok (.iload_n 0, 1) := by decide +kernel
theorem dle_32 : decode method_3_code 32 = .ok (.iconst 4, 1) := by decide +kernel
theorem dle_33 : decode method_3_code 33 = .ok (.if_icmp .ne 6, 3) := by decide +kernel
theorem dle_36 : decode method_3_code 36 = .ok (.bipush 73, 2) := by decide +kernel
theorem dle_38 : decode method_3_code 38 = .ok (.ireturn, 1) := by decide +kernel
theorem dle_39 : decode method_3_code 39 = .ok (.iload_n 0, 1) := by decide +kernel
theorem dle_40 : decode method_3_code 40 = .ok (.iconst 5, 1) := by decide +kernel
theorem dle_41 : decode method_3_code 41 = .ok (.if_icmp .ne 6, 3) := by decide +kernel
theorem dle_44 : decode method_3_code 44 = .ok (.bipush 74, 2) := by decide +kernel
theorem dle_46 : decode method_3_code 46 = .ok (.ireturn, 1) := by decide +kernel
theorem dle_47 : decode method_3_code 47 = .ok (.iload_n 0, 1) := by decide +kernel
theorem dle_48 : decode method_3_code 48 = .ok (.bipush 6, 2) := by decide +kernel
theorem dle_50 : decode method_3_code 50 = .ok (.if_icmp .ne 6, 3) := by decide +kernel
theorem dle_53 : decode method_3_code 53 = .ok (.bipush 70, 2) := by decide +kernel
theorem dle_55 : decode method_3_code 55 = .ok (.ireturn, 1) := by decide +kernel
theorem dle_56 : decode method_3_code 56 = .ok (.bipush 68, 2) := by decide +kernel
theorem dle_58 : decode method_3_code 58 = .ok (.ireturn, 1) := by decide +kernel
theorem pd_le : parseMethodDescriptor "(I)C" = some ⟨[.int], some .char⟩ := by decide +kernel
theorem pn_le : plainName "com/example/quarry/quarry/descriptor/PrimitiveTypeForDescriptorPinLaw" = true := by first | (simp [plainName, overriddenIn]; done) | decide +kernel
def Q_le (h0 : Heap) (n0 : Nat) (v : Option Value) (h : Heap) (L : List Loc) : Prop := (∃ z : Int32, v = some (.int z)) ∧ Fr n0 L ∧ h = h0
theorem ef_le (m : MethodId) (c0 : Int32) : entryFrame m #[(.int c0)] 1 = mkF m 0 #[.val (.int c0)] [] := by first | (simp [entryFrame, mkF, argsToLocals, Value.category]; done) | rfl
set_option maxRecDepth 65536 in
set_option maxHeartbeats 40000000 in
theorem rm_le (l : Launch) (Z : State) (a0 : Array Value) (hw : ∀ d ∈ tables_1, d.before a0 Z = true) (ws : List Jvm.Cond) (c0 : Int32)  (h0 : Heap) (n0 : Nat) (Z0 : n0 ≤ h0.size)  :
    Ctr l Z (⟨"com/example/quarry/quarry/descriptor/PrimitiveTypeForDescriptorPinLaw", "letter", "(I)C"⟩ : MethodName) method_3_code 1 (some .char) ws ({ frames := 0, cells := 0, slots := 0, locals := 0 } : Room) #[(.int c0)] h0 (Q_le h0 n0) := by
  refine MetFree.of_bodySF (plainFor_of_name pn_le) hisR ?_
  intro p e s m args below meth c s₁ Bd hml0 hP hK
  obtain ⟨rfl, hZ, hh⟩ := hP
  have hx := Bd.exec
  have hby := Bd.bytes
  have hlk : meth.locks = false := Bd.notSynchronized
  have hml : c.maxLocals = 1 := hml0
  have hown : s.vm.findClass "com/example/quarry/quarry/descriptor/PrimitiveTypeForDescriptorPinLaw" = some m.cls := findClass_of_methodNamed Bd.named
  have hnm := (name_of_methodNamed Bd.named Bd.method).1
  have X0 : Stand p l e ({ frames := 0, cells := 0, slots := 0, locals := 0 } : Room) s m #[(.int c0)] below meth c s₁ [] 0 0 := Stand.of_body Bd
  have e0 : s₁.heap = h0 := by rw [← hh, Bd.state]; rfl
  have N0 := Fr.nil n0
  show Goes p e below (EndQ s (Q_le h0 n0) ({ frames := 0, cells := 0, slots := 0, locals := 0 } : Room).cells ({ frames := 0, cells := 0, slots := 0, locals := 0 } : Room).slots) (s₁.setTop (entryFrame m #[(.int c0)] 1))
  refine Goes.pre (S' := (s₁.setTop (mkF m 0 #[.val (.int c0)] []))) (fun t k => castTop (ef_le m c0) k) ?_
  refine Goes.pre (S' := (s₁.setTop (mkF m 1 #[.val (.int c0)] [(.int c0)]))) (fun _ k => XS.iloadN X0.here hx rfl (hb hby dle_0) rfl k) ?_
  by_cases c_1 : c0 = 0
  · skip
    refine Goes.pre (S' := (s₁.setTop (mkF m 4 #[.val (.int c0)] []))) (fun _ k => XS.ifNo X0.here hx rfl (hb hby dle_1) rfl (XT.i0_ne_f c_1) k) ?_
    refine Goes.pre (S' := (s₁.setTop (mkF m 6 #[.val (.int c0)] [(.int (90 : Int32))]))) (fun _ k => XS.bipush X0.here hx rfl (hb hby dle_4) k) ?_
    exact Goes.retN X0 hx hlk (t := .char) Bd.returns (by simp) (hb hby dle_6) ⟨⟨_, rfl⟩, N0, e0⟩ (by first | decide | exact Nat.le_of_ble_eq_true rfl | assumption | (simp [Value.category]; done)) (by first | decide | exact Nat.le_of_ble_eq_true rfl | assumption | (simp [Value.category]; done))
  · skip
    refine Goes.pre (S' := (s₁.setTop (mkF m 7 #[.val (.int c0)] []))) (fun _ k => XS.ifYes X0.here hx rfl (pc0 := 1) (pc' := 7) rfl (hb hby dle_1) rfl (XT.i0_ne_t c_1) (by decide) (by decide) k) ?_
    refine Goes.pre (S' := (s₁.setTop (mkF m 8 #[.val (.int c0)] [(.int c0)]))) (fun _ k => XS.iloadN X0.here hx rfl (hb hby dle_7) rfl k) ?_
    refine Goes.pre (S' := (s₁.setTop (mkF m 9 #[.val (.int c0)] [(.int (1 : Int32)), (.int c0)]))) (fun _ k => XS.iconst X0.here hx rfl (hb hby dle_8) k) ?_
    by_cases c_9 : c0 = (1 : Int32)
    · skip
      refine Goes.pre (S' := (s₁.setTop (mkF m 12 #[.val (.int c0)] []))) (fun _ k => XS.icmpNo X0.here hx rfl (hb hby dle_9) rfl (XT.ii_ne_f c_9) k) ?_
      refine Goes.pre (S' := (s₁.setTop (mkF m 14 #[.val (.int c0)] [(.int (66 : Int32))]))) (fun _ k => XS.bipush X0.here hx rfl (hb hby dle_12) k) ?_
      exact Goes.retN X0 hx hlk (t := .char) Bd.returns (by simp) (hb hby dle_14) ⟨⟨_, rfl⟩, N0, e0⟩ (by first | decide | exact Nat.le_of_ble_eq_true rfl | assumption | (simp [Value.category]; done)) (by first | decide | exact Nat.le_of_ble_eq_true rfl | assumption | (simp [Value.category]; done))
    · skip
      refine Goes.pre (S' := (s₁.setTop (mkF m 15 #[.val (.int c0)] []))) (fun _ k => XS.icmpYes X0.here hx rfl (pc0 := 9) (pc' := 15) rfl (hb hby dle_9) rfl (XT.ii_ne_t c_9) (by decide) (by decide) k) ?_
      refine Goes.pre (S' := (s₁.setTop (mkF m 16 #[.val (.int c0)] [(.int c0)]))) (fun _ k => XS.iloadN X0.here hx rfl (hb hby dle_15) rfl k) ?_
      refine Goes.pre (S' := (s₁.setTop (mkF m 17 #[.val (.int c0)] [(.int (2 : Int32)), (.int c0)]))) (fun _ k => XS.iconst X0.here hx rfl (hb hby dle_16) k) ?_
      by_cases c_17 : c0 = (2 : Int32)
      · skip
        refine Goes.pre (S' := (s₁.setTop (mkF m 20 #[.val (.int c0)] []))) (fun _ k => XS.icmpNo X0.here hx rfl (hb hby dle_17) rfl (XT.ii_ne_f c_17) k) ?_
        refine Goes.pre (S' := (s₁.setTop (mkF m 22 #[.val (.int c0)] [(.int (67 : Int32))]))) (fun _ k => XS.bipush X0.here hx rfl (hb hby dle_20) k) ?_
        exact Goes.retN X0 hx hlk (t := .char) Bd.returns (by simp) (hb hby dle_22) ⟨⟨_, rfl⟩, N0, e0⟩ (by first | decide | exact Nat.le_of_ble_eq_true rfl | assumption | (simp [Value.category]; done)) (by first | decide | exact Nat.le_of_ble_eq_true rfl | assumption | (simp [Value.category]; done))
      · skip
        refine Goes.pre (S' := (s₁.setTop (mkF m 23 #[.val (.int c0)] []))) (fun _ k => XS.icmpYes X0.here hx rfl (pc0 := 17) (pc' := 23) rfl (hb hby dle_17) rfl (XT.ii_ne_t c_17) (by decide) (by decide) k) ?_
        refine Goes.pre (S' := (s₁.setTop (mkF m 24 #[.val (.int c0)] [(.int c0)]))) (fun _ k => XS.iloadN X0.here hx rfl (hb hby dle_23) rfl k) ?_
        refine Goes.pre (S' := (s₁.setTop (mkF m 25 #[.val (.int c0)] [(.int (3 : Int32)), (.int c0)]))) (fun _ k => XS.iconst X0.here hx rfl (hb hby dle_24) k) ?_
        by_cases c_25 : c0 = (3 : Int32)
        · skip
          refine Goes.pre (S' := (s₁.setTop (mkF m 28 #[.val (.int c0)] []))) (fun _ k => XS.icmpNo X0.here hx rfl (hb hby dle_25) rfl (XT.ii_ne_f c_25) k) ?_
          refine Goes.pre (S' := (s₁.setTop (mkF m 30 #[.val (.int c0)] [(.int (83 : Int32))]))) (fun _ k => XS.bipush X0.here hx rfl (hb hby dle_28) k) ?_
          exact Goes.retN X0 hx hlk (t := .char) Bd.returns (by simp) (hb hby dle_30) ⟨⟨_, rfl⟩, N0, e0⟩ (by first | decide | exact Nat.le_of_ble_eq_true rfl | assumption | (simp [Value.category]; done)) (by first | decide | exact Nat.le_of_ble_eq_true rfl | assumption | (simp [Value.category]; done))
        · skip
          refine Goes.pre (S' := (s₁.setTop (mkF m 31 #[.val (.int c0)] []))) (fun _ k => XS.icmpYes X0.here hx rfl (pc0 := 25) (pc' := 31) rfl (hb hby dle_25) rfl (XT.ii_ne_t c_25) (by decide) (by decide) k) ?_
          refine Goes.pre (S' := (s₁.setTop (mkF m 32 #[.val (.int c0)] [(.int c0)]))) (fun _ k => XS.iloadN X0.here hx rfl (hb hby dle_31) rfl k) ?_
          refine Goes.pre (S' := (s₁.setTop (mkF m 33 #[.val (.int c0)] [(.int (4 : Int32)), (.int c0)]))) (fun _ k => XS.iconst X0.here hx rfl (hb hby dle_32) k) ?_
          by_cases c_33 : c0 = (4 : Int32)
          · skip
            refine Goes.pre (S' := (s₁.setTop (mkF m 36 #[.val (.int c0)] []))) (fun _ k => XS.icmpNo X0.here hx rfl (hb hby dle_33) rfl (XT.ii_ne_f c_33) k) ?_
            refine Goes.pre (S' := (s₁.setTop (mkF m 38 #[.val (.int c0)] [(.int (73 : Int32))]))) (fun _ k => XS.bipush X0.here hx rfl (hb hby dle_36) k) ?_
            exact Goes.retN X0 hx hlk (t := .char) Bd.returns (by simp) (hb hby dle_38) ⟨⟨_, rfl⟩, N0, e0⟩ (by first | decide | exact Nat.le_of_ble_eq_true rfl | assumption | (simp [Value.category]; done)) (by first | decide | exact Nat.le_of_ble_eq_true rfl | assumption | (simp [Value.category]; done))
          · skip
            refine Goes.pre (S' := (s₁.setTop (mkF m 39 #[.val (.int c0)] []))) (fun _ k => XS.icmpYes X0.here hx rfl (pc0 := 33) (pc' := 39) rfl (hb hby dle_33) rfl (XT.ii_ne_t c_33) (by decide) (by decide) k) ?_
            refine Goes.pre (S' := (s₁.setTop (mkF m 40 #[.val (.int c0)] [(.int c0)]))) (fun _ k => XS.iloadN X0.here hx rfl (hb hby dle_39) rfl k) ?_
            refine Goes.pre (S' := (s₁.setTop (mkF m 41 #[.val (.int c0)] [(.int (5 : Int32)), (.int c0)]))) (fun _ k => XS.iconst X0.here hx rfl (hb hby dle_40) k) ?_
            by_cases c_41 : c0 = (5 : Int32)
            · skip
              refine Goes.pre (S' := (s₁.setTop (mkF m 44 #[.val (.int c0)] []))) (fun _ k => XS.icmpNo X0.here hx rfl (hb hby dle_41) rfl (XT.ii_ne_f c_41) k) ?_
              refine Goes.pre (S' := (s₁.setTop (mkF m 46 #[.val (.int c0)] [(.int (74 : Int32))]))) (fun _ k => XS.bipush X0.here hx rfl (hb hby dle_44) k) ?_
              exact Goes.retN X0 hx hlk (t := .char) Bd.returns (by simp) (hb hby dle_46) ⟨⟨_, rfl⟩, N0, e0⟩ (by first | decide | exact Nat.le_of_ble_eq_true rfl | assumption | (simp [Value.category]; done)) (by first | decide | exact Nat.le_of_ble_eq_true rfl | assumption | (simp [Value.category]; done))
            · skip
              refine Goes.pre (S' := (s₁.setTop (mkF m 47 #[.val (.int c0)] []))) (fun _ k => XS.icmpYes X0.here hx rfl (pc0 := 41) (pc' := 47) rfl (hb hby dle_41) rfl (XT.ii_ne_t c_41) (by decide) (by decide) k) ?_
              refine Goes.pre (S' := (s₁.setTop (mkF m 48 #[.val (.int c0)] [(.int c0)]))) (fun _ k => XS.iloadN X0.here hx rfl (hb hby dle_47) rfl k) ?_
              refine Goes.pre (S' := (s₁.setTop (mkF m 50 #[.val (.int c0)] [(.int (6 : Int32)), (.int c0)]))) (fun _ k => XS.bipush X0.here hx rfl (hb hby dle_48) k) ?_
              by_cases c_50 : c0 = (6 : Int32)
              · skip
                refine Goes.pre (S' := (s₁.setTop (mkF m 53 #[.val (.int c0)] []))) (fun _ k => XS.icmpNo X0.here hx rfl (hb hby dle_50) rfl (XT.ii_ne_f c_50) k) ?_
                refine Goes.pre (S' := (s₁.setTop (mkF m 55 #[.val (.int c0)] [(.int (70 : Int32))]))) (fun _ k => XS.bipush X0.here hx rfl (hb hby dle_53) k) ?_
                exact Goes.retN X0 hx hlk (t := .char) Bd.returns (by simp) (hb hby dle_55) ⟨⟨_, rfl⟩, N0, e0⟩ (by first | decide | exact Nat.le_of_ble_eq_true rfl | assumption | (simp [Value.category]; done)) (by first | decide | exact Nat.le_of_ble_eq_true rfl | assumption | (simp [Value.category]; done))
              · skip
                refine Goes.pre (S' := (s₁.setTop (mkF m 56 #[.val (.int c0)] []))) (fun _ k => XS.icmpYes X0.here hx rfl (pc0 := 50) (pc' := 56) rfl (hb hby dle_50) rfl (XT.ii_ne_t c_50) (by decide) (by decide) k) ?_
                refine Goes.pre (S' := (s₁.setTop (mkF m 58 #[.val (.int c0)] [(.int (68 : Int32))]))) (fun _ k => XS.bipush X0.here hx rfl (hb hby dle_56) k) ?_
                exact Goes.retN X0 hx hlk (t := .char) Bd.returns (by simp) (hb hby dle_58) ⟨⟨_, rfl⟩, N0, e0⟩ (by first | decide | exact Nat.le_of_ble_eq_true rfl | assumption | (simp [Value.category]; done)) (by first | decide | exact Nat.le_of_ble_eq_true rfl | assumption | (simp [Value.category]; done))
theorem pn_law : plainName "com/example/quarry/quarry/descriptor/PrimitiveTypeForDescriptorPinLaw" = true := by first | (simp [plainName, overriddenIn]; done) | decide +kernel
def Q_law (h0 : Heap) (n0 : Nat) (v : Option Value) (h : Heap) (L : List Loc) : Prop := v = some (.int 1) ∧ Fr n0 L
theorem ef_law (m : MethodId) (i0 : Int32) (i1 : Int32) : entryFrame m #[(.int i0), (.int i1)] maxLocals = mkF m 0 #[.val (.int i0), .val (.int i1), .unset, .unset] [] := by first | (simp [entryFrame, mkF, argsToLocals, Value.category, maxLocals]; done) | rfl
set_option maxRecDepth 65536 in
set_option maxHeartbeats 40000000 in
theorem rm_law (l : Launch) (Z : State) (a0 : Array Value) (hw : ∀ d ∈ tables_1, d.before a0 Z = true) (ws : List Jvm.Cond) (i0 : Int32) (i1 : Int32) (b : Addr) (kc : ClassId) (x_BOOLEAN x_BYTE x_CHAR x_SHORT x_INT x_LONG x_FLOAT x_DOUBLE : Addr) (h0 : Heap) (n0 : Nat) (Z0 : n0 ≤ h0.size) (SA : Sta Z h0 "com/example/quarry/quarry/descriptor/PrimitiveType" "ALL" "[Lcom/example/quarry/quarry/descriptor/PrimitiveType;" (.ref b)) (V : Arv Z h0 b kc (.object "com/example/quarry/quarry/descriptor/PrimitiveType") 8 [(.ref x_BOOLEAN), (.ref x_BYTE), (.ref x_CHAR), (.ref x_SHORT), (.ref x_INT), (.ref x_LONG), (.ref x_FLOAT), (.ref x_DOUBLE)] .null) (H_BOOLEAN : own_En Z h0 "BOOLEAN" x_BOOLEAN (90 : Int32)) (H_BYTE : own_En Z h0 "BYTE" x_BYTE (66 : Int32)) (H_CHAR : own_En Z h0 "CHAR" x_CHAR (67 : Int32)) (H_SHORT : own_En Z h0 "SHORT" x_SHORT (83 : Int32)) (H_INT : own_En Z h0 "INT" x_INT (73 : Int32)) (H_LONG : own_En Z h0 "LONG" x_LONG (74 : Int32)) (H_FLOAT : own_En Z h0 "FLOAT" x_FLOAT (70 : Int32)) (H_DOUBLE : own_En Z h0 "DOUBLE" x_DOUBLE (68 : Int32)) :
    Ctr l Z x code maxLocals ret ws room_1 #[(.int i0), (.int i1)] h0 (Q_law h0 n0) := by
  refine MetFree.of_bodySF (plainFor_of_name pn_law) hisR ?_
  intro p e s m args below meth c s₁ Bd hml0 hP hK
  obtain ⟨rfl, hZ, hh⟩ := hP
  have hx := Bd.exec
  have hby := Bd.bytes
  have hlk : meth.locks = false := Bd.notSynchronized
  have hml : c.maxLocals = 4 := hml0
  have hown : s.vm.findClass "com/example/quarry/quarry/descriptor/PrimitiveTypeForDescriptorPinLaw" = some m.cls := findClass_of_methodNamed Bd.named
  have hnm := (name_of_methodNamed Bd.named Bd.method).1
  have X0 : Stand p l e room_1 s m #[(.int i0), (.int i1)] below meth c s₁ [] 0 0 := Stand.of_body Bd
  have e0 : s₁.heap = h0 := by rw [← hh, Bd.state]; rfl
  have N0 := Fr.nil n0
  show Goes p e below (EndQ s (Q_law h0 n0) room_1.cells room_1.slots) (s₁.setTop (entryFrame m #[(.int i0), (.int i1)] maxLocals))
  refine Goes.pre (S' := (s₁.setTop (mkF m 0 #[.val (.int i0), .val (.int i1), .unset, .unset] []))) (fun t k => castTop (ef_law m i0 i1) k) ?_
  have tail : ∀ (z : Int32) (TT : State) (LL : List Loc), Stand p l e room_1 s m #[(.int i0), (.int i1)] below meth c TT LL 0 0 → TT.heap = h0 → Fr n0 LL → Goes p e below (EndQ s (Q_law h0 n0) room_1.cells room_1.slots) (TT.setTop (mkF m 22 #[.val (.int i0), .val (.int i1), .val (.int z), .unset] [])) := by
    intro z TT LL XX eX NX
    refine Goes.pre (S' := (TT.setTop (mkF m 23 #[.val (.int i0), .val (.int i1), .val (.int z), .unset] [(.int z)]))) (fun _ k => XS.iloadN XX.here hx rfl (hb hby at_22) rfl k) ?_
    refine Goes.callS (y := (⟨"com/example/quarry/quarry/descriptor/PrimitiveType", "forDescriptor", "(C)Lcom/example/quarry/quarry/descriptor/PrimitiveType;"⟩ : MethodName)) XX hx hZ hown (hw _ (List.mem_of_getElem? (i := 4) rfl)) (hw _ (List.mem_of_getElem? (i := 5) rfl)) (hw _ (List.mem_of_getElem? (i := 6) rfl)) (hw _ (List.mem_of_getElem? (i := 7) rfl)) (by decide) eX (rm_fo l Z a0 hw [] z b kc x_BOOLEAN x_BYTE x_CHAR x_SHORT x_INT x_LONG x_FLOAT x_DOUBLE h0 n0 Z0 SA V H_BOOLEAN H_BYTE H_CHAR H_SHORT H_INT H_LONG H_FLOAT H_DOUBLE) (by rw [hml]; rfl) [(.int z)] [] pd_fo rfl rfl rfl (hb hby at_23) (by decide) (by first | decide | exact Nat.le_of_ble_eq_true rfl | assumption | (simp [Value.category]; done)) (by first | decide | exact Nat.le_of_ble_eq_true rfl | assumption | (simp [Value.category]; done)) (by first | decide | exact Nat.le_of_ble_eq_true rfl | assumption | (simp [Value.category]; done)) ?_
    intro T1 v1 L1 X1 q1
    obtain ⟨qv1, N1a, e1⟩ := q1
    have N1 := Fr.app NX N1a
    rcases ref_cases (own_selR z x_BOOLEAN x_BYTE x_CHAR x_SHORT x_INT x_LONG x_FLOAT x_DOUBLE) with hW | ⟨r, hW⟩ <;> rw [hW] at qv1 <;> subst qv1
    · skip
      show Goes p e below _ (T1.setTop (mkF m 26 #[.val (.int i0), .val (.int i1), .val (.int z), .unset] [.null]))
      refine Goes.pre (S' := (T1.setTop (mkF m 27 #[.val (.int i0), .val (.int i1), .val (.int z), .val .null] []))) (fun _ k => XS.astoreN X1.here hx rfl (hb hby at_26) rfl rfl (l' := #[.val (.int i0), .val (.int i1), .val (.int z), .val .null]) rfl k) ?_
      refine Goes.pre (S' := (T1.setTop (mkF m 28 #[.val (.int i0), .val (.int i1), .val (.int z), .val .null] [.null]))) (fun _ k => XS.aloadN X1.here hx rfl (hb hby at_27) rfl rfl k) ?_
      refine Goes.pre (S' := (T1.setTop (mkF m 29 #[.val (.int i0), .val (.int i1), .val (.int z), .val .null] [(.int z), .null]))) (fun _ k => XS.iloadN X1.here hx rfl (hb hby at_28) rfl k) ?_
      refine Goes.callS (y := (⟨"com/example/quarry/quarry/descriptor/PrimitiveTypeForDescriptorPinLaw", "expected", "(C)Lcom/example/quarry/quarry/descriptor/PrimitiveType;"⟩ : MethodName)) X1 hx hZ hown (hw _ (List.mem_of_getElem? (i := 14) rfl)) (hw _ (List.mem_of_getElem? (i := 15) rfl)) (hw _ (List.mem_of_getElem? (i := 2) rfl)) (hw _ (List.mem_of_getElem? (i := 16) rfl)) (by decide) e1 (rm_ex l Z a0 hw [] z b kc x_BOOLEAN x_BYTE x_CHAR x_SHORT x_INT x_LONG x_FLOAT x_DOUBLE h0 n0 Z0 SA V H_BOOLEAN H_BYTE H_CHAR H_SHORT H_INT H_LONG H_FLOAT H_DOUBLE) (by rw [hml]; rfl) [(.int z)] [.null] pd_ex rfl rfl rfl (hb hby at_29) (by decide) (by first | decide | exact Nat.le_of_ble_eq_true rfl | assumption | (simp [Value.category]; done)) (by first | decide | exact Nat.le_of_ble_eq_true rfl | assumption | (simp [Value.category]; done)) (by first | decide | exact Nat.le_of_ble_eq_true rfl | assumption | (simp [Value.category]; done)) ?_
      intro T2 v2 L2 X2 q2
      obtain ⟨qv2, N2a, e2⟩ := q2
      have N2 := Fr.app N1 N2a
      rw [hW] at qv2
      subst qv2
      show Goes p e below _ (T2.setTop (mkF m 32 #[.val (.int i0), .val (.int i1), .val (.int z), .val .null] [.null, .null]))
      refine Goes.pre (S' := (T2.setTop (mkF m 35 #[.val (.int i0), .val (.int i1), .val (.int z), .val .null] []))) (fun _ k => XT.acmpNo X2.here hx rfl (hb hby at_32) rfl rfl rfl (XT.aa_ne_f rfl) k) ?_
      refine Goes.pre (S' := (T2.setTop (mkF m 36 #[.val (.int i0), .val (.int i1), .val (.int z), .val .null] [(.int (1 : Int32))]))) (fun _ k => XS.iconst X2.here hx rfl (hb hby at_35) k) ?_
      refine Goes.pre (S' := (T2.setTop (mkF m 40 #[.val (.int i0), .val (.int i1), .val (.int z), .val .null] [(.int (1 : Int32))]))) (fun _ k => XS.goto X2.here hx rfl (pc0 := 36) (pc' := 40) rfl (hb hby at_36) (by decide) (by decide) k) ?_
      exact Goes.retN X2 hx hlk (t := .boolean) Bd.returns (by simp) (hb hby at_40) ⟨rfl, N2⟩ (by first | decide | exact Nat.le_of_ble_eq_true rfl | assumption | (simp [Value.category]; done)) (by first | decide | exact Nat.le_of_ble_eq_true rfl | assumption | (simp [Value.category]; done))
    · skip
      show Goes p e below _ (T1.setTop (mkF m 26 #[.val (.int i0), .val (.int i1), .val (.int z), .unset] [(.ref r)]))
      refine Goes.pre (S' := (T1.setTop (mkF m 27 #[.val (.int i0), .val (.int i1), .val (.int z), .val (.ref r)] []))) (fun _ k => XS.astoreN X1.here hx rfl (hb hby at_26) rfl rfl (l' := #[.val (.int i0), .val (.int i1), .val (.int z), .val (.ref r)]) rfl k) ?_
      refine Goes.pre (S' := (T1.setTop (mkF m 28 #[.val (.int i0), .val (.int i1), .val (.int z), .val (.ref r)] [(.ref r)]))) (fun _ k => XS.aloadN X1.here hx rfl (hb hby at_27) rfl rfl k) ?_
      refine Goes.pre (S' := (T1.setTop (mkF m 29 #[.val (.int i0), .val (.int i1), .val (.int z), .val (.ref r)] [(.int z), (.ref r)]))) (fun _ k => XS.iloadN X1.here hx rfl (hb hby at_28) rfl k) ?_
      refine Goes.callS (y := (⟨"com/example/quarry/quarry/descriptor/PrimitiveTypeForDescriptorPinLaw", "expected", "(C)Lcom/example/quarry/quarry/descriptor/PrimitiveType;"⟩ : MethodName)) X1 hx hZ hown (hw _ (List.mem_of_getElem? (i := 14) rfl)) (hw _ (List.mem_of_getElem? (i := 15) rfl)) (hw _ (List.mem_of_getElem? (i := 2) rfl)) (hw _ (List.mem_of_getElem? (i := 16) rfl)) (by decide) e1 (rm_ex l Z a0 hw [] z b kc x_BOOLEAN x_BYTE x_CHAR x_SHORT x_INT x_LONG x_FLOAT x_DOUBLE h0 n0 Z0 SA V H_BOOLEAN H_BYTE H_CHAR H_SHORT H_INT H_LONG H_FLOAT H_DOUBLE) (by rw [hml]; rfl) [(.int z)] [(.ref r)] pd_ex rfl rfl rfl (hb hby at_29) (by decide) (by first | decide | exact Nat.le_of_ble_eq_true rfl | assumption | (simp [Value.category]; done)) (by first | decide | exact Nat.le_of_ble_eq_true rfl | assumption | (simp [Value.category]; done)) (by first | decide | exact Nat.le_of_ble_eq_true rfl | assumption | (simp [Value.category]; done)) ?_
      intro T3 v3 L3 X3 q3
      obtain ⟨qv3, N3a, e3⟩ := q3
      have N3 := Fr.app N1 N3a
      rw [hW] at qv3
      subst qv3
      show Goes p e below _ (T3.setTop (mkF m 32 #[.val (.int i0), .val (.int i1), .val (.int z), .val (.ref r)] [(.ref r), (.ref r)]))
      refine Goes.pre (S' := (T3.setTop (mkF m 35 #[.val (.int i0), .val (.int i1), .val (.int z), .val (.ref r)] []))) (fun _ k => XT.acmpNo X3.here hx rfl (hb hby at_32) rfl rfl rfl (XT.aa_ne_f (congrArg Value.ref rfl)) k) ?_
      refine Goes.pre (S' := (T3.setTop (mkF m 36 #[.val (.int i0), .val (.int i1), .val (.int z), .val (.ref r)] [(.int (1 : Int32))]))) (fun _ k => XS.iconst X3.here hx rfl (hb hby at_35) k) ?_
      refine Goes.pre (S' := (T3.setTop (mkF m 40 #[.val (.int i0), .val (.int i1), .val (.int z), .val (.ref r)] [(.int (1 : Int32))]))) (fun _ k => XS.goto X3.here hx rfl (pc0 := 36) (pc' := 40) rfl (hb hby at_36) (by decide) (by decide) k) ?_
      exact Goes.retN X3 hx hlk (t := .boolean) Bd.returns (by simp) (hb hby at_40) ⟨rfl, N3⟩ (by first | decide | exact Nat.le_of_ble_eq_true rfl | assumption | (simp [Value.category]; done)) (by first | decide | exact Nat.le_of_ble_eq_true rfl | assumption | (simp [Value.category]; done))
  refine Goes.pre (S' := (s₁.setTop (mkF m 1 #[.val (.int i0), .val (.int i1), .unset, .unset] [(.int i1)]))) (fun _ k => XS.iloadN X0.here hx rfl (hb hby at_0) rfl k) ?_
  refine Goes.pre (S' := (s₁.setTop (mkF m 2 #[.val (.int i0), .val (.int i1), .unset, .unset] [(.int (1 : Int32)), (.int i1)]))) (fun _ k => XS.iconst X0.here hx rfl (hb hby at_1) k) ?_
  refine Goes.pre (S' := (s₁.setTop (mkF m 3 #[.val (.int i0), .val (.int i1), .unset, .unset] [(.int (i1 &&& (1 : Int32)))]))) (fun _ k => XS.iand X0.here hx rfl (hb hby at_2) rfl k) ?_
  by_cases c3 : (i1 &&& (1 : Int32)) = 0
  · skip
    refine Goes.pre (S' := (s₁.setTop (mkF m 19 #[.val (.int i0), .val (.int i1), .unset, .unset] []))) (fun _ k => XS.ifYes X0.here hx rfl (pc0 := 3) (pc' := 19) rfl (hb hby at_3) rfl (XT.i0_eq_t c3) (by decide) (by decide) k) ?_
    refine Goes.pre (S' := (s₁.setTop (mkF m 20 #[.val (.int i0), .val (.int i1), .unset, .unset] [(.int i0)]))) (fun _ k => XS.iloadN X0.here hx rfl (hb hby at_19) rfl k) ?_
    refine Goes.pre (S' := (s₁.setTop (mkF m 21 #[.val (.int i0), .val (.int i1), .unset, .unset] [(.int (i0).toUInt32.toUInt16.toUInt32.toInt32)]))) (fun _ k => XT.i2c X0.here hx rfl (hb hby at_20) rfl k) ?_
    refine Goes.pre (S' := (s₁.setTop (mkF m 22 #[.val (.int i0), .val (.int i1), .val (.int (i0).toUInt32.toUInt16.toUInt32.toInt32), .unset] []))) (fun _ k => XS.istoreN X0.here hx rfl (hb hby at_21) rfl (l' := #[.val (.int i0), .val (.int i1), .val (.int (i0).toUInt32.toUInt16.toUInt32.toInt32), .unset]) rfl k) ?_
    exact tail _ s₁ _ X0 e0 N0
  · skip
    refine Goes.pre (S' := (s₁.setTop (mkF m 6 #[.val (.int i0), .val (.int i1), .unset, .unset] []))) (fun _ k => XS.ifNo X0.here hx rfl (hb hby at_3) rfl (XT.i0_eq_f c3) k) ?_
    refine Goes.pre (S' := (s₁.setTop (mkF m 7 #[.val (.int i0), .val (.int i1), .unset, .unset] [(.int i1)]))) (fun _ k => XS.iloadN X0.here hx rfl (hb hby at_6) rfl k) ?_
    refine Goes.pre (S' := (s₁.setTop (mkF m 8 #[.val (.int i0), .val (.int i1), .unset, .unset] [(.int (1 : Int32)), (.int i1)]))) (fun _ k => XS.iconst X0.here hx rfl (hb hby at_7) k) ?_
    refine Goes.pre (S' := (s₁.setTop (mkF m 9 #[.val (.int i0), .val (.int i1), .unset, .unset] [(.int (XT.ushr i1 (1 : Int32)))]))) (fun _ k => XT.iushr X0.here hx rfl (hb hby at_8) rfl k) ?_
    refine Goes.pre (S' := (s₁.setTop (mkF m 11 #[.val (.int i0), .val (.int i1), .unset, .unset] [(.int (7 : Int32)), (.int (XT.ushr i1 (1 : Int32)))]))) (fun _ k => XS.bipush X0.here hx rfl (hb hby at_9) k) ?_
    refine Goes.pre (S' := (s₁.setTop (mkF m 12 #[.val (.int i0), .val (.int i1), .unset, .unset] [(.int ((XT.ushr i1 (1 : Int32)) &&& (7 : Int32)))]))) (fun _ k => XS.iand X0.here hx rfl (hb hby at_11) rfl k) ?_
    refine Goes.callS (y := (⟨"com/example/quarry/quarry/descriptor/PrimitiveTypeForDescriptorPinLaw", "letter", "(I)C"⟩ : MethodName)) X0 hx hZ hown (hw _ (List.mem_of_getElem? (i := 0) rfl)) (hw _ (List.mem_of_getElem? (i := 1) rfl)) (hw _ (List.mem_of_getElem? (i := 2) rfl)) (hw _ (List.mem_of_getElem? (i := 3) rfl)) (by decide) e0 (rm_le l Z a0 hw [] ((XT.ushr i1 (1 : Int32)) &&& (7 : Int32)) h0 n0 Z0) (by rw [hml]; rfl) [(.int ((XT.ushr i1 (1 : Int32)) &&& (7 : Int32)))] [] pd_le rfl rfl rfl (hb hby at_12) (by decide) (by first | decide | exact Nat.le_of_ble_eq_true rfl | assumption | (simp [Value.category]; done)) (by first | decide | exact Nat.le_of_ble_eq_true rfl | assumption | (simp [Value.category]; done)) (by first | decide | exact Nat.le_of_ble_eq_true rfl | assumption | (simp [Value.category]; done)) ?_
    intro T4 v4 L4 X4 q4
    obtain ⟨⟨y, rfl⟩, N4a, e4⟩ := q4
    have N4 := Fr.app N0 N4a
    show Goes p e below _ (T4.setTop (mkF m 15 #[.val (.int i0), .val (.int i1), .unset, .unset] [(.int y)]))
    refine Goes.pre (S' := (T4.setTop (mkF m 16 #[.val (.int i0), .val (.int i1), .val (.int y), .unset] []))) (fun _ k => XS.istoreN X4.here hx rfl (hb hby at_15) rfl (l' := #[.val (.int i0), .val (.int i1), .val (.int y), .unset]) rfl k) ?_
    refine Goes.pre (S' := (T4.setTop (mkF m 22 #[.val (.int i0), .val (.int i1), .val (.int y), .unset] []))) (fun _ k => XS.goto X4.here hx rfl (pc0 := 16) (pc' := 22) rfl (hb hby at_16) (by decide) (by decide) k) ?_
    exact tail _ T4 _ X4 e4 N4
set_option maxRecDepth 65536 in
set_option maxHeartbeats 40000000 in
theorem comes_1 {Post : Tables → Env → Array Value → State → Outcome → State → Prop} (hpost : ∀ tb e args s v u, (limb_1_1.after args s (.returned v) u = true ∧ limb_1_2.after args s (.returned v) u = true ∧ True) → FrameEnd s (.returned v) u (Jvm.fieldLocs frame_1_writes args s ++ Jvm.arrayLocs frame_1_arrays args s ++ Jvm.staticLocs frame_1_statics s) 0 0 → Post tb e args s (.returned v) u) :
    ArmFor flags0 classFile x code maxLocals ret World_1 tables_1 room_1 Calls_1 rest_1 Pre_1 Post := by
  intro l hfl _ _ p e ha hc hk s m args below hf hA hF happ hP
  obtain ⟨hcalls, hrest, hpre⟩ := hP
  obtain ⟨-, -, -, hnamed, -, -, -, hat⟩ := (Spec.applies_iff hf).mp happ
  obtain ⟨hg, hn⟩ := and_e (Cond.before_iff.mp (show (Jvm.Cond.and given_1 narrow_1).before args s = true from hpre))
  obtain ⟨gc, gr0⟩ := and_e hg
  obtain ⟨ga0, gr1⟩ := and_e gr0
  obtain ⟨w0, w1, rfl⟩ : ∃ w0 w1 : Value, args = #[w0, w1] := by
    have hs : args.size = 2 := by simpa [Cond.value, given_1] using gc
    obtain ⟨L⟩ := args
    match L, hs with
    | [w0, w1], _ => exact ⟨w0, w1, rfl⟩
  have hw := fun d (hd : d ∈ tables_1) => atoms_spec (ws := Jvm.Cond.code x code maxLocals ret :: tables_1) hat d (List.mem_cons_of_mem _ hd)
  have hfit : Fit s := fun {y c} hc i hi => by
    obtain ⟨ha, rfl⟩ := Array.getElem?_eq_some_iff.mp hc
    have q := List.all_eq_true.mp ((Array.all_eq_true_iff_forall_mem.mp hF) _ (Array.getElem_mem ha)) i (List.mem_range.mpr hi)
    simpa [Array.getElem?_eq_getElem hi] using q
  obtain ⟨i0, ei0⟩ := is_v ga0
  obtain rfl : w0 = (.int i0) := Option.some.inj ei0
  obtain ⟨i1, ei1⟩ := is_v gr1
  obtain rfl : w1 = (.int i1) := Option.some.inj ei1
  obtain ⟨nw0, nwr0⟩ := and_e hn
  obtain ⟨nw1, nwr1⟩ := and_e nwr0
  obtain ⟨nw2, nwr2⟩ := and_e nwr1
  obtain ⟨nw3, nwr3⟩ := and_e nwr2
  obtain ⟨nw4, nwr4⟩ := and_e nwr3
  obtain ⟨nw5, nwr5⟩ := and_e nwr4
  obtain ⟨nw6, nwr6⟩ := and_e nwr5
  obtain ⟨nw7, nwr7⟩ := and_e nwr6
  obtain ⟨nw8, nwr8⟩ := and_e nwr7
  obtain ⟨nw9, nwr9⟩ := and_e nwr8
  obtain ⟨nw10, nwr10⟩ := and_e nwr9
  obtain ⟨nw11, nwr11⟩ := and_e nwr10
  obtain ⟨nw12, nwr12⟩ := and_e nwr11
  obtain ⟨nw13, nwr13⟩ := and_e nwr12
  obtain ⟨nw14, nwr14⟩ := and_e nwr13
  obtain ⟨nw15, nwr15⟩ := and_e nwr14
  obtain ⟨nw16, nwr16⟩ := and_e nwr15
  obtain ⟨nw17, nwr17⟩ := and_e nwr16
  obtain ⟨nw18, nwr18⟩ := and_e nwr17
  obtain ⟨nw19, nwr19⟩ := and_e nwr18
  obtain ⟨nw20, nwr20⟩ := and_e nwr19
  obtain ⟨nw21, nwr21⟩ := and_e nwr20
  obtain ⟨nw22, nwr22⟩ := and_e nwr21
  obtain ⟨nw23, nwr23⟩ := and_e nwr22
  obtain ⟨nw24, nwr24⟩ := and_e nwr23
  have nw25 := nwr24
  obtain ⟨x_BOOLEAN, ev_BOOLEAN⟩ := exa_v nw2
  have Ex_BOOLEAN := Exa.start ev_BOOLEAN nw2
  have Sta_BOOLEAN : Sta s s.heap "com/example/quarry/quarry/descriptor/PrimitiveType" "BOOLEAN" "Lcom/example/quarry/quarry/descriptor/PrimitiveType;" (.ref x_BOOLEAN) := Sta.start ev_BOOLEAN (Or.inr ⟨(hw _ (List.mem_of_getElem? (i := 6) rfl)), (hw _ (List.mem_of_getElem? (i := 10) rfl))⟩)
  obtain ⟨x_BYTE, ev_BYTE⟩ := exa_v nw5
  have Ex_BYTE := Exa.start ev_BYTE nw5
  have Sta_BYTE : Sta s s.heap "com/example/quarry/quarry/descriptor/PrimitiveType" "BYTE" "Lcom/example/quarry/quarry/descriptor/PrimitiveType;" (.ref x_BYTE) := Sta.start ev_BYTE (Or.inr ⟨(hw _ (List.mem_of_getElem? (i := 6) rfl)), (hw _ (List.mem_of_getElem? (i := 13) rfl))⟩)
  obtain ⟨x_CHAR, ev_CHAR⟩ := exa_v nw8
  have Ex_CHAR := Exa.start ev_CHAR nw8
  have Sta_CHAR : Sta s s.heap "com/example/quarry/quarry/descriptor/PrimitiveType" "CHAR" "Lcom/example/quarry/quarry/descriptor/PrimitiveType;" (.ref x_CHAR) := Sta.start ev_CHAR (Or.inr ⟨(hw _ (List.mem_of_getElem? (i := 6) rfl)), (hw _ (List.mem_of_getElem? (i := 19) rfl))⟩)
  obtain ⟨x_SHORT, ev_SHORT⟩ := exa_v nw11
  have Ex_SHORT := Exa.start ev_SHORT nw11
  have Sta_SHORT : Sta s s.heap "com/example/quarry/quarry/descriptor/PrimitiveType" "SHORT" "Lcom/example/quarry/quarry/descriptor/PrimitiveType;" (.ref x_SHORT) := Sta.start ev_SHORT (Or.inr ⟨(hw _ (List.mem_of_getElem? (i := 6) rfl)), (hw _ (List.mem_of_getElem? (i := 20) rfl))⟩)
  obtain ⟨x_INT, ev_INT⟩ := exa_v nw14
  have Ex_INT := Exa.start ev_INT nw14
  have Sta_INT : Sta s s.heap "com/example/quarry/quarry/descriptor/PrimitiveType" "INT" "Lcom/example/quarry/quarry/descriptor/PrimitiveType;" (.ref x_INT) := Sta.start ev_INT (Or.inr ⟨(hw _ (List.mem_of_getElem? (i := 6) rfl)), (hw _ (List.mem_of_getElem? (i := 21) rfl))⟩)
  obtain ⟨x_LONG, ev_LONG⟩ := exa_v nw17
  have Ex_LONG := Exa.start ev_LONG nw17
  have Sta_LONG : Sta s s.heap "com/example/quarry/quarry/descriptor/PrimitiveType" "LONG" "Lcom/example/quarry/quarry/descriptor/PrimitiveType;" (.ref x_LONG) := Sta.start ev_LONG (Or.inr ⟨(hw _ (List.mem_of_getElem? (i := 6) rfl)), (hw _ (List.mem_of_getElem? (i := 22) rfl))⟩)
  obtain ⟨x_FLOAT, ev_FLOAT⟩ := exa_v nw20
  have Ex_FLOAT := Exa.start ev_FLOAT nw20
  have Sta_FLOAT : Sta s s.heap "com/example/quarry/quarry/descriptor/PrimitiveType" "FLOAT" "Lcom/example/quarry/quarry/descriptor/PrimitiveType;" (.ref x_FLOAT) := Sta.start ev_FLOAT (Or.inr ⟨(hw _ (List.mem_of_getElem? (i := 6) rfl)), (hw _ (List.mem_of_getElem? (i := 23) rfl))⟩)
  obtain ⟨x_DOUBLE, ev_DOUBLE⟩ := exa_v nw23
  have Ex_DOUBLE := Exa.start ev_DOUBLE nw23
  have Sta_DOUBLE : Sta s s.heap "com/example/quarry/quarry/descriptor/PrimitiveType" "DOUBLE" "Lcom/example/quarry/quarry/descriptor/PrimitiveType;" (.ref x_DOUBLE) := Sta.start ev_DOUBLE (Or.inr ⟨(hw _ (List.mem_of_getElem? (i := 6) rfl)), (hw _ (List.mem_of_getElem? (i := 24) rfl))⟩)
  have F_BOOLEAN_descriptor : Fld s s.heap x_BOOLEAN "com/example/quarry/quarry/descriptor/PrimitiveType" "descriptor" "C" (.int (90 : Int32)) := Fld.start ((fld_at ev_BOOLEAN).symm.trans (eqv_i (Term.int_eval _) nw4))
  have F_BYTE_descriptor : Fld s s.heap x_BYTE "com/example/quarry/quarry/descriptor/PrimitiveType" "descriptor" "C" (.int (66 : Int32)) := Fld.start ((fld_at ev_BYTE).symm.trans (eqv_i (Term.int_eval _) nw7))
  have F_CHAR_descriptor : Fld s s.heap x_CHAR "com/example/quarry/quarry/descriptor/PrimitiveType" "descriptor" "C" (.int (67 : Int32)) := Fld.start ((fld_at ev_CHAR).symm.trans (eqv_i (Term.int_eval _) nw10))
  have F_SHORT_descriptor : Fld s s.heap x_SHORT "com/example/quarry/quarry/descriptor/PrimitiveType" "descriptor" "C" (.int (83 : Int32)) := Fld.start ((fld_at ev_SHORT).symm.trans (eqv_i (Term.int_eval _) nw13))
  have F_INT_descriptor : Fld s s.heap x_INT "com/example/quarry/quarry/descriptor/PrimitiveType" "descriptor" "C" (.int (73 : Int32)) := Fld.start ((fld_at ev_INT).symm.trans (eqv_i (Term.int_eval _) nw16))
  have F_LONG_descriptor : Fld s s.heap x_LONG "com/example/quarry/quarry/descriptor/PrimitiveType" "descriptor" "C" (.int (74 : Int32)) := Fld.start ((fld_at ev_LONG).symm.trans (eqv_i (Term.int_eval _) nw19))
  have F_FLOAT_descriptor : Fld s s.heap x_FLOAT "com/example/quarry/quarry/descriptor/PrimitiveType" "descriptor" "C" (.int (70 : Int32)) := Fld.start ((fld_at ev_FLOAT).symm.trans (eqv_i (Term.int_eval _) nw22))
  have F_DOUBLE_descriptor : Fld s s.heap x_DOUBLE "com/example/quarry/quarry/descriptor/PrimitiveType" "descriptor" "C" (.int (68 : Int32)) := Fld.start ((fld_at ev_DOUBLE).symm.trans (eqv_i (Term.int_eval _) nw25))
  obtain ⟨b, evb⟩ := arr_v nw0
  obtain ⟨cb, Ab⟩ := Arr.start evb nw0
  obtain ⟨lb1, lb2⟩ := own_len evb Ab (eqv_i (Term.int_eval _) nw1)
  have SA : Sta s s.heap "com/example/quarry/quarry/descriptor/PrimitiveType" "ALL" "[Lcom/example/quarry/quarry/descriptor/PrimitiveType;" (.ref b) := Sta.start evb (Or.inr ⟨(hw _ (List.mem_of_getElem? (i := 6) rfl)), (hw _ (List.mem_of_getElem? (i := 9) rfl))⟩)
  have el0 : cb.slots[0]? = some (.ref x_BOOLEAN) := (elem_in (own_eqvR ev_BOOLEAN nw3) evb (Term.int_eval _) Ab.1).2
  have el1 : cb.slots[1]? = some (.ref x_BYTE) := (elem_in (own_eqvR ev_BYTE nw6) evb (Term.int_eval _) Ab.1).2
  have el2 : cb.slots[2]? = some (.ref x_CHAR) := (elem_in (own_eqvR ev_CHAR nw9) evb (Term.int_eval _) Ab.1).2
  have el3 : cb.slots[3]? = some (.ref x_SHORT) := (elem_in (own_eqvR ev_SHORT nw12) evb (Term.int_eval _) Ab.1).2
  have el4 : cb.slots[4]? = some (.ref x_INT) := (elem_in (own_eqvR ev_INT nw15) evb (Term.int_eval _) Ab.1).2
  have el5 : cb.slots[5]? = some (.ref x_LONG) := (elem_in (own_eqvR ev_LONG nw18) evb (Term.int_eval _) Ab.1).2
  have el6 : cb.slots[6]? = some (.ref x_FLOAT) := (elem_in (own_eqvR ev_FLOAT nw21) evb (Term.int_eval _) Ab.1).2
  have el7 : cb.slots[7]? = some (.ref x_DOUBLE) := (elem_in (own_eqvR ev_DOUBLE nw24) evb (Term.int_eval _) Ab.1).2
  have V : Arv s s.heap b cb.cls (.object "com/example/quarry/quarry/descriptor/PrimitiveType") 8 [(.ref x_BOOLEAN), (.ref x_BYTE), (.ref x_CHAR), (.ref x_SHORT), (.ref x_INT), (.ref x_LONG), (.ref x_FLOAT), (.ref x_DOUBLE)] .null := Arv.start hfit Ab lb1 lb2 (by decide) rfl ⟨el0, el1, el2, el3, el4, el5, el6, el7, trivial⟩
  obtain ⟨n, o, h1, h2, h3, _, L, rfl, ⟨rfl, N⟩, hq⟩ := rm_law l s _ hw tables_1 i0 i1 b cb.cls x_BOOLEAN x_BYTE x_CHAR x_SHORT x_INT x_LONG x_FLOAT x_DOUBLE s.heap s.heap.size (Nat.le_refl _) SA V ⟨Sta_BOOLEAN, F_BOOLEAN_descriptor⟩ ⟨Sta_BYTE, F_BYTE_descriptor⟩ ⟨Sta_CHAR, F_CHAR_descriptor⟩ ⟨Sta_SHORT, F_SHORT_descriptor⟩ ⟨Sta_INT, F_INT_descriptor⟩ ⟨Sta_LONG, F_LONG_descriptor⟩ ⟨Sta_FLOAT, F_FLOAT_descriptor⟩ ⟨Sta_DOUBLE, F_DOUBLE_descriptor⟩ p e ha hc hk s m _ below hf ((Spec.applies_iff_loose hf).mp happ).1 ⟨rfl, State.Warmed39.refl s, rfl⟩ trivial
  refine ⟨n, _, h1, h2, h3, hpost _ _ _ _ _ _ ⟨Cond.after_iff.mpr rfl, Cond.after_iff.mpr (eq_i res_at (Term.int_eval (1)) rfl), trivial⟩ ⟨hq.1, hq.2.1, (hq.2.2.sift fun y hy => Or.inr (N y hy)).mono (by decide) (by decide)⟩⟩
theorem main_1_1 : Claimed_1_1 := comes_1 fun _ _ _ _ _ _ h hF => ⟨h.1, hF⟩
theorem main_1_2 : Claimed_1_2 := comes_1 fun _ _ _ _ _ _ h hF => ⟨h.2.1, hF⟩
end Jvm.Pilot.@@N@@
namespace Jvm.Pilot.@@N@@
open Jvm Jvm.ClassFile Sem Op Lib Jvm.Free Jvm.Stand Jvm.Pilot.@@N@@.Jvm.D
/-! MADE BY PROGRAM (witnessworld.py) out of the Statement's table words and the real class files: 15 classes; the members and pool entries that the words name. The judged class is class 1, her method 1. -/
namespace start1
open Jvm.ClassFile
def u (s : String) : CpInfo := .utf8 (stringToUtf16 s)
/-- a pool by its gaps: so many unusable entries, then the entry; so many at the end -/
def gap : Nat → List CpInfo → List CpInfo
  | 0, r => r
  | n + 1, r => .unusable :: gap n r
def poolList (es : List (Nat × CpInfo)) (last : Nat) : List CpInfo := es.foldr (fun e r => gap e.1 (e.2 :: r)) (gap last [])
def pool (es : List (Nat × CpInfo)) (last : Nat) : Array CpInfo := ⟨poolList es last⟩
def fileOf (pool : Array CpInfo) (this : Nat) (attrs : Array Attribute := #[]) (ms : Array MethodInfo := #[]) (fl : Nat := 33) (sup : Nat := 0) (ifs : Array Nat := #[]) (fds : Array FieldInfo := #[]) : ClassFile where
  minorVersion := 0
  majorVersion := 65
  constantPool := pool
  accessFlags := fl
  thisClass := this
  superClass := sup
  interfaces := ifs
  fields := fds
  methods := ms
  attributes := attrs
def plain (name : String) (sup : Option ClassId) : Class where
  name := name
  kind := .ordinary
  loader := none
  accessFlags := 33
  super := sup
  interfaces := #[]
  cf := none
  fields := #[]
  methods := #[]
  instanceTypes := #[]
  staticTypes := #[]
  resolved := #[]
  callSites := []
  init := .initialized
  statics := none
  mirror := none

def pool0 : Array CpInfo := pool [(5, u "<init>"), (0, u "()V"), (1, .class_ 10), (1, u "java/lang/Object")] 113

def k0m0 : Method := { name := "<init>", desc := "()V", sig := { parameters := [], returnType := none }, accessFlags := 1, code := none }
/-- java/lang/Object -/
def k0 : Class := { plain "java/lang/Object" none with
  accessFlags := 33
  interfaces := #[]
  cf := some (fileOf pool0 8 #[] #[{ accessFlags := 1, nameIndex := 5, descriptorIndex := 6, attributes := #[] }] 33 0 #[] #[])
  fields := #[]
  methods := #[k0m0]
  instanceTypes := #[]
  staticTypes := #[]
  resolved := Array.replicate 124 none
  statics := none }

def pool1 : Array CpInfo := pool [(2, .class_ 4), (1, u "java/lang/Object"), (0, u "<init>"), (0, u "()V"), (0, .methodref 8 9), (0, .class_ 10), (0, .nameAndType 11 12), (0, u "com/example/quarry/quarry/descriptor/PrimitiveTypeForDescriptorPinLaw"), (0, u "letter"), (0, u "(I)C"), (0, .methodref 14 15), (0, .class_ 16), (0, .nameAndType 17 18), (0, u "com/example/quarry/quarry/descriptor/PrimitiveType"), (0, u "forDescriptor"), (0, u "(C)Lcom/example/quarry/quarry/descriptor/PrimitiveType;"), (0, .methodref 8 20), (0, .nameAndType 21 18), (0, u "expected"), (0, .fieldref 14 23), (0, .nameAndType 24 25), (0, u "BOOLEAN"), (0, u "Lcom/example/quarry/quarry/descriptor/PrimitiveType;"), (0, .fieldref 14 27), (0, .nameAndType 28 25), (0, u "BYTE"), (0, .fieldref 14 30), (0, .nameAndType 31 25), (0, u "CHAR"), (0, .fieldref 14 33), (0, .nameAndType 34 25), (0, u "SHORT"), (0, .fieldref 14 36), (0, .nameAndType 37 25), (0, u "INT"), (0, .fieldref 14 39), (0, .nameAndType 40 25), (0, u "LONG"), (0, .fieldref 14 42), (0, .nameAndType 43 25), (0, u "FLOAT"), (0, .fieldref 14 45), (0, .nameAndType 46 25), (0, u "DOUBLE"), (2, u "law"), (0, u "(II)Z")] 3

def k1m0 : Method := { name := "<init>", desc := "()V", sig := { parameters := [], returnType := none }, accessFlags := 2, code := none }
def k1c1 : Code := { maxStack := 2, maxLocals := 4, code := code, exceptionTable := #[], attributes := #[] }
def k1m1 : Method := { name := "law", desc := "(II)Z", sig := { parameters := [.int, .int], returnType := some .boolean }, accessFlags := 9, code := some k1c1 }
def k1c2 : Code := { maxStack := 2, maxLocals := 1, code := method_3_code, exceptionTable := #[], attributes := #[] }
def k1m2 : Method := { name := "letter", desc := "(I)C", sig := { parameters := [.int], returnType := some .char }, accessFlags := 10, code := some k1c2 }
def k1c3 : Code := { maxStack := 2, maxLocals := 1, code := method_4_code, exceptionTable := #[], attributes := #[] }
def k1m3 : Method := { name := "expected", desc := "(C)Lcom/example/quarry/quarry/descriptor/PrimitiveType;", sig := { parameters := [.char], returnType := some (.object "com/example/quarry/quarry/descriptor/PrimitiveType") }, accessFlags := 10, code := some k1c3 }
/-- com/example/quarry/quarry/descriptor/PrimitiveTypeForDescriptorPinLaw -/
def k1 : Class := { plain "com/example/quarry/quarry/descriptor/PrimitiveTypeForDescriptorPinLaw" (some 0) with
  accessFlags := 49
  interfaces := #[]
  cf := some (fileOf pool1 8 #[] #[{ accessFlags := 2, nameIndex := 5, descriptorIndex := 6, attributes := #[] }, { accessFlags := 9, nameIndex := 49, descriptorIndex := 50, attributes := #[] }, { accessFlags := 10, nameIndex := 11, descriptorIndex := 12, attributes := #[] }, { accessFlags := 10, nameIndex := 21, descriptorIndex := 18, attributes := #[] }] 49 2 #[] #[])
  fields := #[]
  methods := #[k1m0, k1m1, k1m2, k1m3]
  instanceTypes := #[]
  staticTypes := #[]
  resolved := Array.replicate 54 none
  statics := none }

def pool2 : Array CpInfo := pool [(1, .class_ 2), (0, u "java/lang/constant/Constable"), (0, .class_ 4), (0, u "java/lang/Object")] 6

/-- java/lang/constant/Constable -/
def k2 : Class := { plain "java/lang/constant/Constable" (some 0) with
  accessFlags := 1537
  interfaces := #[]
  cf := some (fileOf pool2 1 #[] #[] 1537 3 #[] #[])
  fields := #[]
  methods := #[]
  instanceTypes := #[]
  staticTypes := #[]
  resolved := Array.replicate 11 none
  statics := none }

def pool3 : Array CpInfo := pool [(1, .class_ 2), (0, u "java/lang/Comparable"), (0, .class_ 4), (0, u "java/lang/Object")] 7

/-- java/lang/Comparable -/
def k3 : Class := { plain "java/lang/Comparable" (some 0) with
  accessFlags := 1537
  interfaces := #[]
  cf := some (fileOf pool3 1 #[] #[] 1537 3 #[] #[])
  fields := #[]
  methods := #[]
  instanceTypes := #[]
  staticTypes := #[]
  resolved := Array.replicate 12 none
  statics := none }

def pool4 : Array CpInfo := pool [(1, .class_ 2), (0, u "java/io/Serializable"), (0, .class_ 4), (0, u "java/lang/Object")] 2

/-- java/io/Serializable -/
def k4 : Class := { plain "java/io/Serializable" (some 0) with
  accessFlags := 1537
  interfaces := #[]
  cf := some (fileOf pool4 1 #[] #[] 1537 3 #[] #[])
  fields := #[]
  methods := #[]
  instanceTypes := #[]
  staticTypes := #[]
  resolved := Array.replicate 7 none
  statics := none }

def pool5 : Array CpInfo := pool [(2, .class_ 4), (1, u "java/lang/Enum"), (0, u "name"), (0, u "Ljava/lang/String;"), (2, u "ordinal"), (0, u "I"), (1, .class_ 14), (1, u "java/lang/Object"), (4, u "hash"), (86, .class_ 108), (1, u "java/lang/Enum$EnumDesc"), (2, .class_ 112), (0, u "java/lang/constant/Constable"), (0, .class_ 114), (0, u "java/lang/Comparable"), (0, .class_ 116), (0, u "java/io/Serializable")] 87

/-- java/lang/Enum -/
def k5 : Class := { plain "java/lang/Enum" (some 0) with
  accessFlags := 1057
  interfaces := #[2, 3, 4]
  cf := some (fileOf pool5 2 #[.nestMembers #[106]] #[] 1057 12 #[111, 113, 115] #[{ accessFlags := 18, nameIndex := 5, descriptorIndex := 6, attributes := #[] }, { accessFlags := 18, nameIndex := 9, descriptorIndex := 10, attributes := #[] }, { accessFlags := 2, nameIndex := 19, descriptorIndex := 10, attributes := #[] }])
  fields := #[{ name := "name", type := (.object "java/lang/String"), accessFlags := 18, slot := 0, constantValue := 0 }, { name := "ordinal", type := .int, accessFlags := 18, slot := 1, constantValue := 0 }, { name := "hash", type := .int, accessFlags := 2, slot := 2, constantValue := 0 }]
  methods := #[]
  instanceTypes := #[(.object "java/lang/String"), .int, .int]
  staticTypes := #[]
  resolved := Array.replicate 204 none
  statics := none }

def pool6 : Array CpInfo := pool [(7, .class_ 8), (0, u "com/example/quarry/quarry/descriptor/TypeArgument"), (0, .class_ 10), (0, u "java/lang/Object")] 19

/-- com/example/quarry/quarry/descriptor/TypeArgument -/
def k6 : Class := { plain "com/example/quarry/quarry/descriptor/TypeArgument" (some 0) with
  accessFlags := 1537
  interfaces := #[]
  cf := some (fileOf pool6 7 #[] #[] 1537 9 #[] #[])
  fields := #[]
  methods := #[]
  instanceTypes := #[]
  staticTypes := #[]
  resolved := Array.replicate 30 none
  statics := none }

def pool7 : Array CpInfo := pool [(1, .class_ 2), (0, u "com/example/quarry/quarry/descriptor/FieldType"), (0, .class_ 4), (0, u "java/lang/Object"), (0, .class_ 6), (0, u "com/example/quarry/quarry/descriptor/TypeArgument")] 13

/-- com/example/quarry/quarry/descriptor/FieldType -/
def k7 : Class := { plain "com/example/quarry/quarry/descriptor/FieldType" (some 0) with
  accessFlags := 1537
  interfaces := #[6]
  cf := some (fileOf pool7 1 #[] #[] 1537 3 #[5] #[])
  fields := #[]
  methods := #[]
  instanceTypes := #[]
  staticTypes := #[]
  resolved := Array.replicate 20 none
  statics := none }

def pool8 : Array CpInfo := pool [(1, .class_ 2), (0, u "com/example/quarry/quarry/descriptor/PrimitiveType"), (2, u "BOOLEAN"), (0, u "Lcom/example/quarry/quarry/descriptor/PrimitiveType;"), (2, u "BYTE"), (2, u "CHAR"), (2, u "SHORT"), (2, u "INT"), (2, u "LONG"), (2, u "FLOAT"), (2, u "DOUBLE"), (2, u "$VALUES"), (0, u "[Lcom/example/quarry/quarry/descriptor/PrimitiveType;"), (6, .class_ 40), (1, u "java/lang/Enum"), (6, .fieldref 1 48), (0, .nameAndType 49 50), (0, u "descriptor"), (0, u "C"), (2, u "javaName"), (0, u "Ljava/lang/String;"), (2, u "arrayTypeCode"), (0, u "I"), (0, .fieldref 1 60), (0, .nameAndType 61 31), (0, u "ALL"), (43, .class_ 106), (0, u "com/example/quarry/quarry/descriptor/FieldType"), (6, u "forDescriptor"), (0, u "(C)Lcom/example/quarry/quarry/descriptor/PrimitiveType;")] 16

def k8c0 : Code := { maxStack := 2, maxLocals := 5, code := prog_44_method_4_code, exceptionTable := #[], attributes := #[] }
def k8m0 : Method := { name := "forDescriptor", desc := "(C)Lcom/example/quarry/quarry/descriptor/PrimitiveType;", sig := { parameters := [.char], returnType := some (.object "com/example/quarry/quarry/descriptor/PrimitiveType") }, accessFlags := 9, code := some k8c0 }
/-- com/example/quarry/quarry/descriptor/PrimitiveType -/
def k8 : Class := { plain "com/example/quarry/quarry/descriptor/PrimitiveType" (some 5) with
  accessFlags := 16433
  interfaces := #[7]
  cf := some (fileOf pool8 1 #[] #[{ accessFlags := 9, nameIndex := 113, descriptorIndex := 114, attributes := #[] }] 16433 38 #[105] #[{ accessFlags := 16409, nameIndex := 5, descriptorIndex := 6, attributes := #[] }, { accessFlags := 16409, nameIndex := 9, descriptorIndex := 6, attributes := #[] }, { accessFlags := 16409, nameIndex := 12, descriptorIndex := 6, attributes := #[] }, { accessFlags := 16409, nameIndex := 15, descriptorIndex := 6, attributes := #[] }, { accessFlags := 16409, nameIndex := 18, descriptorIndex := 6, attributes := #[] }, { accessFlags := 16409, nameIndex := 21, descriptorIndex := 6, attributes := #[] }, { accessFlags := 16409, nameIndex := 24, descriptorIndex := 6, attributes := #[] }, { accessFlags := 16409, nameIndex := 27, descriptorIndex := 6, attributes := #[] }, { accessFlags := 26, nameIndex := 61, descriptorIndex := 31, attributes := #[] }, { accessFlags := 18, nameIndex := 49, descriptorIndex := 50, attributes := #[] }, { accessFlags := 18, nameIndex := 53, descriptorIndex := 54, attributes := #[] }, { accessFlags := 18, nameIndex := 57, descriptorIndex := 58, attributes := #[] }, { accessFlags := 4122, nameIndex := 30, descriptorIndex := 31, attributes := #[] }])
  fields := #[{ name := "BOOLEAN", type := (.object "com/example/quarry/quarry/descriptor/PrimitiveType"), accessFlags := 16409, slot := 0, constantValue := 0 }, { name := "BYTE", type := (.object "com/example/quarry/quarry/descriptor/PrimitiveType"), accessFlags := 16409, slot := 1, constantValue := 0 }, { name := "CHAR", type := (.object "com/example/quarry/quarry/descriptor/PrimitiveType"), accessFlags := 16409, slot := 2, constantValue := 0 }, { name := "SHORT", type := (.object "com/example/quarry/quarry/descriptor/PrimitiveType"), accessFlags := 16409, slot := 3, constantValue := 0 }, { name := "INT", type := (.object "com/example/quarry/quarry/descriptor/PrimitiveType"), accessFlags := 16409, slot := 4, constantValue := 0 }, { name := "LONG", type := (.object "com/example/quarry/quarry/descriptor/PrimitiveType"), accessFlags := 16409, slot := 5, constantValue := 0 }, { name := "FLOAT", type := (.object "com/example/quarry/quarry/descriptor/PrimitiveType"), accessFlags := 16409, slot := 6, constantValue := 0 }, { name := "DOUBLE", type := (.object "com/example/quarry/quarry/descriptor/PrimitiveType"), accessFlags := 16409, slot := 7, constantValue := 0 }, { name := "ALL", type := (.array (.object "com/example/quarry/quarry/descriptor/PrimitiveType")), accessFlags := 26, slot := 8, constantValue := 0 }, { name := "descriptor", type := .char, accessFlags := 18, slot := 3, constantValue := 0 }, { name := "javaName", type := (.object "java/lang/String"), accessFlags := 18, slot := 4, constantValue := 0 }, { name := "arrayTypeCode", type := .int, accessFlags := 18, slot := 5, constantValue := 0 }, { name := "$VALUES", type := (.array (.object "com/example/quarry/quarry/descriptor/PrimitiveType")), accessFlags := 4122, slot := 9, constantValue := 0 }]
  methods := #[k8m0]
  instanceTypes := #[(.object "java/lang/String"), .int, .int, .char, (.object "java/lang/String"), .int]
  staticTypes := #[(.object "com/example/quarry/quarry/descriptor/PrimitiveType"), (.object "com/example/quarry/quarry/descriptor/PrimitiveType"), (.object "com/example/quarry/quarry/descriptor/PrimitiveType"), (.object "com/example/quarry/quarry/descriptor/PrimitiveType"), (.object "com/example/quarry/quarry/descriptor/PrimitiveType"), (.object "com/example/quarry/quarry/descriptor/PrimitiveType"), (.object "com/example/quarry/quarry/descriptor/PrimitiveType"), (.object "com/example/quarry/quarry/descriptor/PrimitiveType"), (.array (.object "com/example/quarry/quarry/descriptor/PrimitiveType")), (.array (.object "com/example/quarry/quarry/descriptor/PrimitiveType"))]
  resolved := Array.replicate 131 none
  statics := some 0 }

def pool9 : Array CpInfo := pool [(1, u "java/lang/Cloneable"), (0, .class_ 1), (0, u "java/lang/Object"), (0, .class_ 3)] 3

/-- java/lang/Cloneable -/
def k9 : Class := { plain "java/lang/Cloneable" (some 0) with
  accessFlags := 1537
  interfaces := #[]
  cf := some (fileOf pool9 2 #[] #[] 1537 4 #[] #[])
  fields := #[]
  methods := #[]
  instanceTypes := #[]
  staticTypes := #[]
  resolved := Array.replicate 8 none
  statics := none }

/-- the primitive byte -/
def k10 : Class := { plain "byte" none with kind := .primitive 'B', accessFlags := 0x411 }
/-- [B -/
def k11 : Class := { plain "[B" (some 0) with kind := .array 10 .byte, interfaces := #[9, 4], accessFlags := 1041 }

/-- the primitive int -/
def k12 : Class := { plain "int" none with kind := .primitive 'I', accessFlags := 0x411 }
/-- [I -/
def k13 : Class := { plain "[I" (some 0) with kind := .array 12 .int, interfaces := #[9, 4], accessFlags := 1041 }

/-- [Lcom/example/quarry/quarry/descriptor/PrimitiveType; -/
def k14 : Class := { plain "[Lcom/example/quarry/quarry/descriptor/PrimitiveType;" (some 0) with kind := .array 8 (.object "com/example/quarry/quarry/descriptor/PrimitiveType"), interfaces := #[9, 4], accessFlags := 1041 }

def heap : Heap := #[{ cls := 8, slots := #[.ref 2, .ref 3, .ref 4, .ref 5, .ref 6, .ref 7, .ref 8, .ref 9, .ref 1, .null], vm := .statics 8 },
  { cls := 14, slots := #[.ref 2, .ref 3, .ref 4, .ref 5, .ref 6, .ref 7, .ref 8, .ref 9], vm := .none },
  { cls := 8, slots := #[.null, .int 0, .int 0, .int 90, .null, .int 0], vm := .none },
  { cls := 8, slots := #[.null, .int 0, .int 0, .int 66, .null, .int 0], vm := .none },
  { cls := 8, slots := #[.null, .int 0, .int 0, .int 67, .null, .int 0], vm := .none },
  { cls := 8, slots := #[.null, .int 0, .int 0, .int 83, .null, .int 0], vm := .none },
  { cls := 8, slots := #[.null, .int 0, .int 0, .int 73, .null, .int 0], vm := .none },
  { cls := 8, slots := #[.null, .int 0, .int 0, .int 74, .null, .int 0], vm := .none },
  { cls := 8, slots := #[.null, .int 0, .int 0, .int 70, .null, .int 0], vm := .none },
  { cls := 8, slots := #[.null, .int 0, .int 0, .int 68, .null, .int 0], vm := .none }]
def classes : Array Class := #[k0, k1, k2, k3, k4, k5, k6, k7, k8, k9, k10, k11, k12, k13, k14]
def interned : List (Array UInt16 × Addr) := []
def slotsUsed : Nat := 66
def theMethod : MethodId := ⟨1, 1⟩
def args0 : Array Value := #[.int 5, .int 4]
def aboutOver (below : List Frame) : State where
  vm := { classes := classes, interned := interned.toArray }
  heap := heap
  slotsUsed := slotsUsed
  threads := #[{ frames := .invoking theMethod args0 :: below }]
def below0 : List Frame := [.native { method := ⟨0, 0⟩, args := #[] }]
def about1 : State := aboutOver below0
def p0 : Program := .bare "" "" ""
def e0 : Env := launch0.env 0 0 0
theorem w_frames : about1.frames = Frame.invoking theMethod args0 :: below0 := rfl
set_option maxRecDepth 65536 in
theorem w_args : argsFit about1.vm theMethod args0 = true := by decide +kernel
set_option maxRecDepth 65536 in
theorem w_heap : heapFits about1 = true := by decide +kernel
set_option maxRecDepth 65536 in
theorem w_runnable : about1.curStatus? = some .runnable := by decide +kernel
set_option maxRecDepth 65536 in
theorem w_alone : about1.alone = true := by decide +kernel
set_option maxRecDepth 65536 in
theorem w_named : about1.methodNamed? x = some theMethod := by decide +kernel
set_option maxRecDepth 65536 in
theorem w_hears : about1.hears theMethod below0 = true := by decide +kernel
set_option maxRecDepth 65536 in
theorem w_ripe : about1.ripe theMethod args0 below0 = true := by decide +kernel
theorem w_running : about1.status = .running := rfl
set_option maxRecDepth 65536 in
theorem w_room : about1.hasRoom e0.platform room_1 = true :=
  launch0.hasRoom_least _ room_1 (by decide +kernel) (by decide +kernel) (by decide +kernel) (by decide +kernel) (by decide +kernel) (by decide +kernel)
theorem allAtoms_all (ts : List Jvm.Cond) (a : Array Jvm.Value) (st : Jvm.State) : (allAtoms ts).before a st = ts.all (fun c => c.before a st) := by
  induction ts with
  | nil => rfl
  | cons c t ih =>
    show (Jvm.Cond.and c (allAtoms t)).before a st = _
    rw [Jvm.Cond.before_and, ih, List.all_cons]
def words1 : List Jvm.Cond := Jvm.Cond.code x code maxLocals ret :: tables_1
/-- a 'code' word, met by the world's own term for the bytes: nothing is compared byte by byte -/
theorem code_word {y : MethodName} {bytes : ByteArray} {mx : Nat} {rt : Option FieldType} {a : Array Value} {s : State} {m : MethodId} {meth : Method} {c : Code} (h1 : s.methodNamed? y = some m) (h2 : s.vm.method? m = some meth) (h3 : meth.code = some c) (h4 : c.code = bytes)
    (h5 : (c.maxLocals == mx && c.exceptionTable.isEmpty && decide (c.maxStack ≤ mostOperands) && decide (meth.sig.returnType = rt) && !meth.locks && decide (parseMethodDescriptor y.desc = some meth.sig)) = true) : (Jvm.Cond.code y bytes mx rt).before a s = true := by
  simp only [Bool.and_eq_true, beq_iff_eq, Bool.not_eq_true', decide_eq_true_eq] at h5
  obtain ⟨⟨⟨⟨⟨g1, g2⟩, g3⟩, g4⟩, g5⟩, g6⟩ := h5
  simp [Cond.before, Cond.holds, Cond.value, h1, h2, h3, h4, g1, g2, g3, g4, g5, g6]
def isCode : Jvm.Cond → Bool
  | .code _ _ _ _ => true
  | _ => false
theorem all_split {L : List Jvm.Cond} {P : Jvm.Cond → Bool} (h1 : L.all (fun c => isCode c || P c) = true) (h2 : ∀ c ∈ L.filter isCode, P c = true) : L.all P = true := by
  refine List.all_eq_true.mpr fun c hc => ?_
  have h := List.all_eq_true.mp h1 c hc
  rcases Bool.eq_false_or_eq_true (isCode c) with hi | hi
  · exact h2 c (List.mem_filter.mpr ⟨hc, hi⟩)
  · simpa [hi] using h
set_option maxRecDepth 65536 in
theorem w_c0 : (Jvm.Cond.code x code maxLocals ret).before args0 about1 = true := code_word (m := ⟨1, 1⟩) (meth := k1m1) (c := k1c1) (by decide +kernel) rfl rfl rfl (by decide +kernel)
set_option maxRecDepth 65536 in
theorem w_c1 : (Jvm.Cond.code ({ cls := "com/example/quarry/quarry/descriptor/PrimitiveTypeForDescriptorPinLaw", name := "letter", desc := "(I)C" } : Jvm.MethodName) method_3_code (1 : Nat) (Option.some Jvm.ClassFile.FieldType.char)).before args0 about1 = true := code_word (m := ⟨1, 2⟩) (meth := k1m2) (c := k1c2) (by decide +kernel) rfl rfl rfl (by decide +kernel)
set_option maxRecDepth 65536 in
theorem w_c2 : (Jvm.Cond.code ({ cls := "com/example/quarry/quarry/descriptor/PrimitiveType", name := "forDescriptor", desc := "(C)Lcom/example/quarry/quarry/descriptor/PrimitiveType;" } : Jvm.MethodName) prog_44_method_4_code (5 : Nat) (Option.some (Jvm.ClassFile.FieldType.object "com/example/quarry/quarry/descriptor/PrimitiveType"))).before args0 about1 = true := code_word (m := ⟨8, 0⟩) (meth := k8m0) (c := k8c0) (by decide +kernel) rfl rfl rfl (by decide +kernel)
set_option maxRecDepth 65536 in
theorem w_c3 : (Jvm.Cond.code ({ cls := "com/example/quarry/quarry/descriptor/PrimitiveTypeForDescriptorPinLaw", name := "expected", desc := "(C)Lcom/example/quarry/quarry/descriptor/PrimitiveType;" } : Jvm.MethodName) method_4_code (1 : Nat) (Option.some (Jvm.ClassFile.FieldType.object "com/example/quarry/quarry/descriptor/PrimitiveType"))).before args0 about1 = true := code_word (m := ⟨1, 3⟩) (meth := k1m3) (c := k1c3) (by decide +kernel) rfl rfl rfl (by decide +kernel)
def codes1 : List Jvm.Cond := [Jvm.Cond.code x code maxLocals ret, Jvm.Cond.code ({ cls := "com/example/quarry/quarry/descriptor/PrimitiveTypeForDescriptorPinLaw", name := "letter", desc := "(I)C" } : Jvm.MethodName) method_3_code (1 : Nat) (Option.some Jvm.ClassFile.FieldType.char), Jvm.Cond.code ({ cls := "com/example/quarry/quarry/descriptor/PrimitiveType", name := "forDescriptor", desc := "(C)Lcom/example/quarry/quarry/descriptor/PrimitiveType;" } : Jvm.MethodName) prog_44_method_4_code (5 : Nat) (Option.some (Jvm.ClassFile.FieldType.object "com/example/quarry/quarry/descriptor/PrimitiveType")), Jvm.Cond.code ({ cls := "com/example/quarry/quarry/descriptor/PrimitiveTypeForDescriptorPinLaw", name := "expected", desc := "(C)Lcom/example/quarry/quarry/descriptor/PrimitiveType;" } : Jvm.MethodName) method_4_code (1 : Nat) (Option.some (Jvm.ClassFile.FieldType.object "com/example/quarry/quarry/descriptor/PrimitiveType"))]
set_option maxRecDepth 65536 in
theorem codes_eq : words1.filter isCode = codes1 := rfl
theorem w_codes : ∀ c ∈ words1.filter isCode, c.before args0 about1 = true := by
  rw [codes_eq]
  intro c hc
  simp only [codes1, List.mem_cons, List.not_mem_nil, or_false] at hc
  rcases hc with rfl | rfl | rfl | rfl
  · exact w_c0
  · exact w_c1
  · exact w_c2
  · exact w_c3
set_option maxRecDepth 65536 in
theorem w_t1 : (words1.take 24).all (fun c => isCode c || c.before args0 about1) = true := by decide +kernel
set_option maxRecDepth 65536 in
theorem w_t2 : (words1.drop 24).all (fun c => isCode c || c.before args0 about1) = true := by decide +kernel
theorem w_tables : (allAtoms (Jvm.Cond.code x code maxLocals ret :: tables_1)).before args0 about1 = true := by
  rw [allAtoms_all]
  show words1.all (fun c => c.before args0 about1) = true
  refine all_split ?_ w_codes
  rw [← List.take_append_drop 24 words1, List.all_append, w_t1, w_t2]
  rfl
set_option maxRecDepth 65536 in
theorem w_case : (Jvm.Cond.and given_1 narrow_1).before args0 about1 = true := by decide +kernel
theorem w_applies : (headSpec (Jvm.Cond.code x code maxLocals ret :: tables_1) room_1).applies x e0.platform about1 = true :=
  (Spec.applies_iff w_frames).mpr ⟨w_running, w_runnable, w_alone, w_named, w_hears, w_ripe, w_room, w_tables⟩
theorem atStart : AtStart classFile x code maxLocals ret World_1 tables_1 room_1 Calls_1 rest_1 Pre_1 launch0 p0 e0 about1 theMethod args0 below0 :=
  ⟨lists_1, trivial, launch0.admits_env _ _ _, launch0.least_env, fairChoices_fair.cas, fairChoices_fair.clock, w_frames, w_args, w_heap, w_applies, trivial, trivial, w_case⟩
end start1
theorem witness_1 : WitnessClaimed_1 := ⟨start1.p0, start1.e0, start1.about1, start1.theMethod, start1.args0, start1.below0, start1.atStart⟩
end Jvm.Pilot.@@N@@
