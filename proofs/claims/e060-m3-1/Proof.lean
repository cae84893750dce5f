import JvmDerived
import JvmDerived.Pilot.@@N@@Statement
import JvmDerived.Pilot.@@N@@Code
set_option linter.unusedVariables false
set_option linter.unusedSimpArgs false
@@BLOCK:NumsL.lean.txt@@
namespace Jvm.Pilot.@@N@@
open Jvm Jvm.ClassFile Sem Op Lib Jvm.Free Jvm.Stand Jvm.LawKit Jvm.RoadKit Bundle Jvm.Pilot.@@N@@.Jvm.D
/-! The own kit: a walk forwards. 'Goes .. S': from S the body runs to its end, and Q holds there. -/
def Goes (p : Program) (e : Env) (below : List Frame) (P : Outcome → State → Prop) (S : State) : Prop :=
  ∃ s₂ o, Steps p.tables e below S s₂ ∧ s₂.status = .running ∧ Ended s₂ below o ∧ P o s₂
abbrev EndQ (s : State) (Q : Option Value → Heap → List Loc → Prop) (k n : Nat) : Outcome → State → Prop := fun o U => ∃ v L, o = .returned v ∧ Q v U.heap L ∧ FrameEnd s o U L k n
abbrev Ctr (l : Launch) (Z : State) (y : MethodName) (bytes : ByteArray) (maxL : Nat) (ret : Option FieldType) (ws : List Jvm.Cond) (rm : Room) (as' : Array Value) (h0 : Heap) (Q : Option Value → Heap → List Loc → Prop) : Prop :=
  MetFree l y (head1 (Jvm.Cond.code y bytes maxL ret :: ws) rm) (fun a U => a = as' ∧ Z.Warmed39 U.vm ∧ U.heap = h0) (fun _ _ _ _ _ => True) (fun _ U o U' => ∃ v L, o = .returned v ∧ Q v U'.heap L ∧ FrameEnd U o U' L rm.cells rm.slots)
abbrev CtrW (l : Launch) (Z : State) (y : MethodName) (bytes : ByteArray) (maxL : Nat) (ret : Option FieldType) (ws : List Jvm.Cond) (rm : Room) (as' : Array Value) (h0 : Heap) (Q : Option Value → Heap → List Loc → Prop) : Prop :=
  MetFree l y (head1 (Jvm.Cond.code y bytes maxL ret :: ws) rm) (fun a U => a = as' ∧ Z.Warmed39 U.vm ∧ U.heap = h0 ∧ U.vm = Z.vm) (fun _ _ _ _ _ => True) (fun _ U o U' => ∃ v L, o = .returned v ∧ Q v U'.heap L ∧ ReturnedEndW U o U' L rm.cells rm.slots)
section Own
variable {p : Program} {l : Launch} {e : Env} {R : Room} {s : State} {m : MethodId} {args : Array Value} {below : List Frame} {meth : Method} {c : Code} {T : State} {locs : List Loc} {cells slots : Nat} {Z : State} {a0 : Array Value} {h : Heap}
variable {Q : Option Value → Heap → List Loc → Prop} {k n : Nat} {S S' : State} {P : Outcome → State → Prop}
theorem Goes.pre (hs : ∀ t, Steps p.tables e below S' t → Steps p.tables e below S t) (g : Goes p e below P S') : Goes p e below P S := by
  obtain ⟨s₂, o, a, b⟩ := g
  exact ⟨s₂, o, hs _ a, b⟩
theorem Goes.via (hs : Steps p.tables e below S S') (g : Goes p e below P S') : Goes p e below P S := by
  obtain ⟨s₂, o, a, b⟩ := g
  exact ⟨s₂, o, hs.trans a, b⟩
theorem Goes.out (X : Stand p l e R s m args below meth c T locs cells slots) {v : Option Value} (hv : meth.sig.returnType = none → v = none) (hlocks : meth.locks = false) (hq : Q v T.heap locs) (hk : cells ≤ k) (hn : slots ≤ n)
    (hs : ∀ fs, (∀ (f : JFrame) (acts : List Action), f.method = m → f.locked = none → f.entered = [] → (doReturn e (T.setTop f) acts v).1 = T.setFrames fs) → Steps p.tables e below S (T.setFrames fs)) : Goes p e below (EndQ s Q k n) S := by
  obtain ⟨fs, hr, hrun, hended, hW, hsame⟩ := X.leave (v := v) hv hlocks
  exact ⟨_, _, hs fs hr, hrun, hended, _, _, rfl, hq, ⟨_, rfl⟩, hW, hsame.mono hk hn⟩
/-- ireturn of a boolean, byte, char, short -/
theorem Goes.retN (X : Stand p l e R s m args below meth c T locs cells slots) (hx : p.tables.exec = Jvm.exec) (hlocks : meth.locks = false) {t : FieldType} (hret : meth.sig.returnType = some t) (ht : t = .boolean ∨ t = .byte ∨ t = .char ∨ t = .short) {pc : Nat} (hd : decode c.code pc = .ok (.ireturn, 1)) {Ls : Array Slot} {z : Int32} {rest : List Value}
    (hq : Q (some (.int (nar t z))) T.heap locs) (hk : cells ≤ k) (hn : slots ≤ n) : Goes p e below (EndQ s Q k n) (T.setTop (mkF m pc Ls (.int z :: rest))) :=
  Goes.out X (v := some (.int (nar t z))) (fun q => by rw [hret] at q; cases q) hlocks hq hk hn fun _ hr => Jvm.RoadKit.retN X hx (t := t) hret ht hd hr
/-- ireturn of an int, areturn, lreturn -/
theorem Goes.ret (X : Stand p l e R s m args below meth c T locs cells slots) (hx : p.tables.exec = Jvm.exec) (hlocks : meth.locks = false) {t : FieldType} (hret : meth.sig.returnType = some t) {w : Value} (hnw : narrow t w = w) {i : Instr}
    (hi : (i = .ireturn ∧ (t = .int ∨ t = .boolean ∨ t = .byte ∨ t = .char ∨ t = .short) ∧ ∃ z, w = .int z) ∨ (i = .lreturn ∧ t = .long ∧ ∃ z, w = .long z) ∨ (i = .dreturn ∧ t = .double ∧ ∃ z, w = .double z) ∨ (i = .freturn ∧ t = .float ∧ ∃ z, w = .float z) ∨ (i = .areturn ∧ t.isReference = true ∧ w.isRef = true))
    {pc : Nat} (hd : decode c.code pc = .ok (i, 1)) {Ls : Array Slot} {rest : List Value}
    (hq : Q (some w) T.heap locs) (hk : cells ≤ k) (hn : slots ≤ n) : Goes p e below (EndQ s Q k n) (T.setTop (mkF m pc Ls (w :: rest))) :=
  Goes.out X (v := some w) (fun q => by rw [hret] at q; cases q) hlocks hq hk hn fun _ hr => retOut X hx hret hnw hi hd hr
theorem Goes.retV (X : Stand p l e R s m args below meth c T locs cells slots) (hx : p.tables.exec = Jvm.exec) (hlocks : meth.locks = false) (hret : meth.sig.returnType = none) {pc : Nat} (hd : decode c.code pc = .ok (.return_, 1)) {Ls : Array Slot}
    (hq : Q none T.heap locs) (hk : cells ≤ k) (hn : slots ≤ n) : Goes p e below (EndQ s Q k n) (T.setTop (mkF m pc Ls [])) :=
  Goes.out X (v := none) (fun _ => rfl) hlocks hq hk hn fun _ hr => X.returnOut hx hret hd hr
/-- the end of a walk that may have interned -/
abbrev EndW (s : State) (Q : Option Value → Heap → List Loc → Prop) (k n : Nat) : Outcome → State → Prop := fun o U => ∃ v L, o = .returned v ∧ Q v U.heap L ∧ ReturnedEndW s o U L k n
theorem Goes.retNW {vm₁ : Vm} (X : Stand p l e R (s.setVm vm₁) m args below meth c T locs cells slots) {j : Nat} (hS : s.Since vm₁ j) (hj : j ≤ T.heap.size) (hx : p.tables.exec = Jvm.exec) (hlocks : meth.locks = false) {t : FieldType} (hret : meth.sig.returnType = some t) (ht : t = .boolean ∨ t = .byte ∨ t = .char ∨ t = .short) {pc : Nat} (hd : decode c.code pc = .ok (.ireturn, 1)) {Ls : Array Slot} {z : Int32} {rest : List Value}
    (hq : Q (some (.int (nar t z))) T.heap locs) (hk : cells ≤ k) (hn : slots ≤ n) : Goes p e below (EndW s Q k n) (T.setTop (mkF m pc Ls (.int z :: rest))) := by
  obtain ⟨fs, hr, hrun, hended, h1, h2, h3, h4⟩ := X.leaveW hS hj (v := some (.int (nar t z))) (fun q => by rw [hret] at q; cases q) hlocks
  exact ⟨_, _, Jvm.RoadKit.retN X hx (t := t) hret ht hd hr, hrun, hended, _, _, rfl, hq, h1, h2, h3, h4.mono hk hn⟩
/-- a static call by its contract -/
theorem Goes.callS {y : MethodName} {bytes : ByteArray} {maxL : Nat} {ret : Option FieldType} {rm : Room} {as' : Array Value} {Qc : Option Value → Heap → List Loc → Prop}
    (X : Stand p l e R s m args below meth c T locs cells slots) (hx : p.tables.exec = Jvm.exec) (hZ : Z.Warmed39 s.vm) {own : String} {index : Nat} (hown : s.vm.findClass own = some m.cls)
    (w1 : (Jvm.Cond.methodLink own index y).before a0 Z = true) (w2 : (Jvm.Cond.static y).before a0 Z = true) (w3 : (Jvm.Cond.initialized y.cls).before a0 Z = true) (w4 : (Jvm.Cond.code y bytes maxL ret).before a0 Z = true)
    (hy : y.cls ≠ "java/lang/invoke/MethodHandle" ∧ y.cls ≠ "java/lang/invoke/VarHandle") (eT : T.heap = h) (hM : Ctr l Z y bytes maxL ret [] rm as' h Qc)
    {pc : Nat} {Ls : Array Slot} {stk : List Value} (hsize : Ls.size = c.maxLocals) (argsL rest : List Value) {ps : List FieldType} {r : Option FieldType} (hpd : parseMethodDescriptor y.desc = some ⟨ps, r⟩) (hlen : argsL.length = ps.length)
    (hstk : stk = argsL.reverse ++ rest) (has : argsL.toArray = as') (hd : decode c.code pc = .ok (.invokestatic index, 3))
    (hf : rm.frames + 1 ≤ R.frames) (hl : (rest.map fun v => v.category).sum + (maxL + 11) + rm.locals ≤ R.locals) (hc : cells + rm.cells ≤ R.cells) (hs : slots + rm.slots ≤ R.slots)
    (g : ∀ (T' : State) (v : Option Value) (L : List Loc), Stand p l e R s m args below meth c T' (locs ++ L) (cells + rm.cells) (slots + rm.slots) → Qc v T'.heap L → Goes p e below P (T'.setTop (mkF m (pc + 3) Ls (v.toList ++ rest)))) :
    Goes p e below P (T.setTop (mkF m pc Ls stk)) := by
  subst has
  obtain ⟨v, _, ⟨T', L', k', n'⟩, -, X', ⟨Lc, hQ, l1, l2, l3⟩, st⟩ := Jvm.LawKit.callS X hx (y := y) hown (mvT hZ w1) (mvT hZ w2) (mvT hZ w3) (mvT hZ w4) hy (backOf (W := (rest.map fun v => v.category).sum) hM hZ w4 w3 hf hl) (g := mkF m pc Ls stk) rfl hsize (argsL := argsL) (rest := rest) (lenOf hpd hlen) hstk (by show 2 * 0 + _ ≤ _; omega) hd (fun _ _ => ⟨rfl, eT, hc, hs⟩)
  dsimp only [Pt.U, Pt.locs, Pt.cells, Pt.slots] at X' l1 l2 l3 st hQ
  subst l1 l2 l3
  exact Goes.pre st (g T' v Lc X' hQ)
/-- a constructor by its contract -/
theorem Goes.init {y : MethodName} {bytes : ByteArray} {maxL : Nat} {rm : Room} {as' : Array Value} {Qc : Option Value → Heap → List Loc → Prop}
    (X : Stand p l e R s m args below meth c T locs cells slots) (hx : p.tables.exec = Jvm.exec) (hZ : Z.Warmed39 s.vm) {own : String} {index : Nat} (hown : s.vm.findClass own = some m.cls) (hnm : y.name = "<init>")
    (w1 : (Jvm.Cond.methodLink own index y).before a0 Z = true) (w2 : (Jvm.Cond.instanceMethod y).before a0 Z = true) (w3 : (Jvm.Cond.initialized y.cls).before a0 Z = true) (w4 : (Jvm.Cond.code y bytes maxL none).before a0 Z = true)
    (hy : y.cls ≠ "java/lang/invoke/MethodHandle" ∧ y.cls ≠ "java/lang/invoke/VarHandle") (eT : T.heap = h) (hM : Ctr l Z y bytes maxL none [] rm as' h Qc)
    {pc : Nat} {Ls : Array Slot} {stk : List Value} (hsize : Ls.size = c.maxLocals) (a : Addr) (argsL rest : List Value) {ps : List FieldType} {r : Option FieldType} (hpd : parseMethodDescriptor y.desc = some ⟨ps, r⟩) (hlen : argsL.length = ps.length)
    (hstk : stk = argsL.reverse ++ .ref a :: rest) (has : (.ref a :: argsL).toArray = as') (hd : decode c.code pc = .ok (.invokespecial index, 3))
    (hf : rm.frames + 1 ≤ R.frames) (hl : (rest.map fun v => v.category).sum + (maxL + 11) + rm.locals ≤ R.locals) (hc : cells + rm.cells ≤ R.cells) (hs : slots + rm.slots ≤ R.slots)
    (g : ∀ (T' : State) (v : Option Value) (L : List Loc), Stand p l e R s m args below meth c T' (locs ++ L) (cells + rm.cells) (slots + rm.slots) → Qc v T'.heap L → Goes p e below P (T'.setTop (mkF m (pc + 3) Ls (v.toList ++ rest)))) :
    Goes p e below P (T.setTop (mkF m pc Ls stk)) := by
  subst has
  obtain ⟨v, _, ⟨T', L', k', n'⟩, -, X', ⟨Lc, hQ, l1, l2, l3⟩, st⟩ := X.specialBack hx (y := y) hnm hown (mvT hZ w1) (mvT hZ w2) (mvT hZ w4) hy (backOf (W := (rest.map fun v => v.category).sum) hM hZ w4 w3 hf hl) (g := mkF m pc Ls stk) rfl hsize (Steps.refl _) (a := a) (argsL := argsL) (rest := rest) (lenOf hpd hlen) hstk (by show 2 * 0 + _ ≤ _; omega) hd (fun _ _ => ⟨rfl, eT, hc, hs⟩)
  dsimp only [Pt.U, Pt.locs, Pt.cells, Pt.slots] at X' l1 l2 l3 st hQ
  subst l1 l2 l3
  exact Goes.via st (g T' v Lc X' hQ)
/-- an instance method by its contract -/
theorem Goes.callV {y : MethodName} {C : String} {bytes : ByteArray} {maxL : Nat} {ret : Option FieldType} {rm : Room} {as' : Array Value} {Qc : Option Value → Heap → List Loc → Prop}
    (X : Stand p l e R s m args below meth c T locs cells slots) (hx : p.tables.exec = Jvm.exec) (hZ : Z.Warmed39 s.vm) {own : String} {index : Nat} (hown : s.vm.findClass own = some m.cls)
    (w1 : (Jvm.Cond.methodLink own index y).before a0 Z = true) (w2 : (Jvm.Cond.declares y).before a0 Z = true) (w5 : (Jvm.Cond.selects C y y).before a0 Z = true) (w6 : (Jvm.Cond.instanceMethod y).before a0 Z = true) (w3 : (Jvm.Cond.initialized y.cls).before a0 Z = true) (w4 : (Jvm.Cond.code y bytes maxL ret).before a0 Z = true)
    (hy : y.cls ≠ "java/lang/invoke/MethodHandle" ∧ y.cls ≠ "java/lang/invoke/VarHandle") (eT : T.heap = h) {a : Addr} (E : Exa Z h a C) (hM : Ctr l Z y bytes maxL ret [] rm as' h Qc)
    {pc : Nat} {Ls : Array Slot} {stk : List Value} (hsize : Ls.size = c.maxLocals) (argsL rest : List Value) {ps : List FieldType} {r : Option FieldType} (hpd : parseMethodDescriptor y.desc = some ⟨ps, r⟩) (hlen : argsL.length = ps.length)
    (hstk : stk = argsL.reverse ++ .ref a :: rest) (has : (.ref a :: argsL).toArray = as') (hd : decode c.code pc = .ok (.invokevirtual index, 3))
    (hf : rm.frames + 1 ≤ R.frames) (hl : (rest.map fun v => v.category).sum + (maxL + 11) + rm.locals ≤ R.locals) (hc : cells + rm.cells ≤ R.cells) (hs : slots + rm.slots ≤ R.slots)
    (g : ∀ (T' : State) (v : Option Value) (L : List Loc), Stand p l e R s m args below meth c T' (locs ++ L) (cells + rm.cells) (slots + rm.slots) → Qc v T'.heap L → Goes p e below P (T'.setTop (mkF m (pc + 3) Ls (v.toList ++ rest)))) :
    Goes p e below P (T.setTop (mkF m pc Ls stk)) := by
  subst has
  obtain ⟨cB, kB, q1, -, q3⟩ := isOf hZ eT E
  obtain ⟨v, _, ⟨T', L', k', n'⟩, -, X', ⟨Lc, hQ, l1, l2, l3⟩, st⟩ := X.virtualBack hx (y := y) (z := y) hown (mvT hZ w1) (mvT hZ w2) (notFace_of_selects (args := #[]) (mvT hZ w5)) (mvT hZ w5) (mvT hZ w6) hy (backOf (W := (rest.map fun v => v.category).sum) hM hZ w4 w3 hf hl) q1 q3 (g := mkF m pc Ls stk) rfl hsize (Steps.refl _) (argsL := argsL) (rest := rest) (lenOf hpd hlen) hstk (by show 2 * 0 + _ ≤ _; omega) hd (fun _ _ => ⟨rfl, eT, hc, hs⟩)
  dsimp only [Pt.U, Pt.locs, Pt.cells, Pt.slots] at X' l1 l2 l3 st hQ
  subst l1 l2 l3
  exact Goes.via st (g T' v Lc X' hQ)
theorem Goes.iaload (X : Stand p l e R s m args below meth c T locs cells slots) (hx : p.tables.exec = Jvm.exec) (hZ : Z.Warmed39 s.vm) (eT : T.heap = h) {a : Addr} {kc : ClassId} {z : Int32} {vs : List Value} {dv : Value} (V : Arv Z h a kc .int z vs dv) {j : Int32} (hj : ¬ j < 0 ∧ j < z) {w : Value} (hw : vs.getD j.toNatClampNeg dv = w)
    {pc : Nat} {Ls : Array Slot} {rest : List Value} (hd : decode c.code pc = .ok (.iaload, 1)) (g : Goes p e below P (T.setTop (mkF m (pc + 1) Ls (w :: rest)))) : Goes p e below P (T.setTop (mkF m pc Ls (.int j :: .ref a :: rest))) := by
  obtain ⟨cl, A, -, S, -, H, -⟩ := V
  exact Goes.pre (fun t kk => X.iaload hx (by rw [eT]; exact A.1) (State.isArrayOf_alike hZ.alike A.2.1) A.2.2 (inb_of S hj) (H.at (inb_of S hj) hw) (g := mkF m pc Ls (.int j :: .ref a :: rest)) rfl rfl hd t kk) g
theorem Goes.baloadZ (X : Stand p l e R s m args below meth c T locs cells slots) (hx : p.tables.exec = Jvm.exec) (hZ : Z.Warmed39 s.vm) (eT : T.heap = h) {a : Addr} {kc : ClassId} {z : Int32} {vs : List Value} {dv : Value} (V : Arv Z h a kc .boolean z vs dv) {j : Int32} (hj : ¬ j < 0 ∧ j < z) {w : Value} (hw : vs.getD j.toNatClampNeg dv = w)
    {pc : Nat} {Ls : Array Slot} {rest : List Value} (hd : decode c.code pc = .ok (.baload, 1)) (g : Goes p e below P (T.setTop (mkF m (pc + 1) Ls (w :: rest)))) : Goes p e below P (T.setTop (mkF m pc Ls (.int j :: .ref a :: rest))) := by
  obtain ⟨cl, A, -, S, -, H, -⟩ := V
  exact Goes.pre (fun t kk => X.baloadBooleans hx (by rw [eT]; exact A.1) (State.isArrayOf_alike hZ.alike A.2.1) A.2.2 (inb_of S hj) (H.at (inb_of S hj) hw) (g := mkF m pc Ls (.int j :: .ref a :: rest)) rfl rfl hd t kk) g
theorem Goes.baloadB (X : Stand p l e R s m args below meth c T locs cells slots) (hx : p.tables.exec = Jvm.exec) (hZ : Z.Warmed39 s.vm) (eT : T.heap = h) {a : Addr} {kc : ClassId} {z : Int32} {vs : List Value} {dv : Value} (V : Arv Z h a kc .byte z vs dv) {j : Int32} (hj : ¬ j < 0 ∧ j < z) {w : Value} (hw : vs.getD j.toNatClampNeg dv = w)
    {pc : Nat} {Ls : Array Slot} {rest : List Value} (hd : decode c.code pc = .ok (.baload, 1)) (g : Goes p e below P (T.setTop (mkF m (pc + 1) Ls (w :: rest)))) : Goes p e below P (T.setTop (mkF m pc Ls (.int j :: .ref a :: rest))) := by
  obtain ⟨cl, A, -, S, -, H, -⟩ := V
  exact Goes.pre (fun t kk => X.baloadBytes hx (by rw [eT]; exact A.1) (State.isArrayOf_alike hZ.alike A.2.1) A.2.2 (inb_of S hj) (H.at (inb_of S hj) hw) (g := mkF m pc Ls (.int j :: .ref a :: rest)) rfl rfl hd t kk) g
theorem Goes.aaload (X : Stand p l e R s m args below meth c T locs cells slots) (hx : p.tables.exec = Jvm.exec) (hZ : Z.Warmed39 s.vm) (eT : T.heap = h) {a : Addr} {kc : ClassId} {ty : FieldType} (hty : ty.isReference = true) {z : Int32} {vs : List Value} {dv : Value} (V : Arv Z h a kc ty z vs dv) {j : Int32} (hj : ¬ j < 0 ∧ j < z) {w : Value} (hw : vs.getD j.toNatClampNeg dv = w)
    {pc : Nat} {Ls : Array Slot} {rest : List Value} (hd : decode c.code pc = .ok (.aaload, 1)) (g : Goes p e below P (T.setTop (mkF m (pc + 1) Ls (w :: rest)))) : Goes p e below P (T.setTop (mkF m pc Ls (.int j :: .ref a :: rest))) := by
  obtain ⟨cl, A, -, S, -, H, -⟩ := V
  exact Goes.pre (fun t kk => X.aaload hx (by rw [eT]; exact A.1) (State.isArrayOf_alike hZ.alike A.2.1) hty A.2.2 (inb_of S hj) (H.at (inb_of S hj) hw) (g := mkF m pc Ls (.int j :: .ref a :: rest)) rfl rfl hd t kk) g
theorem Goes.alen (X : Stand p l e R s m args below meth c T locs cells slots) (hx : p.tables.exec = Jvm.exec) (hZ : Z.Warmed39 s.vm) (eT : T.heap = h) {a : Addr} {kc : ClassId} {ty : FieldType} {z : Int32} {vs : List Value} {dv : Value} (V : Arv Z h a kc ty z vs dv)
    {pc : Nat} {Ls : Array Slot} {rest : List Value} (hd : decode c.code pc = .ok (.arraylength, 1)) (g : Goes p e below P (T.setTop (mkF m (pc + 1) Ls (.int z :: rest)))) : Goes p e below P (T.setTop (mkF m pc Ls (.ref a :: rest))) := by
  obtain ⟨cl, A, -, S, M, -, -⟩ := V
  rw [← len_of S M] at g
  exact Goes.pre (fun t kk => X.arraylength hx (cell := cl) (by rw [eT]; exact A.1) (State.isArrayOf_alike hZ.alike A.2.1) (g := mkF m pc Ls (.ref a :: rest)) rfl rfl hd t kk) g
end Own
theorem own_ltI {a b : Int32} : a < b ↔ a.toInt < b.toInt := Int32.lt_iff_toInt_lt
theorem own_eqI {a b : Int32} : a = b ↔ a.toInt = b.toInt := Int32.toInt_inj.symm
theorem own_ints (xs : List Int32) (i : Nat) : (xs.map Value.int).getD i (.int 0) = .int (xs.getD i 0) := by
  induction xs generalizing i with
  | nil => rfl
  | cons x xs ih => cases i with
    | zero => rfl
    | succ i => exact ih i
theorem own_mask31 (x : Int32) : ¬ (x &&& 2147483647) < 0 := by
  rw [own_ltI, Jvm.Kit.i32_mask x 2147483647 (k := 31) (by decide) (by decide), show (0 : Int32).toInt = 0 from rfl]
  omega
theorem own_rem (x y : Int32) (hx : ¬ x < 0) (hy : 0 < y) : ¬ x % y < 0 ∧ x % y < y := by
  rw [own_ltI, show (0 : Int32).toInt = 0 from rfl] at hx hy
  have e := Jvm.Kit.i32_rem_nonneg (x := x) (y := y) (by omega)
  rw [own_ltI, own_ltI, e, show (0 : Int32).toInt = 0 from rfl]
  have a := Int.emod_nonneg x.toInt (show y.toInt ≠ 0 by omega)
  have b := Int.emod_lt_of_pos x.toInt hy
  omega
theorem own_len {Z : State} {args : Array Value} {t : Term} {a : Addr} {cl : Cell} {ty : FieldType} {z : Int32} (ev : t.eval args Z none [] Z = some (.ref a)) (A : Arr Z Z.heap a cl ty) (h : (Term.length t).eval args Z none [] Z = some (.int z)) : cl.slots.size < 2 ^ 31 ∧ cl.slots.size.toInt32 = z := by
  have hA : Z.arrayAt? a = some cl := Arr.fin (State.Warmed39.refl Z).alike A
  simp [Term.eval, ev, hA] at h
  exact h
theorem own_eqvR {Z : State} {args : Array Value} {X F : Term} {idx : List Nat} {x : Addr} (hF : F.eval args Z none idx Z = some (.ref x)) (h : (Cond.eq X F).value args Z none Z idx = some true) : X.eval args Z none idx Z = some (.ref x) := by
  obtain ⟨u, y, hu, hy, k1, k2⟩ := cmp_v (Or.inl h)
  cases hF.symm.trans hy
  have hr : u.isRef = true := k2.2
  have q := gotT (eq_R hu hy hr rfl) h
  rw [hu, q]
theorem own_StaKeep {Z : State} {h h' : Heap} {C n d : String} {v : Value} (F : Sta Z h C n d v) (K : Keep h h' []) : Sta Z h' C n d v := by
  obtain ⟨cf, i, k, f, st, cell, h1, h2, h3, h4, h5, r⟩ := F
  exact ⟨cf, i, k, f, st, cell, h1, h2, h3, h4, K.2.1 _ _ h5 nin0, r⟩
theorem own_neLt {a b n : Nat} (h : a < n) (h2 : n ≤ b) : a ≠ b := Nat.ne_of_lt (Nat.lt_of_lt_of_le h h2)
def own_pl (N : Int32) (xs : List Int32) (x : Int64) : Prop := ¬ x < 0 ∧ x < N.toInt64 ∧ ∃ j ∈ xs, j.toInt64 = x
def own_ex (n m1 a m2 b : Int32) (x : Int64) : Prop := ¬ x < 0 ∧ ¬ n.toInt64 < x ∧ (x = n.toInt64 ∨ (¬ m1 = 0 ∧ x = a.toInt64) ∨ (¬ m2 = 0 ∧ x = b.toInt64))
theorem own_64 {j : Int32} {x : Int64} : j.toInt64 = x ↔ j.toInt = x.toInt := by rw [← Int64.toInt_inj, Int32.toInt_toInt64]
theorem own_lt64 {x y : Int64} : x < y ↔ x.toInt < y.toInt := Int64.lt_iff_toInt_lt
theorem own_getH (xs : List Int32) (k : Nat) : ∃ z : Int32, getH (xs.map fun j => (j, Value.int 1)) [] (.int 0) k = .int z ∧ (¬ z = 0 ↔ ∃ j ∈ xs, j.toInt = (k : Int)) := by
  induction xs with
  | nil => exact ⟨0, by simp [getH], by simp⟩
  | cons x xs ih =>
    obtain ⟨z, h1, h2⟩ := ih
    by_cases q : x.toInt = (k : Int)
    · exact ⟨1, by simp [getH, q], by simp [q]⟩
    · refine ⟨z, by simp [getH, q, h1], ?_⟩
      rw [h2]
      simp [q]
theorem own_plus {n : Int32} (h : ¬ n < 0) (h7 : ¬ 7 < n) : (n + 1).toInt = n.toInt + 1 := by
  rw [own_ltI, show (0 : Int32).toInt = 0 from rfl] at h
  rw [own_ltI, show (7 : Int32).toInt = 7 from rfl] at h7
  rw [Jvm.Kit.i32_add, show (1 : Int32).toInt = 1 from rfl] <;> rw [show (1 : Int32).toInt = 1 from rfl] <;> omega
theorem own_clamp {j : Int32} (h : ¬ j < 0) : (j.toNatClampNeg : Int) = j.toInt := (nat_of h).symm
theorem own_cap {n : Int32} (h : ¬ n < 0) (h7 : ¬ 7 < n) : (n + 1).toNatClampNeg ≤ 8 := by
  have e := own_plus h h7
  have q : ¬ n + 1 < 0 := by
    rw [own_ltI, show (0 : Int32).toInt = 0 from rfl] at h ⊢
    omega
  have k := own_clamp q
  rw [own_ltI, show (7 : Int32).toInt = 7 from rfl] at h7
  omega
theorem own_np {n : Int32} (h : ¬ n < 0) (h7 : ¬ 7 < n) : ¬ n + 1 < 0 := by
  have e := own_plus h h7
  rw [own_ltI, show (0 : Int32).toInt = 0 from rfl] at h ⊢
  omega
theorem own_nlt {n : Int32} (h : ¬ n < 0) (h7 : ¬ 7 < n) : n < n + 1 := by
  have e := own_plus h h7
  rw [own_ltI]
  omega
theorem own_same {n m1 a m2 b : Int32} {x : Int64} (h : ¬ n < 0) (h7 : ¬ 7 < n) (ha : ¬ a < 0 ∧ a < n + 1) (hb : ¬ b < 0 ∧ b < n + 1) {xs : List Int32} (hxs : ∀ j, j ∈ xs ↔ (j = n ∨ (¬ m1 = 0 ∧ j = a) ∨ (¬ m2 = 0 ∧ j = b))) : own_pl (n + 1) xs x ↔ own_ex n m1 a m2 b x := by
  have e := own_plus h h7
  unfold own_pl own_ex
  have e1 : (∃ j ∈ xs, j.toInt64 = x) ↔ (x = n.toInt64 ∨ (¬ m1 = 0 ∧ x = a.toInt64) ∨ (¬ m2 = 0 ∧ x = b.toInt64)) := by
    constructor
    · rintro ⟨j, hj, rfl⟩
      rcases (hxs j).mp hj with rfl | ⟨q, rfl⟩ | ⟨q, rfl⟩
      · exact Or.inl rfl
      · exact Or.inr (Or.inl ⟨q, rfl⟩)
      · exact Or.inr (Or.inr ⟨q, rfl⟩)
    · rintro (rfl | ⟨q, rfl⟩ | ⟨q, rfl⟩)
      · exact ⟨n, (hxs n).mpr (Or.inl rfl), rfl⟩
      · exact ⟨a, (hxs a).mpr (Or.inr (Or.inl ⟨q, rfl⟩)), rfl⟩
      · exact ⟨b, (hxs b).mpr (Or.inr (Or.inr ⟨q, rfl⟩)), rfl⟩
  rw [e1]
  have e2 : (x < (n + 1).toInt64) ↔ ¬ n.toInt64 < x := by
    rw [own_lt64, own_lt64, Int32.toInt_toInt64, Int32.toInt_toInt64, e]
    omega
  rw [e2]
theorem own_idx {x : Int64} {N : Int32} (h0 : ¬ x < 0) (h1 : x < N.toInt64) : x.toInt32.toInt = x.toInt ∧ ¬ x.toInt32 < 0 ∧ x.toInt32 < N := by
  have q := N.toInt_lt
  rw [own_lt64, show (0 : Int64).toInt = 0 from rfl] at h0
  rw [own_lt64, Int32.toInt_toInt64] at h1
  have e : x.toInt32.toInt = x.toInt := Jvm.Kit.i32_of_i64 (by omega) (by omega)
  rw [own_ltI, own_ltI, e, show (0 : Int32).toInt = 0 from rfl]
  omega
theorem own_n7 (x : Int32) : ¬ (x &&& 7) < 0 ∧ ¬ 7 < (x &&& 7) := by
  have e := Jvm.Kit.i32_mask x 7 (k := 3) (by decide) (by decide)
  rw [own_ltI, own_ltI, e, show (0 : Int32).toInt = 0 from rfl, show (7 : Int32).toInt = 7 from rfl]
  omega
theorem own_pos {n : Int32} (h : ¬ n < 0) (h7 : ¬ 7 < n) : 0 < n + 1 := by
  have e := own_plus h h7
  rw [own_ltI, show (0 : Int32).toInt = 0 from rfl] at h ⊢
  omega
theorem own_nz {n : Int32} (h : 0 < n) : n ≠ 0 := fun q => by subst q; exact absurd h (by decide)

theorem din_0 : decode prog_88_method_1_code 0 = .ok (.aload_n 0, 1) := by decide +kernel
theorem din_1 : decode prog_88_method_1_code 1 = .ok (.invokespecial 1, 3) := by decide +kernel
theorem din_4 : decode prog_88_method_1_code 4 = .ok (.aload_n 0, 1) := by decide +kernel
theorem din_5 : decode prog_88_method_1_code 5 = .ok (.iload_n 1, 1) := by decide +kernel
theorem din_6 : decode prog_88_method_1_code 6 = .ok (.iconst 1, 1) := by decide +kernel
theorem din_7 : decode prog_88_method_1_code 7 = .ok (.iadd, 1) := by decide +kernel
theorem din_8 : decode prog_88_method_1_code 8 = .ok (.newarray .boolean, 2) := by decide +kernel
theorem din_10 : decode prog_88_method_1_code 10 = .ok (.putfield 7, 3) := by decide +kernel
theorem din_13 : decode prog_88_method_1_code 13 = .ok (.aload_n 0, 1) := by decide +kernel
theorem din_14 : decode prog_88_method_1_code 14 = .ok (.getfield 7, 3) := by decide +kernel
theorem din_17 : decode prog_88_method_1_code 17 = .ok (.iload_n 1, 1) := by decide +kernel
theorem din_18 : decode prog_88_method_1_code 18 = .ok (.iconst 1, 1) := by decide +kernel
theorem din_19 : decode prog_88_method_1_code 19 = .ok (.bastore, 1) := by decide +kernel
theorem din_20 : decode prog_88_method_1_code 20 = .ok (.return_, 1) := by decide +kernel
theorem pd_in : parseMethodDescriptor "(I)V" = some ⟨[.int], none⟩ := by decide +kernel
theorem pn_in : plainName "com/example/quarry/quarry/text/Labels" = true := by first | (simp [plainName, overriddenIn]; done) | decide +kernel
def Q_in (Z : State) (a : Addr) (n : Int32) (h0 : Heap) (n0 : Nat) (v : Option Value) (h : Heap) (L : List Loc) : Prop := v = none ∧ Fr n0 L ∧ Keep h0 h [a] ∧ ∃ (b : Addr) (k : ClassId), n0 ≤ b ∧ a ≠ b ∧ Fld Z h a "com/example/quarry/quarry/text/Labels" "places" "[Z" (.ref b) ∧ Arh Z h b k .boolean (n + 1) [(n, .int 1)] [] (.int 0)
theorem ef_in (m : MethodId) (a : Addr) (n : Int32) : entryFrame m #[(.ref a), (.int n)] 2 = mkF m 0 #[.val (.ref a), .val (.int n)] [] := by first | (simp [entryFrame, mkF, argsToLocals, Value.category]; done) | rfl
set_option maxRecDepth 65536 in
set_option maxHeartbeats 40000000 in
theorem rm_in (l : Launch) (Z : State) (a0 : Array Value) (hw : ∀ d ∈ tables_1, d.before a0 Z = true) (ws : List Jvm.Cond) (a : Addr) (n : Int32)  (h0 : Heap) (n0 : Nat) (Z0 : n0 ≤ h0.size) (hn : ¬ n < 0) (h7 : ¬ 7 < n) (F1 : Fld Z h0 a "com/example/quarry/quarry/text/Labels" "places" "[Z" .null) (E0 : Exa Z h0 a "com/example/quarry/quarry/text/Labels") (ga : n0 ≤ a) :
    Ctr l Z (⟨"com/example/quarry/quarry/text/Labels", "<init>", "(I)V"⟩ : MethodName) prog_88_method_1_code 2 (none : Option FieldType) ws ({ frames := 1, cells := 1, slots := 8, locals := 12 } : Room) #[(.ref a), (.int n)] h0 (Q_in Z a n h0 n0) := by
  refine MetFree.of_bodySF (plainFor_of_name pn_in) hisR ?_
  intro p e s m args below meth c s₁ Bd hml0 hP hK
  obtain ⟨rfl, hZ, hh⟩ := hP
  have hx := Bd.exec
  have hby := Bd.bytes
  have hlk : meth.locks = false := Bd.notSynchronized
  have hml : c.maxLocals = 2 := hml0
  have hown : s.vm.findClass "com/example/quarry/quarry/text/Labels" = some m.cls := findClass_of_methodNamed Bd.named
  have hnm := (name_of_methodNamed Bd.named Bd.method).1
  have X0 : Stand p l e ({ frames := 1, cells := 1, slots := 8, locals := 12 } : Room) s m #[(.ref a), (.int n)] below meth c s₁ [] 0 0 := Stand.of_body Bd
  have e0 : s₁.heap = h0 := by rw [← hh, Bd.state]; rfl
  have N0 := Fr.nil n0
  show Goes p e below (EndQ s (Q_in Z a n h0 n0) ({ frames := 1, cells := 1, slots := 8, locals := 12 } : Room).cells ({ frames := 1, cells := 1, slots := 8, locals := 12 } : Room).slots) (s₁.setTop (entryFrame m #[(.ref a), (.int n)] 2))
  refine Goes.pre (S' := (s₁.setTop (mkF m 0 #[.val (.ref a), .val (.int n)] []))) (fun t k => castTop (ef_in m a n) k) ?_
  refine Goes.pre (S' := (s₁.setTop (mkF m 1 #[.val (.ref a), .val (.int n)] [(.ref a)]))) (fun _ k => XS.aloadN X0.here hx rfl (hb hby din_0) rfl rfl k) ?_
  obtain ⟨T1, X1, e1, st1⟩ := initO X0 hx hZ hown (hw _ (List.mem_of_getElem? (i := 8) rfl)) (hw _ (List.mem_of_getElem? (i := 9) rfl)) (hw _ (List.mem_of_getElem? (i := 10) rfl)) e0 (g := (mkF m 1 #[.val (.ref a), .val (.int n)] [(.ref a)])) rfl (by rw [hml]; rfl) rfl (hb hby din_1) (by decide) (W := 0) (by show 2 * 0 + _ ≤ _; exact Nat.le_of_eq rfl) (by decide)
  refine Goes.pre (S' := (T1.setTop (mkF m 4 #[.val (.ref a), .val (.int n)] []))) st1 ?_
  refine Goes.pre (S' := (T1.setTop (mkF m 5 #[.val (.ref a), .val (.int n)] [(.ref a)]))) (fun _ k => XS.aloadN X1.here hx rfl (hb hby din_4) rfl rfl k) ?_
  refine Goes.pre (S' := (T1.setTop (mkF m 6 #[.val (.ref a), .val (.int n)] [(.int n), (.ref a)]))) (fun _ k => XS.iloadN X1.here hx rfl (hb hby din_5) rfl k) ?_
  refine Goes.pre (S' := (T1.setTop (mkF m 7 #[.val (.ref a), .val (.int n)] [(.int (1 : Int32)), (.int n), (.ref a)]))) (fun _ k => XS.iconst X1.here hx rfl (hb hby din_6) k) ?_
  refine Goes.pre (S' := (T1.setTop (mkF m 8 #[.val (.ref a), .val (.int n)] [(.int (n + (1 : Int32))), (.ref a)]))) (fun _ k => XS.iadd X1.here hx rfl (hb hby din_7) rfl k) ?_
  obtain ⟨T2, h2, k2, X2, e2, E2, A2, st2⟩ := newP X1 hx hZ (hw _ (List.mem_of_getElem? (i := 11) rfl)) e1 (g := (mkF m 8 #[.val (.ref a), .val (.int n)] [(.int (n + (1 : Int32))), (.ref a)])) rfl (hb hby din_8) rfl (own_np hn h7) (cap := 8) (own_cap hn h7) (by decide) (by decide) (by decide)
  obtain ⟨b, gb⟩ : ∃ z, z = h0.size := ⟨_, rfl⟩
  rw [← gb] at A2 st2
  have V0 : Arh Z h2 b k2 .boolean (n + 1) [] [] (.int 0) := (Arv.new A2 (own_np hn h7)).arh
  have hab : a ≠ b := own_neLt F1.lt (Nat.le_of_eq gb.symm)
  have Zn2 : n0 ≤ h2.size := Nat.le_trans Z0 E2.1
  refine Goes.pre (S' := (T2.setTop (mkF m 10 #[.val (.ref a), .val (.int n)] [(.ref b), (.ref a)]))) st2 ?_
  obtain ⟨T3, h3, X3, e3, W3, st3⟩ := putF X2 hx hZ hown (host := "") (Or.inl (hw _ (List.mem_of_getElem? (i := 12) rfl))) Via.refl e2 (F1.ext E2) (E0.ext E2) (Or.inr ⟨(hw _ (List.mem_of_getElem? (i := 13) rfl)), rfl, hnm⟩) (hw _ (List.mem_of_getElem? (i := 3) rfl)) (ty := (.array .boolean)) (by decide) rfl rfl (g := (mkF m 10 #[.val (.ref a), .val (.int n)] [(.ref b), (.ref a)])) rfl rfl (hb hby din_10)
  have N3 := Fr.snoc X3 N0 ga
  have Zn3 : n0 ≤ h3.size := Nat.le_trans Zn2 (Nat.le_of_eq W3.size.symm)
  refine Goes.pre (S' := (T3.setTop (mkF m 13 #[.val (.ref a), .val (.int n)] []))) st3 ?_
  have F2 := (F1.ext E2).same W3
  have V1 := V0.other W3 (Ne.symm hab)
  refine Goes.pre (S' := (T3.setTop (mkF m 14 #[.val (.ref a), .val (.int n)] [(.ref a)]))) (fun _ k => XS.aloadN X3.here hx rfl (hb hby din_13) rfl rfl k) ?_
  obtain ⟨T4, X4, e4, st4⟩ := getF X3 hx hZ hown (host := "") (Or.inl (hw _ (List.mem_of_getElem? (i := 12) rfl))) Via.refl e3 F2 (g := (mkF m 14 #[.val (.ref a), .val (.int n)] [(.ref a)])) rfl rfl (hb hby din_14)
  refine Goes.pre (S' := (T4.setTop (mkF m 17 #[.val (.ref a), .val (.int n)] [(.ref b)]))) st4 ?_
  refine Goes.pre (S' := (T4.setTop (mkF m 18 #[.val (.ref a), .val (.int n)] [(.int n), (.ref b)]))) (fun _ k => XS.iloadN X4.here hx rfl (hb hby din_17) rfl k) ?_
  refine Goes.pre (S' := (T4.setTop (mkF m 19 #[.val (.ref a), .val (.int n)] [(.int (1 : Int32)), (.int n), (.ref b)]))) (fun _ k => XS.iconst X4.here hx rfl (hb hby din_18) k) ?_
  obtain ⟨cl5, Ar5, q5, S5, M5, H5, G5⟩ := V1
  obtain ⟨T5, h5, X5, e5, W5, st5⟩ := stZ X4 hx hZ e4 Ar5 (j := n) (inb_of S5 ⟨hn, own_nlt hn h7⟩) (g := (mkF m 19 #[.val (.ref a), .val (.int n)] [(.int (1 : Int32)), (.int n), (.ref b)])) rfl rfl (hb hby din_19)
  have VV5 := Arh.push Ar5 q5 S5 M5 H5 G5 (fits_nar_bool 1) W5 (inb_of S5 ⟨hn, own_nlt hn h7⟩)
  have N5 := Fr.snoc X5 N3 (Nat.le_trans Z0 (Nat.le_of_eq gb.symm))
  refine Goes.pre (S' := (T5.setTop (mkF m 20 #[.val (.ref a), .val (.int n)] []))) st5 ?_
  have F3 := F2.other W5 (Or.inl hab)
  have K : Keep h0 h5 [a] := (((Keep.refl _ _).ext E2).wr W3 (Or.inl (List.mem_singleton.mpr rfl))).wr W5 (Or.inr (Nat.le_of_eq gb.symm))
  exact Goes.retV X5 hx hlk Bd.returns (hb hby din_20) (by rw [e5]; exact ⟨rfl, N5, K, b, k2, Nat.le_trans Z0 (Nat.le_of_eq gb.symm), hab, F3, VV5⟩) (by first | decide | exact Nat.le_of_ble_eq_true rfl | assumption | (simp [Value.category]; done)) (by first | decide | exact Nat.le_of_ble_eq_true rfl | assumption | (simp [Value.category]; done))
theorem dat_0 : decode prog_88_method_2_code 0 = .ok (.aload_n 0, 1) := by decide +kernel
theorem dat_1 : decode prog_88_method_2_code 1 = .ok (.getfield 7, 3) := by decide +kernel
theorem dat_4 : decode prog_88_method_2_code 4 = .ok (.iload_n 1, 1) := by decide +kernel
theorem dat_5 : decode prog_88_method_2_code 5 = .ok (.iconst 1, 1) := by decide +kernel
theorem dat_6 : decode prog_88_method_2_code 6 = .ok (.bastore, 1) := by decide +kernel
theorem dat_7 : decode prog_88_method_2_code 7 = .ok (.return_, 1) := by decide +kernel
theorem pd_at : parseMethodDescriptor "(I)V" = some ⟨[.int], none⟩ := by decide +kernel
theorem pn_at : plainName "com/example/quarry/quarry/text/Labels" = true := by first | (simp [plainName, overriddenIn]; done) | decide +kernel
def Q_at (Z : State) (a : Addr) (b : Addr) (k : ClassId) (N : Int32) (xs : List Int32) (h0 : Heap) (n0 : Nat) (v : Option Value) (h : Heap) (L : List Loc) : Prop := v = none ∧ Fr n0 L ∧ Keep h0 h [b] ∧ Fld Z h a "com/example/quarry/quarry/text/Labels" "places" "[Z" (.ref b) ∧ Arh Z h b k .boolean N (xs.map fun j => (j, .int 1)) [] (.int 0)
theorem ef_at (m : MethodId) (a : Addr) (j : Int32) : entryFrame m #[(.ref a), (.int j)] 2 = mkF m 0 #[.val (.ref a), .val (.int j)] [] := by first | (simp [entryFrame, mkF, argsToLocals, Value.category]; done) | rfl
set_option maxRecDepth 65536 in
set_option maxHeartbeats 40000000 in
theorem rm_at (l : Launch) (Z : State) (a0 : Array Value) (hw : ∀ d ∈ tables_1, d.before a0 Z = true) (ws : List Jvm.Cond) (a : Addr) (j : Int32) (b : Addr) (k : ClassId) (N : Int32) (xs : List Int32) (h0 : Heap) (n0 : Nat) (Z0 : n0 ≤ h0.size) (F1 : Fld Z h0 a "com/example/quarry/quarry/text/Labels" "places" "[Z" (.ref b)) (V : Arh Z h0 b k .boolean N (xs.map fun j => (j, .int 1)) [] (.int 0)) (hj : ¬ j < 0 ∧ j < N) (gb : n0 ≤ b) (hab : a ≠ b) :
    Ctr l Z (⟨"com/example/quarry/quarry/text/Labels", "instructionAt", "(I)V"⟩ : MethodName) prog_88_method_2_code 2 (none : Option FieldType) ws ({ frames := 0, cells := 0, slots := 0, locals := 0 } : Room) #[(.ref a), (.int j)] h0 (Q_at Z a b k N (j :: xs) h0 n0) := by
  refine MetFree.of_bodySF (plainFor_of_name pn_at) hisR ?_
  intro p e s m args below meth c s₁ Bd hml0 hP hK
  obtain ⟨rfl, hZ, hh⟩ := hP
  have hx := Bd.exec
  have hby := Bd.bytes
  have hlk : meth.locks = false := Bd.notSynchronized
  have hml : c.maxLocals = 2 := hml0
  have hown : s.vm.findClass "com/example/quarry/quarry/text/Labels" = some m.cls := findClass_of_methodNamed Bd.named
  have hnm := (name_of_methodNamed Bd.named Bd.method).1
  have X0 : Stand p l e ({ frames := 0, cells := 0, slots := 0, locals := 0 } : Room) s m #[(.ref a), (.int j)] below meth c s₁ [] 0 0 := Stand.of_body Bd
  have e0 : s₁.heap = h0 := by rw [← hh, Bd.state]; rfl
  have N0 := Fr.nil n0
  show Goes p e below (EndQ s (Q_at Z a b k N (j :: xs) h0 n0) ({ frames := 0, cells := 0, slots := 0, locals := 0 } : Room).cells ({ frames := 0, cells := 0, slots := 0, locals := 0 } : Room).slots) (s₁.setTop (entryFrame m #[(.ref a), (.int j)] 2))
  refine Goes.pre (S' := (s₁.setTop (mkF m 0 #[.val (.ref a), .val (.int j)] []))) (fun t k => castTop (ef_at m a j) k) ?_
  refine Goes.pre (S' := (s₁.setTop (mkF m 1 #[.val (.ref a), .val (.int j)] [(.ref a)]))) (fun _ k => XS.aloadN X0.here hx rfl (hb hby dat_0) rfl rfl k) ?_
  obtain ⟨T1, X1, e1, st1⟩ := getF X0 hx hZ hown (host := "") (Or.inl (hw _ (List.mem_of_getElem? (i := 12) rfl))) Via.refl e0 F1 (g := (mkF m 1 #[.val (.ref a), .val (.int j)] [(.ref a)])) rfl rfl (hb hby dat_1)
  refine Goes.pre (S' := (T1.setTop (mkF m 4 #[.val (.ref a), .val (.int j)] [(.ref b)]))) st1 ?_
  refine Goes.pre (S' := (T1.setTop (mkF m 5 #[.val (.ref a), .val (.int j)] [(.int j), (.ref b)]))) (fun _ k => XS.iloadN X1.here hx rfl (hb hby dat_4) rfl k) ?_
  refine Goes.pre (S' := (T1.setTop (mkF m 6 #[.val (.ref a), .val (.int j)] [(.int (1 : Int32)), (.int j), (.ref b)]))) (fun _ k => XS.iconst X1.here hx rfl (hb hby dat_5) k) ?_
  obtain ⟨cl2, Ar2, q2, S2, M2, H2, G2⟩ := V
  obtain ⟨T2, h2, X2, e2, W2, st2⟩ := stZ X1 hx hZ e1 Ar2 (j := j) (inb_of S2 hj) (g := (mkF m 6 #[.val (.ref a), .val (.int j)] [(.int (1 : Int32)), (.int j), (.ref b)])) rfl rfl (hb hby dat_6)
  have VV2 := Arh.push Ar2 q2 S2 M2 H2 G2 (fits_nar_bool 1) W2 (inb_of S2 hj)
  have N2 := Fr.snoc X2 N0 gb
  refine Goes.pre (S' := (T2.setTop (mkF m 7 #[.val (.ref a), .val (.int j)] []))) st2 ?_
  exact Goes.retV X2 hx hlk Bd.returns (hb hby dat_7) (by rw [e2]; exact ⟨rfl, N2, Keep.of_wr W2, F1.other W2 (Or.inl hab), VV2⟩) (by first | decide | exact Nat.le_of_ble_eq_true rfl | assumption | (simp [Value.category]; done)) (by first | decide | exact Nat.le_of_ble_eq_true rfl | assumption | (simp [Value.category]; done))
theorem dip_0 : decode prog_88_method_3_code 0 = .ok (.lload_n 1, 1) := by decide +kernel
theorem dip_1 : decode prog_88_method_3_code 1 = .ok (.lconst 0, 1) := by decide +kernel
theorem dip_2 : decode prog_88_method_3_code 2 = .ok (.lcmp, 1) := by decide +kernel
theorem dip_3 : decode prog_88_method_3_code 3 = .ok (.ifCond .lt 28, 3) := by decide +kernel
theorem dip_6 : decode prog_88_method_3_code 6 = .ok (.lload_n 1, 1) := by decide +kernel
theorem dip_7 : decode prog_88_method_3_code 7 = .ok (.aload_n 0, 1) := by decide +kernel
theorem dip_8 : decode prog_88_method_3_code 8 = .ok (.getfield 7, 3) := by decide +kernel
theorem dip_11 : decode prog_88_method_3_code 11 = .ok (.arraylength, 1) := by decide +kernel
theorem dip_12 : decode prog_88_method_3_code 12 = .ok (.i2l, 1) := by decide +kernel
theorem dip_13 : decode prog_88_method_3_code 13 = .ok (.lcmp, 1) := by decide +kernel
theorem dip_14 : decode prog_88_method_3_code 14 = .ok (.ifCond .ge 17, 3) := by decide +kernel
theorem dip_17 : decode prog_88_method_3_code 17 = .ok (.aload_n 0, 1) := by decide +kernel
theorem dip_18 : decode prog_88_method_3_code 18 = .ok (.getfield 7, 3) := by decide +kernel
theorem dip_21 : decode prog_88_method_3_code 21 = .ok (.lload_n 1, 1) := by decide +kernel
theorem dip_22 : decode prog_88_method_3_code 22 = .ok (.l2i, 1) := by decide +kernel
theorem dip_23 : decode prog_88_method_3_code 23 = .ok (.baload, 1) := by decide +kernel
theorem dip_24 : decode prog_88_method_3_code 24 = .ok (.ifCond .eq 7, 3) := by decide +kernel
theorem dip_27 : decode prog_88_method_3_code 27 = .ok (.iconst 1, 1) := by decide +kernel
theorem dip_28 : decode prog_88_method_3_code 28 = .ok (.goto 4, 3) := by decide +kernel
theorem dip_31 : decode prog_88_method_3_code 31 = .ok (.iconst 0, 1) := by decide +kernel
theorem dip_32 : decode prog_88_method_3_code 32 = .ok (.ireturn, 1) := by decide +kernel
theorem pd_ip : parseMethodDescriptor "(J)Z" = some ⟨[.long], some .boolean⟩ := by decide +kernel
theorem pn_ip : plainName "com/example/quarry/quarry/text/Labels" = true := by first | (simp [plainName, overriddenIn]; done) | decide +kernel
def Q_ip (N : Int32) (xs : List Int32) (x : Int64) (h0 : Heap) (n0 : Nat) (v : Option Value) (h : Heap) (L : List Loc) : Prop := ((v = some (.int 1) ∧ own_pl N xs x) ∨ (v = some (.int 0) ∧ ¬ own_pl N xs x)) ∧ Fr n0 L ∧ h = h0
theorem ef_ip (m : MethodId) (a : Addr) (x : Int64) : entryFrame m #[(.ref a), (.long x)] 3 = mkF m 0 #[.val (.ref a), .val (.long x), .second] [] := by first | (simp [entryFrame, mkF, argsToLocals, Value.category]; done) | rfl
set_option maxRecDepth 65536 in
set_option maxHeartbeats 40000000 in
theorem rm_ip (l : Launch) (Z : State) (a0 : Array Value) (hw : ∀ d ∈ tables_1, d.before a0 Z = true) (ws : List Jvm.Cond) (a : Addr) (x : Int64) (b : Addr) (k : ClassId) (N : Int32) (xs : List Int32) (h0 : Heap) (n0 : Nat) (Z0 : n0 ≤ h0.size) (F1 : Fld Z h0 a "com/example/quarry/quarry/text/Labels" "places" "[Z" (.ref b)) (V : Arh Z h0 b k .boolean N (xs.map fun j => (j, .int 1)) [] (.int 0)) :
    Ctr l Z (⟨"com/example/quarry/quarry/text/Labels", "isPlace", "(J)Z"⟩ : MethodName) prog_88_method_3_code 3 (some .boolean) ws ({ frames := 0, cells := 0, slots := 0, locals := 0 } : Room) #[(.ref a), (.long x)] h0 (Q_ip N xs x h0 n0) := by
  refine MetFree.of_bodySF (plainFor_of_name pn_ip) hisR ?_
  intro p e s m args below meth c s₁ Bd hml0 hP hK
  obtain ⟨rfl, hZ, hh⟩ := hP
  have hx := Bd.exec
  have hby := Bd.bytes
  have hlk : meth.locks = false := Bd.notSynchronized
  have hml : c.maxLocals = 3 := hml0
  have hown : s.vm.findClass "com/example/quarry/quarry/text/Labels" = some m.cls := findClass_of_methodNamed Bd.named
  have hnm := (name_of_methodNamed Bd.named Bd.method).1
  have X0 : Stand p l e ({ frames := 0, cells := 0, slots := 0, locals := 0 } : Room) s m #[(.ref a), (.long x)] below meth c s₁ [] 0 0 := Stand.of_body Bd
  have e0 : s₁.heap = h0 := by rw [← hh, Bd.state]; rfl
  have N0 := Fr.nil n0
  show Goes p e below (EndQ s (Q_ip N xs x h0 n0) ({ frames := 0, cells := 0, slots := 0, locals := 0 } : Room).cells ({ frames := 0, cells := 0, slots := 0, locals := 0 } : Room).slots) (s₁.setTop (entryFrame m #[(.ref a), (.long x)] 3))
  refine Goes.pre (S' := (s₁.setTop (mkF m 0 #[.val (.ref a), .val (.long x), .second] []))) (fun t k => castTop (ef_ip m a x) k) ?_
  refine Goes.pre (S' := (s₁.setTop (mkF m 1 #[.val (.ref a), .val (.long x), .second] [(.long x)]))) (fun _ k => XT.lloadN X0.here hx rfl (hb hby dip_0) rfl k) ?_
  refine Goes.pre (S' := (s₁.setTop (mkF m 2 #[.val (.ref a), .val (.long x), .second] [(.long (0 : Int64)), (.long x)]))) (fun _ k => XT.lconst X0.here hx rfl (hb hby dip_1) k) ?_
  refine Goes.pre (S' := (s₁.setTop (mkF m 3 #[.val (.ref a), .val (.long x), .second] [(.int (XT.cmpL x (0 : Int64)))]))) (fun _ k => XT.lcmp X0.here hx rfl (hb hby dip_2) rfl k) ?_
  by_cases c3 : x < (0 : Int64)
  · skip
    refine Goes.pre (S' := (s₁.setTop (mkF m 31 #[.val (.ref a), .val (.long x), .second] []))) (fun _ k => XS.ifYes X0.here hx rfl (pc0 := 3) (pc' := 31) rfl (hb hby dip_3) rfl (XT.ll_lt_t c3) (by decide) (by decide) k) ?_
    refine Goes.pre (S' := (s₁.setTop (mkF m 32 #[.val (.ref a), .val (.long x), .second] [(.int (0 : Int32))]))) (fun _ k => XS.iconst X0.here hx rfl (hb hby dip_31) k) ?_
    exact Goes.retN X0 hx hlk (t := .boolean) Bd.returns (by simp) (hb hby dip_32) ⟨Or.inr ⟨rfl, fun q => q.1 c3⟩, N0, e0⟩ (by first | decide | exact Nat.le_of_ble_eq_true rfl | assumption | (simp [Value.category]; done)) (by first | decide | exact Nat.le_of_ble_eq_true rfl | assumption | (simp [Value.category]; done))
  · skip
    refine Goes.pre (S' := (s₁.setTop (mkF m 6 #[.val (.ref a), .val (.long x), .second] []))) (fun _ k => XS.ifNo X0.here hx rfl (hb hby dip_3) rfl (XT.ll_lt_f c3) k) ?_
    refine Goes.pre (S' := (s₁.setTop (mkF m 7 #[.val (.ref a), .val (.long x), .second] [(.long x)]))) (fun _ k => XT.lloadN X0.here hx rfl (hb hby dip_6) rfl k) ?_
    refine Goes.pre (S' := (s₁.setTop (mkF m 8 #[.val (.ref a), .val (.long x), .second] [(.ref a), (.long x)]))) (fun _ k => XS.aloadN X0.here hx rfl (hb hby dip_7) rfl rfl k) ?_
    obtain ⟨T1, X1, e1, st1⟩ := getF X0 hx hZ hown (host := "") (Or.inl (hw _ (List.mem_of_getElem? (i := 12) rfl))) Via.refl e0 F1 (g := (mkF m 8 #[.val (.ref a), .val (.long x), .second] [(.ref a), (.long x)])) rfl rfl (hb hby dip_8)
    refine Goes.pre (S' := (T1.setTop (mkF m 11 #[.val (.ref a), .val (.long x), .second] [(.ref b), (.long x)]))) st1 ?_
    have V2 := V
    obtain ⟨cl, Ar, kc, Sz, M, H, G⟩ := V
    refine Goes.pre (S' := (T1.setTop (mkF m 12 #[.val (.ref a), .val (.long x), .second] [(.int N), (.long x)]))) (fun t kk => X1.arraylength hx (cell := cl) (by rw [e1]; exact Ar.1) (State.isArrayOf_alike hZ.alike Ar.2.1) (g := (mkF m 11 #[.val (.ref a), .val (.long x), .second] [(.ref b), (.long x)])) rfl rfl (hb hby dip_11) t (by rw [len_of Sz M]; exact kk)) ?_
    refine Goes.pre (S' := (T1.setTop (mkF m 13 #[.val (.ref a), .val (.long x), .second] [(.long (N).toInt64), (.long x)]))) (fun _ k => XT.i2l X1.here hx rfl (hb hby dip_12) rfl k) ?_
    refine Goes.pre (S' := (T1.setTop (mkF m 14 #[.val (.ref a), .val (.long x), .second] [(.int (XT.cmpL x (N).toInt64))]))) (fun _ k => XT.lcmp X1.here hx rfl (hb hby dip_13) rfl k) ?_
    by_cases c14 : x < (N).toInt64
    · skip
      refine Goes.pre (S' := (T1.setTop (mkF m 17 #[.val (.ref a), .val (.long x), .second] []))) (fun _ k => XS.ifNo X1.here hx rfl (hb hby dip_14) rfl (XT.ll_ge_f c14) k) ?_
      refine Goes.pre (S' := (T1.setTop (mkF m 18 #[.val (.ref a), .val (.long x), .second] [(.ref a)]))) (fun _ k => XS.aloadN X1.here hx rfl (hb hby dip_17) rfl rfl k) ?_
      obtain ⟨T2, X2, e2, st2⟩ := getF X1 hx hZ hown (host := "") (Or.inl (hw _ (List.mem_of_getElem? (i := 12) rfl))) Via.refl e1 F1 (g := (mkF m 18 #[.val (.ref a), .val (.long x), .second] [(.ref a)])) rfl rfl (hb hby dip_18)
      refine Goes.pre (S' := (T2.setTop (mkF m 21 #[.val (.ref a), .val (.long x), .second] [(.ref b)]))) st2 ?_
      refine Goes.pre (S' := (T2.setTop (mkF m 22 #[.val (.ref a), .val (.long x), .second] [(.long x), (.ref b)]))) (fun _ k => XT.lloadN X2.here hx rfl (hb hby dip_21) rfl k) ?_
      refine Goes.pre (S' := (T2.setTop (mkF m 23 #[.val (.ref a), .val (.long x), .second] [(.int (x).toInt32), (.ref b)]))) (fun _ k => XT.l2i X2.here hx rfl (hb hby dip_22) rfl k) ?_
      obtain ⟨ix, h32, h3N⟩ := own_idx c3 c14
      obtain ⟨z, hz, hzz⟩ := own_getH xs (x.toInt32).toNatClampNeg
      have hin := inb_of Sz (j := (x).toInt32) ⟨h32, h3N⟩
      refine Goes.pre (S' := (T2.setTop (mkF m 24 #[.val (.ref a), .val (.long x), .second] [(.int z)]))) (fun t kk => X2.baloadBooleans hx (j := (x).toInt32) (v := .int z) (by rw [e2]; exact Ar.1) (State.isArrayOf_alike hZ.alike Ar.2.1) Ar.2.2 hin (atH H hin hz) (g := (mkF m 23 #[.val (.ref a), .val (.long x), .second] [(.int (x).toInt32), (.ref b)])) rfl rfl (hb hby dip_23) t kk) ?_
      have hp : own_pl N xs x ↔ ¬ z = 0 := by
        rw [hzz, own_clamp h32, ix]
        exact ⟨fun q => by obtain ⟨j, a1, a2⟩ := q.2.2; exact ⟨j, a1, own_64.mp a2⟩, fun ⟨j, a1, a2⟩ => ⟨c3, c14, j, a1, own_64.mpr a2⟩⟩
      by_cases c24 : z = 0
      · skip
        refine Goes.pre (S' := (T2.setTop (mkF m 31 #[.val (.ref a), .val (.long x), .second] []))) (fun _ k => XS.ifYes X2.here hx rfl (pc0 := 24) (pc' := 31) rfl (hb hby dip_24) rfl (XT.i0_eq_t c24) (by decide) (by decide) k) ?_
        refine Goes.pre (S' := (T2.setTop (mkF m 32 #[.val (.ref a), .val (.long x), .second] [(.int (0 : Int32))]))) (fun _ k => XS.iconst X2.here hx rfl (hb hby dip_31) k) ?_
        exact Goes.retN X2 hx hlk (t := .boolean) Bd.returns (by simp) (hb hby dip_32) ⟨Or.inr ⟨rfl, fun q => (hp.mp q) c24⟩, N0, e2⟩ (by first | decide | exact Nat.le_of_ble_eq_true rfl | assumption | (simp [Value.category]; done)) (by first | decide | exact Nat.le_of_ble_eq_true rfl | assumption | (simp [Value.category]; done))
      · skip
        refine Goes.pre (S' := (T2.setTop (mkF m 27 #[.val (.ref a), .val (.long x), .second] []))) (fun _ k => XS.ifNo X2.here hx rfl (hb hby dip_24) rfl (XT.i0_eq_f c24) k) ?_
        refine Goes.pre (S' := (T2.setTop (mkF m 28 #[.val (.ref a), .val (.long x), .second] [(.int (1 : Int32))]))) (fun _ k => XS.iconst X2.here hx rfl (hb hby dip_27) k) ?_
        refine Goes.pre (S' := (T2.setTop (mkF m 32 #[.val (.ref a), .val (.long x), .second] [(.int (1 : Int32))]))) (fun _ k => XS.goto X2.here hx rfl (pc0 := 28) (pc' := 32) rfl (hb hby dip_28) (by decide) (by decide) k) ?_
        exact Goes.retN X2 hx hlk (t := .boolean) Bd.returns (by simp) (hb hby dip_32) ⟨Or.inl ⟨rfl, hp.mpr c24⟩, N0, e2⟩ (by first | decide | exact Nat.le_of_ble_eq_true rfl | assumption | (simp [Value.category]; done)) (by first | decide | exact Nat.le_of_ble_eq_true rfl | assumption | (simp [Value.category]; done))
    · skip
      refine Goes.pre (S' := (T1.setTop (mkF m 31 #[.val (.ref a), .val (.long x), .second] []))) (fun _ k => XS.ifYes X1.here hx rfl (pc0 := 14) (pc' := 31) rfl (hb hby dip_14) rfl (XT.ll_ge_t c14) (by decide) (by decide) k) ?_
      refine Goes.pre (S' := (T1.setTop (mkF m 32 #[.val (.ref a), .val (.long x), .second] [(.int (0 : Int32))]))) (fun _ k => XS.iconst X1.here hx rfl (hb hby dip_31) k) ?_
      exact Goes.retN X1 hx hlk (t := .boolean) Bd.returns (by simp) (hb hby dip_32) ⟨Or.inr ⟨rfl, fun q => c14 q.2.1⟩, N0, e1⟩ (by first | decide | exact Nat.le_of_ble_eq_true rfl | assumption | (simp [Value.category]; done)) (by first | decide | exact Nat.le_of_ble_eq_true rfl | assumption | (simp [Value.category]; done))
theorem dex_0 : decode method_2_code 0 = .ok (.lload 5, 2) := by decide +kernel
theorem dex_2 : decode method_2_code 2 = .ok (.lconst 0, 1) := by decide +kernel
theorem dex_3 : decode method_2_code 3 = .ok (.lcmp, 1) := by decide +kernel
theorem dex_4 : decode method_2_code 4 = .ok (.ifCond .ge 5, 3) := by decide +kernel
theorem dex_7 : decode method_2_code 7 = .ok (.iconst 0, 1) := by decide +kernel
theorem dex_8 : decode method_2_code 8 = .ok (.ireturn, 1) := by decide +kernel
theorem dex_9 : decode method_2_code 9 = .ok (.lload 5, 2) := by decide +kernel
theorem dex_11 : decode method_2_code 11 = .ok (.iload_n 0, 1) := by decide +kernel
theorem dex_12 : decode method_2_code 12 = .ok (.i2l, 1) := by decide +kernel
theorem dex_13 : decode method_2_code 13 = .ok (.lcmp, 1) := by decide +kernel
theorem dex_14 : decode method_2_code 14 = .ok (.ifCond .le 5, 3) := by decide +kernel
theorem dex_17 : decode method_2_code 17 = .ok (.iconst 0, 1) := by decide +kernel
theorem dex_18 : decode method_2_code 18 = .ok (.ireturn, 1) := by decide +kernel
theorem dex_19 : decode method_2_code 19 = .ok (.lload 5, 2) := by decide +kernel
theorem dex_21 : decode method_2_code 21 = .ok (.iload_n 0, 1) := by decide +kernel
theorem dex_22 : decode method_2_code 22 = .ok (.i2l, 1) := by decide +kernel
theorem dex_23 : decode method_2_code 23 = .ok (.lcmp, 1) := by decide +kernel
theorem dex_24 : decode method_2_code 24 = .ok (.ifCond .ne 5, 3) := by decide +kernel
theorem dex_27 : decode method_2_code 27 = .ok (.iconst 1, 1) := by decide +kernel
theorem dex_28 : decode method_2_code 28 = .ok (.ireturn, 1) := by decide +kernel
theorem dex_29 : decode method_2_code 29 = .ok (.iload_n 1, 1) := by decide +kernel
theorem dex_30 : decode method_2_code 30 = .ok (.ifCond .eq 13, 3) := by decide +kernel
theorem dex_33 : decode method_2_code 33 = .ok (.lload 5, 2) := by decide +kernel
theorem dex_35 : decode method_2_code 35 = .ok (.iload_n 2, 1) := by decide +kernel
theorem dex_36 : decode method_2_code 36 = .ok (.i2l, 1) := by decide +kernel
theorem dex_37 : decode method_2_code 37 = .ok (.lcmp, 1) := by decide +kernel
theorem dex_38 : decode method_2_code 38 = .ok (.ifCond .ne 5, 3) := by decide +kernel
theorem dex_41 : decode method_2_code 41 = .ok (.iconst 1, 1) := by decide +kernel
theorem dex_42 : decode method_2_code 42 = .ok (.ireturn, 1) := by decide +kernel
theorem dex_43 : decode method_2_code 43 = .ok (.iload_n 3, 1) := by decide +kernel
theorem dex_44 : decode method_2_code 44 = .ok (.ifCond .eq 14, 3) := by decide +kernel
theorem dex_47 : decode method_2_code 47 = .ok (.lload 5, 2) := by decide +kernel
theorem dex_49 : decode method_2_code 49 = .ok (.iload 4, 2) := by decide +kernel
theorem dex_51 : decode method_2_code 51 = .ok (.i2l, 1) := by decide +kernel
theorem dex_52 : decode method_2_code 52 = .ok (.lcmp, 1) := by decide +kernel
theorem dex_53 : decode method_2_code 53 = .ok (.ifCond .ne 5, 3) := by decide +kernel
theorem dex_56 : decode method_2_code 56 = .ok (.iconst 1, 1) := by decide +kernel
theorem dex_57 : decode method_2_code 57 = .ok (.ireturn, 1) := by decide +kernel
theorem dex_58 : decode method_2_code 58 = .ok (.iconst 0, 1) := by decide +kernel
theorem dex_59 : decode method_2_code 59 = .ok (.ireturn, 1) := by decide +kernel
theorem pd_ex : parseMethodDescriptor "(IZIZIJ)Z" = some ⟨[.int, .boolean, .int, .boolean, .int, .long], some .boolean⟩ := by decide +kernel
theorem pn_ex : plainName "com/example/quarry/quarry/text/LabelsIsPlacePinLaw" = true := by first | (simp [plainName, overriddenIn]; done) | decide +kernel
def Q_ex (n m1 a m2 b : Int32) (x : Int64) (h0 : Heap) (n0 : Nat) (v : Option Value) (h : Heap) (L : List Loc) : Prop := ((v = some (.int 1) ∧ own_ex n m1 a m2 b x) ∨ (v = some (.int 0) ∧ ¬ own_ex n m1 a m2 b x)) ∧ Fr n0 L ∧ h = h0
theorem ef_ex (m : MethodId) (n : Int32) (m1 : Int32) (a : Int32) (m2 : Int32) (b : Int32) (x : Int64) : entryFrame m #[(.int n), (.int m1), (.int a), (.int m2), (.int b), (.long x)] 7 = mkF m 0 #[.val (.int n), .val (.int m1), .val (.int a), .val (.int m2), .val (.int b), .val (.long x), .second] [] := by first | (simp [entryFrame, mkF, argsToLocals, Value.category]; done) | rfl
set_option maxRecDepth 65536 in
set_option maxHeartbeats 40000000 in
theorem rm_ex (l : Launch) (Z : State) (a0 : Array Value) (hw : ∀ d ∈ tables_1, d.before a0 Z = true) (ws : List Jvm.Cond) (n : Int32) (m1 : Int32) (a : Int32) (m2 : Int32) (b : Int32) (x : Int64)  (h0 : Heap) (n0 : Nat) (Z0 : n0 ≤ h0.size)  :
    Ctr l Z (⟨"com/example/quarry/quarry/text/LabelsIsPlacePinLaw", "expected", "(IZIZIJ)Z"⟩ : MethodName) method_2_code 7 (some .boolean) ws ({ frames := 0, cells := 0, slots := 0, locals := 0 } : Room) #[(.int n), (.int m1), (.int a), (.int m2), (.int b), (.long x)] h0 (Q_ex n m1 a m2 b x h0 n0) := by
  refine MetFree.of_bodySF (plainFor_of_name pn_ex) hisR ?_
  intro p e s m args below meth c s₁ Bd hml0 hP hK
  obtain ⟨rfl, hZ, hh⟩ := hP
  have hx := Bd.exec
  have hby := Bd.bytes
  have hlk : meth.locks = false := Bd.notSynchronized
  have hml : c.maxLocals = 7 := hml0
  have hown : s.vm.findClass "com/example/quarry/quarry/text/LabelsIsPlacePinLaw" = some m.cls := findClass_of_methodNamed Bd.named
  have hnm := (name_of_methodNamed Bd.named Bd.method).1
  have X0 : Stand p l e ({ frames := 0, cells := 0, slots := 0, locals := 0 } : Room) s m #[(.int n), (.int m1), (.int a), (.int m2), (.int b), (.long x)] below meth c s₁ [] 0 0 := Stand.of_body Bd
  have e0 : s₁.heap = h0 := by rw [← hh, Bd.state]; rfl
  have N0 := Fr.nil n0
  show Goes p e below (EndQ s (Q_ex n m1 a m2 b x h0 n0) ({ frames := 0, cells := 0, slots := 0, locals := 0 } : Room).cells ({ frames := 0, cells := 0, slots := 0, locals := 0 } : Room).slots) (s₁.setTop (entryFrame m #[(.int n), (.int m1), (.int a), (.int m2), (.int b), (.long x)] 7))
  refine Goes.pre (S' := (s₁.setTop (mkF m 0 #[.val (.int n), .val (.int m1), .val (.int a), .val (.int m2), .val (.int b), .val (.long x), .second] []))) (fun t k => castTop (ef_ex m n m1 a m2 b x) k) ?_
  refine Goes.pre (S' := (s₁.setTop (mkF m 2 #[.val (.int n), .val (.int m1), .val (.int a), .val (.int m2), .val (.int b), .val (.long x), .second] [(.long x)]))) (fun _ k => XT.lload X0.here hx rfl (hb hby dex_0) rfl k) ?_
  refine Goes.pre (S' := (s₁.setTop (mkF m 3 #[.val (.int n), .val (.int m1), .val (.int a), .val (.int m2), .val (.int b), .val (.long x), .second] [(.long (0 : Int64)), (.long x)]))) (fun _ k => XT.lconst X0.here hx rfl (hb hby dex_2) k) ?_
  refine Goes.pre (S' := (s₁.setTop (mkF m 4 #[.val (.int n), .val (.int m1), .val (.int a), .val (.int m2), .val (.int b), .val (.long x), .second] [(.int (XT.cmpL x (0 : Int64)))]))) (fun _ k => XT.lcmp X0.here hx rfl (hb hby dex_3) rfl k) ?_
  by_cases c4 : x < (0 : Int64)
  · skip
    refine Goes.pre (S' := (s₁.setTop (mkF m 7 #[.val (.int n), .val (.int m1), .val (.int a), .val (.int m2), .val (.int b), .val (.long x), .second] []))) (fun _ k => XS.ifNo X0.here hx rfl (hb hby dex_4) rfl (XT.ll_ge_f c4) k) ?_
    refine Goes.pre (S' := (s₁.setTop (mkF m 8 #[.val (.int n), .val (.int m1), .val (.int a), .val (.int m2), .val (.int b), .val (.long x), .second] [(.int (0 : Int32))]))) (fun _ k => XS.iconst X0.here hx rfl (hb hby dex_7) k) ?_
    have hf : ¬ own_ex n m1 a m2 b x := fun q => q.1 c4
    exact Goes.retN X0 hx hlk (t := .boolean) Bd.returns (by simp) (hb hby dex_8) ⟨Or.inr ⟨rfl, hf⟩, N0, e0⟩ (by first | decide | exact Nat.le_of_ble_eq_true rfl | assumption | (simp [Value.category]; done)) (by first | decide | exact Nat.le_of_ble_eq_true rfl | assumption | (simp [Value.category]; done))
  · skip
    refine Goes.pre (S' := (s₁.setTop (mkF m 9 #[.val (.int n), .val (.int m1), .val (.int a), .val (.int m2), .val (.int b), .val (.long x), .second] []))) (fun _ k => XS.ifYes X0.here hx rfl (pc0 := 4) (pc' := 9) rfl (hb hby dex_4) rfl (XT.ll_ge_t c4) (by decide) (by decide) k) ?_
    refine Goes.pre (S' := (s₁.setTop (mkF m 11 #[.val (.int n), .val (.int m1), .val (.int a), .val (.int m2), .val (.int b), .val (.long x), .second] [(.long x)]))) (fun _ k => XT.lload X0.here hx rfl (hb hby dex_9) rfl k) ?_
    refine Goes.pre (S' := (s₁.setTop (mkF m 12 #[.val (.int n), .val (.int m1), .val (.int a), .val (.int m2), .val (.int b), .val (.long x), .second] [(.int n), (.long x)]))) (fun _ k => XS.iloadN X0.here hx rfl (hb hby dex_11) rfl k) ?_
    refine Goes.pre (S' := (s₁.setTop (mkF m 13 #[.val (.int n), .val (.int m1), .val (.int a), .val (.int m2), .val (.int b), .val (.long x), .second] [(.long (n).toInt64), (.long x)]))) (fun _ k => XT.i2l X0.here hx rfl (hb hby dex_12) rfl k) ?_
    refine Goes.pre (S' := (s₁.setTop (mkF m 14 #[.val (.int n), .val (.int m1), .val (.int a), .val (.int m2), .val (.int b), .val (.long x), .second] [(.int (XT.cmpL x (n).toInt64))]))) (fun _ k => XT.lcmp X0.here hx rfl (hb hby dex_13) rfl k) ?_
    by_cases c14 : (n).toInt64 < x
    · skip
      refine Goes.pre (S' := (s₁.setTop (mkF m 17 #[.val (.int n), .val (.int m1), .val (.int a), .val (.int m2), .val (.int b), .val (.long x), .second] []))) (fun _ k => XS.ifNo X0.here hx rfl (hb hby dex_14) rfl (XT.ll_le_f c14) k) ?_
      refine Goes.pre (S' := (s₁.setTop (mkF m 18 #[.val (.int n), .val (.int m1), .val (.int a), .val (.int m2), .val (.int b), .val (.long x), .second] [(.int (0 : Int32))]))) (fun _ k => XS.iconst X0.here hx rfl (hb hby dex_17) k) ?_
      have hf : ¬ own_ex n m1 a m2 b x := fun q => q.2.1 c14
      exact Goes.retN X0 hx hlk (t := .boolean) Bd.returns (by simp) (hb hby dex_18) ⟨Or.inr ⟨rfl, hf⟩, N0, e0⟩ (by first | decide | exact Nat.le_of_ble_eq_true rfl | assumption | (simp [Value.category]; done)) (by first | decide | exact Nat.le_of_ble_eq_true rfl | assumption | (simp [Value.category]; done))
    · skip
      refine Goes.pre (S' := (s₁.setTop (mkF m 19 #[.val (.int n), .val (.int m1), .val (.int a), .val (.int m2), .val (.int b), .val (.long x), .second] []))) (fun _ k => XS.ifYes X0.here hx rfl (pc0 := 14) (pc' := 19) rfl (hb hby dex_14) rfl (XT.ll_le_t c14) (by decide) (by decide) k) ?_
      refine Goes.pre (S' := (s₁.setTop (mkF m 21 #[.val (.int n), .val (.int m1), .val (.int a), .val (.int m2), .val (.int b), .val (.long x), .second] [(.long x)]))) (fun _ k => XT.lload X0.here hx rfl (hb hby dex_19) rfl k) ?_
      refine Goes.pre (S' := (s₁.setTop (mkF m 22 #[.val (.int n), .val (.int m1), .val (.int a), .val (.int m2), .val (.int b), .val (.long x), .second] [(.int n), (.long x)]))) (fun _ k => XS.iloadN X0.here hx rfl (hb hby dex_21) rfl k) ?_
      refine Goes.pre (S' := (s₁.setTop (mkF m 23 #[.val (.int n), .val (.int m1), .val (.int a), .val (.int m2), .val (.int b), .val (.long x), .second] [(.long (n).toInt64), (.long x)]))) (fun _ k => XT.i2l X0.here hx rfl (hb hby dex_22) rfl k) ?_
      refine Goes.pre (S' := (s₁.setTop (mkF m 24 #[.val (.int n), .val (.int m1), .val (.int a), .val (.int m2), .val (.int b), .val (.long x), .second] [(.int (XT.cmpL x (n).toInt64))]))) (fun _ k => XT.lcmp X0.here hx rfl (hb hby dex_23) rfl k) ?_
      by_cases c24 : x = (n).toInt64
      · skip
        refine Goes.pre (S' := (s₁.setTop (mkF m 27 #[.val (.int n), .val (.int m1), .val (.int a), .val (.int m2), .val (.int b), .val (.long x), .second] []))) (fun _ k => XS.ifNo X0.here hx rfl (hb hby dex_24) rfl (XT.ll_ne_f c24) k) ?_
        refine Goes.pre (S' := (s₁.setTop (mkF m 28 #[.val (.int n), .val (.int m1), .val (.int a), .val (.int m2), .val (.int b), .val (.long x), .second] [(.int (1 : Int32))]))) (fun _ k => XS.iconst X0.here hx rfl (hb hby dex_27) k) ?_
        have hf : own_ex n m1 a m2 b x := ⟨c4, c14, Or.inl c24⟩
        exact Goes.retN X0 hx hlk (t := .boolean) Bd.returns (by simp) (hb hby dex_28) ⟨Or.inl ⟨rfl, hf⟩, N0, e0⟩ (by first | decide | exact Nat.le_of_ble_eq_true rfl | assumption | (simp [Value.category]; done)) (by first | decide | exact Nat.le_of_ble_eq_true rfl | assumption | (simp [Value.category]; done))
      · skip
        refine Goes.pre (S' := (s₁.setTop (mkF m 29 #[.val (.int n), .val (.int m1), .val (.int a), .val (.int m2), .val (.int b), .val (.long x), .second] []))) (fun _ k => XS.ifYes X0.here hx rfl (pc0 := 24) (pc' := 29) rfl (hb hby dex_24) rfl (XT.ll_ne_t c24) (by decide) (by decide) k) ?_
        refine Goes.pre (S' := (s₁.setTop (mkF m 30 #[.val (.int n), .val (.int m1), .val (.int a), .val (.int m2), .val (.int b), .val (.long x), .second] [(.int m1)]))) (fun _ k => XS.iloadN X0.here hx rfl (hb hby dex_29) rfl k) ?_
        by_cases c30 : m1 = 0
        · skip
          refine Goes.pre (S' := (s₁.setTop (mkF m 43 #[.val (.int n), .val (.int m1), .val (.int a), .val (.int m2), .val (.int b), .val (.long x), .second] []))) (fun _ k => XS.ifYes X0.here hx rfl (pc0 := 30) (pc' := 43) rfl (hb hby dex_30) rfl (XT.i0_eq_t c30) (by decide) (by decide) k) ?_
          refine Goes.pre (S' := (s₁.setTop (mkF m 44 #[.val (.int n), .val (.int m1), .val (.int a), .val (.int m2), .val (.int b), .val (.long x), .second] [(.int m2)]))) (fun _ k => XS.iloadN X0.here hx rfl (hb hby dex_43) rfl k) ?_
          by_cases c44 : m2 = 0
          · skip
            refine Goes.pre (S' := (s₁.setTop (mkF m 58 #[.val (.int n), .val (.int m1), .val (.int a), .val (.int m2), .val (.int b), .val (.long x), .second] []))) (fun _ k => XS.ifYes X0.here hx rfl (pc0 := 44) (pc' := 58) rfl (hb hby dex_44) rfl (XT.i0_eq_t c44) (by decide) (by decide) k) ?_
            refine Goes.pre (S' := (s₁.setTop (mkF m 59 #[.val (.int n), .val (.int m1), .val (.int a), .val (.int m2), .val (.int b), .val (.long x), .second] [(.int (0 : Int32))]))) (fun _ k => XS.iconst X0.here hx rfl (hb hby dex_58) k) ?_
            have hf : ¬ own_ex n m1 a m2 b x := fun q => q.2.2.elim c24 (fun q => q.elim (fun q => q.1 c30) (fun q => q.1 c44))
            exact Goes.retN X0 hx hlk (t := .boolean) Bd.returns (by simp) (hb hby dex_59) ⟨Or.inr ⟨rfl, hf⟩, N0, e0⟩ (by first | decide | exact Nat.le_of_ble_eq_true rfl | assumption | (simp [Value.category]; done)) (by first | decide | exact Nat.le_of_ble_eq_true rfl | assumption | (simp [Value.category]; done))
          · skip
            refine Goes.pre (S' := (s₁.setTop (mkF m 47 #[.val (.int n), .val (.int m1), .val (.int a), .val (.int m2), .val (.int b), .val (.long x), .second] []))) (fun _ k => XS.ifNo X0.here hx rfl (hb hby dex_44) rfl (XT.i0_eq_f c44) k) ?_
            refine Goes.pre (S' := (s₁.setTop (mkF m 49 #[.val (.int n), .val (.int m1), .val (.int a), .val (.int m2), .val (.int b), .val (.long x), .second] [(.long x)]))) (fun _ k => XT.lload X0.here hx rfl (hb hby dex_47) rfl k) ?_
            refine Goes.pre (S' := (s₁.setTop (mkF m 51 #[.val (.int n), .val (.int m1), .val (.int a), .val (.int m2), .val (.int b), .val (.long x), .second] [(.int b), (.long x)]))) (fun _ k => XS.iload X0.here hx rfl (hb hby dex_49) rfl k) ?_
            refine Goes.pre (S' := (s₁.setTop (mkF m 52 #[.val (.int n), .val (.int m1), .val (.int a), .val (.int m2), .val (.int b), .val (.long x), .second] [(.long (b).toInt64), (.long x)]))) (fun _ k => XT.i2l X0.here hx rfl (hb hby dex_51) rfl k) ?_
            refine Goes.pre (S' := (s₁.setTop (mkF m 53 #[.val (.int n), .val (.int m1), .val (.int a), .val (.int m2), .val (.int b), .val (.long x), .second] [(.int (XT.cmpL x (b).toInt64))]))) (fun _ k => XT.lcmp X0.here hx rfl (hb hby dex_52) rfl k) ?_
            by_cases c53 : x = (b).toInt64
            · skip
              refine Goes.pre (S' := (s₁.setTop (mkF m 56 #[.val (.int n), .val (.int m1), .val (.int a), .val (.int m2), .val (.int b), .val (.long x), .second] []))) (fun _ k => XS.ifNo X0.here hx rfl (hb hby dex_53) rfl (XT.ll_ne_f c53) k) ?_
              refine Goes.pre (S' := (s₁.setTop (mkF m 57 #[.val (.int n), .val (.int m1), .val (.int a), .val (.int m2), .val (.int b), .val (.long x), .second] [(.int (1 : Int32))]))) (fun _ k => XS.iconst X0.here hx rfl (hb hby dex_56) k) ?_
              have hf : own_ex n m1 a m2 b x := ⟨c4, c14, Or.inr (Or.inr ⟨c44, c53⟩)⟩
              exact Goes.retN X0 hx hlk (t := .boolean) Bd.returns (by simp) (hb hby dex_57) ⟨Or.inl ⟨rfl, hf⟩, N0, e0⟩ (by first | decide | exact Nat.le_of_ble_eq_true rfl | assumption | (simp [Value.category]; done)) (by first | decide | exact Nat.le_of_ble_eq_true rfl | assumption | (simp [Value.category]; done))
            · skip
              refine Goes.pre (S' := (s₁.setTop (mkF m 58 #[.val (.int n), .val (.int m1), .val (.int a), .val (.int m2), .val (.int b), .val (.long x), .second] []))) (fun _ k => XS.ifYes X0.here hx rfl (pc0 := 53) (pc' := 58) rfl (hb hby dex_53) rfl (XT.ll_ne_t c53) (by decide) (by decide) k) ?_
              refine Goes.pre (S' := (s₁.setTop (mkF m 59 #[.val (.int n), .val (.int m1), .val (.int a), .val (.int m2), .val (.int b), .val (.long x), .second] [(.int (0 : Int32))]))) (fun _ k => XS.iconst X0.here hx rfl (hb hby dex_58) k) ?_
              have hf : ¬ own_ex n m1 a m2 b x := fun q => q.2.2.elim c24 (fun q => q.elim (fun q => q.1 c30) (fun q => c53 q.2))
              exact Goes.retN X0 hx hlk (t := .boolean) Bd.returns (by simp) (hb hby dex_59) ⟨Or.inr ⟨rfl, hf⟩, N0, e0⟩ (by first | decide | exact Nat.le_of_ble_eq_true rfl | assumption | (simp [Value.category]; done)) (by first | decide | exact Nat.le_of_ble_eq_true rfl | assumption | (simp [Value.category]; done))
        · skip
          refine Goes.pre (S' := (s₁.setTop (mkF m 33 #[.val (.int n), .val (.int m1), .val (.int a), .val (.int m2), .val (.int b), .val (.long x), .second] []))) (fun _ k => XS.ifNo X0.here hx rfl (hb hby dex_30) rfl (XT.i0_eq_f c30) k) ?_
          refine Goes.pre (S' := (s₁.setTop (mkF m 35 #[.val (.int n), .val (.int m1), .val (.int a), .val (.int m2), .val (.int b), .val (.long x), .second] [(.long x)]))) (fun _ k => XT.lload X0.here hx rfl (hb hby dex_33) rfl k) ?_
          refine Goes.pre (S' := (s₁.setTop (mkF m 36 #[.val (.int n), .val (.int m1), .val (.int a), .val (.int m2), .val (.int b), .val (.long x), .second] [(.int a), (.long x)]))) (fun _ k => XS.iloadN X0.here hx rfl (hb hby dex_35) rfl k) ?_
          refine Goes.pre (S' := (s₁.setTop (mkF m 37 #[.val (.int n), .val (.int m1), .val (.int a), .val (.int m2), .val (.int b), .val (.long x), .second] [(.long (a).toInt64), (.long x)]))) (fun _ k => XT.i2l X0.here hx rfl (hb hby dex_36) rfl k) ?_
          refine Goes.pre (S' := (s₁.setTop (mkF m 38 #[.val (.int n), .val (.int m1), .val (.int a), .val (.int m2), .val (.int b), .val (.long x), .second] [(.int (XT.cmpL x (a).toInt64))]))) (fun _ k => XT.lcmp X0.here hx rfl (hb hby dex_37) rfl k) ?_
          by_cases c38 : x = (a).toInt64
          · skip
            refine Goes.pre (S' := (s₁.setTop (mkF m 41 #[.val (.int n), .val (.int m1), .val (.int a), .val (.int m2), .val (.int b), .val (.long x), .second] []))) (fun _ k => XS.ifNo X0.here hx rfl (hb hby dex_38) rfl (XT.ll_ne_f c38) k) ?_
            refine Goes.pre (S' := (s₁.setTop (mkF m 42 #[.val (.int n), .val (.int m1), .val (.int a), .val (.int m2), .val (.int b), .val (.long x), .second] [(.int (1 : Int32))]))) (fun _ k => XS.iconst X0.here hx rfl (hb hby dex_41) k) ?_
            have hf : own_ex n m1 a m2 b x := ⟨c4, c14, Or.inr (Or.inl ⟨c30, c38⟩)⟩
            exact Goes.retN X0 hx hlk (t := .boolean) Bd.returns (by simp) (hb hby dex_42) ⟨Or.inl ⟨rfl, hf⟩, N0, e0⟩ (by first | decide | exact Nat.le_of_ble_eq_true rfl | assumption | (simp [Value.category]; done)) (by first | decide | exact Nat.le_of_ble_eq_true rfl | assumption | (simp [Value.category]; done))
          · skip
            refine Goes.pre (S' := (s₁.setTop (mkF m 43 #[.val (.int n), .val (.int m1), .val (.int a), .val (.int m2), .val (.int b), .val (.long x), .second] []))) (fun _ k => XS.ifYes X0.here hx rfl (pc0 := 38) (pc' := 43) rfl (hb hby dex_38) rfl (XT.ll_ne_t c38) (by decide) (by decide) k) ?_
            refine Goes.pre (S' := (s₁.setTop (mkF m 44 #[.val (.int n), .val (.int m1), .val (.int a), .val (.int m2), .val (.int b), .val (.long x), .second] [(.int m2)]))) (fun _ k => XS.iloadN X0.here hx rfl (hb hby dex_43) rfl k) ?_
            by_cases c44 : m2 = 0
            · skip
              refine Goes.pre (S' := (s₁.setTop (mkF m 58 #[.val (.int n), .val (.int m1), .val (.int a), .val (.int m2), .val (.int b), .val (.long x), .second] []))) (fun _ k => XS.ifYes X0.here hx rfl (pc0 := 44) (pc' := 58) rfl (hb hby dex_44) rfl (XT.i0_eq_t c44) (by decide) (by decide) k) ?_
              refine Goes.pre (S' := (s₁.setTop (mkF m 59 #[.val (.int n), .val (.int m1), .val (.int a), .val (.int m2), .val (.int b), .val (.long x), .second] [(.int (0 : Int32))]))) (fun _ k => XS.iconst X0.here hx rfl (hb hby dex_58) k) ?_
              have hf : ¬ own_ex n m1 a m2 b x := fun q => q.2.2.elim c24 (fun q => q.elim (fun q => c38 q.2) (fun q => q.1 c44))
              exact Goes.retN X0 hx hlk (t := .boolean) Bd.returns (by simp) (hb hby dex_59) ⟨Or.inr ⟨rfl, hf⟩, N0, e0⟩ (by first | decide | exact Nat.le_of_ble_eq_true rfl | assumption | (simp [Value.category]; done)) (by first | decide | exact Nat.le_of_ble_eq_true rfl | assumption | (simp [Value.category]; done))
            · skip
              refine Goes.pre (S' := (s₁.setTop (mkF m 47 #[.val (.int n), .val (.int m1), .val (.int a), .val (.int m2), .val (.int b), .val (.long x), .second] []))) (fun _ k => XS.ifNo X0.here hx rfl (hb hby dex_44) rfl (XT.i0_eq_f c44) k) ?_
              refine Goes.pre (S' := (s₁.setTop (mkF m 49 #[.val (.int n), .val (.int m1), .val (.int a), .val (.int m2), .val (.int b), .val (.long x), .second] [(.long x)]))) (fun _ k => XT.lload X0.here hx rfl (hb hby dex_47) rfl k) ?_
              refine Goes.pre (S' := (s₁.setTop (mkF m 51 #[.val (.int n), .val (.int m1), .val (.int a), .val (.int m2), .val (.int b), .val (.long x), .second] [(.int b), (.long x)]))) (fun _ k => XS.iload X0.here hx rfl (hb hby dex_49) rfl k) ?_
              refine Goes.pre (S' := (s₁.setTop (mkF m 52 #[.val (.int n), .val (.int m1), .val (.int a), .val (.int m2), .val (.int b), .val (.long x), .second] [(.long (b).toInt64), (.long x)]))) (fun _ k => XT.i2l X0.here hx rfl (hb hby dex_51) rfl k) ?_
              refine Goes.pre (S' := (s₁.setTop (mkF m 53 #[.val (.int n), .val (.int m1), .val (.int a), .val (.int m2), .val (.int b), .val (.long x), .second] [(.int (XT.cmpL x (b).toInt64))]))) (fun _ k => XT.lcmp X0.here hx rfl (hb hby dex_52) rfl k) ?_
              by_cases c53 : x = (b).toInt64
              · skip
                refine Goes.pre (S' := (s₁.setTop (mkF m 56 #[.val (.int n), .val (.int m1), .val (.int a), .val (.int m2), .val (.int b), .val (.long x), .second] []))) (fun _ k => XS.ifNo X0.here hx rfl (hb hby dex_53) rfl (XT.ll_ne_f c53) k) ?_
                refine Goes.pre (S' := (s₁.setTop (mkF m 57 #[.val (.int n), .val (.int m1), .val (.int a), .val (.int m2), .val (.int b), .val (.long x), .second] [(.int (1 : Int32))]))) (fun _ k => XS.iconst X0.here hx rfl (hb hby dex_56) k) ?_
                have hf : own_ex n m1 a m2 b x := ⟨c4, c14, Or.inr (Or.inr ⟨c44, c53⟩)⟩
                exact Goes.retN X0 hx hlk (t := .boolean) Bd.returns (by simp) (hb hby dex_57) ⟨Or.inl ⟨rfl, hf⟩, N0, e0⟩ (by first | decide | exact Nat.le_of_ble_eq_true rfl | assumption | (simp [Value.category]; done)) (by first | decide | exact Nat.le_of_ble_eq_true rfl | assumption | (simp [Value.category]; done))
              · skip
                refine Goes.pre (S' := (s₁.setTop (mkF m 58 #[.val (.int n), .val (.int m1), .val (.int a), .val (.int m2), .val (.int b), .val (.long x), .second] []))) (fun _ k => XS.ifYes X0.here hx rfl (pc0 := 53) (pc' := 58) rfl (hb hby dex_53) rfl (XT.ll_ne_t c53) (by decide) (by decide) k) ?_
                refine Goes.pre (S' := (s₁.setTop (mkF m 59 #[.val (.int n), .val (.int m1), .val (.int a), .val (.int m2), .val (.int b), .val (.long x), .second] [(.int (0 : Int32))]))) (fun _ k => XS.iconst X0.here hx rfl (hb hby dex_58) k) ?_
                have hf : ¬ own_ex n m1 a m2 b x := fun q => q.2.2.elim c24 (fun q => q.elim (fun q => c38 q.2) (fun q => c53 q.2))
                exact Goes.retN X0 hx hlk (t := .boolean) Bd.returns (by simp) (hb hby dex_59) ⟨Or.inr ⟨rfl, hf⟩, N0, e0⟩ (by first | decide | exact Nat.le_of_ble_eq_true rfl | assumption | (simp [Value.category]; done)) (by first | decide | exact Nat.le_of_ble_eq_true rfl | assumption | (simp [Value.category]; done))
theorem pn_law : plainName "com/example/quarry/quarry/text/LabelsIsPlacePinLaw" = true := by first | (simp [plainName, overriddenIn]; done) | decide +kernel
def Q_law (h0 : Heap) (n0 : Nat) (v : Option Value) (h : Heap) (L : List Loc) : Prop := v = some (.int 1) ∧ Fr n0 L
theorem ef_law (m : MethodId) (i0 : Int32) (i1 : Int32) (i2 : Int32) (i3 : Int32) (i4 : Int64) (i5 : Int32) : entryFrame m #[(.int i0), (.int i1), (.int i2), (.int i3), (.long i4), (.int i5)] maxLocals = mkF m 0 #[.val (.int i0), .val (.int i1), .val (.int i2), .val (.int i3), .val (.long i4), .second, .val (.int i5), .unset, .unset, .unset, .unset, .unset, .unset, .unset, .unset, .unset, .unset] [] := by first | (simp [entryFrame, mkF, argsToLocals, Value.category, maxLocals]; done) | rfl
set_option maxRecDepth 65536 in
set_option maxHeartbeats 40000000 in
theorem rm_law (l : Launch) (Z : State) (a0 : Array Value) (hw : ∀ d ∈ tables_1, d.before a0 Z = true) (ws : List Jvm.Cond) (i0 : Int32) (i1 : Int32) (i2 : Int32) (i3 : Int32) (i4 : Int64) (i5 : Int32)  (h0 : Heap) (n0 : Nat) (Z0 : n0 ≤ h0.size)  :
    Ctr l Z x code maxLocals ret ws room_1 #[(.int i0), (.int i1), (.int i2), (.int i3), (.long i4), (.int i5)] h0 (Q_law h0 n0) := by
  refine MetFree.of_bodySF (plainFor_of_name pn_law) hisR ?_
  intro p e s m args below meth c s₁ Bd hml0 hP hK
  obtain ⟨rfl, hZ, hh⟩ := hP
  have hx := Bd.exec
  have hby := Bd.bytes
  have hlk : meth.locks = false := Bd.notSynchronized
  have hml : c.maxLocals = 17 := hml0
  have hown : s.vm.findClass "com/example/quarry/quarry/text/LabelsIsPlacePinLaw" = some m.cls := findClass_of_methodNamed Bd.named
  have hnm := (name_of_methodNamed Bd.named Bd.method).1
  have X0 : Stand p l e room_1 s m #[(.int i0), (.int i1), (.int i2), (.int i3), (.long i4), (.int i5)] below meth c s₁ [] 0 0 := Stand.of_body Bd
  have e0 : s₁.heap = h0 := by rw [← hh, Bd.state]; rfl
  have N0 := Fr.nil n0
  show Goes p e below (EndQ s (Q_law h0 n0) room_1.cells room_1.slots) (s₁.setTop (entryFrame m #[(.int i0), (.int i1), (.int i2), (.int i3), (.long i4), (.int i5)] maxLocals))
  refine Goes.pre (S' := (s₁.setTop (mkF m 0 #[.val (.int i0), .val (.int i1), .val (.int i2), .val (.int i3), .val (.long i4), .second, .val (.int i5), .unset, .unset, .unset, .unset, .unset, .unset, .unset, .unset, .unset, .unset] []))) (fun t k => castTop (ef_law m i0 i1 i2 i3 i4 i5) k) ?_
  have tail : ∀ (n a b m1 m2 : Int32) (r : Int64) (hn : ¬ n < 0) (h7 : ¬ 7 < n) (ha : ¬ a < 0 ∧ a < n + 1) (hbb : ¬ b < 0 ∧ b < n + 1), Goes p e below (EndQ s (Q_law h0 n0) room_1.cells room_1.slots) (s₁.setTop (mkF m 69 #[.val (.int i0), .val (.int i1), .val (.int i2), .val (.int i3), .val (.long i4), .second, .val (.int i5), .val (.int n), .val (.int a), .val (.int b), .val (.int m1), .val (.int m2), .val (.long r), .second, .unset, .unset, .unset] [])) := by
    intro n a b m1 m2 r hn h7 ha hbb
    obtain ⟨T1, h1, X1, e1, E1, A1, D1, U1, st1⟩ := newO X0 hx hZ hown (hw _ (List.mem_of_getElem? (i := 2) rfl)) (hw _ (List.mem_of_getElem? (i := 3) rfl)) (hw _ (List.mem_of_getElem? (i := 4) rfl)) e0 (g := (mkF m 69 #[.val (.int i0), .val (.int i1), .val (.int i2), .val (.int i3), .val (.long i4), .second, .val (.int i5), .val (.int n), .val (.int a), .val (.int b), .val (.int m1), .val (.int m2), .val (.long r), .second, .unset, .unset, .unset] [])) rfl (hb hby at_69) (by decide) (by decide)
    obtain ⟨a1, g1⟩ : ∃ z, z = h0.size := ⟨_, rfl⟩
    rw [← g1] at A1 D1 st1
    have ga1 : n0 ≤ a1 := Nat.le_trans Z0 (Nat.le_of_eq g1.symm)
    have Zn1 : n0 ≤ h1.size := Nat.le_trans Z0 E1.1
    refine Goes.pre (S' := (T1.setTop (mkF m 72 #[.val (.int i0), .val (.int i1), .val (.int i2), .val (.int i3), .val (.long i4), .second, .val (.int i5), .val (.int n), .val (.int a), .val (.int b), .val (.int m1), .val (.int m2), .val (.long r), .second, .unset, .unset, .unset] [(.ref a1)]))) st1 ?_
    have F0 : Fld Z h1 a1 "com/example/quarry/quarry/text/Labels" "places" "[Z" .null := D1 (Or.inr (hw _ (List.mem_of_getElem? (i := 13) rfl))) (ty := .array .boolean) (by decide)
    refine Goes.pre (S' := (T1.setTop (mkF m 73 #[.val (.int i0), .val (.int i1), .val (.int i2), .val (.int i3), .val (.long i4), .second, .val (.int i5), .val (.int n), .val (.int a), .val (.int b), .val (.int m1), .val (.int m2), .val (.long r), .second, .unset, .unset, .unset] [(.ref a1), (.ref a1)]))) (fun _ k => XS.dup X1.here hx rfl (hb hby at_72) rfl rfl k) ?_
    refine Goes.pre (S' := (T1.setTop (mkF m 75 #[.val (.int i0), .val (.int i1), .val (.int i2), .val (.int i3), .val (.long i4), .second, .val (.int i5), .val (.int n), .val (.int a), .val (.int b), .val (.int m1), .val (.int m2), .val (.long r), .second, .unset, .unset, .unset] [(.int n), (.ref a1), (.ref a1)]))) (fun _ k => XS.iload X1.here hx rfl (hb hby at_73) rfl k) ?_
    refine Goes.init (y := (⟨"com/example/quarry/quarry/text/Labels", "<init>", "(I)V"⟩ : MethodName)) X1 hx hZ hown rfl (hw _ (List.mem_of_getElem? (i := 5) rfl)) (hw _ (List.mem_of_getElem? (i := 6) rfl)) (hw _ (List.mem_of_getElem? (i := 4) rfl)) (hw _ (List.mem_of_getElem? (i := 7) rfl)) (by decide) e1 (rm_in l Z a0 hw [] a1 n h1 n0 Zn1 hn h7 F0 A1 ga1) (by rw [hml]; rfl) a1 [(.int n)] [(.ref a1)] pd_in rfl rfl rfl (hb hby at_75) (by decide) (by first | decide | exact Nat.le_of_ble_eq_true rfl | assumption | (simp [Value.category]; done)) (by first | decide | exact Nat.le_of_ble_eq_true rfl | assumption | (simp [Value.category]; done)) (by first | decide | exact Nat.le_of_ble_eq_true rfl | assumption | (simp [Value.category]; done)) ?_
    intro T2 v2 L2 X2 q2
    obtain ⟨rfl, N2a, K2, bp, kp, gbp, hab, F2, V2⟩ := q2
    have N2 := Fr.app N0 N2a
    have Zn2 : n0 ≤ T2.heap.size := Nat.le_trans Zn1 K2.1
    have Ex2 := A1.keep K2
    show Goes p e below _ (T2.setTop (mkF m 78 #[.val (.int i0), .val (.int i1), .val (.int i2), .val (.int i3), .val (.long i4), .second, .val (.int i5), .val (.int n), .val (.int a), .val (.int b), .val (.int m1), .val (.int m2), .val (.long r), .second, .unset, .unset, .unset] [(.ref a1)]))
    refine Goes.pre (S' := (T2.setTop (mkF m 80 #[.val (.int i0), .val (.int i1), .val (.int i2), .val (.int i3), .val (.long i4), .second, .val (.int i5), .val (.int n), .val (.int a), .val (.int b), .val (.int m1), .val (.int m2), .val (.long r), .second, .val (.ref a1), .unset, .unset] []))) (fun _ k => XS.astore X2.here hx rfl (hb hby at_78) rfl rfl (l' := #[.val (.int i0), .val (.int i1), .val (.int i2), .val (.int i3), .val (.long i4), .second, .val (.int i5), .val (.int n), .val (.int a), .val (.int b), .val (.int m1), .val (.int m2), .val (.long r), .second, .val (.ref a1), .unset, .unset]) rfl k) ?_
    refine Goes.pre (S' := (T2.setTop (mkF m 82 #[.val (.int i0), .val (.int i1), .val (.int i2), .val (.int i3), .val (.long i4), .second, .val (.int i5), .val (.int n), .val (.int a), .val (.int b), .val (.int m1), .val (.int m2), .val (.long r), .second, .val (.ref a1), .unset, .unset] [(.int m1)]))) (fun _ k => XS.iload X2.here hx rfl (hb hby at_80) rfl k) ?_
    by_cases c82 : m1 = 0
    · skip
      refine Goes.pre (S' := (T2.setTop (mkF m 92 #[.val (.int i0), .val (.int i1), .val (.int i2), .val (.int i3), .val (.long i4), .second, .val (.int i5), .val (.int n), .val (.int a), .val (.int b), .val (.int m1), .val (.int m2), .val (.long r), .second, .val (.ref a1), .unset, .unset] []))) (fun _ k => XS.ifYes X2.here hx rfl (pc0 := 82) (pc' := 92) rfl (hb hby at_82) rfl (XT.i0_eq_t c82) (by decide) (by decide) k) ?_
      refine Goes.pre (S' := (T2.setTop (mkF m 94 #[.val (.int i0), .val (.int i1), .val (.int i2), .val (.int i3), .val (.long i4), .second, .val (.int i5), .val (.int n), .val (.int a), .val (.int b), .val (.int m1), .val (.int m2), .val (.long r), .second, .val (.ref a1), .unset, .unset] [(.int m2)]))) (fun _ k => XS.iload X2.here hx rfl (hb hby at_92) rfl k) ?_
      by_cases c94 : m2 = 0
      · skip
        refine Goes.pre (S' := (T2.setTop (mkF m 104 #[.val (.int i0), .val (.int i1), .val (.int i2), .val (.int i3), .val (.long i4), .second, .val (.int i5), .val (.int n), .val (.int a), .val (.int b), .val (.int m1), .val (.int m2), .val (.long r), .second, .val (.ref a1), .unset, .unset] []))) (fun _ k => XS.ifYes X2.here hx rfl (pc0 := 94) (pc' := 104) rfl (hb hby at_94) rfl (XT.i0_eq_t c94) (by decide) (by decide) k) ?_
        have hxs : ∀ j, j ∈ ([n] : List Int32) ↔ (j = n ∨ (¬ m1 = 0 ∧ j = a) ∨ (¬ m2 = 0 ∧ j = b)) := fun j => by constructor <;> intro q <;> simp [c82, c94] at q ⊢ <;> (first | done | exact q | (rcases q with q | q | q <;> simp [q]) | (rcases q with q | q <;> simp [q]))
        refine Goes.pre (S' := (T2.setTop (mkF m 106 #[.val (.int i0), .val (.int i1), .val (.int i2), .val (.int i3), .val (.long i4), .second, .val (.int i5), .val (.int n), .val (.int a), .val (.int b), .val (.int m1), .val (.int m2), .val (.long r), .second, .val (.ref a1), .unset, .unset] [(.ref a1)]))) (fun _ k => XS.aload X2.here hx rfl (hb hby at_104) rfl rfl k) ?_
        refine Goes.pre (S' := (T2.setTop (mkF m 108 #[.val (.int i0), .val (.int i1), .val (.int i2), .val (.int i3), .val (.long i4), .second, .val (.int i5), .val (.int n), .val (.int a), .val (.int b), .val (.int m1), .val (.int m2), .val (.long r), .second, .val (.ref a1), .unset, .unset] [(.long i4), (.ref a1)]))) (fun _ k => XT.lload X2.here hx rfl (hb hby at_106) rfl k) ?_
        refine Goes.callV (y := (⟨"com/example/quarry/quarry/text/Labels", "isPlace", "(J)Z"⟩ : MethodName)) (C := "com/example/quarry/quarry/text/Labels") X2 hx hZ hown (hw _ (List.mem_of_getElem? (i := 19) rfl)) (hw _ (List.mem_of_getElem? (i := 20) rfl)) (hw _ (List.mem_of_getElem? (i := 22) rfl)) (hw _ (List.mem_of_getElem? (i := 21) rfl)) (hw _ (List.mem_of_getElem? (i := 4) rfl)) (hw _ (List.mem_of_getElem? (i := 23) rfl)) (by decide) rfl Ex2 (rm_ip l Z a0 hw [] a1 i4 bp kp (n + 1) [n] T2.heap n0 Zn2 F2 V2) (by rw [hml]; rfl) [(.long i4)] [] pd_ip rfl rfl rfl (hb hby at_108) (by decide) (by first | decide | exact Nat.le_of_ble_eq_true rfl | assumption | (simp [Value.category]; done)) (by first | decide | exact Nat.le_of_ble_eq_true rfl | assumption | (simp [Value.category]; done)) (by first | decide | exact Nat.le_of_ble_eq_true rfl | assumption | (simp [Value.category]; done)) ?_
        intro T3 v3 L3 X3 q3
        obtain ⟨d3, N3a, e3⟩ := q3
        have N3 := Fr.app N2 N3a
        obtain ⟨r3, hr3⟩ : ∃ z : Int32, v3 = some (.int z) := by rcases d3 with ⟨q, -⟩ | ⟨q, -⟩ <;> exact ⟨_, q⟩
        subst hr3
        show Goes p e below _ (T3.setTop (mkF m 111 #[.val (.int i0), .val (.int i1), .val (.int i2), .val (.int i3), .val (.long i4), .second, .val (.int i5), .val (.int n), .val (.int a), .val (.int b), .val (.int m1), .val (.int m2), .val (.long r), .second, .val (.ref a1), .unset, .unset] [(.int r3)]))
        refine Goes.pre (S' := (T3.setTop (mkF m 113 #[.val (.int i0), .val (.int i1), .val (.int i2), .val (.int i3), .val (.long i4), .second, .val (.int i5), .val (.int n), .val (.int a), .val (.int b), .val (.int m1), .val (.int m2), .val (.long r), .second, .val (.ref a1), .val (.int r3), .unset] []))) (fun _ k => XS.istore X3.here hx rfl (hb hby at_111) rfl (l' := #[.val (.int i0), .val (.int i1), .val (.int i2), .val (.int i3), .val (.long i4), .second, .val (.int i5), .val (.int n), .val (.int a), .val (.int b), .val (.int m1), .val (.int m2), .val (.long r), .second, .val (.ref a1), .val (.int r3), .unset]) rfl k) ?_
        refine Goes.pre (S' := (T3.setTop (mkF m 115 #[.val (.int i0), .val (.int i1), .val (.int i2), .val (.int i3), .val (.long i4), .second, .val (.int i5), .val (.int n), .val (.int a), .val (.int b), .val (.int m1), .val (.int m2), .val (.long r), .second, .val (.ref a1), .val (.int r3), .unset] [(.ref a1)]))) (fun _ k => XS.aload X3.here hx rfl (hb hby at_113) rfl rfl k) ?_
        refine Goes.pre (S' := (T3.setTop (mkF m 117 #[.val (.int i0), .val (.int i1), .val (.int i2), .val (.int i3), .val (.long i4), .second, .val (.int i5), .val (.int n), .val (.int a), .val (.int b), .val (.int m1), .val (.int m2), .val (.long r), .second, .val (.ref a1), .val (.int r3), .unset] [(.long r), (.ref a1)]))) (fun _ k => XT.lload X3.here hx rfl (hb hby at_115) rfl k) ?_
        refine Goes.callV (y := (⟨"com/example/quarry/quarry/text/Labels", "isPlace", "(J)Z"⟩ : MethodName)) (C := "com/example/quarry/quarry/text/Labels") X3 hx hZ hown (hw _ (List.mem_of_getElem? (i := 19) rfl)) (hw _ (List.mem_of_getElem? (i := 20) rfl)) (hw _ (List.mem_of_getElem? (i := 22) rfl)) (hw _ (List.mem_of_getElem? (i := 21) rfl)) (hw _ (List.mem_of_getElem? (i := 4) rfl)) (hw _ (List.mem_of_getElem? (i := 23) rfl)) (by decide) e3 Ex2 (rm_ip l Z a0 hw [] a1 r bp kp (n + 1) [n] T2.heap n0 Zn2 F2 V2) (by rw [hml]; rfl) [(.long r)] [] pd_ip rfl rfl rfl (hb hby at_117) (by decide) (by first | decide | exact Nat.le_of_ble_eq_true rfl | assumption | (simp [Value.category]; done)) (by first | decide | exact Nat.le_of_ble_eq_true rfl | assumption | (simp [Value.category]; done)) (by first | decide | exact Nat.le_of_ble_eq_true rfl | assumption | (simp [Value.category]; done)) ?_
        intro T4 v4 L4 X4 q4
        obtain ⟨d4, N4a, e4⟩ := q4
        have N4 := Fr.app N3 N4a
        obtain ⟨r4, hr4⟩ : ∃ z : Int32, v4 = some (.int z) := by rcases d4 with ⟨q, -⟩ | ⟨q, -⟩ <;> exact ⟨_, q⟩
        subst hr4
        show Goes p e below _ (T4.setTop (mkF m 120 #[.val (.int i0), .val (.int i1), .val (.int i2), .val (.int i3), .val (.long i4), .second, .val (.int i5), .val (.int n), .val (.int a), .val (.int b), .val (.int m1), .val (.int m2), .val (.long r), .second, .val (.ref a1), .val (.int r3), .unset] [(.int r4)]))
        refine Goes.pre (S' := (T4.setTop (mkF m 122 #[.val (.int i0), .val (.int i1), .val (.int i2), .val (.int i3), .val (.long i4), .second, .val (.int i5), .val (.int n), .val (.int a), .val (.int b), .val (.int m1), .val (.int m2), .val (.long r), .second, .val (.ref a1), .val (.int r3), .val (.int r4)] []))) (fun _ k => XS.istore X4.here hx rfl (hb hby at_120) rfl (l' := #[.val (.int i0), .val (.int i1), .val (.int i2), .val (.int i3), .val (.long i4), .second, .val (.int i5), .val (.int n), .val (.int a), .val (.int b), .val (.int m1), .val (.int m2), .val (.long r), .second, .val (.ref a1), .val (.int r3), .val (.int r4)]) rfl k) ?_
        refine Goes.pre (S' := (T4.setTop (mkF m 124 #[.val (.int i0), .val (.int i1), .val (.int i2), .val (.int i3), .val (.long i4), .second, .val (.int i5), .val (.int n), .val (.int a), .val (.int b), .val (.int m1), .val (.int m2), .val (.long r), .second, .val (.ref a1), .val (.int r3), .val (.int r4)] [(.int r3)]))) (fun _ k => XS.iload X4.here hx rfl (hb hby at_122) rfl k) ?_
        refine Goes.pre (S' := (T4.setTop (mkF m 126 #[.val (.int i0), .val (.int i1), .val (.int i2), .val (.int i3), .val (.long i4), .second, .val (.int i5), .val (.int n), .val (.int a), .val (.int b), .val (.int m1), .val (.int m2), .val (.long r), .second, .val (.ref a1), .val (.int r3), .val (.int r4)] [(.int n), (.int r3)]))) (fun _ k => XS.iload X4.here hx rfl (hb hby at_124) rfl k) ?_
        refine Goes.pre (S' := (T4.setTop (mkF m 128 #[.val (.int i0), .val (.int i1), .val (.int i2), .val (.int i3), .val (.long i4), .second, .val (.int i5), .val (.int n), .val (.int a), .val (.int b), .val (.int m1), .val (.int m2), .val (.long r), .second, .val (.ref a1), .val (.int r3), .val (.int r4)] [(.int m1), (.int n), (.int r3)]))) (fun _ k => XS.iload X4.here hx rfl (hb hby at_126) rfl k) ?_
        refine Goes.pre (S' := (T4.setTop (mkF m 130 #[.val (.int i0), .val (.int i1), .val (.int i2), .val (.int i3), .val (.long i4), .second, .val (.int i5), .val (.int n), .val (.int a), .val (.int b), .val (.int m1), .val (.int m2), .val (.long r), .second, .val (.ref a1), .val (.int r3), .val (.int r4)] [(.int a), (.int m1), (.int n), (.int r3)]))) (fun _ k => XS.iload X4.here hx rfl (hb hby at_128) rfl k) ?_
        refine Goes.pre (S' := (T4.setTop (mkF m 132 #[.val (.int i0), .val (.int i1), .val (.int i2), .val (.int i3), .val (.long i4), .second, .val (.int i5), .val (.int n), .val (.int a), .val (.int b), .val (.int m1), .val (.int m2), .val (.long r), .second, .val (.ref a1), .val (.int r3), .val (.int r4)] [(.int m2), (.int a), (.int m1), (.int n), (.int r3)]))) (fun _ k => XS.iload X4.here hx rfl (hb hby at_130) rfl k) ?_
        refine Goes.pre (S' := (T4.setTop (mkF m 134 #[.val (.int i0), .val (.int i1), .val (.int i2), .val (.int i3), .val (.long i4), .second, .val (.int i5), .val (.int n), .val (.int a), .val (.int b), .val (.int m1), .val (.int m2), .val (.long r), .second, .val (.ref a1), .val (.int r3), .val (.int r4)] [(.int b), (.int m2), (.int a), (.int m1), (.int n), (.int r3)]))) (fun _ k => XS.iload X4.here hx rfl (hb hby at_132) rfl k) ?_
        refine Goes.pre (S' := (T4.setTop (mkF m 136 #[.val (.int i0), .val (.int i1), .val (.int i2), .val (.int i3), .val (.long i4), .second, .val (.int i5), .val (.int n), .val (.int a), .val (.int b), .val (.int m1), .val (.int m2), .val (.long r), .second, .val (.ref a1), .val (.int r3), .val (.int r4)] [(.long i4), (.int b), (.int m2), (.int a), (.int m1), (.int n), (.int r3)]))) (fun _ k => XT.lload X4.here hx rfl (hb hby at_134) rfl k) ?_
        refine Goes.callS (y := (⟨"com/example/quarry/quarry/text/LabelsIsPlacePinLaw", "expected", "(IZIZIJ)Z"⟩ : MethodName)) X4 hx hZ hown (hw _ (List.mem_of_getElem? (i := 24) rfl)) (hw _ (List.mem_of_getElem? (i := 25) rfl)) (hw _ (List.mem_of_getElem? (i := 26) rfl)) (hw _ (List.mem_of_getElem? (i := 27) rfl)) (by decide) e4 (rm_ex l Z a0 hw [] n m1 a m2 b i4 T2.heap n0 Zn2) (by rw [hml]; rfl) [(.int n), (.int m1), (.int a), (.int m2), (.int b), (.long i4)] [(.int r3)] pd_ex rfl rfl rfl (hb hby at_136) (by decide) (by first | decide | exact Nat.le_of_ble_eq_true rfl | assumption | (simp [Value.category]; done)) (by first | decide | exact Nat.le_of_ble_eq_true rfl | assumption | (simp [Value.category]; done)) (by first | decide | exact Nat.le_of_ble_eq_true rfl | assumption | (simp [Value.category]; done)) ?_
        intro T5 v5 L5 X5 q5
        obtain ⟨d5, N5a, e5⟩ := q5
        have N5 := Fr.app N4 N5a
        obtain rfl : v5 = some (.int r3) := by
          have A := own_same (x := i4) hn h7 ha hbb hxs
          rcases d3 with ⟨q, a⟩ | ⟨q, a⟩ <;> rcases d5 with ⟨q2, a2⟩ | ⟨q2, a2⟩
          · rw [q2, q]
          · exact absurd (A.mp a) a2
          · exact absurd (A.mpr a2) a
          · rw [q2, q]
        show Goes p e below _ (T5.setTop (mkF m 139 #[.val (.int i0), .val (.int i1), .val (.int i2), .val (.int i3), .val (.long i4), .second, .val (.int i5), .val (.int n), .val (.int a), .val (.int b), .val (.int m1), .val (.int m2), .val (.long r), .second, .val (.ref a1), .val (.int r3), .val (.int r4)] [(.int r3), (.int r3)]))
        refine Goes.pre (S' := (T5.setTop (mkF m 142 #[.val (.int i0), .val (.int i1), .val (.int i2), .val (.int i3), .val (.long i4), .second, .val (.int i5), .val (.int n), .val (.int a), .val (.int b), .val (.int m1), .val (.int m2), .val (.long r), .second, .val (.ref a1), .val (.int r3), .val (.int r4)] []))) (fun _ k => XS.icmpNo X5.here hx rfl (hb hby at_139) rfl (XT.ii_ne_f rfl) k) ?_
        refine Goes.pre (S' := (T5.setTop (mkF m 144 #[.val (.int i0), .val (.int i1), .val (.int i2), .val (.int i3), .val (.long i4), .second, .val (.int i5), .val (.int n), .val (.int a), .val (.int b), .val (.int m1), .val (.int m2), .val (.long r), .second, .val (.ref a1), .val (.int r3), .val (.int r4)] [(.int r4)]))) (fun _ k => XS.iload X5.here hx rfl (hb hby at_142) rfl k) ?_
        refine Goes.pre (S' := (T5.setTop (mkF m 146 #[.val (.int i0), .val (.int i1), .val (.int i2), .val (.int i3), .val (.long i4), .second, .val (.int i5), .val (.int n), .val (.int a), .val (.int b), .val (.int m1), .val (.int m2), .val (.long r), .second, .val (.ref a1), .val (.int r3), .val (.int r4)] [(.int n), (.int r4)]))) (fun _ k => XS.iload X5.here hx rfl (hb hby at_144) rfl k) ?_
        refine Goes.pre (S' := (T5.setTop (mkF m 148 #[.val (.int i0), .val (.int i1), .val (.int i2), .val (.int i3), .val (.long i4), .second, .val (.int i5), .val (.int n), .val (.int a), .val (.int b), .val (.int m1), .val (.int m2), .val (.long r), .second, .val (.ref a1), .val (.int r3), .val (.int r4)] [(.int m1), (.int n), (.int r4)]))) (fun _ k => XS.iload X5.here hx rfl (hb hby at_146) rfl k) ?_
        refine Goes.pre (S' := (T5.setTop (mkF m 150 #[.val (.int i0), .val (.int i1), .val (.int i2), .val (.int i3), .val (.long i4), .second, .val (.int i5), .val (.int n), .val (.int a), .val (.int b), .val (.int m1), .val (.int m2), .val (.long r), .second, .val (.ref a1), .val (.int r3), .val (.int r4)] [(.int a), (.int m1), (.int n), (.int r4)]))) (fun _ k => XS.iload X5.here hx rfl (hb hby at_148) rfl k) ?_
        refine Goes.pre (S' := (T5.setTop (mkF m 152 #[.val (.int i0), .val (.int i1), .val (.int i2), .val (.int i3), .val (.long i4), .second, .val (.int i5), .val (.int n), .val (.int a), .val (.int b), .val (.int m1), .val (.int m2), .val (.long r), .second, .val (.ref a1), .val (.int r3), .val (.int r4)] [(.int m2), (.int a), (.int m1), (.int n), (.int r4)]))) (fun _ k => XS.iload X5.here hx rfl (hb hby at_150) rfl k) ?_
        refine Goes.pre (S' := (T5.setTop (mkF m 154 #[.val (.int i0), .val (.int i1), .val (.int i2), .val (.int i3), .val (.long i4), .second, .val (.int i5), .val (.int n), .val (.int a), .val (.int b), .val (.int m1), .val (.int m2), .val (.long r), .second, .val (.ref a1), .val (.int r3), .val (.int r4)] [(.int b), (.int m2), (.int a), (.int m1), (.int n), (.int r4)]))) (fun _ k => XS.iload X5.here hx rfl (hb hby at_152) rfl k) ?_
        refine Goes.pre (S' := (T5.setTop (mkF m 156 #[.val (.int i0), .val (.int i1), .val (.int i2), .val (.int i3), .val (.long i4), .second, .val (.int i5), .val (.int n), .val (.int a), .val (.int b), .val (.int m1), .val (.int m2), .val (.long r), .second, .val (.ref a1), .val (.int r3), .val (.int r4)] [(.long r), (.int b), (.int m2), (.int a), (.int m1), (.int n), (.int r4)]))) (fun _ k => XT.lload X5.here hx rfl (hb hby at_154) rfl k) ?_
        refine Goes.callS (y := (⟨"com/example/quarry/quarry/text/LabelsIsPlacePinLaw", "expected", "(IZIZIJ)Z"⟩ : MethodName)) X5 hx hZ hown (hw _ (List.mem_of_getElem? (i := 24) rfl)) (hw _ (List.mem_of_getElem? (i := 25) rfl)) (hw _ (List.mem_of_getElem? (i := 26) rfl)) (hw _ (List.mem_of_getElem? (i := 27) rfl)) (by decide) e5 (rm_ex l Z a0 hw [] n m1 a m2 b r T2.heap n0 Zn2) (by rw [hml]; rfl) [(.int n), (.int m1), (.int a), (.int m2), (.int b), (.long r)] [(.int r4)] pd_ex rfl rfl rfl (hb hby at_156) (by decide) (by first | decide | exact Nat.le_of_ble_eq_true rfl | assumption | (simp [Value.category]; done)) (by first | decide | exact Nat.le_of_ble_eq_true rfl | assumption | (simp [Value.category]; done)) (by first | decide | exact Nat.le_of_ble_eq_true rfl | assumption | (simp [Value.category]; done)) ?_
        intro T6 v6 L6 X6 q6
        obtain ⟨d6, N6a, e6⟩ := q6
        have N6 := Fr.app N5 N6a
        obtain rfl : v6 = some (.int r4) := by
          have A := own_same (x := r) hn h7 ha hbb hxs
          rcases d4 with ⟨q, a⟩ | ⟨q, a⟩ <;> rcases d6 with ⟨q2, a2⟩ | ⟨q2, a2⟩
          · rw [q2, q]
          · exact absurd (A.mp a) a2
          · exact absurd (A.mpr a2) a
          · rw [q2, q]
        show Goes p e below _ (T6.setTop (mkF m 159 #[.val (.int i0), .val (.int i1), .val (.int i2), .val (.int i3), .val (.long i4), .second, .val (.int i5), .val (.int n), .val (.int a), .val (.int b), .val (.int m1), .val (.int m2), .val (.long r), .second, .val (.ref a1), .val (.int r3), .val (.int r4)] [(.int r4), (.int r4)]))
        refine Goes.pre (S' := (T6.setTop (mkF m 162 #[.val (.int i0), .val (.int i1), .val (.int i2), .val (.int i3), .val (.long i4), .second, .val (.int i5), .val (.int n), .val (.int a), .val (.int b), .val (.int m1), .val (.int m2), .val (.long r), .second, .val (.ref a1), .val (.int r3), .val (.int r4)] []))) (fun _ k => XS.icmpNo X6.here hx rfl (hb hby at_159) rfl (XT.ii_ne_f rfl) k) ?_
        refine Goes.pre (S' := (T6.setTop (mkF m 163 #[.val (.int i0), .val (.int i1), .val (.int i2), .val (.int i3), .val (.long i4), .second, .val (.int i5), .val (.int n), .val (.int a), .val (.int b), .val (.int m1), .val (.int m2), .val (.long r), .second, .val (.ref a1), .val (.int r3), .val (.int r4)] [(.int (1 : Int32))]))) (fun _ k => XS.iconst X6.here hx rfl (hb hby at_162) k) ?_
        refine Goes.pre (S' := (T6.setTop (mkF m 167 #[.val (.int i0), .val (.int i1), .val (.int i2), .val (.int i3), .val (.long i4), .second, .val (.int i5), .val (.int n), .val (.int a), .val (.int b), .val (.int m1), .val (.int m2), .val (.long r), .second, .val (.ref a1), .val (.int r3), .val (.int r4)] [(.int (1 : Int32))]))) (fun _ k => XS.goto X6.here hx rfl (pc0 := 163) (pc' := 167) rfl (hb hby at_163) (by decide) (by decide) k) ?_
        exact Goes.retN X6 hx hlk (t := .boolean) Bd.returns (by simp) (hb hby at_167) ⟨rfl, N6⟩ (by first | decide | exact Nat.le_of_ble_eq_true rfl | assumption | (simp [Value.category]; done)) (by first | decide | exact Nat.le_of_ble_eq_true rfl | assumption | (simp [Value.category]; done))
      · skip
        refine Goes.pre (S' := (T2.setTop (mkF m 97 #[.val (.int i0), .val (.int i1), .val (.int i2), .val (.int i3), .val (.long i4), .second, .val (.int i5), .val (.int n), .val (.int a), .val (.int b), .val (.int m1), .val (.int m2), .val (.long r), .second, .val (.ref a1), .unset, .unset] []))) (fun _ k => XS.ifNo X2.here hx rfl (hb hby at_94) rfl (XT.i0_eq_f c94) k) ?_
        refine Goes.pre (S' := (T2.setTop (mkF m 99 #[.val (.int i0), .val (.int i1), .val (.int i2), .val (.int i3), .val (.long i4), .second, .val (.int i5), .val (.int n), .val (.int a), .val (.int b), .val (.int m1), .val (.int m2), .val (.long r), .second, .val (.ref a1), .unset, .unset] [(.ref a1)]))) (fun _ k => XS.aload X2.here hx rfl (hb hby at_97) rfl rfl k) ?_
        refine Goes.pre (S' := (T2.setTop (mkF m 101 #[.val (.int i0), .val (.int i1), .val (.int i2), .val (.int i3), .val (.long i4), .second, .val (.int i5), .val (.int n), .val (.int a), .val (.int b), .val (.int m1), .val (.int m2), .val (.long r), .second, .val (.ref a1), .unset, .unset] [(.int b), (.ref a1)]))) (fun _ k => XS.iload X2.here hx rfl (hb hby at_99) rfl k) ?_
        refine Goes.callV (y := (⟨"com/example/quarry/quarry/text/Labels", "instructionAt", "(I)V"⟩ : MethodName)) (C := "com/example/quarry/quarry/text/Labels") X2 hx hZ hown (hw _ (List.mem_of_getElem? (i := 14) rfl)) (hw _ (List.mem_of_getElem? (i := 15) rfl)) (hw _ (List.mem_of_getElem? (i := 17) rfl)) (hw _ (List.mem_of_getElem? (i := 16) rfl)) (hw _ (List.mem_of_getElem? (i := 4) rfl)) (hw _ (List.mem_of_getElem? (i := 18) rfl)) (by decide) rfl Ex2 (rm_at l Z a0 hw [] a1 b bp kp (n + 1) [n] T2.heap n0 Zn2 F2 V2 hbb gbp hab) (by rw [hml]; rfl) [(.int b)] [] pd_at rfl rfl rfl (hb hby at_101) (by decide) (by first | decide | exact Nat.le_of_ble_eq_true rfl | assumption | (simp [Value.category]; done)) (by first | decide | exact Nat.le_of_ble_eq_true rfl | assumption | (simp [Value.category]; done)) (by first | decide | exact Nat.le_of_ble_eq_true rfl | assumption | (simp [Value.category]; done)) ?_
        intro T7 v7 L7 X7 q7
        obtain ⟨rfl, N7a, K7, F7, V7⟩ := q7
        have N7 := Fr.app N2 N7a
        have Zn7 : n0 ≤ T7.heap.size := Nat.le_trans Zn2 K7.1
        have Ex7 := Ex2.keep K7
        show Goes p e below _ (T7.setTop (mkF m 104 #[.val (.int i0), .val (.int i1), .val (.int i2), .val (.int i3), .val (.long i4), .second, .val (.int i5), .val (.int n), .val (.int a), .val (.int b), .val (.int m1), .val (.int m2), .val (.long r), .second, .val (.ref a1), .unset, .unset] []))
        refine Goes.pre (S' := (T7.setTop (mkF m 106 #[.val (.int i0), .val (.int i1), .val (.int i2), .val (.int i3), .val (.long i4), .second, .val (.int i5), .val (.int n), .val (.int a), .val (.int b), .val (.int m1), .val (.int m2), .val (.long r), .second, .val (.ref a1), .unset, .unset] [(.ref a1)]))) (fun _ k => XS.aload X7.here hx rfl (hb hby at_104) rfl rfl k) ?_
        refine Goes.pre (S' := (T7.setTop (mkF m 108 #[.val (.int i0), .val (.int i1), .val (.int i2), .val (.int i3), .val (.long i4), .second, .val (.int i5), .val (.int n), .val (.int a), .val (.int b), .val (.int m1), .val (.int m2), .val (.long r), .second, .val (.ref a1), .unset, .unset] [(.long i4), (.ref a1)]))) (fun _ k => XT.lload X7.here hx rfl (hb hby at_106) rfl k) ?_
        have hxs : ∀ j, j ∈ (b :: [n]) ↔ (j = n ∨ (¬ m1 = 0 ∧ j = a) ∨ (¬ m2 = 0 ∧ j = b)) := fun j => by constructor <;> intro q <;> simp [c82, c94] at q ⊢ <;> (first | done | exact q | (rcases q with q | q | q <;> simp [q]) | (rcases q with q | q <;> simp [q]))
        refine Goes.callV (y := (⟨"com/example/quarry/quarry/text/Labels", "isPlace", "(J)Z"⟩ : MethodName)) (C := "com/example/quarry/quarry/text/Labels") X7 hx hZ hown (hw _ (List.mem_of_getElem? (i := 19) rfl)) (hw _ (List.mem_of_getElem? (i := 20) rfl)) (hw _ (List.mem_of_getElem? (i := 22) rfl)) (hw _ (List.mem_of_getElem? (i := 21) rfl)) (hw _ (List.mem_of_getElem? (i := 4) rfl)) (hw _ (List.mem_of_getElem? (i := 23) rfl)) (by decide) rfl Ex7 (rm_ip l Z a0 hw [] a1 i4 bp kp (n + 1) (b :: [n]) T7.heap n0 Zn7 F7 V7) (by rw [hml]; rfl) [(.long i4)] [] pd_ip rfl rfl rfl (hb hby at_108) (by decide) (by first | decide | exact Nat.le_of_ble_eq_true rfl | assumption | (simp [Value.category]; done)) (by first | decide | exact Nat.le_of_ble_eq_true rfl | assumption | (simp [Value.category]; done)) (by first | decide | exact Nat.le_of_ble_eq_true rfl | assumption | (simp [Value.category]; done)) ?_
        intro T8 v8 L8 X8 q8
        obtain ⟨d8, N8a, e8⟩ := q8
        have N8 := Fr.app N7 N8a
        obtain ⟨r8, hr8⟩ : ∃ z : Int32, v8 = some (.int z) := by rcases d8 with ⟨q, -⟩ | ⟨q, -⟩ <;> exact ⟨_, q⟩
        subst hr8
        show Goes p e below _ (T8.setTop (mkF m 111 #[.val (.int i0), .val (.int i1), .val (.int i2), .val (.int i3), .val (.long i4), .second, .val (.int i5), .val (.int n), .val (.int a), .val (.int b), .val (.int m1), .val (.int m2), .val (.long r), .second, .val (.ref a1), .unset, .unset] [(.int r8)]))
        refine Goes.pre (S' := (T8.setTop (mkF m 113 #[.val (.int i0), .val (.int i1), .val (.int i2), .val (.int i3), .val (.long i4), .second, .val (.int i5), .val (.int n), .val (.int a), .val (.int b), .val (.int m1), .val (.int m2), .val (.long r), .second, .val (.ref a1), .val (.int r8), .unset] []))) (fun _ k => XS.istore X8.here hx rfl (hb hby at_111) rfl (l' := #[.val (.int i0), .val (.int i1), .val (.int i2), .val (.int i3), .val (.long i4), .second, .val (.int i5), .val (.int n), .val (.int a), .val (.int b), .val (.int m1), .val (.int m2), .val (.long r), .second, .val (.ref a1), .val (.int r8), .unset]) rfl k) ?_
        refine Goes.pre (S' := (T8.setTop (mkF m 115 #[.val (.int i0), .val (.int i1), .val (.int i2), .val (.int i3), .val (.long i4), .second, .val (.int i5), .val (.int n), .val (.int a), .val (.int b), .val (.int m1), .val (.int m2), .val (.long r), .second, .val (.ref a1), .val (.int r8), .unset] [(.ref a1)]))) (fun _ k => XS.aload X8.here hx rfl (hb hby at_113) rfl rfl k) ?_
        refine Goes.pre (S' := (T8.setTop (mkF m 117 #[.val (.int i0), .val (.int i1), .val (.int i2), .val (.int i3), .val (.long i4), .second, .val (.int i5), .val (.int n), .val (.int a), .val (.int b), .val (.int m1), .val (.int m2), .val (.long r), .second, .val (.ref a1), .val (.int r8), .unset] [(.long r), (.ref a1)]))) (fun _ k => XT.lload X8.here hx rfl (hb hby at_115) rfl k) ?_
        refine Goes.callV (y := (⟨"com/example/quarry/quarry/text/Labels", "isPlace", "(J)Z"⟩ : MethodName)) (C := "com/example/quarry/quarry/text/Labels") X8 hx hZ hown (hw _ (List.mem_of_getElem? (i := 19) rfl)) (hw _ (List.mem_of_getElem? (i := 20) rfl)) (hw _ (List.mem_of_getElem? (i := 22) rfl)) (hw _ (List.mem_of_getElem? (i := 21) rfl)) (hw _ (List.mem_of_getElem? (i := 4) rfl)) (hw _ (List.mem_of_getElem? (i := 23) rfl)) (by decide) e8 Ex7 (rm_ip l Z a0 hw [] a1 r bp kp (n + 1) (b :: [n]) T7.heap n0 Zn7 F7 V7) (by rw [hml]; rfl) [(.long r)] [] pd_ip rfl rfl rfl (hb hby at_117) (by decide) (by first | decide | exact Nat.le_of_ble_eq_true rfl | assumption | (simp [Value.category]; done)) (by first | decide | exact Nat.le_of_ble_eq_true rfl | assumption | (simp [Value.category]; done)) (by first | decide | exact Nat.le_of_ble_eq_true rfl | assumption | (simp [Value.category]; done)) ?_
        intro T9 v9 L9 X9 q9
        obtain ⟨d9, N9a, e9⟩ := q9
        have N9 := Fr.app N8 N9a
        obtain ⟨r9, hr9⟩ : ∃ z : Int32, v9 = some (.int z) := by rcases d9 with ⟨q, -⟩ | ⟨q, -⟩ <;> exact ⟨_, q⟩
        subst hr9
        show Goes p e below _ (T9.setTop (mkF m 120 #[.val (.int i0), .val (.int i1), .val (.int i2), .val (.int i3), .val (.long i4), .second, .val (.int i5), .val (.int n), .val (.int a), .val (.int b), .val (.int m1), .val (.int m2), .val (.long r), .second, .val (.ref a1), .val (.int r8), .unset] [(.int r9)]))
        refine Goes.pre (S' := (T9.setTop (mkF m 122 #[.val (.int i0), .val (.int i1), .val (.int i2), .val (.int i3), .val (.long i4), .second, .val (.int i5), .val (.int n), .val (.int a), .val (.int b), .val (.int m1), .val (.int m2), .val (.long r), .second, .val (.ref a1), .val (.int r8), .val (.int r9)] []))) (fun _ k => XS.istore X9.here hx rfl (hb hby at_120) rfl (l' := #[.val (.int i0), .val (.int i1), .val (.int i2), .val (.int i3), .val (.long i4), .second, .val (.int i5), .val (.int n), .val (.int a), .val (.int b), .val (.int m1), .val (.int m2), .val (.long r), .second, .val (.ref a1), .val (.int r8), .val (.int r9)]) rfl k) ?_
        refine Goes.pre (S' := (T9.setTop (mkF m 124 #[.val (.int i0), .val (.int i1), .val (.int i2), .val (.int i3), .val (.long i4), .second, .val (.int i5), .val (.int n), .val (.int a), .val (.int b), .val (.int m1), .val (.int m2), .val (.long r), .second, .val (.ref a1), .val (.int r8), .val (.int r9)] [(.int r8)]))) (fun _ k => XS.iload X9.here hx rfl (hb hby at_122) rfl k) ?_
        refine Goes.pre (S' := (T9.setTop (mkF m 126 #[.val (.int i0), .val (.int i1), .val (.int i2), .val (.int i3), .val (.long i4), .second, .val (.int i5), .val (.int n), .val (.int a), .val (.int b), .val (.int m1), .val (.int m2), .val (.long r), .second, .val (.ref a1), .val (.int r8), .val (.int r9)] [(.int n), (.int r8)]))) (fun _ k => XS.iload X9.here hx rfl (hb hby at_124) rfl k) ?_
        refine Goes.pre (S' := (T9.setTop (mkF m 128 #[.val (.int i0), .val (.int i1), .val (.int i2), .val (.int i3), .val (.long i4), .second, .val (.int i5), .val (.int n), .val (.int a), .val (.int b), .val (.int m1), .val (.int m2), .val (.long r), .second, .val (.ref a1), .val (.int r8), .val (.int r9)] [(.int m1), (.int n), (.int r8)]))) (fun _ k => XS.iload X9.here hx rfl (hb hby at_126) rfl k) ?_
        refine Goes.pre (S' := (T9.setTop (mkF m 130 #[.val (.int i0), .val (.int i1), .val (.int i2), .val (.int i3), .val (.long i4), .second, .val (.int i5), .val (.int n), .val (.int a), .val (.int b), .val (.int m1), .val (.int m2), .val (.long r), .second, .val (.ref a1), .val (.int r8), .val (.int r9)] [(.int a), (.int m1), (.int n), (.int r8)]))) (fun _ k => XS.iload X9.here hx rfl (hb hby at_128) rfl k) ?_
        refine Goes.pre (S' := (T9.setTop (mkF m 132 #[.val (.int i0), .val (.int i1), .val (.int i2), .val (.int i3), .val (.long i4), .second, .val (.int i5), .val (.int n), .val (.int a), .val (.int b), .val (.int m1), .val (.int m2), .val (.long r), .second, .val (.ref a1), .val (.int r8), .val (.int r9)] [(.int m2), (.int a), (.int m1), (.int n), (.int r8)]))) (fun _ k => XS.iload X9.here hx rfl (hb hby at_130) rfl k) ?_
        refine Goes.pre (S' := (T9.setTop (mkF m 134 #[.val (.int i0), .val (.int i1), .val (.int i2), .val (.int i3), .val (.long i4), .second, .val (.int i5), .val (.int n), .val (.int a), .val (.int b), .val (.int m1), .val (.int m2), .val (.long r), .second, .val (.ref a1), .val (.int r8), .val (.int r9)] [(.int b), (.int m2), (.int a), (.int m1), (.int n), (.int r8)]))) (fun _ k => XS.iload X9.here hx rfl (hb hby at_132) rfl k) ?_
        refine Goes.pre (S' := (T9.setTop (mkF m 136 #[.val (.int i0), .val (.int i1), .val (.int i2), .val (.int i3), .val (.long i4), .second, .val (.int i5), .val (.int n), .val (.int a), .val (.int b), .val (.int m1), .val (.int m2), .val (.long r), .second, .val (.ref a1), .val (.int r8), .val (.int r9)] [(.long i4), (.int b), (.int m2), (.int a), (.int m1), (.int n), (.int r8)]))) (fun _ k => XT.lload X9.here hx rfl (hb hby at_134) rfl k) ?_
        refine Goes.callS (y := (⟨"com/example/quarry/quarry/text/LabelsIsPlacePinLaw", "expected", "(IZIZIJ)Z"⟩ : MethodName)) X9 hx hZ hown (hw _ (List.mem_of_getElem? (i := 24) rfl)) (hw _ (List.mem_of_getElem? (i := 25) rfl)) (hw _ (List.mem_of_getElem? (i := 26) rfl)) (hw _ (List.mem_of_getElem? (i := 27) rfl)) (by decide) e9 (rm_ex l Z a0 hw [] n m1 a m2 b i4 T7.heap n0 Zn7) (by rw [hml]; rfl) [(.int n), (.int m1), (.int a), (.int m2), (.int b), (.long i4)] [(.int r8)] pd_ex rfl rfl rfl (hb hby at_136) (by decide) (by first | decide | exact Nat.le_of_ble_eq_true rfl | assumption | (simp [Value.category]; done)) (by first | decide | exact Nat.le_of_ble_eq_true rfl | assumption | (simp [Value.category]; done)) (by first | decide | exact Nat.le_of_ble_eq_true rfl | assumption | (simp [Value.category]; done)) ?_
        intro T10 v10 L10 X10 q10
        obtain ⟨d10, N10a, e10⟩ := q10
        have N10 := Fr.app N9 N10a
        obtain rfl : v10 = some (.int r8) := by
          have A := own_same (x := i4) hn h7 ha hbb hxs
          rcases d8 with ⟨q, a⟩ | ⟨q, a⟩ <;> rcases d10 with ⟨q2, a2⟩ | ⟨q2, a2⟩
          · rw [q2, q]
          · exact absurd (A.mp a) a2
          · exact absurd (A.mpr a2) a
          · rw [q2, q]
        show Goes p e below _ (T10.setTop (mkF m 139 #[.val (.int i0), .val (.int i1), .val (.int i2), .val (.int i3), .val (.long i4), .second, .val (.int i5), .val (.int n), .val (.int a), .val (.int b), .val (.int m1), .val (.int m2), .val (.long r), .second, .val (.ref a1), .val (.int r8), .val (.int r9)] [(.int r8), (.int r8)]))
        refine Goes.pre (S' := (T10.setTop (mkF m 142 #[.val (.int i0), .val (.int i1), .val (.int i2), .val (.int i3), .val (.long i4), .second, .val (.int i5), .val (.int n), .val (.int a), .val (.int b), .val (.int m1), .val (.int m2), .val (.long r), .second, .val (.ref a1), .val (.int r8), .val (.int r9)] []))) (fun _ k => XS.icmpNo X10.here hx rfl (hb hby at_139) rfl (XT.ii_ne_f rfl) k) ?_
        refine Goes.pre (S' := (T10.setTop (mkF m 144 #[.val (.int i0), .val (.int i1), .val (.int i2), .val (.int i3), .val (.long i4), .second, .val (.int i5), .val (.int n), .val (.int a), .val (.int b), .val (.int m1), .val (.int m2), .val (.long r), .second, .val (.ref a1), .val (.int r8), .val (.int r9)] [(.int r9)]))) (fun _ k => XS.iload X10.here hx rfl (hb hby at_142) rfl k) ?_
        refine Goes.pre (S' := (T10.setTop (mkF m 146 #[.val (.int i0), .val (.int i1), .val (.int i2), .val (.int i3), .val (.long i4), .second, .val (.int i5), .val (.int n), .val (.int a), .val (.int b), .val (.int m1), .val (.int m2), .val (.long r), .second, .val (.ref a1), .val (.int r8), .val (.int r9)] [(.int n), (.int r9)]))) (fun _ k => XS.iload X10.here hx rfl (hb hby at_144) rfl k) ?_
        refine Goes.pre (S' := (T10.setTop (mkF m 148 #[.val (.int i0), .val (.int i1), .val (.int i2), .val (.int i3), .val (.long i4), .second, .val (.int i5), .val (.int n), .val (.int a), .val (.int b), .val (.int m1), .val (.int m2), .val (.long r), .second, .val (.ref a1), .val (.int r8), .val (.int r9)] [(.int m1), (.int n), (.int r9)]))) (fun _ k => XS.iload X10.here hx rfl (hb hby at_146) rfl k) ?_
        refine Goes.pre (S' := (T10.setTop (mkF m 150 #[.val (.int i0), .val (.int i1), .val (.int i2), .val (.int i3), .val (.long i4), .second, .val (.int i5), .val (.int n), .val (.int a), .val (.int b), .val (.int m1), .val (.int m2), .val (.long r), .second, .val (.ref a1), .val (.int r8), .val (.int r9)] [(.int a), (.int m1), (.int n), (.int r9)]))) (fun _ k => XS.iload X10.here hx rfl (hb hby at_148) rfl k) ?_
        refine Goes.pre (S' := (T10.setTop (mkF m 152 #[.val (.int i0), .val (.int i1), .val (.int i2), .val (.int i3), .val (.long i4), .second, .val (.int i5), .val (.int n), .val (.int a), .val (.int b), .val (.int m1), .val (.int m2), .val (.long r), .second, .val (.ref a1), .val (.int r8), .val (.int r9)] [(.int m2), (.int a), (.int m1), (.int n), (.int r9)]))) (fun _ k => XS.iload X10.here hx rfl (hb hby at_150) rfl k) ?_
        refine Goes.pre (S' := (T10.setTop (mkF m 154 #[.val (.int i0), .val (.int i1), .val (.int i2), .val (.int i3), .val (.long i4), .second, .val (.int i5), .val (.int n), .val (.int a), .val (.int b), .val (.int m1), .val (.int m2), .val (.long r), .second, .val (.ref a1), .val (.int r8), .val (.int r9)] [(.int b), (.int m2), (.int a), (.int m1), (.int n), (.int r9)]))) (fun _ k => XS.iload X10.here hx rfl (hb hby at_152) rfl k) ?_
        refine Goes.pre (S' := (T10.setTop (mkF m 156 #[.val (.int i0), .val (.int i1), .val (.int i2), .val (.int i3), .val (.long i4), .second, .val (.int i5), .val (.int n), .val (.int a), .val (.int b), .val (.int m1), .val (.int m2), .val (.long r), .second, .val (.ref a1), .val (.int r8), .val (.int r9)] [(.long r), (.int b), (.int m2), (.int a), (.int m1), (.int n), (.int r9)]))) (fun _ k => XT.lload X10.here hx rfl (hb hby at_154) rfl k) ?_
        refine Goes.callS (y := (⟨"com/example/quarry/quarry/text/LabelsIsPlacePinLaw", "expected", "(IZIZIJ)Z"⟩ : MethodName)) X10 hx hZ hown (hw _ (List.mem_of_getElem? (i := 24) rfl)) (hw _ (List.mem_of_getElem? (i := 25) rfl)) (hw _ (List.mem_of_getElem? (i := 26) rfl)) (hw _ (List.mem_of_getElem? (i := 27) rfl)) (by decide) e10 (rm_ex l Z a0 hw [] n m1 a m2 b r T7.heap n0 Zn7) (by rw [hml]; rfl) [(.int n), (.int m1), (.int a), (.int m2), (.int b), (.long r)] [(.int r9)] pd_ex rfl rfl rfl (hb hby at_156) (by decide) (by first | decide | exact Nat.le_of_ble_eq_true rfl | assumption | (simp [Value.category]; done)) (by first | decide | exact Nat.le_of_ble_eq_true rfl | assumption | (simp [Value.category]; done)) (by first | decide | exact Nat.le_of_ble_eq_true rfl | assumption | (simp [Value.category]; done)) ?_
        intro T11 v11 L11 X11 q11
        obtain ⟨d11, N11a, e11⟩ := q11
        have N11 := Fr.app N10 N11a
        obtain rfl : v11 = some (.int r9) := by
          have A := own_same (x := r) hn h7 ha hbb hxs
          rcases d9 with ⟨q, a⟩ | ⟨q, a⟩ <;> rcases d11 with ⟨q2, a2⟩ | ⟨q2, a2⟩
          · rw [q2, q]
          · exact absurd (A.mp a) a2
          · exact absurd (A.mpr a2) a
          · rw [q2, q]
        show Goes p e below _ (T11.setTop (mkF m 159 #[.val (.int i0), .val (.int i1), .val (.int i2), .val (.int i3), .val (.long i4), .second, .val (.int i5), .val (.int n), .val (.int a), .val (.int b), .val (.int m1), .val (.int m2), .val (.long r), .second, .val (.ref a1), .val (.int r8), .val (.int r9)] [(.int r9), (.int r9)]))
        refine Goes.pre (S' := (T11.setTop (mkF m 162 #[.val (.int i0), .val (.int i1), .val (.int i2), .val (.int i3), .val (.long i4), .second, .val (.int i5), .val (.int n), .val (.int a), .val (.int b), .val (.int m1), .val (.int m2), .val (.long r), .second, .val (.ref a1), .val (.int r8), .val (.int r9)] []))) (fun _ k => XS.icmpNo X11.here hx rfl (hb hby at_159) rfl (XT.ii_ne_f rfl) k) ?_
        refine Goes.pre (S' := (T11.setTop (mkF m 163 #[.val (.int i0), .val (.int i1), .val (.int i2), .val (.int i3), .val (.long i4), .second, .val (.int i5), .val (.int n), .val (.int a), .val (.int b), .val (.int m1), .val (.int m2), .val (.long r), .second, .val (.ref a1), .val (.int r8), .val (.int r9)] [(.int (1 : Int32))]))) (fun _ k => XS.iconst X11.here hx rfl (hb hby at_162) k) ?_
        refine Goes.pre (S' := (T11.setTop (mkF m 167 #[.val (.int i0), .val (.int i1), .val (.int i2), .val (.int i3), .val (.long i4), .second, .val (.int i5), .val (.int n), .val (.int a), .val (.int b), .val (.int m1), .val (.int m2), .val (.long r), .second, .val (.ref a1), .val (.int r8), .val (.int r9)] [(.int (1 : Int32))]))) (fun _ k => XS.goto X11.here hx rfl (pc0 := 163) (pc' := 167) rfl (hb hby at_163) (by decide) (by decide) k) ?_
        exact Goes.retN X11 hx hlk (t := .boolean) Bd.returns (by simp) (hb hby at_167) ⟨rfl, N11⟩ (by first | decide | exact Nat.le_of_ble_eq_true rfl | assumption | (simp [Value.category]; done)) (by first | decide | exact Nat.le_of_ble_eq_true rfl | assumption | (simp [Value.category]; done))
    · skip
      refine Goes.pre (S' := (T2.setTop (mkF m 85 #[.val (.int i0), .val (.int i1), .val (.int i2), .val (.int i3), .val (.long i4), .second, .val (.int i5), .val (.int n), .val (.int a), .val (.int b), .val (.int m1), .val (.int m2), .val (.long r), .second, .val (.ref a1), .unset, .unset] []))) (fun _ k => XS.ifNo X2.here hx rfl (hb hby at_82) rfl (XT.i0_eq_f c82) k) ?_
      refine Goes.pre (S' := (T2.setTop (mkF m 87 #[.val (.int i0), .val (.int i1), .val (.int i2), .val (.int i3), .val (.long i4), .second, .val (.int i5), .val (.int n), .val (.int a), .val (.int b), .val (.int m1), .val (.int m2), .val (.long r), .second, .val (.ref a1), .unset, .unset] [(.ref a1)]))) (fun _ k => XS.aload X2.here hx rfl (hb hby at_85) rfl rfl k) ?_
      refine Goes.pre (S' := (T2.setTop (mkF m 89 #[.val (.int i0), .val (.int i1), .val (.int i2), .val (.int i3), .val (.long i4), .second, .val (.int i5), .val (.int n), .val (.int a), .val (.int b), .val (.int m1), .val (.int m2), .val (.long r), .second, .val (.ref a1), .unset, .unset] [(.int a), (.ref a1)]))) (fun _ k => XS.iload X2.here hx rfl (hb hby at_87) rfl k) ?_
      refine Goes.callV (y := (⟨"com/example/quarry/quarry/text/Labels", "instructionAt", "(I)V"⟩ : MethodName)) (C := "com/example/quarry/quarry/text/Labels") X2 hx hZ hown (hw _ (List.mem_of_getElem? (i := 14) rfl)) (hw _ (List.mem_of_getElem? (i := 15) rfl)) (hw _ (List.mem_of_getElem? (i := 17) rfl)) (hw _ (List.mem_of_getElem? (i := 16) rfl)) (hw _ (List.mem_of_getElem? (i := 4) rfl)) (hw _ (List.mem_of_getElem? (i := 18) rfl)) (by decide) rfl Ex2 (rm_at l Z a0 hw [] a1 a bp kp (n + 1) [n] T2.heap n0 Zn2 F2 V2 ha gbp hab) (by rw [hml]; rfl) [(.int a)] [] pd_at rfl rfl rfl (hb hby at_89) (by decide) (by first | decide | exact Nat.le_of_ble_eq_true rfl | assumption | (simp [Value.category]; done)) (by first | decide | exact Nat.le_of_ble_eq_true rfl | assumption | (simp [Value.category]; done)) (by first | decide | exact Nat.le_of_ble_eq_true rfl | assumption | (simp [Value.category]; done)) ?_
      intro T12 v12 L12 X12 q12
      obtain ⟨rfl, N12a, K12, F12, V12⟩ := q12
      have N12 := Fr.app N2 N12a
      have Zn12 : n0 ≤ T12.heap.size := Nat.le_trans Zn2 K12.1
      have Ex12 := Ex2.keep K12
      show Goes p e below _ (T12.setTop (mkF m 92 #[.val (.int i0), .val (.int i1), .val (.int i2), .val (.int i3), .val (.long i4), .second, .val (.int i5), .val (.int n), .val (.int a), .val (.int b), .val (.int m1), .val (.int m2), .val (.long r), .second, .val (.ref a1), .unset, .unset] []))
      refine Goes.pre (S' := (T12.setTop (mkF m 94 #[.val (.int i0), .val (.int i1), .val (.int i2), .val (.int i3), .val (.long i4), .second, .val (.int i5), .val (.int n), .val (.int a), .val (.int b), .val (.int m1), .val (.int m2), .val (.long r), .second, .val (.ref a1), .unset, .unset] [(.int m2)]))) (fun _ k => XS.iload X12.here hx rfl (hb hby at_92) rfl k) ?_
      by_cases c94 : m2 = 0
      · skip
        refine Goes.pre (S' := (T12.setTop (mkF m 104 #[.val (.int i0), .val (.int i1), .val (.int i2), .val (.int i3), .val (.long i4), .second, .val (.int i5), .val (.int n), .val (.int a), .val (.int b), .val (.int m1), .val (.int m2), .val (.long r), .second, .val (.ref a1), .unset, .unset] []))) (fun _ k => XS.ifYes X12.here hx rfl (pc0 := 94) (pc' := 104) rfl (hb hby at_94) rfl (XT.i0_eq_t c94) (by decide) (by decide) k) ?_
        have hxs : ∀ j, j ∈ (a :: [n]) ↔ (j = n ∨ (¬ m1 = 0 ∧ j = a) ∨ (¬ m2 = 0 ∧ j = b)) := fun j => by constructor <;> intro q <;> simp [c82, c94] at q ⊢ <;> (first | done | exact q | (rcases q with q | q | q <;> simp [q]) | (rcases q with q | q <;> simp [q]))
        refine Goes.pre (S' := (T12.setTop (mkF m 106 #[.val (.int i0), .val (.int i1), .val (.int i2), .val (.int i3), .val (.long i4), .second, .val (.int i5), .val (.int n), .val (.int a), .val (.int b), .val (.int m1), .val (.int m2), .val (.long r), .second, .val (.ref a1), .unset, .unset] [(.ref a1)]))) (fun _ k => XS.aload X12.here hx rfl (hb hby at_104) rfl rfl k) ?_
        refine Goes.pre (S' := (T12.setTop (mkF m 108 #[.val (.int i0), .val (.int i1), .val (.int i2), .val (.int i3), .val (.long i4), .second, .val (.int i5), .val (.int n), .val (.int a), .val (.int b), .val (.int m1), .val (.int m2), .val (.long r), .second, .val (.ref a1), .unset, .unset] [(.long i4), (.ref a1)]))) (fun _ k => XT.lload X12.here hx rfl (hb hby at_106) rfl k) ?_
        refine Goes.callV (y := (⟨"com/example/quarry/quarry/text/Labels", "isPlace", "(J)Z"⟩ : MethodName)) (C := "com/example/quarry/quarry/text/Labels") X12 hx hZ hown (hw _ (List.mem_of_getElem? (i := 19) rfl)) (hw _ (List.mem_of_getElem? (i := 20) rfl)) (hw _ (List.mem_of_getElem? (i := 22) rfl)) (hw _ (List.mem_of_getElem? (i := 21) rfl)) (hw _ (List.mem_of_getElem? (i := 4) rfl)) (hw _ (List.mem_of_getElem? (i := 23) rfl)) (by decide) rfl Ex12 (rm_ip l Z a0 hw [] a1 i4 bp kp (n + 1) (a :: [n]) T12.heap n0 Zn12 F12 V12) (by rw [hml]; rfl) [(.long i4)] [] pd_ip rfl rfl rfl (hb hby at_108) (by decide) (by first | decide | exact Nat.le_of_ble_eq_true rfl | assumption | (simp [Value.category]; done)) (by first | decide | exact Nat.le_of_ble_eq_true rfl | assumption | (simp [Value.category]; done)) (by first | decide | exact Nat.le_of_ble_eq_true rfl | assumption | (simp [Value.category]; done)) ?_
        intro T13 v13 L13 X13 q13
        obtain ⟨d13, N13a, e13⟩ := q13
        have N13 := Fr.app N12 N13a
        obtain ⟨r13, hr13⟩ : ∃ z : Int32, v13 = some (.int z) := by rcases d13 with ⟨q, -⟩ | ⟨q, -⟩ <;> exact ⟨_, q⟩
        subst hr13
        show Goes p e below _ (T13.setTop (mkF m 111 #[.val (.int i0), .val (.int i1), .val (.int i2), .val (.int i3), .val (.long i4), .second, .val (.int i5), .val (.int n), .val (.int a), .val (.int b), .val (.int m1), .val (.int m2), .val (.long r), .second, .val (.ref a1), .unset, .unset] [(.int r13)]))
        refine Goes.pre (S' := (T13.setTop (mkF m 113 #[.val (.int i0), .val (.int i1), .val (.int i2), .val (.int i3), .val (.long i4), .second, .val (.int i5), .val (.int n), .val (.int a), .val (.int b), .val (.int m1), .val (.int m2), .val (.long r), .second, .val (.ref a1), .val (.int r13), .unset] []))) (fun _ k => XS.istore X13.here hx rfl (hb hby at_111) rfl (l' := #[.val (.int i0), .val (.int i1), .val (.int i2), .val (.int i3), .val (.long i4), .second, .val (.int i5), .val (.int n), .val (.int a), .val (.int b), .val (.int m1), .val (.int m2), .val (.long r), .second, .val (.ref a1), .val (.int r13), .unset]) rfl k) ?_
        refine Goes.pre (S' := (T13.setTop (mkF m 115 #[.val (.int i0), .val (.int i1), .val (.int i2), .val (.int i3), .val (.long i4), .second, .val (.int i5), .val (.int n), .val (.int a), .val (.int b), .val (.int m1), .val (.int m2), .val (.long r), .second, .val (.ref a1), .val (.int r13), .unset] [(.ref a1)]))) (fun _ k => XS.aload X13.here hx rfl (hb hby at_113) rfl rfl k) ?_
        refine Goes.pre (S' := (T13.setTop (mkF m 117 #[.val (.int i0), .val (.int i1), .val (.int i2), .val (.int i3), .val (.long i4), .second, .val (.int i5), .val (.int n), .val (.int a), .val (.int b), .val (.int m1), .val (.int m2), .val (.long r), .second, .val (.ref a1), .val (.int r13), .unset] [(.long r), (.ref a1)]))) (fun _ k => XT.lload X13.here hx rfl (hb hby at_115) rfl k) ?_
        refine Goes.callV (y := (⟨"com/example/quarry/quarry/text/Labels", "isPlace", "(J)Z"⟩ : MethodName)) (C := "com/example/quarry/quarry/text/Labels") X13 hx hZ hown (hw _ (List.mem_of_getElem? (i := 19) rfl)) (hw _ (List.mem_of_getElem? (i := 20) rfl)) (hw _ (List.mem_of_getElem? (i := 22) rfl)) (hw _ (List.mem_of_getElem? (i := 21) rfl)) (hw _ (List.mem_of_getElem? (i := 4) rfl)) (hw _ (List.mem_of_getElem? (i := 23) rfl)) (by decide) e13 Ex12 (rm_ip l Z a0 hw [] a1 r bp kp (n + 1) (a :: [n]) T12.heap n0 Zn12 F12 V12) (by rw [hml]; rfl) [(.long r)] [] pd_ip rfl rfl rfl (hb hby at_117) (by decide) (by first | decide | exact Nat.le_of_ble_eq_true rfl | assumption | (simp [Value.category]; done)) (by first | decide | exact Nat.le_of_ble_eq_true rfl | assumption | (simp [Value.category]; done)) (by first | decide | exact Nat.le_of_ble_eq_true rfl | assumption | (simp [Value.category]; done)) ?_
        intro T14 v14 L14 X14 q14
        obtain ⟨d14, N14a, e14⟩ := q14
        have N14 := Fr.app N13 N14a
        obtain ⟨r14, hr14⟩ : ∃ z : Int32, v14 = some (.int z) := by rcases d14 with ⟨q, -⟩ | ⟨q, -⟩ <;> exact ⟨_, q⟩
        subst hr14
        show Goes p e below _ (T14.setTop (mkF m 120 #[.val (.int i0), .val (.int i1), .val (.int i2), .val (.int i3), .val (.long i4), .second, .val (.int i5), .val (.int n), .val (.int a), .val (.int b), .val (.int m1), .val (.int m2), .val (.long r), .second, .val (.ref a1), .val (.int r13), .unset] [(.int r14)]))
        refine Goes.pre (S' := (T14.setTop (mkF m 122 #[.val (.int i0), .val (.int i1), .val (.int i2), .val (.int i3), .val (.long i4), .second, .val (.int i5), .val (.int n), .val (.int a), .val (.int b), .val (.int m1), .val (.int m2), .val (.long r), .second, .val (.ref a1), .val (.int r13), .val (.int r14)] []))) (fun _ k => XS.istore X14.here hx rfl (hb hby at_120) rfl (l' := #[.val (.int i0), .val (.int i1), .val (.int i2), .val (.int i3), .val (.long i4), .second, .val (.int i5), .val (.int n), .val (.int a), .val (.int b), .val (.int m1), .val (.int m2), .val (.long r), .second, .val (.ref a1), .val (.int r13), .val (.int r14)]) rfl k) ?_
        refine Goes.pre (S' := (T14.setTop (mkF m 124 #[.val (.int i0), .val (.int i1), .val (.int i2), .val (.int i3), .val (.long i4), .second, .val (.int i5), .val (.int n), .val (.int a), .val (.int b), .val (.int m1), .val (.int m2), .val (.long r), .second, .val (.ref a1), .val (.int r13), .val (.int r14)] [(.int r13)]))) (fun _ k => XS.iload X14.here hx rfl (hb hby at_122) rfl k) ?_
        refine Goes.pre (S' := (T14.setTop (mkF m 126 #[.val (.int i0), .val (.int i1), .val (.int i2), .val (.int i3), .val (.long i4), .second, .val (.int i5), .val (.int n), .val (.int a), .val (.int b), .val (.int m1), .val (.int m2), .val (.long r), .second, .val (.ref a1), .val (.int r13), .val (.int r14)] [(.int n), (.int r13)]))) (fun _ k => XS.iload X14.here hx rfl (hb hby at_124) rfl k) ?_
        refine Goes.pre (S' := (T14.setTop (mkF m 128 #[.val (.int i0), .val (.int i1), .val (.int i2), .val (.int i3), .val (.long i4), .second, .val (.int i5), .val (.int n), .val (.int a), .val (.int b), .val (.int m1), .val (.int m2), .val (.long r), .second, .val (.ref a1), .val (.int r13), .val (.int r14)] [(.int m1), (.int n), (.int r13)]))) (fun _ k => XS.iload X14.here hx rfl (hb hby at_126) rfl k) ?_
        refine Goes.pre (S' := (T14.setTop (mkF m 130 #[.val (.int i0), .val (.int i1), .val (.int i2), .val (.int i3), .val (.long i4), .second, .val (.int i5), .val (.int n), .val (.int a), .val (.int b), .val (.int m1), .val (.int m2), .val (.long r), .second, .val (.ref a1), .val (.int r13), .val (.int r14)] [(.int a), (.int m1), (.int n), (.int r13)]))) (fun _ k => XS.iload X14.here hx rfl (hb hby at_128) rfl k) ?_
        refine Goes.pre (S' := (T14.setTop (mkF m 132 #[.val (.int i0), .val (.int i1), .val (.int i2), .val (.int i3), .val (.long i4), .second, .val (.int i5), .val (.int n), .val (.int a), .val (.int b), .val (.int m1), .val (.int m2), .val (.long r), .second, .val (.ref a1), .val (.int r13), .val (.int r14)] [(.int m2), (.int a), (.int m1), (.int n), (.int r13)]))) (fun _ k => XS.iload X14.here hx rfl (hb hby at_130) rfl k) ?_
        refine Goes.pre (S' := (T14.setTop (mkF m 134 #[.val (.int i0), .val (.int i1), .val (.int i2), .val (.int i3), .val (.long i4), .second, .val (.int i5), .val (.int n), .val (.int a), .val (.int b), .val (.int m1), .val (.int m2), .val (.long r), .second, .val (.ref a1), .val (.int r13), .val (.int r14)] [(.int b), (.int m2), (.int a), (.int m1), (.int n), (.int r13)]))) (fun _ k => XS.iload X14.here hx rfl (hb hby at_132) rfl k) ?_
        refine Goes.pre (S' := (T14.setTop (mkF m 136 #[.val (.int i0), .val (.int i1), .val (.int i2), .val (.int i3), .val (.long i4), .second, .val (.int i5), .val (.int n), .val (.int a), .val (.int b), .val (.int m1), .val (.int m2), .val (.long r), .second, .val (.ref a1), .val (.int r13), .val (.int r14)] [(.long i4), (.int b), (.int m2), (.int a), (.int m1), (.int n), (.int r13)]))) (fun _ k => XT.lload X14.here hx rfl (hb hby at_134) rfl k) ?_
        refine Goes.callS (y := (⟨"com/example/quarry/quarry/text/LabelsIsPlacePinLaw", "expected", "(IZIZIJ)Z"⟩ : MethodName)) X14 hx hZ hown (hw _ (List.mem_of_getElem? (i := 24) rfl)) (hw _ (List.mem_of_getElem? (i := 25) rfl)) (hw _ (List.mem_of_getElem? (i := 26) rfl)) (hw _ (List.mem_of_getElem? (i := 27) rfl)) (by decide) e14 (rm_ex l Z a0 hw [] n m1 a m2 b i4 T12.heap n0 Zn12) (by rw [hml]; rfl) [(.int n), (.int m1), (.int a), (.int m2), (.int b), (.long i4)] [(.int r13)] pd_ex rfl rfl rfl (hb hby at_136) (by decide) (by first | decide | exact Nat.le_of_ble_eq_true rfl | assumption | (simp [Value.category]; done)) (by first | decide | exact Nat.le_of_ble_eq_true rfl | assumption | (simp [Value.category]; done)) (by first | decide | exact Nat.le_of_ble_eq_true rfl | assumption | (simp [Value.category]; done)) ?_
        intro T15 v15 L15 X15 q15
        obtain ⟨d15, N15a, e15⟩ := q15
        have N15 := Fr.app N14 N15a
        obtain rfl : v15 = some (.int r13) := by
          have A := own_same (x := i4) hn h7 ha hbb hxs
          rcases d13 with ⟨q, a⟩ | ⟨q, a⟩ <;> rcases d15 with ⟨q2, a2⟩ | ⟨q2, a2⟩
          · rw [q2, q]
          · exact absurd (A.mp a) a2
          · exact absurd (A.mpr a2) a
          · rw [q2, q]
        show Goes p e below _ (T15.setTop (mkF m 139 #[.val (.int i0), .val (.int i1), .val (.int i2), .val (.int i3), .val (.long i4), .second, .val (.int i5), .val (.int n), .val (.int a), .val (.int b), .val (.int m1), .val (.int m2), .val (.long r), .second, .val (.ref a1), .val (.int r13), .val (.int r14)] [(.int r13), (.int r13)]))
        refine Goes.pre (S' := (T15.setTop (mkF m 142 #[.val (.int i0), .val (.int i1), .val (.int i2), .val (.int i3), .val (.long i4), .second, .val (.int i5), .val (.int n), .val (.int a), .val (.int b), .val (.int m1), .val (.int m2), .val (.long r), .second, .val (.ref a1), .val (.int r13), .val (.int r14)] []))) (fun _ k => XS.icmpNo X15.here hx rfl (hb hby at_139) rfl (XT.ii_ne_f rfl) k) ?_
        refine Goes.pre (S' := (T15.setTop (mkF m 144 #[.val (.int i0), .val (.int i1), .val (.int i2), .val (.int i3), .val (.long i4), .second, .val (.int i5), .val (.int n), .val (.int a), .val (.int b), .val (.int m1), .val (.int m2), .val (.long r), .second, .val (.ref a1), .val (.int r13), .val (.int r14)] [(.int r14)]))) (fun _ k => XS.iload X15.here hx rfl (hb hby at_142) rfl k) ?_
        refine Goes.pre (S' := (T15.setTop (mkF m 146 #[.val (.int i0), .val (.int i1), .val (.int i2), .val (.int i3), .val (.long i4), .second, .val (.int i5), .val (.int n), .val (.int a), .val (.int b), .val (.int m1), .val (.int m2), .val (.long r), .second, .val (.ref a1), .val (.int r13), .val (.int r14)] [(.int n), (.int r14)]))) (fun _ k => XS.iload X15.here hx rfl (hb hby at_144) rfl k) ?_
        refine Goes.pre (S' := (T15.setTop (mkF m 148 #[.val (.int i0), .val (.int i1), .val (.int i2), .val (.int i3), .val (.long i4), .second, .val (.int i5), .val (.int n), .val (.int a), .val (.int b), .val (.int m1), .val (.int m2), .val (.long r), .second, .val (.ref a1), .val (.int r13), .val (.int r14)] [(.int m1), (.int n), (.int r14)]))) (fun _ k => XS.iload X15.here hx rfl (hb hby at_146) rfl k) ?_
        refine Goes.pre (S' := (T15.setTop (mkF m 150 #[.val (.int i0), .val (.int i1), .val (.int i2), .val (.int i3), .val (.long i4), .second, .val (.int i5), .val (.int n), .val (.int a), .val (.int b), .val (.int m1), .val (.int m2), .val (.long r), .second, .val (.ref a1), .val (.int r13), .val (.int r14)] [(.int a), (.int m1), (.int n), (.int r14)]))) (fun _ k => XS.iload X15.here hx rfl (hb hby at_148) rfl k) ?_
        refine Goes.pre (S' := (T15.setTop (mkF m 152 #[.val (.int i0), .val (.int i1), .val (.int i2), .val (.int i3), .val (.long i4), .second, .val (.int i5), .val (.int n), .val (.int a), .val (.int b), .val (.int m1), .val (.int m2), .val (.long r), .second, .val (.ref a1), .val (.int r13), .val (.int r14)] [(.int m2), (.int a), (.int m1), (.int n), (.int r14)]))) (fun _ k => XS.iload X15.here hx rfl (hb hby at_150) rfl k) ?_
        refine Goes.pre (S' := (T15.setTop (mkF m 154 #[.val (.int i0), .val (.int i1), .val (.int i2), .val (.int i3), .val (.long i4), .second, .val (.int i5), .val (.int n), .val (.int a), .val (.int b), .val (.int m1), .val (.int m2), .val (.long r), .second, .val (.ref a1), .val (.int r13), .val (.int r14)] [(.int b), (.int m2), (.int a), (.int m1), (.int n), (.int r14)]))) (fun _ k => XS.iload X15.here hx rfl (hb hby at_152) rfl k) ?_
        refine Goes.pre (S' := (T15.setTop (mkF m 156 #[.val (.int i0), .val (.int i1), .val (.int i2), .val (.int i3), .val (.long i4), .second, .val (.int i5), .val (.int n), .val (.int a), .val (.int b), .val (.int m1), .val (.int m2), .val (.long r), .second, .val (.ref a1), .val (.int r13), .val (.int r14)] [(.long r), (.int b), (.int m2), (.int a), (.int m1), (.int n), (.int r14)]))) (fun _ k => XT.lload X15.here hx rfl (hb hby at_154) rfl k) ?_
        refine Goes.callS (y := (⟨"com/example/quarry/quarry/text/LabelsIsPlacePinLaw", "expected", "(IZIZIJ)Z"⟩ : MethodName)) X15 hx hZ hown (hw _ (List.mem_of_getElem? (i := 24) rfl)) (hw _ (List.mem_of_getElem? (i := 25) rfl)) (hw _ (List.mem_of_getElem? (i := 26) rfl)) (hw _ (List.mem_of_getElem? (i := 27) rfl)) (by decide) e15 (rm_ex l Z a0 hw [] n m1 a m2 b r T12.heap n0 Zn12) (by rw [hml]; rfl) [(.int n), (.int m1), (.int a), (.int m2), (.int b), (.long r)] [(.int r14)] pd_ex rfl rfl rfl (hb hby at_156) (by decide) (by first | decide | exact Nat.le_of_ble_eq_true rfl | assumption | (simp [Value.category]; done)) (by first | decide | exact Nat.le_of_ble_eq_true rfl | assumption | (simp [Value.category]; done)) (by first | decide | exact Nat.le_of_ble_eq_true rfl | assumption | (simp [Value.category]; done)) ?_
        intro T16 v16 L16 X16 q16
        obtain ⟨d16, N16a, e16⟩ := q16
        have N16 := Fr.app N15 N16a
        obtain rfl : v16 = some (.int r14) := by
          have A := own_same (x := r) hn h7 ha hbb hxs
          rcases d14 with ⟨q, a⟩ | ⟨q, a⟩ <;> rcases d16 with ⟨q2, a2⟩ | ⟨q2, a2⟩
          · rw [q2, q]
          · exact absurd (A.mp a) a2
          · exact absurd (A.mpr a2) a
          · rw [q2, q]
        show Goes p e below _ (T16.setTop (mkF m 159 #[.val (.int i0), .val (.int i1), .val (.int i2), .val (.int i3), .val (.long i4), .second, .val (.int i5), .val (.int n), .val (.int a), .val (.int b), .val (.int m1), .val (.int m2), .val (.long r), .second, .val (.ref a1), .val (.int r13), .val (.int r14)] [(.int r14), (.int r14)]))
        refine Goes.pre (S' := (T16.setTop (mkF m 162 #[.val (.int i0), .val (.int i1), .val (.int i2), .val (.int i3), .val (.long i4), .second, .val (.int i5), .val (.int n), .val (.int a), .val (.int b), .val (.int m1), .val (.int m2), .val (.long r), .second, .val (.ref a1), .val (.int r13), .val (.int r14)] []))) (fun _ k => XS.icmpNo X16.here hx rfl (hb hby at_159) rfl (XT.ii_ne_f rfl) k) ?_
        refine Goes.pre (S' := (T16.setTop (mkF m 163 #[.val (.int i0), .val (.int i1), .val (.int i2), .val (.int i3), .val (.long i4), .second, .val (.int i5), .val (.int n), .val (.int a), .val (.int b), .val (.int m1), .val (.int m2), .val (.long r), .second, .val (.ref a1), .val (.int r13), .val (.int r14)] [(.int (1 : Int32))]))) (fun _ k => XS.iconst X16.here hx rfl (hb hby at_162) k) ?_
        refine Goes.pre (S' := (T16.setTop (mkF m 167 #[.val (.int i0), .val (.int i1), .val (.int i2), .val (.int i3), .val (.long i4), .second, .val (.int i5), .val (.int n), .val (.int a), .val (.int b), .val (.int m1), .val (.int m2), .val (.long r), .second, .val (.ref a1), .val (.int r13), .val (.int r14)] [(.int (1 : Int32))]))) (fun _ k => XS.goto X16.here hx rfl (pc0 := 163) (pc' := 167) rfl (hb hby at_163) (by decide) (by decide) k) ?_
        exact Goes.retN X16 hx hlk (t := .boolean) Bd.returns (by simp) (hb hby at_167) ⟨rfl, N16⟩ (by first | decide | exact Nat.le_of_ble_eq_true rfl | assumption | (simp [Value.category]; done)) (by first | decide | exact Nat.le_of_ble_eq_true rfl | assumption | (simp [Value.category]; done))
      · skip
        refine Goes.pre (S' := (T12.setTop (mkF m 97 #[.val (.int i0), .val (.int i1), .val (.int i2), .val (.int i3), .val (.long i4), .second, .val (.int i5), .val (.int n), .val (.int a), .val (.int b), .val (.int m1), .val (.int m2), .val (.long r), .second, .val (.ref a1), .unset, .unset] []))) (fun _ k => XS.ifNo X12.here hx rfl (hb hby at_94) rfl (XT.i0_eq_f c94) k) ?_
        refine Goes.pre (S' := (T12.setTop (mkF m 99 #[.val (.int i0), .val (.int i1), .val (.int i2), .val (.int i3), .val (.long i4), .second, .val (.int i5), .val (.int n), .val (.int a), .val (.int b), .val (.int m1), .val (.int m2), .val (.long r), .second, .val (.ref a1), .unset, .unset] [(.ref a1)]))) (fun _ k => XS.aload X12.here hx rfl (hb hby at_97) rfl rfl k) ?_
        refine Goes.pre (S' := (T12.setTop (mkF m 101 #[.val (.int i0), .val (.int i1), .val (.int i2), .val (.int i3), .val (.long i4), .second, .val (.int i5), .val (.int n), .val (.int a), .val (.int b), .val (.int m1), .val (.int m2), .val (.long r), .second, .val (.ref a1), .unset, .unset] [(.int b), (.ref a1)]))) (fun _ k => XS.iload X12.here hx rfl (hb hby at_99) rfl k) ?_
        refine Goes.callV (y := (⟨"com/example/quarry/quarry/text/Labels", "instructionAt", "(I)V"⟩ : MethodName)) (C := "com/example/quarry/quarry/text/Labels") X12 hx hZ hown (hw _ (List.mem_of_getElem? (i := 14) rfl)) (hw _ (List.mem_of_getElem? (i := 15) rfl)) (hw _ (List.mem_of_getElem? (i := 17) rfl)) (hw _ (List.mem_of_getElem? (i := 16) rfl)) (hw _ (List.mem_of_getElem? (i := 4) rfl)) (hw _ (List.mem_of_getElem? (i := 18) rfl)) (by decide) rfl Ex12 (rm_at l Z a0 hw [] a1 b bp kp (n + 1) (a :: [n]) T12.heap n0 Zn12 F12 V12 hbb gbp hab) (by rw [hml]; rfl) [(.int b)] [] pd_at rfl rfl rfl (hb hby at_101) (by decide) (by first | decide | exact Nat.le_of_ble_eq_true rfl | assumption | (simp [Value.category]; done)) (by first | decide | exact Nat.le_of_ble_eq_true rfl | assumption | (simp [Value.category]; done)) (by first | decide | exact Nat.le_of_ble_eq_true rfl | assumption | (simp [Value.category]; done)) ?_
        intro T17 v17 L17 X17 q17
        obtain ⟨rfl, N17a, K17, F17, V17⟩ := q17
        have N17 := Fr.app N12 N17a
        have Zn17 : n0 ≤ T17.heap.size := Nat.le_trans Zn12 K17.1
        have Ex17 := Ex12.keep K17
        show Goes p e below _ (T17.setTop (mkF m 104 #[.val (.int i0), .val (.int i1), .val (.int i2), .val (.int i3), .val (.long i4), .second, .val (.int i5), .val (.int n), .val (.int a), .val (.int b), .val (.int m1), .val (.int m2), .val (.long r), .second, .val (.ref a1), .unset, .unset] []))
        refine Goes.pre (S' := (T17.setTop (mkF m 106 #[.val (.int i0), .val (.int i1), .val (.int i2), .val (.int i3), .val (.long i4), .second, .val (.int i5), .val (.int n), .val (.int a), .val (.int b), .val (.int m1), .val (.int m2), .val (.long r), .second, .val (.ref a1), .unset, .unset] [(.ref a1)]))) (fun _ k => XS.aload X17.here hx rfl (hb hby at_104) rfl rfl k) ?_
        refine Goes.pre (S' := (T17.setTop (mkF m 108 #[.val (.int i0), .val (.int i1), .val (.int i2), .val (.int i3), .val (.long i4), .second, .val (.int i5), .val (.int n), .val (.int a), .val (.int b), .val (.int m1), .val (.int m2), .val (.long r), .second, .val (.ref a1), .unset, .unset] [(.long i4), (.ref a1)]))) (fun _ k => XT.lload X17.here hx rfl (hb hby at_106) rfl k) ?_
        have hxs : ∀ j, j ∈ (b :: (a :: [n])) ↔ (j = n ∨ (¬ m1 = 0 ∧ j = a) ∨ (¬ m2 = 0 ∧ j = b)) := fun j => by constructor <;> intro q <;> simp [c82, c94] at q ⊢ <;> (first | done | exact q | (rcases q with q | q | q <;> simp [q]) | (rcases q with q | q <;> simp [q]))
        refine Goes.callV (y := (⟨"com/example/quarry/quarry/text/Labels", "isPlace", "(J)Z"⟩ : MethodName)) (C := "com/example/quarry/quarry/text/Labels") X17 hx hZ hown (hw _ (List.mem_of_getElem? (i := 19) rfl)) (hw _ (List.mem_of_getElem? (i := 20) rfl)) (hw _ (List.mem_of_getElem? (i := 22) rfl)) (hw _ (List.mem_of_getElem? (i := 21) rfl)) (hw _ (List.mem_of_getElem? (i := 4) rfl)) (hw _ (List.mem_of_getElem? (i := 23) rfl)) (by decide) rfl Ex17 (rm_ip l Z a0 hw [] a1 i4 bp kp (n + 1) (b :: (a :: [n])) T17.heap n0 Zn17 F17 V17) (by rw [hml]; rfl) [(.long i4)] [] pd_ip rfl rfl rfl (hb hby at_108) (by decide) (by first | decide | exact Nat.le_of_ble_eq_true rfl | assumption | (simp [Value.category]; done)) (by first | decide | exact Nat.le_of_ble_eq_true rfl | assumption | (simp [Value.category]; done)) (by first | decide | exact Nat.le_of_ble_eq_true rfl | assumption | (simp [Value.category]; done)) ?_
        intro T18 v18 L18 X18 q18
        obtain ⟨d18, N18a, e18⟩ := q18
        have N18 := Fr.app N17 N18a
        obtain ⟨r18, hr18⟩ : ∃ z : Int32, v18 = some (.int z) := by rcases d18 with ⟨q, -⟩ | ⟨q, -⟩ <;> exact ⟨_, q⟩
        subst hr18
        show Goes p e below _ (T18.setTop (mkF m 111 #[.val (.int i0), .val (.int i1), .val (.int i2), .val (.int i3), .val (.long i4), .second, .val (.int i5), .val (.int n), .val (.int a), .val (.int b), .val (.int m1), .val (.int m2), .val (.long r), .second, .val (.ref a1), .unset, .unset] [(.int r18)]))
        refine Goes.pre (S' := (T18.setTop (mkF m 113 #[.val (.int i0), .val (.int i1), .val (.int i2), .val (.int i3), .val (.long i4), .second, .val (.int i5), .val (.int n), .val (.int a), .val (.int b), .val (.int m1), .val (.int m2), .val (.long r), .second, .val (.ref a1), .val (.int r18), .unset] []))) (fun _ k => XS.istore X18.here hx rfl (hb hby at_111) rfl (l' := #[.val (.int i0), .val (.int i1), .val (.int i2), .val (.int i3), .val (.long i4), .second, .val (.int i5), .val (.int n), .val (.int a), .val (.int b), .val (.int m1), .val (.int m2), .val (.long r), .second, .val (.ref a1), .val (.int r18), .unset]) rfl k) ?_
        refine Goes.pre (S' := (T18.setTop (mkF m 115 #[.val (.int i0), .val (.int i1), .val (.int i2), .val (.int i3), .val (.long i4), .second, .val (.int i5), .val (.int n), .val (.int a), .val (.int b), .val (.int m1), .val (.int m2), .val (.long r), .second, .val (.ref a1), .val (.int r18), .unset] [(.ref a1)]))) (fun _ k => XS.aload X18.here hx rfl (hb hby at_113) rfl rfl k) ?_
        refine Goes.pre (S' := (T18.setTop (mkF m 117 #[.val (.int i0), .val (.int i1), .val (.int i2), .val (.int i3), .val (.long i4), .second, .val (.int i5), .val (.int n), .val (.int a), .val (.int b), .val (.int m1), .val (.int m2), .val (.long r), .second, .val (.ref a1), .val (.int r18), .unset] [(.long r), (.ref a1)]))) (fun _ k => XT.lload X18.here hx rfl (hb hby at_115) rfl k) ?_
        refine Goes.callV (y := (⟨"com/example/quarry/quarry/text/Labels", "isPlace", "(J)Z"⟩ : MethodName)) (C := "com/example/quarry/quarry/text/Labels") X18 hx hZ hown (hw _ (List.mem_of_getElem? (i := 19) rfl)) (hw _ (List.mem_of_getElem? (i := 20) rfl)) (hw _ (List.mem_of_getElem? (i := 22) rfl)) (hw _ (List.mem_of_getElem? (i := 21) rfl)) (hw _ (List.mem_of_getElem? (i := 4) rfl)) (hw _ (List.mem_of_getElem? (i := 23) rfl)) (by decide) e18 Ex17 (rm_ip l Z a0 hw [] a1 r bp kp (n + 1) (b :: (a :: [n])) T17.heap n0 Zn17 F17 V17) (by rw [hml]; rfl) [(.long r)] [] pd_ip rfl rfl rfl (hb hby at_117) (by decide) (by first | decide | exact Nat.le_of_ble_eq_true rfl | assumption | (simp [Value.category]; done)) (by first | decide | exact Nat.le_of_ble_eq_true rfl | assumption | (simp [Value.category]; done)) (by first | decide | exact Nat.le_of_ble_eq_true rfl | assumption | (simp [Value.category]; done)) ?_
        intro T19 v19 L19 X19 q19
        obtain ⟨d19, N19a, e19⟩ := q19
        have N19 := Fr.app N18 N19a
        obtain ⟨r19, hr19⟩ : ∃ z : Int32, v19 = some (.int z) := by rcases d19 with ⟨q, -⟩ | ⟨q, -⟩ <;> exact ⟨_, q⟩
        subst hr19
        show Goes p e below _ (T19.setTop (mkF m 120 #[.val (.int i0), .val (.int i1), .val (.int i2), .val (.int i3), .val (.long i4), .second, .val (.int i5), .val (.int n), .val (.int a), .val (.int b), .val (.int m1), .val (.int m2), .val (.long r), .second, .val (.ref a1), .val (.int r18), .unset] [(.int r19)]))
        refine Goes.pre (S' := (T19.setTop (mkF m 122 #[.val (.int i0), .val (.int i1), .val (.int i2), .val (.int i3), .val (.long i4), .second, .val (.int i5), .val (.int n), .val (.int a), .val (.int b), .val (.int m1), .val (.int m2), .val (.long r), .second, .val (.ref a1), .val (.int r18), .val (.int r19)] []))) (fun _ k => XS.istore X19.here hx rfl (hb hby at_120) rfl (l' := #[.val (.int i0), .val (.int i1), .val (.int i2), .val (.int i3), .val (.long i4), .second, .val (.int i5), .val (.int n), .val (.int a), .val (.int b), .val (.int m1), .val (.int m2), .val (.long r), .second, .val (.ref a1), .val (.int r18), .val (.int r19)]) rfl k) ?_
        refine Goes.pre (S' := (T19.setTop (mkF m 124 #[.val (.int i0), .val (.int i1), .val (.int i2), .val (.int i3), .val (.long i4), .second, .val (.int i5), .val (.int n), .val (.int a), .val (.int b), .val (.int m1), .val (.int m2), .val (.long r), .second, .val (.ref a1), .val (.int r18), .val (.int r19)] [(.int r18)]))) (fun _ k => XS.iload X19.here hx rfl (hb hby at_122) rfl k) ?_
        refine Goes.pre (S' := (T19.setTop (mkF m 126 #[.val (.int i0), .val (.int i1), .val (.int i2), .val (.int i3), .val (.long i4), .second, .val (.int i5), .val (.int n), .val (.int a), .val (.int b), .val (.int m1), .val (.int m2), .val (.long r), .second, .val (.ref a1), .val (.int r18), .val (.int r19)] [(.int n), (.int r18)]))) (fun _ k => XS.iload X19.here hx rfl (hb hby at_124) rfl k) ?_
        refine Goes.pre (S' := (T19.setTop (mkF m 128 #[.val (.int i0), .val (.int i1), .val (.int i2), .val (.int i3), .val (.long i4), .second, .val (.int i5), .val (.int n), .val (.int a), .val (.int b), .val (.int m1), .val (.int m2), .val (.long r), .second, .val (.ref a1), .val (.int r18), .val (.int r19)] [(.int m1), (.int n), (.int r18)]))) (fun _ k => XS.iload X19.here hx rfl (hb hby at_126) rfl k) ?_
        refine Goes.pre (S' := (T19.setTop (mkF m 130 #[.val (.int i0), .val (.int i1), .val (.int i2), .val (.int i3), .val (.long i4), .second, .val (.int i5), .val (.int n), .val (.int a), .val (.int b), .val (.int m1), .val (.int m2), .val (.long r), .second, .val (.ref a1), .val (.int r18), .val (.int r19)] [(.int a), (.int m1), (.int n), (.int r18)]))) (fun _ k => XS.iload X19.here hx rfl (hb hby at_128) rfl k) ?_
        refine Goes.pre (S' := (T19.setTop (mkF m 132 #[.val (.int i0), .val (.int i1), .val (.int i2), .val (.int i3), .val (.long i4), .second, .val (.int i5), .val (.int n), .val (.int a), .val (.int b), .val (.int m1), .val (.int m2), .val (.long r), .second, .val (.ref a1), .val (.int r18), .val (.int r19)] [(.int m2), (.int a), (.int m1), (.int n), (.int r18)]))) (fun _ k => XS.iload X19.here hx rfl (hb hby at_130) rfl k) ?_
        refine Goes.pre (S' := (T19.setTop (mkF m 134 #[.val (.int i0), .val (.int i1), .val (.int i2), .val (.int i3), .val (.long i4), .second, .val (.int i5), .val (.int n), .val (.int a), .val (.int b), .val (.int m1), .val (.int m2), .val (.long r), .second, .val (.ref a1), .val (.int r18), .val (.int r19)] [(.int b), (.int m2), (.int a), (.int m1), (.int n), (.int r18)]))) (fun _ k => XS.iload X19.here hx rfl (hb hby at_132) rfl k) ?_
        refine Goes.pre (S' := (T19.setTop (mkF m 136 #[.val (.int i0), .val (.int i1), .val (.int i2), .val (.int i3), .val (.long i4), .second, .val (.int i5), .val (.int n), .val (.int a), .val (.int b), .val (.int m1), .val (.int m2), .val (.long r), .second, .val (.ref a1), .val (.int r18), .val (.int r19)] [(.long i4), (.int b), (.int m2), (.int a), (.int m1), (.int n), (.int r18)]))) (fun _ k => XT.lload X19.here hx rfl (hb hby at_134) rfl k) ?_
        refine Goes.callS (y := (⟨"com/example/quarry/quarry/text/LabelsIsPlacePinLaw", "expected", "(IZIZIJ)Z"⟩ : MethodName)) X19 hx hZ hown (hw _ (List.mem_of_getElem? (i := 24) rfl)) (hw _ (List.mem_of_getElem? (i := 25) rfl)) (hw _ (List.mem_of_getElem? (i := 26) rfl)) (hw _ (List.mem_of_getElem? (i := 27) rfl)) (by decide) e19 (rm_ex l Z a0 hw [] n m1 a m2 b i4 T17.heap n0 Zn17) (by rw [hml]; rfl) [(.int n), (.int m1), (.int a), (.int m2), (.int b), (.long i4)] [(.int r18)] pd_ex rfl rfl rfl (hb hby at_136) (by decide) (by first | decide | exact Nat.le_of_ble_eq_true rfl | assumption | (simp [Value.category]; done)) (by first | decide | exact Nat.le_of_ble_eq_true rfl | assumption | (simp [Value.category]; done)) (by first | decide | exact Nat.le_of_ble_eq_true rfl | assumption | (simp [Value.category]; done)) ?_
        intro T20 v20 L20 X20 q20
        obtain ⟨d20, N20a, e20⟩ := q20
        have N20 := Fr.app N19 N20a
        obtain rfl : v20 = some (.int r18) := by
          have A := own_same (x := i4) hn h7 ha hbb hxs
          rcases d18 with ⟨q, a⟩ | ⟨q, a⟩ <;> rcases d20 with ⟨q2, a2⟩ | ⟨q2, a2⟩
          · rw [q2, q]
          · exact absurd (A.mp a) a2
          · exact absurd (A.mpr a2) a
          · rw [q2, q]
        show Goes p e below _ (T20.setTop (mkF m 139 #[.val (.int i0), .val (.int i1), .val (.int i2), .val (.int i3), .val (.long i4), .second, .val (.int i5), .val (.int n), .val (.int a), .val (.int b), .val (.int m1), .val (.int m2), .val (.long r), .second, .val (.ref a1), .val (.int r18), .val (.int r19)] [(.int r18), (.int r18)]))
        refine Goes.pre (S' := (T20.setTop (mkF m 142 #[.val (.int i0), .val (.int i1), .val (.int i2), .val (.int i3), .val (.long i4), .second, .val (.int i5), .val (.int n), .val (.int a), .val (.int b), .val (.int m1), .val (.int m2), .val (.long r), .second, .val (.ref a1), .val (.int r18), .val (.int r19)] []))) (fun _ k => XS.icmpNo X20.here hx rfl (hb hby at_139) rfl (XT.ii_ne_f rfl) k) ?_
        refine Goes.pre (S' := (T20.setTop (mkF m 144 #[.val (.int i0), .val (.int i1), .val (.int i2), .val (.int i3), .val (.long i4), .second, .val (.int i5), .val (.int n), .val (.int a), .val (.int b), .val (.int m1), .val (.int m2), .val (.long r), .second, .val (.ref a1), .val (.int r18), .val (.int r19)] [(.int r19)]))) (fun _ k => XS.iload X20.here hx rfl (hb hby at_142) rfl k) ?_
        refine Goes.pre (S' := (T20.setTop (mkF m 146 #[.val (.int i0), .val (.int i1), .val (.int i2), .val (.int i3), .val (.long i4), .second, .val (.int i5), .val (.int n), .val (.int a), .val (.int b), .val (.int m1), .val (.int m2), .val (.long r), .second, .val (.ref a1), .val (.int r18), .val (.int r19)] [(.int n), (.int r19)]))) (fun _ k => XS.iload X20.here hx rfl (hb hby at_144) rfl k) ?_
        refine Goes.pre (S' := (T20.setTop (mkF m 148 #[.val (.int i0), .val (.int i1), .val (.int i2), .val (.int i3), .val (.long i4), .second, .val (.int i5), .val (.int n), .val (.int a), .val (.int b), .val (.int m1), .val (.int m2), .val (.long r), .second, .val (.ref a1), .val (.int r18), .val (.int r19)] [(.int m1), (.int n), (.int r19)]))) (fun _ k => XS.iload X20.here hx rfl (hb hby at_146) rfl k) ?_
        refine Goes.pre (S' := (T20.setTop (mkF m 150 #[.val (.int i0), .val (.int i1), .val (.int i2), .val (.int i3), .val (.long i4), .second, .val (.int i5), .val (.int n), .val (.int a), .val (.int b), .val (.int m1), .val (.int m2), .val (.long r), .second, .val (.ref a1), .val (.int r18), .val (.int r19)] [(.int a), (.int m1), (.int n), (.int r19)]))) (fun _ k => XS.iload X20.here hx rfl (hb hby at_148) rfl k) ?_
        refine Goes.pre (S' := (T20.setTop (mkF m 152 #[.val (.int i0), .val (.int i1), .val (.int i2), .val (.int i3), .val (.long i4), .second, .val (.int i5), .val (.int n), .val (.int a), .val (.int b), .val (.int m1), .val (.int m2), .val (.long r), .second, .val (.ref a1), .val (.int r18), .val (.int r19)] [(.int m2), (.int a), (.int m1), (.int n), (.int r19)]))) (fun _ k => XS.iload X20.here hx rfl (hb hby at_150) rfl k) ?_
        refine Goes.pre (S' := (T20.setTop (mkF m 154 #[.val (.int i0), .val (.int i1), .val (.int i2), .val (.int i3), .val (.long i4), .second, .val (.int i5), .val (.int n), .val (.int a), .val (.int b), .val (.int m1), .val (.int m2), .val (.long r), .second, .val (.ref a1), .val (.int r18), .val (.int r19)] [(.int b), (.int m2), (.int a), (.int m1), (.int n), (.int r19)]))) (fun _ k => XS.iload X20.here hx rfl (hb hby at_152) rfl k) ?_
        refine Goes.pre (S' := (T20.setTop (mkF m 156 #[.val (.int i0), .val (.int i1), .val (.int i2), .val (.int i3), .val (.long i4), .second, .val (.int i5), .val (.int n), .val (.int a), .val (.int b), .val (.int m1), .val (.int m2), .val (.long r), .second, .val (.ref a1), .val (.int r18), .val (.int r19)] [(.long r), (.int b), (.int m2), (.int a), (.int m1), (.int n), (.int r19)]))) (fun _ k => XT.lload X20.here hx rfl (hb hby at_154) rfl k) ?_
        refine Goes.callS (y := (⟨"com/example/quarry/quarry/text/LabelsIsPlacePinLaw", "expected", "(IZIZIJ)Z"⟩ : MethodName)) X20 hx hZ hown (hw _ (List.mem_of_getElem? (i := 24) rfl)) (hw _ (List.mem_of_getElem? (i := 25) rfl)) (hw _ (List.mem_of_getElem? (i := 26) rfl)) (hw _ (List.mem_of_getElem? (i := 27) rfl)) (by decide) e20 (rm_ex l Z a0 hw [] n m1 a m2 b r T17.heap n0 Zn17) (by rw [hml]; rfl) [(.int n), (.int m1), (.int a), (.int m2), (.int b), (.long r)] [(.int r19)] pd_ex rfl rfl rfl (hb hby at_156) (by decide) (by first | decide | exact Nat.le_of_ble_eq_true rfl | assumption | (simp [Value.category]; done)) (by first | decide | exact Nat.le_of_ble_eq_true rfl | assumption | (simp [Value.category]; done)) (by first | decide | exact Nat.le_of_ble_eq_true rfl | assumption | (simp [Value.category]; done)) ?_
        intro T21 v21 L21 X21 q21
        obtain ⟨d21, N21a, e21⟩ := q21
        have N21 := Fr.app N20 N21a
        obtain rfl : v21 = some (.int r19) := by
          have A := own_same (x := r) hn h7 ha hbb hxs
          rcases d19 with ⟨q, a⟩ | ⟨q, a⟩ <;> rcases d21 with ⟨q2, a2⟩ | ⟨q2, a2⟩
          · rw [q2, q]
          · exact absurd (A.mp a) a2
          · exact absurd (A.mpr a2) a
          · rw [q2, q]
        show Goes p e below _ (T21.setTop (mkF m 159 #[.val (.int i0), .val (.int i1), .val (.int i2), .val (.int i3), .val (.long i4), .second, .val (.int i5), .val (.int n), .val (.int a), .val (.int b), .val (.int m1), .val (.int m2), .val (.long r), .second, .val (.ref a1), .val (.int r18), .val (.int r19)] [(.int r19), (.int r19)]))
        refine Goes.pre (S' := (T21.setTop (mkF m 162 #[.val (.int i0), .val (.int i1), .val (.int i2), .val (.int i3), .val (.long i4), .second, .val (.int i5), .val (.int n), .val (.int a), .val (.int b), .val (.int m1), .val (.int m2), .val (.long r), .second, .val (.ref a1), .val (.int r18), .val (.int r19)] []))) (fun _ k => XS.icmpNo X21.here hx rfl (hb hby at_159) rfl (XT.ii_ne_f rfl) k) ?_
        refine Goes.pre (S' := (T21.setTop (mkF m 163 #[.val (.int i0), .val (.int i1), .val (.int i2), .val (.int i3), .val (.long i4), .second, .val (.int i5), .val (.int n), .val (.int a), .val (.int b), .val (.int m1), .val (.int m2), .val (.long r), .second, .val (.ref a1), .val (.int r18), .val (.int r19)] [(.int (1 : Int32))]))) (fun _ k => XS.iconst X21.here hx rfl (hb hby at_162) k) ?_
        refine Goes.pre (S' := (T21.setTop (mkF m 167 #[.val (.int i0), .val (.int i1), .val (.int i2), .val (.int i3), .val (.long i4), .second, .val (.int i5), .val (.int n), .val (.int a), .val (.int b), .val (.int m1), .val (.int m2), .val (.long r), .second, .val (.ref a1), .val (.int r18), .val (.int r19)] [(.int (1 : Int32))]))) (fun _ k => XS.goto X21.here hx rfl (pc0 := 163) (pc' := 167) rfl (hb hby at_163) (by decide) (by decide) k) ?_
        exact Goes.retN X21 hx hlk (t := .boolean) Bd.returns (by simp) (hb hby at_167) ⟨rfl, N21⟩ (by first | decide | exact Nat.le_of_ble_eq_true rfl | assumption | (simp [Value.category]; done)) (by first | decide | exact Nat.le_of_ble_eq_true rfl | assumption | (simp [Value.category]; done))
  obtain ⟨hn, h7⟩ := own_n7 i0
  refine Goes.pre (S' := (s₁.setTop (mkF m 1 #[.val (.int i0), .val (.int i1), .val (.int i2), .val (.int i3), .val (.long i4), .second, .val (.int i5), .unset, .unset, .unset, .unset, .unset, .unset, .unset, .unset, .unset, .unset] [(.int i0)]))) (fun _ k => XS.iloadN X0.here hx rfl (hb hby at_0) rfl k) ?_
  refine Goes.pre (S' := (s₁.setTop (mkF m 3 #[.val (.int i0), .val (.int i1), .val (.int i2), .val (.int i3), .val (.long i4), .second, .val (.int i5), .unset, .unset, .unset, .unset, .unset, .unset, .unset, .unset, .unset, .unset] [(.int (7 : Int32)), (.int i0)]))) (fun _ k => XS.bipush X0.here hx rfl (hb hby at_1) k) ?_
  refine Goes.pre (S' := (s₁.setTop (mkF m 4 #[.val (.int i0), .val (.int i1), .val (.int i2), .val (.int i3), .val (.long i4), .second, .val (.int i5), .unset, .unset, .unset, .unset, .unset, .unset, .unset, .unset, .unset, .unset] [(.int (i0 &&& (7 : Int32)))]))) (fun _ k => XS.iand X0.here hx rfl (hb hby at_3) rfl k) ?_
  refine Goes.pre (S' := (s₁.setTop (mkF m 6 #[.val (.int i0), .val (.int i1), .val (.int i2), .val (.int i3), .val (.long i4), .second, .val (.int i5), .val (.int (i0 &&& (7 : Int32))), .unset, .unset, .unset, .unset, .unset, .unset, .unset, .unset, .unset] []))) (fun _ k => XS.istore X0.here hx rfl (hb hby at_4) rfl (l' := #[.val (.int i0), .val (.int i1), .val (.int i2), .val (.int i3), .val (.long i4), .second, .val (.int i5), .val (.int (i0 &&& (7 : Int32))), .unset, .unset, .unset, .unset, .unset, .unset, .unset, .unset, .unset]) rfl k) ?_
  refine Goes.pre (S' := (s₁.setTop (mkF m 7 #[.val (.int i0), .val (.int i1), .val (.int i2), .val (.int i3), .val (.long i4), .second, .val (.int i5), .val (.int (i0 &&& (7 : Int32))), .unset, .unset, .unset, .unset, .unset, .unset, .unset, .unset, .unset] [(.int i1)]))) (fun _ k => XS.iloadN X0.here hx rfl (hb hby at_6) rfl k) ?_
  refine Goes.pre (S' := (s₁.setTop (mkF m 9 #[.val (.int i0), .val (.int i1), .val (.int i2), .val (.int i3), .val (.long i4), .second, .val (.int i5), .val (.int (i0 &&& (7 : Int32))), .unset, .unset, .unset, .unset, .unset, .unset, .unset, .unset, .unset] [(.int (2147483647 : Int32)), (.int i1)]))) (fun _ k => Jvm.Stand.ldcI X0 hx hown (mvT hZ (hw _ (List.mem_of_getElem? (i := 0) rfl))) rfl (hb hby at_7) k) ?_
  refine Goes.pre (S' := (s₁.setTop (mkF m 10 #[.val (.int i0), .val (.int i1), .val (.int i2), .val (.int i3), .val (.long i4), .second, .val (.int i5), .val (.int (i0 &&& (7 : Int32))), .unset, .unset, .unset, .unset, .unset, .unset, .unset, .unset, .unset] [(.int (i1 &&& (2147483647 : Int32)))]))) (fun _ k => XS.iand X0.here hx rfl (hb hby at_9) rfl k) ?_
  refine Goes.pre (S' := (s₁.setTop (mkF m 12 #[.val (.int i0), .val (.int i1), .val (.int i2), .val (.int i3), .val (.long i4), .second, .val (.int i5), .val (.int (i0 &&& (7 : Int32))), .unset, .unset, .unset, .unset, .unset, .unset, .unset, .unset, .unset] [(.int (i0 &&& (7 : Int32))), (.int (i1 &&& (2147483647 : Int32)))]))) (fun _ k => XS.iload X0.here hx rfl (hb hby at_10) rfl k) ?_
  refine Goes.pre (S' := (s₁.setTop (mkF m 13 #[.val (.int i0), .val (.int i1), .val (.int i2), .val (.int i3), .val (.long i4), .second, .val (.int i5), .val (.int (i0 &&& (7 : Int32))), .unset, .unset, .unset, .unset, .unset, .unset, .unset, .unset, .unset] [(.int (1 : Int32)), (.int (i0 &&& (7 : Int32))), (.int (i1 &&& (2147483647 : Int32)))]))) (fun _ k => XS.iconst X0.here hx rfl (hb hby at_12) k) ?_
  refine Goes.pre (S' := (s₁.setTop (mkF m 14 #[.val (.int i0), .val (.int i1), .val (.int i2), .val (.int i3), .val (.long i4), .second, .val (.int i5), .val (.int (i0 &&& (7 : Int32))), .unset, .unset, .unset, .unset, .unset, .unset, .unset, .unset, .unset] [(.int ((i0 &&& (7 : Int32)) + (1 : Int32))), (.int (i1 &&& (2147483647 : Int32)))]))) (fun _ k => XS.iadd X0.here hx rfl (hb hby at_13) rfl k) ?_
  refine Goes.pre (S' := (s₁.setTop (mkF m 15 #[.val (.int i0), .val (.int i1), .val (.int i2), .val (.int i3), .val (.long i4), .second, .val (.int i5), .val (.int (i0 &&& (7 : Int32))), .unset, .unset, .unset, .unset, .unset, .unset, .unset, .unset, .unset] [(.int ((i1 &&& (2147483647 : Int32)) % ((i0 &&& (7 : Int32)) + (1 : Int32))))]))) (fun _ k => iremM X0 hx rfl (hb hby at_14) rfl (own_nz (own_pos hn h7)) k) ?_
  refine Goes.pre (S' := (s₁.setTop (mkF m 17 #[.val (.int i0), .val (.int i1), .val (.int i2), .val (.int i3), .val (.long i4), .second, .val (.int i5), .val (.int (i0 &&& (7 : Int32))), .val (.int ((i1 &&& (2147483647 : Int32)) % ((i0 &&& (7 : Int32)) + (1 : Int32)))), .unset, .unset, .unset, .unset, .unset, .unset, .unset, .unset] []))) (fun _ k => XS.istore X0.here hx rfl (hb hby at_15) rfl (l' := #[.val (.int i0), .val (.int i1), .val (.int i2), .val (.int i3), .val (.long i4), .second, .val (.int i5), .val (.int (i0 &&& (7 : Int32))), .val (.int ((i1 &&& (2147483647 : Int32)) % ((i0 &&& (7 : Int32)) + (1 : Int32)))), .unset, .unset, .unset, .unset, .unset, .unset, .unset, .unset]) rfl k) ?_
  refine Goes.pre (S' := (s₁.setTop (mkF m 18 #[.val (.int i0), .val (.int i1), .val (.int i2), .val (.int i3), .val (.long i4), .second, .val (.int i5), .val (.int (i0 &&& (7 : Int32))), .val (.int ((i1 &&& (2147483647 : Int32)) % ((i0 &&& (7 : Int32)) + (1 : Int32)))), .unset, .unset, .unset, .unset, .unset, .unset, .unset, .unset] [(.int i2)]))) (fun _ k => XS.iloadN X0.here hx rfl (hb hby at_17) rfl k) ?_
  refine Goes.pre (S' := (s₁.setTop (mkF m 20 #[.val (.int i0), .val (.int i1), .val (.int i2), .val (.int i3), .val (.long i4), .second, .val (.int i5), .val (.int (i0 &&& (7 : Int32))), .val (.int ((i1 &&& (2147483647 : Int32)) % ((i0 &&& (7 : Int32)) + (1 : Int32)))), .unset, .unset, .unset, .unset, .unset, .unset, .unset, .unset] [(.int (2147483647 : Int32)), (.int i2)]))) (fun _ k => Jvm.Stand.ldcI X0 hx hown (mvT hZ (hw _ (List.mem_of_getElem? (i := 0) rfl))) rfl (hb hby at_18) k) ?_
  refine Goes.pre (S' := (s₁.setTop (mkF m 21 #[.val (.int i0), .val (.int i1), .val (.int i2), .val (.int i3), .val (.long i4), .second, .val (.int i5), .val (.int (i0 &&& (7 : Int32))), .val (.int ((i1 &&& (2147483647 : Int32)) % ((i0 &&& (7 : Int32)) + (1 : Int32)))), .unset, .unset, .unset, .unset, .unset, .unset, .unset, .unset] [(.int (i2 &&& (2147483647 : Int32)))]))) (fun _ k => XS.iand X0.here hx rfl (hb hby at_20) rfl k) ?_
  refine Goes.pre (S' := (s₁.setTop (mkF m 23 #[.val (.int i0), .val (.int i1), .val (.int i2), .val (.int i3), .val (.long i4), .second, .val (.int i5), .val (.int (i0 &&& (7 : Int32))), .val (.int ((i1 &&& (2147483647 : Int32)) % ((i0 &&& (7 : Int32)) + (1 : Int32)))), .unset, .unset, .unset, .unset, .unset, .unset, .unset, .unset] [(.int (i0 &&& (7 : Int32))), (.int (i2 &&& (2147483647 : Int32)))]))) (fun _ k => XS.iload X0.here hx rfl (hb hby at_21) rfl k) ?_
  refine Goes.pre (S' := (s₁.setTop (mkF m 24 #[.val (.int i0), .val (.int i1), .val (.int i2), .val (.int i3), .val (.long i4), .second, .val (.int i5), .val (.int (i0 &&& (7 : Int32))), .val (.int ((i1 &&& (2147483647 : Int32)) % ((i0 &&& (7 : Int32)) + (1 : Int32)))), .unset, .unset, .unset, .unset, .unset, .unset, .unset, .unset] [(.int (1 : Int32)), (.int (i0 &&& (7 : Int32))), (.int (i2 &&& (2147483647 : Int32)))]))) (fun _ k => XS.iconst X0.here hx rfl (hb hby at_23) k) ?_
  refine Goes.pre (S' := (s₁.setTop (mkF m 25 #[.val (.int i0), .val (.int i1), .val (.int i2), .val (.int i3), .val (.long i4), .second, .val (.int i5), .val (.int (i0 &&& (7 : Int32))), .val (.int ((i1 &&& (2147483647 : Int32)) % ((i0 &&& (7 : Int32)) + (1 : Int32)))), .unset, .unset, .unset, .unset, .unset, .unset, .unset, .unset] [(.int ((i0 &&& (7 : Int32)) + (1 : Int32))), (.int (i2 &&& (2147483647 : Int32)))]))) (fun _ k => XS.iadd X0.here hx rfl (hb hby at_24) rfl k) ?_
  refine Goes.pre (S' := (s₁.setTop (mkF m 26 #[.val (.int i0), .val (.int i1), .val (.int i2), .val (.int i3), .val (.long i4), .second, .val (.int i5), .val (.int (i0 &&& (7 : Int32))), .val (.int ((i1 &&& (2147483647 : Int32)) % ((i0 &&& (7 : Int32)) + (1 : Int32)))), .unset, .unset, .unset, .unset, .unset, .unset, .unset, .unset] [(.int ((i2 &&& (2147483647 : Int32)) % ((i0 &&& (7 : Int32)) + (1 : Int32))))]))) (fun _ k => iremM X0 hx rfl (hb hby at_25) rfl (own_nz (own_pos hn h7)) k) ?_
  refine Goes.pre (S' := (s₁.setTop (mkF m 28 #[.val (.int i0), .val (.int i1), .val (.int i2), .val (.int i3), .val (.long i4), .second, .val (.int i5), .val (.int (i0 &&& (7 : Int32))), .val (.int ((i1 &&& (2147483647 : Int32)) % ((i0 &&& (7 : Int32)) + (1 : Int32)))), .val (.int ((i2 &&& (2147483647 : Int32)) % ((i0 &&& (7 : Int32)) + (1 : Int32)))), .unset, .unset, .unset, .unset, .unset, .unset, .unset] []))) (fun _ k => XS.istore X0.here hx rfl (hb hby at_26) rfl (l' := #[.val (.int i0), .val (.int i1), .val (.int i2), .val (.int i3), .val (.long i4), .second, .val (.int i5), .val (.int (i0 &&& (7 : Int32))), .val (.int ((i1 &&& (2147483647 : Int32)) % ((i0 &&& (7 : Int32)) + (1 : Int32)))), .val (.int ((i2 &&& (2147483647 : Int32)) % ((i0 &&& (7 : Int32)) + (1 : Int32)))), .unset, .unset, .unset, .unset, .unset, .unset, .unset]) rfl k) ?_
  refine Goes.pre (S' := (s₁.setTop (mkF m 29 #[.val (.int i0), .val (.int i1), .val (.int i2), .val (.int i3), .val (.long i4), .second, .val (.int i5), .val (.int (i0 &&& (7 : Int32))), .val (.int ((i1 &&& (2147483647 : Int32)) % ((i0 &&& (7 : Int32)) + (1 : Int32)))), .val (.int ((i2 &&& (2147483647 : Int32)) % ((i0 &&& (7 : Int32)) + (1 : Int32)))), .unset, .unset, .unset, .unset, .unset, .unset, .unset] [(.int i3)]))) (fun _ k => XS.iloadN X0.here hx rfl (hb hby at_28) rfl k) ?_
  refine Goes.pre (S' := (s₁.setTop (mkF m 30 #[.val (.int i0), .val (.int i1), .val (.int i2), .val (.int i3), .val (.long i4), .second, .val (.int i5), .val (.int (i0 &&& (7 : Int32))), .val (.int ((i1 &&& (2147483647 : Int32)) % ((i0 &&& (7 : Int32)) + (1 : Int32)))), .val (.int ((i2 &&& (2147483647 : Int32)) % ((i0 &&& (7 : Int32)) + (1 : Int32)))), .unset, .unset, .unset, .unset, .unset, .unset, .unset] [(.int (1 : Int32)), (.int i3)]))) (fun _ k => XS.iconst X0.here hx rfl (hb hby at_29) k) ?_
  refine Goes.pre (S' := (s₁.setTop (mkF m 31 #[.val (.int i0), .val (.int i1), .val (.int i2), .val (.int i3), .val (.long i4), .second, .val (.int i5), .val (.int (i0 &&& (7 : Int32))), .val (.int ((i1 &&& (2147483647 : Int32)) % ((i0 &&& (7 : Int32)) + (1 : Int32)))), .val (.int ((i2 &&& (2147483647 : Int32)) % ((i0 &&& (7 : Int32)) + (1 : Int32)))), .unset, .unset, .unset, .unset, .unset, .unset, .unset] [(.int (i3 &&& (1 : Int32)))]))) (fun _ k => XS.iand X0.here hx rfl (hb hby at_30) rfl k) ?_
  by_cases c31 : (i3 &&& (1 : Int32)) = 0
  · skip
    refine Goes.pre (S' := (s₁.setTop (mkF m 38 #[.val (.int i0), .val (.int i1), .val (.int i2), .val (.int i3), .val (.long i4), .second, .val (.int i5), .val (.int (i0 &&& (7 : Int32))), .val (.int ((i1 &&& (2147483647 : Int32)) % ((i0 &&& (7 : Int32)) + (1 : Int32)))), .val (.int ((i2 &&& (2147483647 : Int32)) % ((i0 &&& (7 : Int32)) + (1 : Int32)))), .unset, .unset, .unset, .unset, .unset, .unset, .unset] []))) (fun _ k => XS.ifYes X0.here hx rfl (pc0 := 31) (pc' := 38) rfl (hb hby at_31) rfl (XT.i0_eq_t c31) (by decide) (by decide) k) ?_
    refine Goes.pre (S' := (s₁.setTop (mkF m 39 #[.val (.int i0), .val (.int i1), .val (.int i2), .val (.int i3), .val (.long i4), .second, .val (.int i5), .val (.int (i0 &&& (7 : Int32))), .val (.int ((i1 &&& (2147483647 : Int32)) % ((i0 &&& (7 : Int32)) + (1 : Int32)))), .val (.int ((i2 &&& (2147483647 : Int32)) % ((i0 &&& (7 : Int32)) + (1 : Int32)))), .unset, .unset, .unset, .unset, .unset, .unset, .unset] [(.int (0 : Int32))]))) (fun _ k => XS.iconst X0.here hx rfl (hb hby at_38) k) ?_
    refine Goes.pre (S' := (s₁.setTop (mkF m 41 #[.val (.int i0), .val (.int i1), .val (.int i2), .val (.int i3), .val (.long i4), .second, .val (.int i5), .val (.int (i0 &&& (7 : Int32))), .val (.int ((i1 &&& (2147483647 : Int32)) % ((i0 &&& (7 : Int32)) + (1 : Int32)))), .val (.int ((i2 &&& (2147483647 : Int32)) % ((i0 &&& (7 : Int32)) + (1 : Int32)))), .val (.int (0 : Int32)), .unset, .unset, .unset, .unset, .unset, .unset] []))) (fun _ k => XS.istore X0.here hx rfl (hb hby at_39) rfl (l' := #[.val (.int i0), .val (.int i1), .val (.int i2), .val (.int i3), .val (.long i4), .second, .val (.int i5), .val (.int (i0 &&& (7 : Int32))), .val (.int ((i1 &&& (2147483647 : Int32)) % ((i0 &&& (7 : Int32)) + (1 : Int32)))), .val (.int ((i2 &&& (2147483647 : Int32)) % ((i0 &&& (7 : Int32)) + (1 : Int32)))), .val (.int (0 : Int32)), .unset, .unset, .unset, .unset, .unset, .unset]) rfl k) ?_
    refine Goes.pre (S' := (s₁.setTop (mkF m 42 #[.val (.int i0), .val (.int i1), .val (.int i2), .val (.int i3), .val (.long i4), .second, .val (.int i5), .val (.int (i0 &&& (7 : Int32))), .val (.int ((i1 &&& (2147483647 : Int32)) % ((i0 &&& (7 : Int32)) + (1 : Int32)))), .val (.int ((i2 &&& (2147483647 : Int32)) % ((i0 &&& (7 : Int32)) + (1 : Int32)))), .val (.int (0 : Int32)), .unset, .unset, .unset, .unset, .unset, .unset] [(.int i3)]))) (fun _ k => XS.iloadN X0.here hx rfl (hb hby at_41) rfl k) ?_
    refine Goes.pre (S' := (s₁.setTop (mkF m 43 #[.val (.int i0), .val (.int i1), .val (.int i2), .val (.int i3), .val (.long i4), .second, .val (.int i5), .val (.int (i0 &&& (7 : Int32))), .val (.int ((i1 &&& (2147483647 : Int32)) % ((i0 &&& (7 : Int32)) + (1 : Int32)))), .val (.int ((i2 &&& (2147483647 : Int32)) % ((i0 &&& (7 : Int32)) + (1 : Int32)))), .val (.int (0 : Int32)), .unset, .unset, .unset, .unset, .unset, .unset] [(.int (2 : Int32)), (.int i3)]))) (fun _ k => XS.iconst X0.here hx rfl (hb hby at_42) k) ?_
    refine Goes.pre (S' := (s₁.setTop (mkF m 44 #[.val (.int i0), .val (.int i1), .val (.int i2), .val (.int i3), .val (.long i4), .second, .val (.int i5), .val (.int (i0 &&& (7 : Int32))), .val (.int ((i1 &&& (2147483647 : Int32)) % ((i0 &&& (7 : Int32)) + (1 : Int32)))), .val (.int ((i2 &&& (2147483647 : Int32)) % ((i0 &&& (7 : Int32)) + (1 : Int32)))), .val (.int (0 : Int32)), .unset, .unset, .unset, .unset, .unset, .unset] [(.int (i3 &&& (2 : Int32)))]))) (fun _ k => XS.iand X0.here hx rfl (hb hby at_43) rfl k) ?_
    by_cases c44 : (i3 &&& (2 : Int32)) = 0
    · skip
      refine Goes.pre (S' := (s₁.setTop (mkF m 51 #[.val (.int i0), .val (.int i1), .val (.int i2), .val (.int i3), .val (.long i4), .second, .val (.int i5), .val (.int (i0 &&& (7 : Int32))), .val (.int ((i1 &&& (2147483647 : Int32)) % ((i0 &&& (7 : Int32)) + (1 : Int32)))), .val (.int ((i2 &&& (2147483647 : Int32)) % ((i0 &&& (7 : Int32)) + (1 : Int32)))), .val (.int (0 : Int32)), .unset, .unset, .unset, .unset, .unset, .unset] []))) (fun _ k => XS.ifYes X0.here hx rfl (pc0 := 44) (pc' := 51) rfl (hb hby at_44) rfl (XT.i0_eq_t c44) (by decide) (by decide) k) ?_
      refine Goes.pre (S' := (s₁.setTop (mkF m 52 #[.val (.int i0), .val (.int i1), .val (.int i2), .val (.int i3), .val (.long i4), .second, .val (.int i5), .val (.int (i0 &&& (7 : Int32))), .val (.int ((i1 &&& (2147483647 : Int32)) % ((i0 &&& (7 : Int32)) + (1 : Int32)))), .val (.int ((i2 &&& (2147483647 : Int32)) % ((i0 &&& (7 : Int32)) + (1 : Int32)))), .val (.int (0 : Int32)), .unset, .unset, .unset, .unset, .unset, .unset] [(.int (0 : Int32))]))) (fun _ k => XS.iconst X0.here hx rfl (hb hby at_51) k) ?_
      refine Goes.pre (S' := (s₁.setTop (mkF m 54 #[.val (.int i0), .val (.int i1), .val (.int i2), .val (.int i3), .val (.long i4), .second, .val (.int i5), .val (.int (i0 &&& (7 : Int32))), .val (.int ((i1 &&& (2147483647 : Int32)) % ((i0 &&& (7 : Int32)) + (1 : Int32)))), .val (.int ((i2 &&& (2147483647 : Int32)) % ((i0 &&& (7 : Int32)) + (1 : Int32)))), .val (.int (0 : Int32)), .val (.int (0 : Int32)), .unset, .unset, .unset, .unset, .unset] []))) (fun _ k => XS.istore X0.here hx rfl (hb hby at_52) rfl (l' := #[.val (.int i0), .val (.int i1), .val (.int i2), .val (.int i3), .val (.long i4), .second, .val (.int i5), .val (.int (i0 &&& (7 : Int32))), .val (.int ((i1 &&& (2147483647 : Int32)) % ((i0 &&& (7 : Int32)) + (1 : Int32)))), .val (.int ((i2 &&& (2147483647 : Int32)) % ((i0 &&& (7 : Int32)) + (1 : Int32)))), .val (.int (0 : Int32)), .val (.int (0 : Int32)), .unset, .unset, .unset, .unset, .unset]) rfl k) ?_
      refine Goes.pre (S' := (s₁.setTop (mkF m 56 #[.val (.int i0), .val (.int i1), .val (.int i2), .val (.int i3), .val (.long i4), .second, .val (.int i5), .val (.int (i0 &&& (7 : Int32))), .val (.int ((i1 &&& (2147483647 : Int32)) % ((i0 &&& (7 : Int32)) + (1 : Int32)))), .val (.int ((i2 &&& (2147483647 : Int32)) % ((i0 &&& (7 : Int32)) + (1 : Int32)))), .val (.int (0 : Int32)), .val (.int (0 : Int32)), .unset, .unset, .unset, .unset, .unset] [(.int i5)]))) (fun _ k => XS.iload X0.here hx rfl (hb hby at_54) rfl k) ?_
      refine Goes.pre (S' := (s₁.setTop (mkF m 58 #[.val (.int i0), .val (.int i1), .val (.int i2), .val (.int i3), .val (.long i4), .second, .val (.int i5), .val (.int (i0 &&& (7 : Int32))), .val (.int ((i1 &&& (2147483647 : Int32)) % ((i0 &&& (7 : Int32)) + (1 : Int32)))), .val (.int ((i2 &&& (2147483647 : Int32)) % ((i0 &&& (7 : Int32)) + (1 : Int32)))), .val (.int (0 : Int32)), .val (.int (0 : Int32)), .unset, .unset, .unset, .unset, .unset] [(.int (2147483647 : Int32)), (.int i5)]))) (fun _ k => Jvm.Stand.ldcI X0 hx hown (mvT hZ (hw _ (List.mem_of_getElem? (i := 0) rfl))) rfl (hb hby at_56) k) ?_
      refine Goes.pre (S' := (s₁.setTop (mkF m 59 #[.val (.int i0), .val (.int i1), .val (.int i2), .val (.int i3), .val (.long i4), .second, .val (.int i5), .val (.int (i0 &&& (7 : Int32))), .val (.int ((i1 &&& (2147483647 : Int32)) % ((i0 &&& (7 : Int32)) + (1 : Int32)))), .val (.int ((i2 &&& (2147483647 : Int32)) % ((i0 &&& (7 : Int32)) + (1 : Int32)))), .val (.int (0 : Int32)), .val (.int (0 : Int32)), .unset, .unset, .unset, .unset, .unset] [(.int (i5 &&& (2147483647 : Int32)))]))) (fun _ k => XS.iand X0.here hx rfl (hb hby at_58) rfl k) ?_
      refine Goes.pre (S' := (s₁.setTop (mkF m 61 #[.val (.int i0), .val (.int i1), .val (.int i2), .val (.int i3), .val (.long i4), .second, .val (.int i5), .val (.int (i0 &&& (7 : Int32))), .val (.int ((i1 &&& (2147483647 : Int32)) % ((i0 &&& (7 : Int32)) + (1 : Int32)))), .val (.int ((i2 &&& (2147483647 : Int32)) % ((i0 &&& (7 : Int32)) + (1 : Int32)))), .val (.int (0 : Int32)), .val (.int (0 : Int32)), .unset, .unset, .unset, .unset, .unset] [(.int (12 : Int32)), (.int (i5 &&& (2147483647 : Int32)))]))) (fun _ k => XS.bipush X0.here hx rfl (hb hby at_59) k) ?_
      refine Goes.pre (S' := (s₁.setTop (mkF m 62 #[.val (.int i0), .val (.int i1), .val (.int i2), .val (.int i3), .val (.long i4), .second, .val (.int i5), .val (.int (i0 &&& (7 : Int32))), .val (.int ((i1 &&& (2147483647 : Int32)) % ((i0 &&& (7 : Int32)) + (1 : Int32)))), .val (.int ((i2 &&& (2147483647 : Int32)) % ((i0 &&& (7 : Int32)) + (1 : Int32)))), .val (.int (0 : Int32)), .val (.int (0 : Int32)), .unset, .unset, .unset, .unset, .unset] [(.int ((i5 &&& (2147483647 : Int32)) % (12 : Int32)))]))) (fun _ k => iremM X0 hx rfl (hb hby at_61) rfl (by decide) k) ?_
      refine Goes.pre (S' := (s₁.setTop (mkF m 63 #[.val (.int i0), .val (.int i1), .val (.int i2), .val (.int i3), .val (.long i4), .second, .val (.int i5), .val (.int (i0 &&& (7 : Int32))), .val (.int ((i1 &&& (2147483647 : Int32)) % ((i0 &&& (7 : Int32)) + (1 : Int32)))), .val (.int ((i2 &&& (2147483647 : Int32)) % ((i0 &&& (7 : Int32)) + (1 : Int32)))), .val (.int (0 : Int32)), .val (.int (0 : Int32)), .unset, .unset, .unset, .unset, .unset] [(.long (((i5 &&& (2147483647 : Int32)) % (12 : Int32))).toInt64)]))) (fun _ k => XT.i2l X0.here hx rfl (hb hby at_62) rfl k) ?_
      refine Goes.pre (S' := (s₁.setTop (mkF m 66 #[.val (.int i0), .val (.int i1), .val (.int i2), .val (.int i3), .val (.long i4), .second, .val (.int i5), .val (.int (i0 &&& (7 : Int32))), .val (.int ((i1 &&& (2147483647 : Int32)) % ((i0 &&& (7 : Int32)) + (1 : Int32)))), .val (.int ((i2 &&& (2147483647 : Int32)) % ((i0 &&& (7 : Int32)) + (1 : Int32)))), .val (.int (0 : Int32)), .val (.int (0 : Int32)), .unset, .unset, .unset, .unset, .unset] [(.long (2 : Int64)), (.long (((i5 &&& (2147483647 : Int32)) % (12 : Int32))).toInt64)]))) (fun _ k => Jvm.Stand.ldc2J X0 hx hown (mvT hZ (hw _ (List.mem_of_getElem? (i := 1) rfl))) rfl (hb hby at_63) k) ?_
      refine Goes.pre (S' := (s₁.setTop (mkF m 67 #[.val (.int i0), .val (.int i1), .val (.int i2), .val (.int i3), .val (.long i4), .second, .val (.int i5), .val (.int (i0 &&& (7 : Int32))), .val (.int ((i1 &&& (2147483647 : Int32)) % ((i0 &&& (7 : Int32)) + (1 : Int32)))), .val (.int ((i2 &&& (2147483647 : Int32)) % ((i0 &&& (7 : Int32)) + (1 : Int32)))), .val (.int (0 : Int32)), .val (.int (0 : Int32)), .unset, .unset, .unset, .unset, .unset] [(.long ((((i5 &&& (2147483647 : Int32)) % (12 : Int32))).toInt64 - (2 : Int64)))]))) (fun _ k => XT.lsub X0.here hx rfl (hb hby at_66) rfl k) ?_
      refine Goes.pre (S' := (s₁.setTop (mkF m 69 #[.val (.int i0), .val (.int i1), .val (.int i2), .val (.int i3), .val (.long i4), .second, .val (.int i5), .val (.int (i0 &&& (7 : Int32))), .val (.int ((i1 &&& (2147483647 : Int32)) % ((i0 &&& (7 : Int32)) + (1 : Int32)))), .val (.int ((i2 &&& (2147483647 : Int32)) % ((i0 &&& (7 : Int32)) + (1 : Int32)))), .val (.int (0 : Int32)), .val (.int (0 : Int32)), .val (.long ((((i5 &&& (2147483647 : Int32)) % (12 : Int32))).toInt64 - (2 : Int64))), .second, .unset, .unset, .unset] []))) (fun _ k => XT.lstore X0.here hx rfl (hb hby at_67) rfl (l' := #[.val (.int i0), .val (.int i1), .val (.int i2), .val (.int i3), .val (.long i4), .second, .val (.int i5), .val (.int (i0 &&& (7 : Int32))), .val (.int ((i1 &&& (2147483647 : Int32)) % ((i0 &&& (7 : Int32)) + (1 : Int32)))), .val (.int ((i2 &&& (2147483647 : Int32)) % ((i0 &&& (7 : Int32)) + (1 : Int32)))), .val (.int (0 : Int32)), .val (.int (0 : Int32)), .val (.long ((((i5 &&& (2147483647 : Int32)) % (12 : Int32))).toInt64 - (2 : Int64))), .second, .unset, .unset, .unset]) rfl k) ?_
      exact tail _ _ _ _ _ _ hn h7 (own_rem _ _ (own_mask31 _) (own_pos hn h7)) (own_rem _ _ (own_mask31 _) (own_pos hn h7))
    · skip
      refine Goes.pre (S' := (s₁.setTop (mkF m 47 #[.val (.int i0), .val (.int i1), .val (.int i2), .val (.int i3), .val (.long i4), .second, .val (.int i5), .val (.int (i0 &&& (7 : Int32))), .val (.int ((i1 &&& (2147483647 : Int32)) % ((i0 &&& (7 : Int32)) + (1 : Int32)))), .val (.int ((i2 &&& (2147483647 : Int32)) % ((i0 &&& (7 : Int32)) + (1 : Int32)))), .val (.int (0 : Int32)), .unset, .unset, .unset, .unset, .unset, .unset] []))) (fun _ k => XS.ifNo X0.here hx rfl (hb hby at_44) rfl (XT.i0_eq_f c44) k) ?_
      refine Goes.pre (S' := (s₁.setTop (mkF m 48 #[.val (.int i0), .val (.int i1), .val (.int i2), .val (.int i3), .val (.long i4), .second, .val (.int i5), .val (.int (i0 &&& (7 : Int32))), .val (.int ((i1 &&& (2147483647 : Int32)) % ((i0 &&& (7 : Int32)) + (1 : Int32)))), .val (.int ((i2 &&& (2147483647 : Int32)) % ((i0 &&& (7 : Int32)) + (1 : Int32)))), .val (.int (0 : Int32)), .unset, .unset, .unset, .unset, .unset, .unset] [(.int (1 : Int32))]))) (fun _ k => XS.iconst X0.here hx rfl (hb hby at_47) k) ?_
      refine Goes.pre (S' := (s₁.setTop (mkF m 52 #[.val (.int i0), .val (.int i1), .val (.int i2), .val (.int i3), .val (.long i4), .second, .val (.int i5), .val (.int (i0 &&& (7 : Int32))), .val (.int ((i1 &&& (2147483647 : Int32)) % ((i0 &&& (7 : Int32)) + (1 : Int32)))), .val (.int ((i2 &&& (2147483647 : Int32)) % ((i0 &&& (7 : Int32)) + (1 : Int32)))), .val (.int (0 : Int32)), .unset, .unset, .unset, .unset, .unset, .unset] [(.int (1 : Int32))]))) (fun _ k => XS.goto X0.here hx rfl (pc0 := 48) (pc' := 52) rfl (hb hby at_48) (by decide) (by decide) k) ?_
      refine Goes.pre (S' := (s₁.setTop (mkF m 54 #[.val (.int i0), .val (.int i1), .val (.int i2), .val (.int i3), .val (.long i4), .second, .val (.int i5), .val (.int (i0 &&& (7 : Int32))), .val (.int ((i1 &&& (2147483647 : Int32)) % ((i0 &&& (7 : Int32)) + (1 : Int32)))), .val (.int ((i2 &&& (2147483647 : Int32)) % ((i0 &&& (7 : Int32)) + (1 : Int32)))), .val (.int (0 : Int32)), .val (.int (1 : Int32)), .unset, .unset, .unset, .unset, .unset] []))) (fun _ k => XS.istore X0.here hx rfl (hb hby at_52) rfl (l' := #[.val (.int i0), .val (.int i1), .val (.int i2), .val (.int i3), .val (.long i4), .second, .val (.int i5), .val (.int (i0 &&& (7 : Int32))), .val (.int ((i1 &&& (2147483647 : Int32)) % ((i0 &&& (7 : Int32)) + (1 : Int32)))), .val (.int ((i2 &&& (2147483647 : Int32)) % ((i0 &&& (7 : Int32)) + (1 : Int32)))), .val (.int (0 : Int32)), .val (.int (1 : Int32)), .unset, .unset, .unset, .unset, .unset]) rfl k) ?_
      refine Goes.pre (S' := (s₁.setTop (mkF m 56 #[.val (.int i0), .val (.int i1), .val (.int i2), .val (.int i3), .val (.long i4), .second, .val (.int i5), .val (.int (i0 &&& (7 : Int32))), .val (.int ((i1 &&& (2147483647 : Int32)) % ((i0 &&& (7 : Int32)) + (1 : Int32)))), .val (.int ((i2 &&& (2147483647 : Int32)) % ((i0 &&& (7 : Int32)) + (1 : Int32)))), .val (.int (0 : Int32)), .val (.int (1 : Int32)), .unset, .unset, .unset, .unset, .unset] [(.int i5)]))) (fun _ k => XS.iload X0.here hx rfl (hb hby at_54) rfl k) ?_
      refine Goes.pre (S' := (s₁.setTop (mkF m 58 #[.val (.int i0), .val (.int i1), .val (.int i2), .val (.int i3), .val (.long i4), .second, .val (.int i5), .val (.int (i0 &&& (7 : Int32))), .val (.int ((i1 &&& (2147483647 : Int32)) % ((i0 &&& (7 : Int32)) + (1 : Int32)))), .val (.int ((i2 &&& (2147483647 : Int32)) % ((i0 &&& (7 : Int32)) + (1 : Int32)))), .val (.int (0 : Int32)), .val (.int (1 : Int32)), .unset, .unset, .unset, .unset, .unset] [(.int (2147483647 : Int32)), (.int i5)]))) (fun _ k => Jvm.Stand.ldcI X0 hx hown (mvT hZ (hw _ (List.mem_of_getElem? (i := 0) rfl))) rfl (hb hby at_56) k) ?_
      refine Goes.pre (S' := (s₁.setTop (mkF m 59 #[.val (.int i0), .val (.int i1), .val (.int i2), .val (.int i3), .val (.long i4), .second, .val (.int i5), .val (.int (i0 &&& (7 : Int32))), .val (.int ((i1 &&& (2147483647 : Int32)) % ((i0 &&& (7 : Int32)) + (1 : Int32)))), .val (.int ((i2 &&& (2147483647 : Int32)) % ((i0 &&& (7 : Int32)) + (1 : Int32)))), .val (.int (0 : Int32)), .val (.int (1 : Int32)), .unset, .unset, .unset, .unset, .unset] [(.int (i5 &&& (2147483647 : Int32)))]))) (fun _ k => XS.iand X0.here hx rfl (hb hby at_58) rfl k) ?_
      refine Goes.pre (S' := (s₁.setTop (mkF m 61 #[.val (.int i0), .val (.int i1), .val (.int i2), .val (.int i3), .val (.long i4), .second, .val (.int i5), .val (.int (i0 &&& (7 : Int32))), .val (.int ((i1 &&& (2147483647 : Int32)) % ((i0 &&& (7 : Int32)) + (1 : Int32)))), .val (.int ((i2 &&& (2147483647 : Int32)) % ((i0 &&& (7 : Int32)) + (1 : Int32)))), .val (.int (0 : Int32)), .val (.int (1 : Int32)), .unset, .unset, .unset, .unset, .unset] [(.int (12 : Int32)), (.int (i5 &&& (2147483647 : Int32)))]))) (fun _ k => XS.bipush X0.here hx rfl (hb hby at_59) k) ?_
      refine Goes.pre (S' := (s₁.setTop (mkF m 62 #[.val (.int i0), .val (.int i1), .val (.int i2), .val (.int i3), .val (.long i4), .second, .val (.int i5), .val (.int (i0 &&& (7 : Int32))), .val (.int ((i1 &&& (2147483647 : Int32)) % ((i0 &&& (7 : Int32)) + (1 : Int32)))), .val (.int ((i2 &&& (2147483647 : Int32)) % ((i0 &&& (7 : Int32)) + (1 : Int32)))), .val (.int (0 : Int32)), .val (.int (1 : Int32)), .unset, .unset, .unset, .unset, .unset] [(.int ((i5 &&& (2147483647 : Int32)) % (12 : Int32)))]))) (fun _ k => iremM X0 hx rfl (hb hby at_61) rfl (by decide) k) ?_
      refine Goes.pre (S' := (s₁.setTop (mkF m 63 #[.val (.int i0), .val (.int i1), .val (.int i2), .val (.int i3), .val (.long i4), .second, .val (.int i5), .val (.int (i0 &&& (7 : Int32))), .val (.int ((i1 &&& (2147483647 : Int32)) % ((i0 &&& (7 : Int32)) + (1 : Int32)))), .val (.int ((i2 &&& (2147483647 : Int32)) % ((i0 &&& (7 : Int32)) + (1 : Int32)))), .val (.int (0 : Int32)), .val (.int (1 : Int32)), .unset, .unset, .unset, .unset, .unset] [(.long (((i5 &&& (2147483647 : Int32)) % (12 : Int32))).toInt64)]))) (fun _ k => XT.i2l X0.here hx rfl (hb hby at_62) rfl k) ?_
      refine Goes.pre (S' := (s₁.setTop (mkF m 66 #[.val (.int i0), .val (.int i1), .val (.int i2), .val (.int i3), .val (.long i4), .second, .val (.int i5), .val (.int (i0 &&& (7 : Int32))), .val (.int ((i1 &&& (2147483647 : Int32)) % ((i0 &&& (7 : Int32)) + (1 : Int32)))), .val (.int ((i2 &&& (2147483647 : Int32)) % ((i0 &&& (7 : Int32)) + (1 : Int32)))), .val (.int (0 : Int32)), .val (.int (1 : Int32)), .unset, .unset, .unset, .unset, .unset] [(.long (2 : Int64)), (.long (((i5 &&& (2147483647 : Int32)) % (12 : Int32))).toInt64)]))) (fun _ k => Jvm.Stand.ldc2J X0 hx hown (mvT hZ (hw _ (List.mem_of_getElem? (i := 1) rfl))) rfl (hb hby at_63) k) ?_
      refine Goes.pre (S' := (s₁.setTop (mkF m 67 #[.val (.int i0), .val (.int i1), .val (.int i2), .val (.int i3), .val (.long i4), .second, .val (.int i5), .val (.int (i0 &&& (7 : Int32))), .val (.int ((i1 &&& (2147483647 : Int32)) % ((i0 &&& (7 : Int32)) + (1 : Int32)))), .val (.int ((i2 &&& (2147483647 : Int32)) % ((i0 &&& (7 : Int32)) + (1 : Int32)))), .val (.int (0 : Int32)), .val (.int (1 : Int32)), .unset, .unset, .unset, .unset, .unset] [(.long ((((i5 &&& (2147483647 : Int32)) % (12 : Int32))).toInt64 - (2 : Int64)))]))) (fun _ k => XT.lsub X0.here hx rfl (hb hby at_66) rfl k) ?_
      refine Goes.pre (S' := (s₁.setTop (mkF m 69 #[.val (.int i0), .val (.int i1), .val (.int i2), .val (.int i3), .val (.long i4), .second, .val (.int i5), .val (.int (i0 &&& (7 : Int32))), .val (.int ((i1 &&& (2147483647 : Int32)) % ((i0 &&& (7 : Int32)) + (1 : Int32)))), .val (.int ((i2 &&& (2147483647 : Int32)) % ((i0 &&& (7 : Int32)) + (1 : Int32)))), .val (.int (0 : Int32)), .val (.int (1 : Int32)), .val (.long ((((i5 &&& (2147483647 : Int32)) % (12 : Int32))).toInt64 - (2 : Int64))), .second, .unset, .unset, .unset] []))) (fun _ k => XT.lstore X0.here hx rfl (hb hby at_67) rfl (l' := #[.val (.int i0), .val (.int i1), .val (.int i2), .val (.int i3), .val (.long i4), .second, .val (.int i5), .val (.int (i0 &&& (7 : Int32))), .val (.int ((i1 &&& (2147483647 : Int32)) % ((i0 &&& (7 : Int32)) + (1 : Int32)))), .val (.int ((i2 &&& (2147483647 : Int32)) % ((i0 &&& (7 : Int32)) + (1 : Int32)))), .val (.int (0 : Int32)), .val (.int (1 : Int32)), .val (.long ((((i5 &&& (2147483647 : Int32)) % (12 : Int32))).toInt64 - (2 : Int64))), .second, .unset, .unset, .unset]) rfl k) ?_
      exact tail _ _ _ _ _ _ hn h7 (own_rem _ _ (own_mask31 _) (own_pos hn h7)) (own_rem _ _ (own_mask31 _) (own_pos hn h7))
  · skip
    refine Goes.pre (S' := (s₁.setTop (mkF m 34 #[.val (.int i0), .val (.int i1), .val (.int i2), .val (.int i3), .val (.long i4), .second, .val (.int i5), .val (.int (i0 &&& (7 : Int32))), .val (.int ((i1 &&& (2147483647 : Int32)) % ((i0 &&& (7 : Int32)) + (1 : Int32)))), .val (.int ((i2 &&& (2147483647 : Int32)) % ((i0 &&& (7 : Int32)) + (1 : Int32)))), .unset, .unset, .unset, .unset, .unset, .unset, .unset] []))) (fun _ k => XS.ifNo X0.here hx rfl (hb hby at_31) rfl (XT.i0_eq_f c31) k) ?_
    refine Goes.pre (S' := (s₁.setTop (mkF m 35 #[.val (.int i0), .val (.int i1), .val (.int i2), .val (.int i3), .val (.long i4), .second, .val (.int i5), .val (.int (i0 &&& (7 : Int32))), .val (.int ((i1 &&& (2147483647 : Int32)) % ((i0 &&& (7 : Int32)) + (1 : Int32)))), .val (.int ((i2 &&& (2147483647 : Int32)) % ((i0 &&& (7 : Int32)) + (1 : Int32)))), .unset, .unset, .unset, .unset, .unset, .unset, .unset] [(.int (1 : Int32))]))) (fun _ k => XS.iconst X0.here hx rfl (hb hby at_34) k) ?_
    refine Goes.pre (S' := (s₁.setTop (mkF m 39 #[.val (.int i0), .val (.int i1), .val (.int i2), .val (.int i3), .val (.long i4), .second, .val (.int i5), .val (.int (i0 &&& (7 : Int32))), .val (.int ((i1 &&& (2147483647 : Int32)) % ((i0 &&& (7 : Int32)) + (1 : Int32)))), .val (.int ((i2 &&& (2147483647 : Int32)) % ((i0 &&& (7 : Int32)) + (1 : Int32)))), .unset, .unset, .unset, .unset, .unset, .unset, .unset] [(.int (1 : Int32))]))) (fun _ k => XS.goto X0.here hx rfl (pc0 := 35) (pc' := 39) rfl (hb hby at_35) (by decide) (by decide) k) ?_
    refine Goes.pre (S' := (s₁.setTop (mkF m 41 #[.val (.int i0), .val (.int i1), .val (.int i2), .val (.int i3), .val (.long i4), .second, .val (.int i5), .val (.int (i0 &&& (7 : Int32))), .val (.int ((i1 &&& (2147483647 : Int32)) % ((i0 &&& (7 : Int32)) + (1 : Int32)))), .val (.int ((i2 &&& (2147483647 : Int32)) % ((i0 &&& (7 : Int32)) + (1 : Int32)))), .val (.int (1 : Int32)), .unset, .unset, .unset, .unset, .unset, .unset] []))) (fun _ k => XS.istore X0.here hx rfl (hb hby at_39) rfl (l' := #[.val (.int i0), .val (.int i1), .val (.int i2), .val (.int i3), .val (.long i4), .second, .val (.int i5), .val (.int (i0 &&& (7 : Int32))), .val (.int ((i1 &&& (2147483647 : Int32)) % ((i0 &&& (7 : Int32)) + (1 : Int32)))), .val (.int ((i2 &&& (2147483647 : Int32)) % ((i0 &&& (7 : Int32)) + (1 : Int32)))), .val (.int (1 : Int32)), .unset, .unset, .unset, .unset, .unset, .unset]) rfl k) ?_
    refine Goes.pre (S' := (s₁.setTop (mkF m 42 #[.val (.int i0), .val (.int i1), .val (.int i2), .val (.int i3), .val (.long i4), .second, .val (.int i5), .val (.int (i0 &&& (7 : Int32))), .val (.int ((i1 &&& (2147483647 : Int32)) % ((i0 &&& (7 : Int32)) + (1 : Int32)))), .val (.int ((i2 &&& (2147483647 : Int32)) % ((i0 &&& (7 : Int32)) + (1 : Int32)))), .val (.int (1 : Int32)), .unset, .unset, .unset, .unset, .unset, .unset] [(.int i3)]))) (fun _ k => XS.iloadN X0.here hx rfl (hb hby at_41) rfl k) ?_
    refine Goes.pre (S' := (s₁.setTop (mkF m 43 #[.val (.int i0), .val (.int i1), .val (.int i2), .val (.int i3), .val (.long i4), .second, .val (.int i5), .val (.int (i0 &&& (7 : Int32))), .val (.int ((i1 &&& (2147483647 : Int32)) % ((i0 &&& (7 : Int32)) + (1 : Int32)))), .val (.int ((i2 &&& (2147483647 : Int32)) % ((i0 &&& (7 : Int32)) + (1 : Int32)))), .val (.int (1 : Int32)), .unset, .unset, .unset, .unset, .unset, .unset] [(.int (2 : Int32)), (.int i3)]))) (fun _ k => XS.iconst X0.here hx rfl (hb hby at_42) k) ?_
    refine Goes.pre (S' := (s₁.setTop (mkF m 44 #[.val (.int i0), .val (.int i1), .val (.int i2), .val (.int i3), .val (.long i4), .second, .val (.int i5), .val (.int (i0 &&& (7 : Int32))), .val (.int ((i1 &&& (2147483647 : Int32)) % ((i0 &&& (7 : Int32)) + (1 : Int32)))), .val (.int ((i2 &&& (2147483647 : Int32)) % ((i0 &&& (7 : Int32)) + (1 : Int32)))), .val (.int (1 : Int32)), .unset, .unset, .unset, .unset, .unset, .unset] [(.int (i3 &&& (2 : Int32)))]))) (fun _ k => XS.iand X0.here hx rfl (hb hby at_43) rfl k) ?_
    by_cases c44 : (i3 &&& (2 : Int32)) = 0
    · skip
      refine Goes.pre (S' := (s₁.setTop (mkF m 51 #[.val (.int i0), .val (.int i1), .val (.int i2), .val (.int i3), .val (.long i4), .second, .val (.int i5), .val (.int (i0 &&& (7 : Int32))), .val (.int ((i1 &&& (2147483647 : Int32)) % ((i0 &&& (7 : Int32)) + (1 : Int32)))), .val (.int ((i2 &&& (2147483647 : Int32)) % ((i0 &&& (7 : Int32)) + (1 : Int32)))), .val (.int (1 : Int32)), .unset, .unset, .unset, .unset, .unset, .unset] []))) (fun _ k => XS.ifYes X0.here hx rfl (pc0 := 44) (pc' := 51) rfl (hb hby at_44) rfl (XT.i0_eq_t c44) (by decide) (by decide) k) ?_
      refine Goes.pre (S' := (s₁.setTop (mkF m 52 #[.val (.int i0), .val (.int i1), .val (.int i2), .val (.int i3), .val (.long i4), .second, .val (.int i5), .val (.int (i0 &&& (7 : Int32))), .val (.int ((i1 &&& (2147483647 : Int32)) % ((i0 &&& (7 : Int32)) + (1 : Int32)))), .val (.int ((i2 &&& (2147483647 : Int32)) % ((i0 &&& (7 : Int32)) + (1 : Int32)))), .val (.int (1 : Int32)), .unset, .unset, .unset, .unset, .unset, .unset] [(.int (0 : Int32))]))) (fun _ k => XS.iconst X0.here hx rfl (hb hby at_51) k) ?_
      refine Goes.pre (S' := (s₁.setTop (mkF m 54 #[.val (.int i0), .val (.int i1), .val (.int i2), .val (.int i3), .val (.long i4), .second, .val (.int i5), .val (.int (i0 &&& (7 : Int32))), .val (.int ((i1 &&& (2147483647 : Int32)) % ((i0 &&& (7 : Int32)) + (1 : Int32)))), .val (.int ((i2 &&& (2147483647 : Int32)) % ((i0 &&& (7 : Int32)) + (1 : Int32)))), .val (.int (1 : Int32)), .val (.int (0 : Int32)), .unset, .unset, .unset, .unset, .unset] []))) (fun _ k => XS.istore X0.here hx rfl (hb hby at_52) rfl (l' := #[.val (.int i0), .val (.int i1), .val (.int i2), .val (.int i3), .val (.long i4), .second, .val (.int i5), .val (.int (i0 &&& (7 : Int32))), .val (.int ((i1 &&& (2147483647 : Int32)) % ((i0 &&& (7 : Int32)) + (1 : Int32)))), .val (.int ((i2 &&& (2147483647 : Int32)) % ((i0 &&& (7 : Int32)) + (1 : Int32)))), .val (.int (1 : Int32)), .val (.int (0 : Int32)), .unset, .unset, .unset, .unset, .unset]) rfl k) ?_
      refine Goes.pre (S' := (s₁.setTop (mkF m 56 #[.val (.int i0), .val (.int i1), .val (.int i2), .val (.int i3), .val (.long i4), .second, .val (.int i5), .val (.int (i0 &&& (7 : Int32))), .val (.int ((i1 &&& (2147483647 : Int32)) % ((i0 &&& (7 : Int32)) + (1 : Int32)))), .val (.int ((i2 &&& (2147483647 : Int32)) % ((i0 &&& (7 : Int32)) + (1 : Int32)))), .val (.int (1 : Int32)), .val (.int (0 : Int32)), .unset, .unset, .unset, .unset, .unset] [(.int i5)]))) (fun _ k => XS.iload X0.here hx rfl (hb hby at_54) rfl k) ?_
      refine Goes.pre (S' := (s₁.setTop (mkF m 58 #[.val (.int i0), .val (.int i1), .val (.int i2), .val (.int i3), .val (.long i4), .second, .val (.int i5), .val (.int (i0 &&& (7 : Int32))), .val (.int ((i1 &&& (2147483647 : Int32)) % ((i0 &&& (7 : Int32)) + (1 : Int32)))), .val (.int ((i2 &&& (2147483647 : Int32)) % ((i0 &&& (7 : Int32)) + (1 : Int32)))), .val (.int (1 : Int32)), .val (.int (0 : Int32)), .unset, .unset, .unset, .unset, .unset] [(.int (2147483647 : Int32)), (.int i5)]))) (fun _ k => Jvm.Stand.ldcI X0 hx hown (mvT hZ (hw _ (List.mem_of_getElem? (i := 0) rfl))) rfl (hb hby at_56) k) ?_
      refine Goes.pre (S' := (s₁.setTop (mkF m 59 #[.val (.int i0), .val (.int i1), .val (.int i2), .val (.int i3), .val (.long i4), .second, .val (.int i5), .val (.int (i0 &&& (7 : Int32))), .val (.int ((i1 &&& (2147483647 : Int32)) % ((i0 &&& (7 : Int32)) + (1 : Int32)))), .val (.int ((i2 &&& (2147483647 : Int32)) % ((i0 &&& (7 : Int32)) + (1 : Int32)))), .val (.int (1 : Int32)), .val (.int (0 : Int32)), .unset, .unset, .unset, .unset, .unset] [(.int (i5 &&& (2147483647 : Int32)))]))) (fun _ k => XS.iand X0.here hx rfl (hb hby at_58) rfl k) ?_
      refine Goes.pre (S' := (s₁.setTop (mkF m 61 #[.val (.int i0), .val (.int i1), .val (.int i2), .val (.int i3), .val (.long i4), .second, .val (.int i5), .val (.int (i0 &&& (7 : Int32))), .val (.int ((i1 &&& (2147483647 : Int32)) % ((i0 &&& (7 : Int32)) + (1 : Int32)))), .val (.int ((i2 &&& (2147483647 : Int32)) % ((i0 &&& (7 : Int32)) + (1 : Int32)))), .val (.int (1 : Int32)), .val (.int (0 : Int32)), .unset, .unset, .unset, .unset, .unset] [(.int (12 : Int32)), (.int (i5 &&& (2147483647 : Int32)))]))) (fun _ k => XS.bipush X0.here hx rfl (hb hby at_59) k) ?_
      refine Goes.pre (S' := (s₁.setTop (mkF m 62 #[.val (.int i0), .val (.int i1), .val (.int i2), .val (.int i3), .val (.long i4), .second, .val (.int i5), .val (.int (i0 &&& (7 : Int32))), .val (.int ((i1 &&& (2147483647 : Int32)) % ((i0 &&& (7 : Int32)) + (1 : Int32)))), .val (.int ((i2 &&& (2147483647 : Int32)) % ((i0 &&& (7 : Int32)) + (1 : Int32)))), .val (.int (1 : Int32)), .val (.int (0 : Int32)), .unset, .unset, .unset, .unset, .unset] [(.int ((i5 &&& (2147483647 : Int32)) % (12 : Int32)))]))) (fun _ k => iremM X0 hx rfl (hb hby at_61) rfl (by decide) k) ?_
      refine Goes.pre (S' := (s₁.setTop (mkF m 63 #[.val (.int i0), .val (.int i1), .val (.int i2), .val (.int i3), .val (.long i4), .second, .val (.int i5), .val (.int (i0 &&& (7 : Int32))), .val (.int ((i1 &&& (2147483647 : Int32)) % ((i0 &&& (7 : Int32)) + (1 : Int32)))), .val (.int ((i2 &&& (2147483647 : Int32)) % ((i0 &&& (7 : Int32)) + (1 : Int32)))), .val (.int (1 : Int32)), .val (.int (0 : Int32)), .unset, .unset, .unset, .unset, .unset] [(.long (((i5 &&& (2147483647 : Int32)) % (12 : Int32))).toInt64)]))) (fun _ k => XT.i2l X0.here hx rfl (hb hby at_62) rfl k) ?_
      refine Goes.pre (S' := (s₁.setTop (mkF m 66 #[.val (.int i0), .val (.int i1), .val (.int i2), .val (.int i3), .val (.long i4), .second, .val (.int i5), .val (.int (i0 &&& (7 : Int32))), .val (.int ((i1 &&& (2147483647 : Int32)) % ((i0 &&& (7 : Int32)) + (1 : Int32)))), .val (.int ((i2 &&& (2147483647 : Int32)) % ((i0 &&& (7 : Int32)) + (1 : Int32)))), .val (.int (1 : Int32)), .val (.int (0 : Int32)), .unset, .unset, .unset, .unset, .unset] [(.long (2 : Int64)), (.long (((i5 &&& (2147483647 : Int32)) % (12 : Int32))).toInt64)]))) (fun _ k => Jvm.Stand.ldc2J X0 hx hown (mvT hZ (hw _ (List.mem_of_getElem? (i := 1) rfl))) rfl (hb hby at_63) k) ?_
      refine Goes.pre (S' := (s₁.setTop (mkF m 67 #[.val (.int i0), .val (.int i1), .val (.int i2), .val (.int i3), .val (.long i4), .second, .val (.int i5), .val (.int (i0 &&& (7 : Int32))), .val (.int ((i1 &&& (2147483647 : Int32)) % ((i0 &&& (7 : Int32)) + (1 : Int32)))), .val (.int ((i2 &&& (2147483647 : Int32)) % ((i0 &&& (7 : Int32)) + (1 : Int32)))), .val (.int (1 : Int32)), .val (.int (0 : Int32)), .unset, .unset, .unset, .unset, .unset] [(.long ((((i5 &&& (2147483647 : Int32)) % (12 : Int32))).toInt64 - (2 : Int64)))]))) (fun _ k => XT.lsub X0.here hx rfl (hb hby at_66) rfl k) ?_
      refine Goes.pre (S' := (s₁.setTop (mkF m 69 #[.val (.int i0), .val (.int i1), .val (.int i2), .val (.int i3), .val (.long i4), .second, .val (.int i5), .val (.int (i0 &&& (7 : Int32))), .val (.int ((i1 &&& (2147483647 : Int32)) % ((i0 &&& (7 : Int32)) + (1 : Int32)))), .val (.int ((i2 &&& (2147483647 : Int32)) % ((i0 &&& (7 : Int32)) + (1 : Int32)))), .val (.int (1 : Int32)), .val (.int (0 : Int32)), .val (.long ((((i5 &&& (2147483647 : Int32)) % (12 : Int32))).toInt64 - (2 : Int64))), .second, .unset, .unset, .unset] []))) (fun _ k => XT.lstore X0.here hx rfl (hb hby at_67) rfl (l' := #[.val (.int i0), .val (.int i1), .val (.int i2), .val (.int i3), .val (.long i4), .second, .val (.int i5), .val (.int (i0 &&& (7 : Int32))), .val (.int ((i1 &&& (2147483647 : Int32)) % ((i0 &&& (7 : Int32)) + (1 : Int32)))), .val (.int ((i2 &&& (2147483647 : Int32)) % ((i0 &&& (7 : Int32)) + (1 : Int32)))), .val (.int (1 : Int32)), .val (.int (0 : Int32)), .val (.long ((((i5 &&& (2147483647 : Int32)) % (12 : Int32))).toInt64 - (2 : Int64))), .second, .unset, .unset, .unset]) rfl k) ?_
      exact tail _ _ _ _ _ _ hn h7 (own_rem _ _ (own_mask31 _) (own_pos hn h7)) (own_rem _ _ (own_mask31 _) (own_pos hn h7))
    · skip
      refine Goes.pre (S' := (s₁.setTop (mkF m 47 #[.val (.int i0), .val (.int i1), .val (.int i2), .val (.int i3), .val (.long i4), .second, .val (.int i5), .val (.int (i0 &&& (7 : Int32))), .val (.int ((i1 &&& (2147483647 : Int32)) % ((i0 &&& (7 : Int32)) + (1 : Int32)))), .val (.int ((i2 &&& (2147483647 : Int32)) % ((i0 &&& (7 : Int32)) + (1 : Int32)))), .val (.int (1 : Int32)), .unset, .unset, .unset, .unset, .unset, .unset] []))) (fun _ k => XS.ifNo X0.here hx rfl (hb hby at_44) rfl (XT.i0_eq_f c44) k) ?_
      refine Goes.pre (S' := (s₁.setTop (mkF m 48 #[.val (.int i0), .val (.int i1), .val (.int i2), .val (.int i3), .val (.long i4), .second, .val (.int i5), .val (.int (i0 &&& (7 : Int32))), .val (.int ((i1 &&& (2147483647 : Int32)) % ((i0 &&& (7 : Int32)) + (1 : Int32)))), .val (.int ((i2 &&& (2147483647 : Int32)) % ((i0 &&& (7 : Int32)) + (1 : Int32)))), .val (.int (1 : Int32)), .unset, .unset, .unset, .unset, .unset, .unset] [(.int (1 : Int32))]))) (fun _ k => XS.iconst X0.here hx rfl (hb hby at_47) k) ?_
      refine Goes.pre (S' := (s₁.setTop (mkF m 52 #[.val (.int i0), .val (.int i1), .val (.int i2), .val (.int i3), .val (.long i4), .second, .val (.int i5), .val (.int (i0 &&& (7 : Int32))), .val (.int ((i1 &&& (2147483647 : Int32)) % ((i0 &&& (7 : Int32)) + (1 : Int32)))), .val (.int ((i2 &&& (2147483647 : Int32)) % ((i0 &&& (7 : Int32)) + (1 : Int32)))), .val (.int (1 : Int32)), .unset, .unset, .unset, .unset, .unset, .unset] [(.int (1 : Int32))]))) (fun _ k => XS.goto X0.here hx rfl (pc0 := 48) (pc' := 52) rfl (hb hby at_48) (by decide) (by decide) k) ?_
      refine Goes.pre (S' := (s₁.setTop (mkF m 54 #[.val (.int i0), .val (.int i1), .val (.int i2), .val (.int i3), .val (.long i4), .second, .val (.int i5), .val (.int (i0 &&& (7 : Int32))), .val (.int ((i1 &&& (2147483647 : Int32)) % ((i0 &&& (7 : Int32)) + (1 : Int32)))), .val (.int ((i2 &&& (2147483647 : Int32)) % ((i0 &&& (7 : Int32)) + (1 : Int32)))), .val (.int (1 : Int32)), .val (.int (1 : Int32)), .unset, .unset, .unset, .unset, .unset] []))) (fun _ k => XS.istore X0.here hx rfl (hb hby at_52) rfl (l' := #[.val (.int i0), .val (.int i1), .val (.int i2), .val (.int i3), .val (.long i4), .second, .val (.int i5), .val (.int (i0 &&& (7 : Int32))), .val (.int ((i1 &&& (2147483647 : Int32)) % ((i0 &&& (7 : Int32)) + (1 : Int32)))), .val (.int ((i2 &&& (2147483647 : Int32)) % ((i0 &&& (7 : Int32)) + (1 : Int32)))), .val (.int (1 : Int32)), .val (.int (1 : Int32)), .unset, .unset, .unset, .unset, .unset]) rfl k) ?_
      refine Goes.pre (S' := (s₁.setTop (mkF m 56 #[.val (.int i0), .val (.int i1), .val (.int i2), .val (.int i3), .val (.long i4), .second, .val (.int i5), .val (.int (i0 &&& (7 : Int32))), .val (.int ((i1 &&& (2147483647 : Int32)) % ((i0 &&& (7 : Int32)) + (1 : Int32)))), .val (.int ((i2 &&& (2147483647 : Int32)) % ((i0 &&& (7 : Int32)) + (1 : Int32)))), .val (.int (1 : Int32)), .val (.int (1 : Int32)), .unset, .unset, .unset, .unset, .unset] [(.int i5)]))) (fun _ k => XS.iload X0.here hx rfl (hb hby at_54) rfl k) ?_
      refine Goes.pre (S' := (s₁.setTop (mkF m 58 #[.val (.int i0), .val (.int i1), .val (.int i2), .val (.int i3), .val (.long i4), .second, .val (.int i5), .val (.int (i0 &&& (7 : Int32))), .val (.int ((i1 &&& (2147483647 : Int32)) % ((i0 &&& (7 : Int32)) + (1 : Int32)))), .val (.int ((i2 &&& (2147483647 : Int32)) % ((i0 &&& (7 : Int32)) + (1 : Int32)))), .val (.int (1 : Int32)), .val (.int (1 : Int32)), .unset, .unset, .unset, .unset, .unset] [(.int (2147483647 : Int32)), (.int i5)]))) (fun _ k => Jvm.Stand.ldcI X0 hx hown (mvT hZ (hw _ (List.mem_of_getElem? (i := 0) rfl))) rfl (hb hby at_56) k) ?_
      refine Goes.pre (S' := (s₁.setTop (mkF m 59 #[.val (.int i0), .val (.int i1), .val (.int i2), .val (.int i3), .val (.long i4), .second, .val (.int i5), .val (.int (i0 &&& (7 : Int32))), .val (.int ((i1 &&& (2147483647 : Int32)) % ((i0 &&& (7 : Int32)) + (1 : Int32)))), .val (.int ((i2 &&& (2147483647 : Int32)) % ((i0 &&& (7 : Int32)) + (1 : Int32)))), .val (.int (1 : Int32)), .val (.int (1 : Int32)), .unset, .unset, .unset, .unset, .unset] [(.int (i5 &&& (2147483647 : Int32)))]))) (fun _ k => XS.iand X0.here hx rfl (hb hby at_58) rfl k) ?_
      refine Goes.pre (S' := (s₁.setTop (mkF m 61 #[.val (.int i0), .val (.int i1), .val (.int i2), .val (.int i3), .val (.long i4), .second, .val (.int i5), .val (.int (i0 &&& (7 : Int32))), .val (.int ((i1 &&& (2147483647 : Int32)) % ((i0 &&& (7 : Int32)) + (1 : Int32)))), .val (.int ((i2 &&& (2147483647 : Int32)) % ((i0 &&& (7 : Int32)) + (1 : Int32)))), .val (.int (1 : Int32)), .val (.int (1 : Int32)), .unset, .unset, .unset, .unset, .unset] [(.int (12 : Int32)), (.int (i5 &&& (2147483647 : Int32)))]))) (fun _ k => XS.bipush X0.here hx rfl (hb hby at_59) k) ?_
      refine Goes.pre (S' := (s₁.setTop (mkF m 62 #[.val (.int i0), .val (.int i1), .val (.int i2), .val (.int i3), .val (.long i4), .second, .val (.int i5), .val (.int (i0 &&& (7 : Int32))), .val (.int ((i1 &&& (2147483647 : Int32)) % ((i0 &&& (7 : Int32)) + (1 : Int32)))), .val (.int ((i2 &&& (2147483647 : Int32)) % ((i0 &&& (7 : Int32)) + (1 : Int32)))), .val (.int (1 : Int32)), .val (.int (1 : Int32)), .unset, .unset, .unset, .unset, .unset] [(.int ((i5 &&& (2147483647 : Int32)) % (12 : Int32)))]))) (fun _ k => iremM X0 hx rfl (hb hby at_61) rfl (by decide) k) ?_
      refine Goes.pre (S' := (s₁.setTop (mkF m 63 #[.val (.int i0), .val (.int i1), .val (.int i2), .val (.int i3), .val (.long i4), .second, .val (.int i5), .val (.int (i0 &&& (7 : Int32))), .val (.int ((i1 &&& (2147483647 : Int32)) % ((i0 &&& (7 : Int32)) + (1 : Int32)))), .val (.int ((i2 &&& (2147483647 : Int32)) % ((i0 &&& (7 : Int32)) + (1 : Int32)))), .val (.int (1 : Int32)), .val (.int (1 : Int32)), .unset, .unset, .unset, .unset, .unset] [(.long (((i5 &&& (2147483647 : Int32)) % (12 : Int32))).toInt64)]))) (fun _ k => XT.i2l X0.here hx rfl (hb hby at_62) rfl k) ?_
      refine Goes.pre (S' := (s₁.setTop (mkF m 66 #[.val (.int i0), .val (.int i1), .val (.int i2), .val (.int i3), .val (.long i4), .second, .val (.int i5), .val (.int (i0 &&& (7 : Int32))), .val (.int ((i1 &&& (2147483647 : Int32)) % ((i0 &&& (7 : Int32)) + (1 : Int32)))), .val (.int ((i2 &&& (2147483647 : Int32)) % ((i0 &&& (7 : Int32)) + (1 : Int32)))), .val (.int (1 : Int32)), .val (.int (1 : Int32)), .unset, .unset, .unset, .unset, .unset] [(.long (2 : Int64)), (.long (((i5 &&& (2147483647 : Int32)) % (12 : Int32))).toInt64)]))) (fun _ k => Jvm.Stand.ldc2J X0 hx hown (mvT hZ (hw _ (List.mem_of_getElem? (i := 1) rfl))) rfl (hb hby at_63) k) ?_
      refine Goes.pre (S' := (s₁.setTop (mkF m 67 #[.val (.int i0), .val (.int i1), .val (.int i2), .val (.int i3), .val (.long i4), .second, .val (.int i5), .val (.int (i0 &&& (7 : Int32))), .val (.int ((i1 &&& (2147483647 : Int32)) % ((i0 &&& (7 : Int32)) + (1 : Int32)))), .val (.int ((i2 &&& (2147483647 : Int32)) % ((i0 &&& (7 : Int32)) + (1 : Int32)))), .val (.int (1 : Int32)), .val (.int (1 : Int32)), .unset, .unset, .unset, .unset, .unset] [(.long ((((i5 &&& (2147483647 : Int32)) % (12 : Int32))).toInt64 - (2 : Int64)))]))) (fun _ k => XT.lsub X0.here hx rfl (hb hby at_66) rfl k) ?_
      refine Goes.pre (S' := (s₁.setTop (mkF m 69 #[.val (.int i0), .val (.int i1), .val (.int i2), .val (.int i3), .val (.long i4), .second, .val (.int i5), .val (.int (i0 &&& (7 : Int32))), .val (.int ((i1 &&& (2147483647 : Int32)) % ((i0 &&& (7 : Int32)) + (1 : Int32)))), .val (.int ((i2 &&& (2147483647 : Int32)) % ((i0 &&& (7 : Int32)) + (1 : Int32)))), .val (.int (1 : Int32)), .val (.int (1 : Int32)), .val (.long ((((i5 &&& (2147483647 : Int32)) % (12 : Int32))).toInt64 - (2 : Int64))), .second, .unset, .unset, .unset] []))) (fun _ k => XT.lstore X0.here hx rfl (hb hby at_67) rfl (l' := #[.val (.int i0), .val (.int i1), .val (.int i2), .val (.int i3), .val (.long i4), .second, .val (.int i5), .val (.int (i0 &&& (7 : Int32))), .val (.int ((i1 &&& (2147483647 : Int32)) % ((i0 &&& (7 : Int32)) + (1 : Int32)))), .val (.int ((i2 &&& (2147483647 : Int32)) % ((i0 &&& (7 : Int32)) + (1 : Int32)))), .val (.int (1 : Int32)), .val (.int (1 : Int32)), .val (.long ((((i5 &&& (2147483647 : Int32)) % (12 : Int32))).toInt64 - (2 : Int64))), .second, .unset, .unset, .unset]) rfl k) ?_
      exact tail _ _ _ _ _ _ hn h7 (own_rem _ _ (own_mask31 _) (own_pos hn h7)) (own_rem _ _ (own_mask31 _) (own_pos hn h7))
set_option maxRecDepth 65536 in
set_option maxHeartbeats 40000000 in
theorem comes_1 {Post : Tables → Env → Array Value → State → Outcome → State → Prop} (hpost : ∀ tb e args s v u, (limb_1_1.after args s (.returned v) u = true ∧ limb_1_2.after args s (.returned v) u = true ∧ True) → FrameEnd s (.returned v) u (Jvm.fieldLocs frame_1_writes args s ++ Jvm.arrayLocs frame_1_arrays args s ++ Jvm.staticLocs frame_1_statics s) 16 128 → Post tb e args s (.returned v) u) :
    ArmFor flags0 classFile x code maxLocals ret World_1 tables_1 room_1 Calls_1 rest_1 Pre_1 Post := by
  intro l hfl _ _ p e ha hc hk s m args below hf hA hF happ hP
  obtain ⟨hcalls, hrest, hpre⟩ := hP
  obtain ⟨-, -, -, hnamed, -, -, -, hat⟩ := (Spec.applies_iff hf).mp happ
  obtain ⟨hg, hn⟩ := and_e (Cond.before_iff.mp (show (Jvm.Cond.and given_1 narrow_1).before args s = true from hpre))
  obtain ⟨gc, gr0⟩ := and_e hg
  obtain ⟨ga0, gr1⟩ := and_e gr0
  obtain ⟨ga1, gr2⟩ := and_e gr1
  obtain ⟨ga2, gr3⟩ := and_e gr2
  obtain ⟨ga3, gr4⟩ := and_e gr3
  obtain ⟨ga4, gr5⟩ := and_e gr4
  obtain ⟨w0, w1, w2, w3, w4, w5, rfl⟩ : ∃ w0 w1 w2 w3 w4 w5 : Value, args = #[w0, w1, w2, w3, w4, w5] := by
    have hs : args.size = 6 := by simpa [Cond.value, given_1] using gc
    obtain ⟨L⟩ := args
    match L, hs with
    | [w0, w1, w2, w3, w4, w5], _ => exact ⟨w0, w1, w2, w3, w4, w5, rfl⟩
  have hw := fun d (hd : d ∈ tables_1) => atoms_spec (ws := Jvm.Cond.code x code maxLocals ret :: tables_1) hat d (List.mem_cons_of_mem _ hd)
  have hfit : Fit s := fun {y c} hc i hi => by
    obtain ⟨ha, rfl⟩ := Array.getElem?_eq_some_iff.mp hc
    have q := List.all_eq_true.mp ((Array.all_eq_true_iff_forall_mem.mp hF) _ (Array.getElem_mem ha)) i (List.mem_range.mpr hi)
    simpa [Array.getElem?_eq_getElem hi] using q
  obtain ⟨i0, ei0⟩ := is_v ga0
  obtain rfl : w0 = (.int i0) := Option.some.inj ei0
  obtain ⟨i1, ei1⟩ := is_v ga1
  obtain rfl : w1 = (.int i1) := Option.some.inj ei1
  obtain ⟨i2, ei2⟩ := is_v ga2
  obtain rfl : w2 = (.int i2) := Option.some.inj ei2
  obtain ⟨i3, ei3⟩ := is_v ga3
  obtain rfl : w3 = (.int i3) := Option.some.inj ei3
  obtain ⟨i4, ei4⟩ := isL_v ga4
  obtain rfl : w4 = (.long i4) := Option.some.inj ei4
  obtain ⟨i5, ei5⟩ := is_v gr5
  obtain rfl : w5 = (.int i5) := Option.some.inj ei5
  obtain ⟨n, o, h1, h2, h3, _, L, rfl, ⟨rfl, N⟩, hq⟩ := rm_law l s _ hw tables_1 i0 i1 i2 i3 i4 i5  s.heap s.heap.size (Nat.le_refl _)  p e ha hc hk s m _ below hf ((Spec.applies_iff_loose hf).mp happ).1 ⟨rfl, State.Warmed39.refl s, rfl⟩ trivial
  refine ⟨n, _, h1, h2, h3, hpost _ _ _ _ _ _ ⟨Cond.after_iff.mpr rfl, Cond.after_iff.mpr (eq_i res_at (Term.int_eval (1)) rfl), trivial⟩ ⟨hq.1, hq.2.1, (hq.2.2.sift fun y hy => Or.inr (N y hy)).mono (by decide) (by decide)⟩⟩
theorem main_1_1 : Claimed_1_1 := comes_1 fun _ _ _ _ _ _ h hF => ⟨h.1, hF⟩
theorem main_1_2 : Claimed_1_2 := comes_1 fun _ _ _ _ _ _ h hF => ⟨h.2.1, hF⟩
end Jvm.Pilot.@@N@@
namespace Jvm.Pilot.@@N@@
open Jvm Jvm.ClassFile Sem Op Lib Jvm.Free Jvm.Stand Jvm.Pilot.@@N@@.Jvm.D
/-! MADE BY PROGRAM (witnessworld.py) out of the Statement's table words and the real class files: 11 classes; the members and pool entries that the words name. The judged class is class 1, her method 2. -/
namespace start1
open Jvm.ClassFile
def u (s : String) : CpInfo := .utf8 (stringToUtf16 s)
/-- a pool by its gaps: so many unusable entries, then the entry; so many at the end -/
def gap : Nat → List CpInfo → List CpInfo
  | 0, r => r
  | n + 1, r => .unusable :: gap n r
def poolList (es : List (Nat × CpInfo)) (last : Nat) : List CpInfo := es.foldr (fun e r => gap e.1 (e.2 :: r)) (gap last [])
def pool (es : List (Nat × CpInfo)) (last : Nat) : Array CpInfo := ⟨poolList es last⟩
def fileOf (pool : Array CpInfo) (this : Nat) (attrs : Array Attribute := #[]) (ms : Array MethodInfo := #[]) (fl : Nat := 33) (sup : Nat := 0) (ifs : Array Nat := #[]) (fds : Array FieldInfo := #[]) : ClassFile where
  minorVersion := 0
  majorVersion := 65
  constantPool := pool
  accessFlags := fl
  thisClass := this
  superClass := sup
  interfaces := ifs
  fields := fds
  methods := ms
  attributes := attrs
def plain (name : String) (sup : Option ClassId) : Class where
  name := name
  kind := .ordinary
  loader := none
  accessFlags := 33
  super := sup
  interfaces := #[]
  cf := none
  fields := #[]
  methods := #[]
  instanceTypes := #[]
  staticTypes := #[]
  resolved := #[]
  callSites := []
  init := .initialized
  statics := none
  mirror := none

def pool0 : Array CpInfo := pool [(5, u "<init>"), (0, u "()V"), (1, .class_ 10), (1, u "java/lang/Object")] 113

def k0c0 : Code := { maxStack := 0, maxLocals := 1, code := object_method_1_code, exceptionTable := #[], attributes := #[] }
def k0m0 : Method := { name := "<init>", desc := "()V", sig := { parameters := [], returnType := none }, accessFlags := 1, code := some k0c0 }
/-- java/lang/Object -/
def k0 : Class := { plain "java/lang/Object" none with
  accessFlags := 33
  interfaces := #[]
  cf := some (fileOf pool0 8 #[] #[{ accessFlags := 1, nameIndex := 5, descriptorIndex := 6, attributes := #[] }] 33 0 #[] #[])
  fields := #[]
  methods := #[k0m0]
  instanceTypes := #[]
  staticTypes := #[]
  resolved := Array.replicate 124 none
  statics := none }

def pool1 : Array CpInfo := pool [(2, .class_ 4), (1, u "java/lang/Object"), (0, u "<init>"), (0, u "()V"), (0, .integer 2147483647), (0, .long 2), (1, .class_ 11), (0, u "com/example/quarry/quarry/text/Labels"), (0, .methodref 10 13), (0, .nameAndType 5 14), (0, u "(I)V"), (0, .methodref 10 16), (0, .nameAndType 17 14), (0, u "instructionAt"), (0, .methodref 10 19), (0, .nameAndType 20 21), (0, u "isPlace"), (0, u "(J)Z"), (0, .methodref 23 24), (0, .class_ 25), (0, .nameAndType 26 27), (0, u "com/example/quarry/quarry/text/LabelsIsPlacePinLaw"), (0, u "expected"), (0, u "(IZIZIJ)Z"), (3, u "law"), (0, u "(IIIIJI)Z")] 2

def k1m0 : Method := { name := "<init>", desc := "()V", sig := { parameters := [], returnType := none }, accessFlags := 2, code := none }
def k1c1 : Code := { maxStack := 4, maxLocals := 7, code := method_2_code, exceptionTable := #[], attributes := #[] }
def k1m1 : Method := { name := "expected", desc := "(IZIZIJ)Z", sig := { parameters := [.int, .boolean, .int, .boolean, .int, .long], returnType := some .boolean }, accessFlags := 10, code := some k1c1 }
def k1c2 : Code := { maxStack := 8, maxLocals := 17, code := code, exceptionTable := #[], attributes := #[] }
def k1m2 : Method := { name := "law", desc := "(IIIIJI)Z", sig := { parameters := [.int, .int, .int, .int, .long, .int], returnType := some .boolean }, accessFlags := 9, code := some k1c2 }
/-- com/example/quarry/quarry/text/LabelsIsPlacePinLaw -/
def k1 : Class := { plain "com/example/quarry/quarry/text/LabelsIsPlacePinLaw" (some 0) with
  accessFlags := 49
  interfaces := #[]
  cf := some (fileOf pool1 23 #[] #[{ accessFlags := 2, nameIndex := 5, descriptorIndex := 6, attributes := #[] }, { accessFlags := 10, nameIndex := 26, descriptorIndex := 27, attributes := #[] }, { accessFlags := 9, nameIndex := 31, descriptorIndex := 32, attributes := #[] }] 49 2 #[] #[])
  fields := #[]
  methods := #[k1m0, k1m1, k1m2]
  instanceTypes := #[]
  staticTypes := #[]
  resolved := Array.replicate 35 none
  statics := none }

def pool2 : Array CpInfo := pool [(1, .methodref 2 3), (0, .class_ 4), (0, .nameAndType 5 6), (0, u "java/lang/Object"), (0, u "<init>"), (0, u "()V"), (0, .fieldref 8 9), (0, .class_ 10), (0, .nameAndType 11 12), (0, u "com/example/quarry/quarry/text/Labels"), (0, u "places"), (0, u "[Z"), (2, u "isPlace"), (0, u "(J)Z"), (11, u "endNamed"), (0, u "Z"), (12, u "(I)V"), (2, u "instructionAt")] 29

def k2c0 : Code := { maxStack := 3, maxLocals := 2, code := prog_88_method_1_code, exceptionTable := #[], attributes := #[] }
def k2m0 : Method := { name := "<init>", desc := "(I)V", sig := { parameters := [.int], returnType := none }, accessFlags := 0, code := some k2c0 }
def k2c1 : Code := { maxStack := 3, maxLocals := 2, code := prog_88_method_2_code, exceptionTable := #[], attributes := #[] }
def k2m1 : Method := { name := "instructionAt", desc := "(I)V", sig := { parameters := [.int], returnType := none }, accessFlags := 0, code := some k2c1 }
def k2c2 : Code := { maxStack := 4, maxLocals := 3, code := prog_88_method_3_code, exceptionTable := #[], attributes := #[] }
def k2m2 : Method := { name := "isPlace", desc := "(J)Z", sig := { parameters := [.long], returnType := some .boolean }, accessFlags := 0, code := some k2c2 }
/-- com/example/quarry/quarry/text/Labels -/
def k2 : Class := { plain "com/example/quarry/quarry/text/Labels" (some 0) with
  accessFlags := 48
  interfaces := #[]
  cf := some (fileOf pool2 8 #[] #[{ accessFlags := 0, nameIndex := 5, descriptorIndex := 42, attributes := #[] }, { accessFlags := 0, nameIndex := 45, descriptorIndex := 42, attributes := #[] }, { accessFlags := 0, nameIndex := 15, descriptorIndex := 16, attributes := #[] }] 48 2 #[] #[{ accessFlags := 18, nameIndex := 11, descriptorIndex := 12, attributes := #[] }, { accessFlags := 2, nameIndex := 28, descriptorIndex := 29, attributes := #[] }])
  fields := #[{ name := "places", type := (.array .boolean), accessFlags := 18, slot := 0, constantValue := 0 }, { name := "endNamed", type := .boolean, accessFlags := 2, slot := 1, constantValue := 0 }]
  methods := #[k2m0, k2m1, k2m2]
  instanceTypes := #[(.array .boolean), .boolean]
  staticTypes := #[]
  resolved := Array.replicate 75 none
  statics := none }

def pool3 : Array CpInfo := pool [(1, u "java/lang/Cloneable"), (0, .class_ 1), (0, u "java/lang/Object"), (0, .class_ 3)] 3

/-- java/lang/Cloneable -/
def k3 : Class := { plain "java/lang/Cloneable" (some 0) with
  accessFlags := 1537
  interfaces := #[]
  cf := some (fileOf pool3 2 #[] #[] 1537 4 #[] #[])
  fields := #[]
  methods := #[]
  instanceTypes := #[]
  staticTypes := #[]
  resolved := Array.replicate 8 none
  statics := none }

def pool4 : Array CpInfo := pool [(1, u "java/io/Serializable"), (0, .class_ 1), (0, u "java/lang/Object"), (0, .class_ 3)] 3

/-- java/io/Serializable -/
def k4 : Class := { plain "java/io/Serializable" (some 0) with
  accessFlags := 1537
  interfaces := #[]
  cf := some (fileOf pool4 2 #[] #[] 1537 4 #[] #[])
  fields := #[]
  methods := #[]
  instanceTypes := #[]
  staticTypes := #[]
  resolved := Array.replicate 8 none
  statics := none }

/-- the primitive boolean -/
def k5 : Class := { plain "boolean" none with kind := .primitive 'Z', accessFlags := 0x411 }
/-- [Z -/
def k6 : Class := { plain "[Z" (some 0) with kind := .array 5 .boolean, interfaces := #[3, 4], accessFlags := 1041 }

/-- the primitive byte -/
def k7 : Class := { plain "byte" none with kind := .primitive 'B', accessFlags := 0x411 }
/-- [B -/
def k8 : Class := { plain "[B" (some 0) with kind := .array 7 .byte, interfaces := #[3, 4], accessFlags := 1041 }

/-- the primitive int -/
def k9 : Class := { plain "int" none with kind := .primitive 'I', accessFlags := 0x411 }
/-- [I -/
def k10 : Class := { plain "[I" (some 0) with kind := .array 9 .int, interfaces := #[3, 4], accessFlags := 1041 }

def heap : Heap := #[]
def classes : Array Class := #[k0, k1, k2, k3, k4, k5, k6, k7, k8, k9, k10]
def interned : List (Array UInt16 × Addr) := []
def slotsUsed : Nat := 0
def theMethod : MethodId := ⟨1, 2⟩
def args0 : Array Value := #[.int 5, .int 3, .int 1, .int 3, .long 2, .int 4]
def aboutOver (below : List Frame) : State where
  vm := { classes := classes, interned := interned.toArray }
  heap := heap
  slotsUsed := slotsUsed
  threads := #[{ frames := .invoking theMethod args0 :: below }]
def below0 : List Frame := [.native { method := ⟨0, 0⟩, args := #[] }]
def about1 : State := aboutOver below0
def p0 : Program := .bare "" "" ""
def e0 : Env := launch0.env 0 0 0
theorem w_frames : about1.frames = Frame.invoking theMethod args0 :: below0 := rfl
set_option maxRecDepth 65536 in
theorem w_args : argsFit about1.vm theMethod args0 = true := by decide +kernel
set_option maxRecDepth 65536 in
theorem w_heap : heapFits about1 = true := by decide +kernel
set_option maxRecDepth 65536 in
theorem w_runnable : about1.curStatus? = some .runnable := by decide +kernel
set_option maxRecDepth 65536 in
theorem w_alone : about1.alone = true := by decide +kernel
set_option maxRecDepth 65536 in
theorem w_named : about1.methodNamed? x = some theMethod := by decide +kernel
set_option maxRecDepth 65536 in
theorem w_hears : about1.hears theMethod below0 = true := by decide +kernel
set_option maxRecDepth 65536 in
theorem w_ripe : about1.ripe theMethod args0 below0 = true := by decide +kernel
theorem w_running : about1.status = .running := rfl
set_option maxRecDepth 65536 in
theorem w_room : about1.hasRoom e0.platform room_1 = true :=
  launch0.hasRoom_least _ room_1 (by decide +kernel) (by decide +kernel) (by decide +kernel) (by decide +kernel) (by decide +kernel) (by decide +kernel)
theorem allAtoms_all (ts : List Jvm.Cond) (a : Array Jvm.Value) (st : Jvm.State) : (allAtoms ts).before a st = ts.all (fun c => c.before a st) := by
  induction ts with
  | nil => rfl
  | cons c t ih =>
    show (Jvm.Cond.and c (allAtoms t)).before a st = _
    rw [Jvm.Cond.before_and, ih, List.all_cons]
def words1 : List Jvm.Cond := Jvm.Cond.code x code maxLocals ret :: tables_1
/-- a 'code' word, met by the world's own term for the bytes: nothing is compared byte by byte -/
theorem code_word {y : MethodName} {bytes : ByteArray} {mx : Nat} {rt : Option FieldType} {a : Array Value} {s : State} {m : MethodId} {meth : Method} {c : Code} (h1 : s.methodNamed? y = some m) (h2 : s.vm.method? m = some meth) (h3 : meth.code = some c) (h4 : c.code = bytes)
    (h5 : (c.maxLocals == mx && c.exceptionTable.isEmpty && decide (c.maxStack ≤ mostOperands) && decide (meth.sig.returnType = rt) && !meth.locks && decide (parseMethodDescriptor y.desc = some meth.sig)) = true) : (Jvm.Cond.code y bytes mx rt).before a s = true := by
  simp only [Bool.and_eq_true, beq_iff_eq, Bool.not_eq_true', decide_eq_true_eq] at h5
  obtain ⟨⟨⟨⟨⟨g1, g2⟩, g3⟩, g4⟩, g5⟩, g6⟩ := h5
  simp [Cond.before, Cond.holds, Cond.value, h1, h2, h3, h4, g1, g2, g3, g4, g5, g6]
def isCode : Jvm.Cond → Bool
  | .code _ _ _ _ => true
  | _ => false
theorem all_split {L : List Jvm.Cond} {P : Jvm.Cond → Bool} (h1 : L.all (fun c => isCode c || P c) = true) (h2 : ∀ c ∈ L.filter isCode, P c = true) : L.all P = true := by
  refine List.all_eq_true.mpr fun c hc => ?_
  have h := List.all_eq_true.mp h1 c hc
  rcases Bool.eq_false_or_eq_true (isCode c) with hi | hi
  · exact h2 c (List.mem_filter.mpr ⟨hc, hi⟩)
  · simpa [hi] using h
set_option maxRecDepth 65536 in
theorem w_c0 : (Jvm.Cond.code x code maxLocals ret).before args0 about1 = true := code_word (m := ⟨1, 2⟩) (meth := k1m2) (c := k1c2) (by decide +kernel) rfl rfl rfl (by decide +kernel)
set_option maxRecDepth 65536 in
theorem w_c1 : (Jvm.Cond.code ({ cls := "com/example/quarry/quarry/text/Labels", name := "<init>", desc := "(I)V" } : Jvm.MethodName) prog_88_method_1_code (2 : Nat) (Option.none : Option Jvm.ClassFile.FieldType)).before args0 about1 = true := code_word (m := ⟨2, 0⟩) (meth := k2m0) (c := k2c0) (by decide +kernel) rfl rfl rfl (by decide +kernel)
set_option maxRecDepth 65536 in
theorem w_c2 : (Jvm.Cond.code ({ cls := "java/lang/Object", name := "<init>", desc := "()V" } : Jvm.MethodName) object_method_1_code (1 : Nat) (Option.none : Option Jvm.ClassFile.FieldType)).before args0 about1 = true := code_word (m := ⟨0, 0⟩) (meth := k0m0) (c := k0c0) (by decide +kernel) rfl rfl rfl (by decide +kernel)
set_option maxRecDepth 65536 in
theorem w_c3 : (Jvm.Cond.code ({ cls := "com/example/quarry/quarry/text/Labels", name := "instructionAt", desc := "(I)V" } : Jvm.MethodName) prog_88_method_2_code (2 : Nat) (Option.none : Option Jvm.ClassFile.FieldType)).before args0 about1 = true := code_word (m := ⟨2, 1⟩) (meth := k2m1) (c := k2c1) (by decide +kernel) rfl rfl rfl (by decide +kernel)
set_option maxRecDepth 65536 in
theorem w_c4 : (Jvm.Cond.code ({ cls := "com/example/quarry/quarry/text/Labels", name := "isPlace", desc := "(J)Z" } : Jvm.MethodName) prog_88_method_3_code (3 : Nat) (Option.some Jvm.ClassFile.FieldType.boolean)).before args0 about1 = true := code_word (m := ⟨2, 2⟩) (meth := k2m2) (c := k2c2) (by decide +kernel) rfl rfl rfl (by decide +kernel)
set_option maxRecDepth 65536 in
theorem w_c5 : (Jvm.Cond.code ({ cls := "com/example/quarry/quarry/text/LabelsIsPlacePinLaw", name := "expected", desc := "(IZIZIJ)Z" } : Jvm.MethodName) method_2_code (7 : Nat) (Option.some Jvm.ClassFile.FieldType.boolean)).before args0 about1 = true := code_word (m := ⟨1, 1⟩) (meth := k1m1) (c := k1c1) (by decide +kernel) rfl rfl rfl (by decide +kernel)
def codes1 : List Jvm.Cond := [Jvm.Cond.code x code maxLocals ret, Jvm.Cond.code ({ cls := "com/example/quarry/quarry/text/Labels", name := "<init>", desc := "(I)V" } : Jvm.MethodName) prog_88_method_1_code (2 : Nat) (Option.none : Option Jvm.ClassFile.FieldType), Jvm.Cond.code ({ cls := "java/lang/Object", name := "<init>", desc := "()V" } : Jvm.MethodName) object_method_1_code (1 : Nat) (Option.none : Option Jvm.ClassFile.FieldType), Jvm.Cond.code ({ cls := "com/example/quarry/quarry/text/Labels", name := "instructionAt", desc := "(I)V" } : Jvm.MethodName) prog_88_method_2_code (2 : Nat) (Option.none : Option Jvm.ClassFile.FieldType), Jvm.Cond.code ({ cls := "com/example/quarry/quarry/text/Labels", name := "isPlace", desc := "(J)Z" } : Jvm.MethodName) prog_88_method_3_code (3 : Nat) (Option.some Jvm.ClassFile.FieldType.boolean), Jvm.Cond.code ({ cls := "com/example/quarry/quarry/text/LabelsIsPlacePinLaw", name := "expected", desc := "(IZIZIJ)Z" } : Jvm.MethodName) method_2_code (7 : Nat) (Option.some Jvm.ClassFile.FieldType.boolean)]
set_option maxRecDepth 65536 in
theorem codes_eq : words1.filter isCode = codes1 := rfl
theorem w_codes : ∀ c ∈ words1.filter isCode, c.before args0 about1 = true := by
  rw [codes_eq]
  intro c hc
  simp only [codes1, List.mem_cons, List.not_mem_nil, or_false] at hc
  rcases hc with rfl | rfl | rfl | rfl | rfl | rfl
  · exact w_c0
  · exact w_c1
  · exact w_c2
  · exact w_c3
  · exact w_c4
  · exact w_c5
set_option maxRecDepth 65536 in
theorem w_t1 : (words1.take 24).all (fun c => isCode c || c.before args0 about1) = true := by decide +kernel
set_option maxRecDepth 65536 in
theorem w_t2 : (words1.drop 24).all (fun c => isCode c || c.before args0 about1) = true := by decide +kernel
theorem w_tables : (allAtoms (Jvm.Cond.code x code maxLocals ret :: tables_1)).before args0 about1 = true := by
  rw [allAtoms_all]
  show words1.all (fun c => c.before args0 about1) = true
  refine all_split ?_ w_codes
  rw [← List.take_append_drop 24 words1, List.all_append, w_t1, w_t2]
  rfl
set_option maxRecDepth 65536 in
theorem w_case : (Jvm.Cond.and given_1 narrow_1).before args0 about1 = true := by decide +kernel
theorem w_applies : (headSpec (Jvm.Cond.code x code maxLocals ret :: tables_1) room_1).applies x e0.platform about1 = true :=
  (Spec.applies_iff w_frames).mpr ⟨w_running, w_runnable, w_alone, w_named, w_hears, w_ripe, w_room, w_tables⟩
theorem atStart : AtStart classFile x code maxLocals ret World_1 tables_1 room_1 Calls_1 rest_1 Pre_1 launch0 p0 e0 about1 theMethod args0 below0 :=
  ⟨lists_1, trivial, launch0.admits_env _ _ _, launch0.least_env, fairChoices_fair.cas, fairChoices_fair.clock, w_frames, w_args, w_heap, w_applies, trivial, trivial, w_case⟩
end start1
theorem witness_1 : WitnessClaimed_1 := ⟨start1.p0, start1.e0, start1.about1, start1.theMethod, start1.args0, start1.below0, start1.atStart⟩
end Jvm.Pilot.@@N@@
