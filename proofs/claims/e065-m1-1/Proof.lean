import JvmDerived
import JvmDerived.Pilot.@@N@@Statement
import JvmDerived.Pilot.@@N@@Code
set_option linter.unusedVariables false
set_option linter.unusedSimpArgs false
@@BLOCK:NumsL.lean.txt@@
namespace Jvm.Pilot.@@N@@
open Jvm Jvm.ClassFile Sem Op Lib Jvm.Free Jvm.Stand Jvm.LawKit Jvm.RoadKit Bundle Jvm.Pilot.@@N@@.Jvm.D
/-! The own kit: a walk forwards. 'Goes .. S': from S the body runs to its end, and Q holds there. -/
def Goes (p : Program) (e : Env) (below : List Frame) (P : Outcome → State → Prop) (S : State) : Prop :=
  ∃ s₂ o, Steps p.tables e below S s₂ ∧ s₂.status = .running ∧ Ended s₂ below o ∧ P o s₂
abbrev EndQ (s : State) (Q : Option Value → Heap → List Loc → Prop) (k n : Nat) : Outcome → State → Prop := fun o U => ∃ v L, o = .returned v ∧ Q v U.heap L ∧ FrameEnd s o U L k n
abbrev Ctr (l : Launch) (Z : State) (y : MethodName) (bytes : ByteArray) (maxL : Nat) (ret : Option FieldType) (ws : List Jvm.Cond) (rm : Room) (as' : Array Value) (h0 : Heap) (Q : Option Value → Heap → List Loc → Prop) : Prop :=
  MetFree l y (head1 (Jvm.Cond.code y bytes maxL ret :: ws) rm) (fun a U => a = as' ∧ Z.Warmed39 U.vm ∧ U.heap = h0) (fun _ _ _ _ _ => True) (fun _ U o U' => ∃ v L, o = .returned v ∧ Q v U'.heap L ∧ FrameEnd U o U' L rm.cells rm.slots)
abbrev CtrW (l : Launch) (Z : State) (y : MethodName) (bytes : ByteArray) (maxL : Nat) (ret : Option FieldType) (ws : List Jvm.Cond) (rm : Room) (as' : Array Value) (h0 : Heap) (Q : Option Value → Heap → List Loc → Prop) : Prop :=
  MetFree l y (head1 (Jvm.Cond.code y bytes maxL ret :: ws) rm) (fun a U => a = as' ∧ Z.Warmed39 U.vm ∧ U.heap = h0 ∧ U.vm = Z.vm) (fun _ _ _ _ _ => True) (fun _ U o U' => ∃ v L, o = .returned v ∧ Q v U'.heap L ∧ ReturnedEndW U o U' L rm.cells rm.slots)
section Own
variable {p : Program} {l : Launch} {e : Env} {R : Room} {s : State} {m : MethodId} {args : Array Value} {below : List Frame} {meth : Method} {c : Code} {T : State} {locs : List Loc} {cells slots : Nat} {Z : State} {a0 : Array Value} {h : Heap}
variable {Q : Option Value → Heap → List Loc → Prop} {k n : Nat} {S S' : State} {P : Outcome → State → Prop}
theorem Goes.pre (hs : ∀ t, Steps p.tables e below S' t → Steps p.tables e below S t) (g : Goes p e below P S') : Goes p e below P S := by
  obtain ⟨s₂, o, a, b⟩ := g
  exact ⟨s₂, o, hs _ a, b⟩
theorem Goes.via (hs : Steps p.tables e below S S') (g : Goes p e below P S') : Goes p e below P S := by
  obtain ⟨s₂, o, a, b⟩ := g
  exact ⟨s₂, o, hs.trans a, b⟩
theorem Goes.out (X : Stand p l e R s m args below meth c T locs cells slots) {v : Option Value} (hv : meth.sig.returnType = none → v = none) (hlocks : meth.locks = false) (hq : Q v T.heap locs) (hk : cells ≤ k) (hn : slots ≤ n)
    (hs : ∀ fs, (∀ (f : JFrame) (acts : List Action), f.method = m → f.locked = none → f.entered = [] → (doReturn e (T.setTop f) acts v).1 = T.setFrames fs) → Steps p.tables e below S (T.setFrames fs)) : Goes p e below (EndQ s Q k n) S := by
  obtain ⟨fs, hr, hrun, hended, hW, hsame⟩ := X.leave (v := v) hv hlocks
  exact ⟨_, _, hs fs hr, hrun, hended, _, _, rfl, hq, ⟨_, rfl⟩, hW, hsame.mono hk hn⟩
/-- ireturn of a boolean, byte, char, short -/
theorem Goes.retN (X : Stand p l e R s m args below meth c T locs cells slots) (hx : p.tables.exec = Jvm.exec) (hlocks : meth.locks = false) {t : FieldType} (hret : meth.sig.returnType = some t) (ht : t = .boolean ∨ t = .byte ∨ t = .char ∨ t = .short) {pc : Nat} (hd : decode c.code pc = .ok (.ireturn, 1)) {Ls : Array Slot} {z : Int32} {rest : List Value}
    (hq : Q (some (.int (nar t z))) T.heap locs) (hk : cells ≤ k) (hn : slots ≤ n) : Goes p e below (EndQ s Q k n) (T.setTop (mkF m pc Ls (.int z :: rest))) :=
  Goes.out X (v := some (.int (nar t z))) (fun q => by rw [hret] at q; cases q) hlocks hq hk hn fun _ hr => Jvm.RoadKit.retN X hx (t := t) hret ht hd hr
/-- ireturn of an int, areturn, lreturn -/
theorem Goes.ret (X : Stand p l e R s m args below meth c T locs cells slots) (hx : p.tables.exec = Jvm.exec) (hlocks : meth.locks = false) {t : FieldType} (hret : meth.sig.returnType = some t) {w : Value} (hnw : narrow t w = w) {i : Instr}
    (hi : (i = .ireturn ∧ (t = .int ∨ t = .boolean ∨ t = .byte ∨ t = .char ∨ t = .short) ∧ ∃ z, w = .int z) ∨ (i = .lreturn ∧ t = .long ∧ ∃ z, w = .long z) ∨ (i = .dreturn ∧ t = .double ∧ ∃ z, w = .double z) ∨ (i = .freturn ∧ t = .float ∧ ∃ z, w = .float z) ∨ (i = .areturn ∧ t.isReference = true ∧ w.isRef = true))
    {pc : Nat} (hd : decode c.code pc = .ok (i, 1)) {Ls : Array Slot} {rest : List Value}
    (hq : Q (some w) T.heap locs) (hk : cells ≤ k) (hn : slots ≤ n) : Goes p e below (EndQ s Q k n) (T.setTop (mkF m pc Ls (w :: rest))) :=
  Goes.out X (v := some w) (fun q => by rw [hret] at q; cases q) hlocks hq hk hn fun _ hr => retOut X hx hret hnw hi hd hr
theorem Goes.retV (X : Stand p l e R s m args below meth c T locs cells slots) (hx : p.tables.exec = Jvm.exec) (hlocks : meth.locks = false) (hret : meth.sig.returnType = none) {pc : Nat} (hd : decode c.code pc = .ok (.return_, 1)) {Ls : Array Slot}
    (hq : Q none T.heap locs) (hk : cells ≤ k) (hn : slots ≤ n) : Goes p e below (EndQ s Q k n) (T.setTop (mkF m pc Ls [])) :=
  Goes.out X (v := none) (fun _ => rfl) hlocks hq hk hn fun _ hr => X.returnOut hx hret hd hr
/-- the end of a walk that may have interned -/
abbrev EndW (s : State) (Q : Option Value → Heap → List Loc → Prop) (k n : Nat) : Outcome → State → Prop := fun o U => ∃ v L, o = .returned v ∧ Q v U.heap L ∧ ReturnedEndW s o U L k n
theorem Goes.retNW {vm₁ : Vm} (X : Stand p l e R (s.setVm vm₁) m args below meth c T locs cells slots) {j : Nat} (hS : s.Since vm₁ j) (hj : j ≤ T.heap.size) (hx : p.tables.exec = Jvm.exec) (hlocks : meth.locks = false) {t : FieldType} (hret : meth.sig.returnType = some t) (ht : t = .boolean ∨ t = .byte ∨ t = .char ∨ t = .short) {pc : Nat} (hd : decode c.code pc = .ok (.ireturn, 1)) {Ls : Array Slot} {z : Int32} {rest : List Value}
    (hq : Q (some (.int (nar t z))) T.heap locs) (hk : cells ≤ k) (hn : slots ≤ n) : Goes p e below (EndW s Q k n) (T.setTop (mkF m pc Ls (.int z :: rest))) := by
  obtain ⟨fs, hr, hrun, hended, h1, h2, h3, h4⟩ := X.leaveW hS hj (v := some (.int (nar t z))) (fun q => by rw [hret] at q; cases q) hlocks
  exact ⟨_, _, Jvm.RoadKit.retN X hx (t := t) hret ht hd hr, hrun, hended, _, _, rfl, hq, h1, h2, h3, h4.mono hk hn⟩
/-- a static call by its contract -/
theorem Goes.callS {y : MethodName} {bytes : ByteArray} {maxL : Nat} {ret : Option FieldType} {rm : Room} {as' : Array Value} {Qc : Option Value → Heap → List Loc → Prop}
    (X : Stand p l e R s m args below meth c T locs cells slots) (hx : p.tables.exec = Jvm.exec) (hZ : Z.Warmed39 s.vm) {own : String} {index : Nat} (hown : s.vm.findClass own = some m.cls)
    (w1 : (Jvm.Cond.methodLink own index y).before a0 Z = true) (w2 : (Jvm.Cond.static y).before a0 Z = true) (w3 : (Jvm.Cond.initialized y.cls).before a0 Z = true) (w4 : (Jvm.Cond.code y bytes maxL ret).before a0 Z = true)
    (hy : y.cls ≠ "java/lang/invoke/MethodHandle" ∧ y.cls ≠ "java/lang/invoke/VarHandle") (eT : T.heap = h) (hM : Ctr l Z y bytes maxL ret [] rm as' h Qc)
    {pc : Nat} {Ls : Array Slot} {stk : List Value} (hsize : Ls.size = c.maxLocals) (argsL rest : List Value) {ps : List FieldType} {r : Option FieldType} (hpd : parseMethodDescriptor y.desc = some ⟨ps, r⟩) (hlen : argsL.length = ps.length)
    (hstk : stk = argsL.reverse ++ rest) (has : argsL.toArray = as') (hd : decode c.code pc = .ok (.invokestatic index, 3))
    (hf : rm.frames + 1 ≤ R.frames) (hl : (rest.map fun v => v.category).sum + (maxL + 11) + rm.locals ≤ R.locals) (hc : cells + rm.cells ≤ R.cells) (hs : slots + rm.slots ≤ R.slots)
    (g : ∀ (T' : State) (v : Option Value) (L : List Loc), Stand p l e R s m args below meth c T' (locs ++ L) (cells + rm.cells) (slots + rm.slots) → Qc v T'.heap L → Goes p e below P (T'.setTop (mkF m (pc + 3) Ls (v.toList ++ rest)))) :
    Goes p e below P (T.setTop (mkF m pc Ls stk)) := by
  subst has
  obtain ⟨v, _, ⟨T', L', k', n'⟩, -, X', ⟨Lc, hQ, l1, l2, l3⟩, st⟩ := Jvm.LawKit.callS X hx (y := y) hown (mvT hZ w1) (mvT hZ w2) (mvT hZ w3) (mvT hZ w4) hy (backOf (W := (rest.map fun v => v.category).sum) hM hZ w4 w3 hf hl) (g := mkF m pc Ls stk) rfl hsize (argsL := argsL) (rest := rest) (lenOf hpd hlen) hstk (by show 2 * 0 + _ ≤ _; omega) hd (fun _ _ => ⟨rfl, eT, hc, hs⟩)
  dsimp only [Pt.U, Pt.locs, Pt.cells, Pt.slots] at X' l1 l2 l3 st hQ
  subst l1 l2 l3
  exact Goes.pre st (g T' v Lc X' hQ)
/-- a constructor by its contract -/
theorem Goes.init {y : MethodName} {bytes : ByteArray} {maxL : Nat} {rm : Room} {as' : Array Value} {Qc : Option Value → Heap → List Loc → Prop}
    (X : Stand p l e R s m args below meth c T locs cells slots) (hx : p.tables.exec = Jvm.exec) (hZ : Z.Warmed39 s.vm) {own : String} {index : Nat} (hown : s.vm.findClass own = some m.cls) (hnm : y.name = "<init>")
    (w1 : (Jvm.Cond.methodLink own index y).before a0 Z = true) (w2 : (Jvm.Cond.instanceMethod y).before a0 Z = true) (w3 : (Jvm.Cond.initialized y.cls).before a0 Z = true) (w4 : (Jvm.Cond.code y bytes maxL none).before a0 Z = true)
    (hy : y.cls ≠ "java/lang/invoke/MethodHandle" ∧ y.cls ≠ "java/lang/invoke/VarHandle") (eT : T.heap = h) (hM : Ctr l Z y bytes maxL none [] rm as' h Qc)
    {pc : Nat} {Ls : Array Slot} {stk : List Value} (hsize : Ls.size = c.maxLocals) (a : Addr) (argsL rest : List Value) {ps : List FieldType} {r : Option FieldType} (hpd : parseMethodDescriptor y.desc = some ⟨ps, r⟩) (hlen : argsL.length = ps.length)
    (hstk : stk = argsL.reverse ++ .ref a :: rest) (has : (.ref a :: argsL).toArray = as') (hd : decode c.code pc = .ok (.invokespecial index, 3))
    (hf : rm.frames + 1 ≤ R.frames) (hl : (rest.map fun v => v.category).sum + (maxL + 11) + rm.locals ≤ R.locals) (hc : cells + rm.cells ≤ R.cells) (hs : slots + rm.slots ≤ R.slots)
    (g : ∀ (T' : State) (v : Option Value) (L : List Loc), Stand p l e R s m args below meth c T' (locs ++ L) (cells + rm.cells) (slots + rm.slots) → Qc v T'.heap L → Goes p e below P (T'.setTop (mkF m (pc + 3) Ls (v.toList ++ rest)))) :
    Goes p e below P (T.setTop (mkF m pc Ls stk)) := by
  subst has
  obtain ⟨v, _, ⟨T', L', k', n'⟩, -, X', ⟨Lc, hQ, l1, l2, l3⟩, st⟩ := X.specialBack hx (y := y) hnm hown (mvT hZ w1) (mvT hZ w2) (mvT hZ w4) hy (backOf (W := (rest.map fun v => v.category).sum) hM hZ w4 w3 hf hl) (g := mkF m pc Ls stk) rfl hsize (Steps.refl _) (a := a) (argsL := argsL) (rest := rest) (lenOf hpd hlen) hstk (by show 2 * 0 + _ ≤ _; omega) hd (fun _ _ => ⟨rfl, eT, hc, hs⟩)
  dsimp only [Pt.U, Pt.locs, Pt.cells, Pt.slots] at X' l1 l2 l3 st hQ
  subst l1 l2 l3
  exact Goes.via st (g T' v Lc X' hQ)
/-- an instance method by its contract -/
theorem Goes.callV {y : MethodName} {C : String} {bytes : ByteArray} {maxL : Nat} {ret : Option FieldType} {rm : Room} {as' : Array Value} {Qc : Option Value → Heap → List Loc → Prop}
    (X : Stand p l e R s m args below meth c T locs cells slots) (hx : p.tables.exec = Jvm.exec) (hZ : Z.Warmed39 s.vm) {own : String} {index : Nat} (hown : s.vm.findClass own = some m.cls)
    (w1 : (Jvm.Cond.methodLink own index y).before a0 Z = true) (w2 : (Jvm.Cond.declares y).before a0 Z = true) (w5 : (Jvm.Cond.selects C y y).before a0 Z = true) (w6 : (Jvm.Cond.instanceMethod y).before a0 Z = true) (w3 : (Jvm.Cond.initialized y.cls).before a0 Z = true) (w4 : (Jvm.Cond.code y bytes maxL ret).before a0 Z = true)
    (hy : y.cls ≠ "java/lang/invoke/MethodHandle" ∧ y.cls ≠ "java/lang/invoke/VarHandle") (eT : T.heap = h) {a : Addr} (E : Exa Z h a C) (hM : Ctr l Z y bytes maxL ret [] rm as' h Qc)
    {pc : Nat} {Ls : Array Slot} {stk : List Value} (hsize : Ls.size = c.maxLocals) (argsL rest : List Value) {ps : List FieldType} {r : Option FieldType} (hpd : parseMethodDescriptor y.desc = some ⟨ps, r⟩) (hlen : argsL.length = ps.length)
    (hstk : stk = argsL.reverse ++ .ref a :: rest) (has : (.ref a :: argsL).toArray = as') (hd : decode c.code pc = .ok (.invokevirtual index, 3))
    (hf : rm.frames + 1 ≤ R.frames) (hl : (rest.map fun v => v.category).sum + (maxL + 11) + rm.locals ≤ R.locals) (hc : cells + rm.cells ≤ R.cells) (hs : slots + rm.slots ≤ R.slots)
    (g : ∀ (T' : State) (v : Option Value) (L : List Loc), Stand p l e R s m args below meth c T' (locs ++ L) (cells + rm.cells) (slots + rm.slots) → Qc v T'.heap L → Goes p e below P (T'.setTop (mkF m (pc + 3) Ls (v.toList ++ rest)))) :
    Goes p e below P (T.setTop (mkF m pc Ls stk)) := by
  subst has
  obtain ⟨cB, kB, q1, -, q3⟩ := isOf hZ eT E
  obtain ⟨v, _, ⟨T', L', k', n'⟩, -, X', ⟨Lc, hQ, l1, l2, l3⟩, st⟩ := X.virtualBack hx (y := y) (z := y) hown (mvT hZ w1) (mvT hZ w2) (notFace_of_selects (args := #[]) (mvT hZ w5)) (mvT hZ w5) (mvT hZ w6) hy (backOf (W := (rest.map fun v => v.category).sum) hM hZ w4 w3 hf hl) q1 q3 (g := mkF m pc Ls stk) rfl hsize (Steps.refl _) (argsL := argsL) (rest := rest) (lenOf hpd hlen) hstk (by show 2 * 0 + _ ≤ _; omega) hd (fun _ _ => ⟨rfl, eT, hc, hs⟩)
  dsimp only [Pt.U, Pt.locs, Pt.cells, Pt.slots] at X' l1 l2 l3 st hQ
  subst l1 l2 l3
  exact Goes.via st (g T' v Lc X' hQ)
theorem Goes.iaload (X : Stand p l e R s m args below meth c T locs cells slots) (hx : p.tables.exec = Jvm.exec) (hZ : Z.Warmed39 s.vm) (eT : T.heap = h) {a : Addr} {kc : ClassId} {z : Int32} {vs : List Value} {dv : Value} (V : Arv Z h a kc .int z vs dv) {j : Int32} (hj : ¬ j < 0 ∧ j < z) {w : Value} (hw : vs.getD j.toNatClampNeg dv = w)
    {pc : Nat} {Ls : Array Slot} {rest : List Value} (hd : decode c.code pc = .ok (.iaload, 1)) (g : Goes p e below P (T.setTop (mkF m (pc + 1) Ls (w :: rest)))) : Goes p e below P (T.setTop (mkF m pc Ls (.int j :: .ref a :: rest))) := by
  obtain ⟨cl, A, -, S, -, H, -⟩ := V
  exact Goes.pre (fun t kk => X.iaload hx (by rw [eT]; exact A.1) (State.isArrayOf_alike hZ.alike A.2.1) A.2.2 (inb_of S hj) (H.at (inb_of S hj) hw) (g := mkF m pc Ls (.int j :: .ref a :: rest)) rfl rfl hd t kk) g
theorem Goes.baloadZ (X : Stand p l e R s m args below meth c T locs cells slots) (hx : p.tables.exec = Jvm.exec) (hZ : Z.Warmed39 s.vm) (eT : T.heap = h) {a : Addr} {kc : ClassId} {z : Int32} {vs : List Value} {dv : Value} (V : Arv Z h a kc .boolean z vs dv) {j : Int32} (hj : ¬ j < 0 ∧ j < z) {w : Value} (hw : vs.getD j.toNatClampNeg dv = w)
    {pc : Nat} {Ls : Array Slot} {rest : List Value} (hd : decode c.code pc = .ok (.baload, 1)) (g : Goes p e below P (T.setTop (mkF m (pc + 1) Ls (w :: rest)))) : Goes p e below P (T.setTop (mkF m pc Ls (.int j :: .ref a :: rest))) := by
  obtain ⟨cl, A, -, S, -, H, -⟩ := V
  exact Goes.pre (fun t kk => X.baloadBooleans hx (by rw [eT]; exact A.1) (State.isArrayOf_alike hZ.alike A.2.1) A.2.2 (inb_of S hj) (H.at (inb_of S hj) hw) (g := mkF m pc Ls (.int j :: .ref a :: rest)) rfl rfl hd t kk) g
theorem Goes.baloadB (X : Stand p l e R s m args below meth c T locs cells slots) (hx : p.tables.exec = Jvm.exec) (hZ : Z.Warmed39 s.vm) (eT : T.heap = h) {a : Addr} {kc : ClassId} {z : Int32} {vs : List Value} {dv : Value} (V : Arv Z h a kc .byte z vs dv) {j : Int32} (hj : ¬ j < 0 ∧ j < z) {w : Value} (hw : vs.getD j.toNatClampNeg dv = w)
    {pc : Nat} {Ls : Array Slot} {rest : List Value} (hd : decode c.code pc = .ok (.baload, 1)) (g : Goes p e below P (T.setTop (mkF m (pc + 1) Ls (w :: rest)))) : Goes p e below P (T.setTop (mkF m pc Ls (.int j :: .ref a :: rest))) := by
  obtain ⟨cl, A, -, S, -, H, -⟩ := V
  exact Goes.pre (fun t kk => X.baloadBytes hx (by rw [eT]; exact A.1) (State.isArrayOf_alike hZ.alike A.2.1) A.2.2 (inb_of S hj) (H.at (inb_of S hj) hw) (g := mkF m pc Ls (.int j :: .ref a :: rest)) rfl rfl hd t kk) g
theorem Goes.aaload (X : Stand p l e R s m args below meth c T locs cells slots) (hx : p.tables.exec = Jvm.exec) (hZ : Z.Warmed39 s.vm) (eT : T.heap = h) {a : Addr} {kc : ClassId} {ty : FieldType} (hty : ty.isReference = true) {z : Int32} {vs : List Value} {dv : Value} (V : Arv Z h a kc ty z vs dv) {j : Int32} (hj : ¬ j < 0 ∧ j < z) {w : Value} (hw : vs.getD j.toNatClampNeg dv = w)
    {pc : Nat} {Ls : Array Slot} {rest : List Value} (hd : decode c.code pc = .ok (.aaload, 1)) (g : Goes p e below P (T.setTop (mkF m (pc + 1) Ls (w :: rest)))) : Goes p e below P (T.setTop (mkF m pc Ls (.int j :: .ref a :: rest))) := by
  obtain ⟨cl, A, -, S, -, H, -⟩ := V
  exact Goes.pre (fun t kk => X.aaload hx (by rw [eT]; exact A.1) (State.isArrayOf_alike hZ.alike A.2.1) hty A.2.2 (inb_of S hj) (H.at (inb_of S hj) hw) (g := mkF m pc Ls (.int j :: .ref a :: rest)) rfl rfl hd t kk) g
theorem Goes.alen (X : Stand p l e R s m args below meth c T locs cells slots) (hx : p.tables.exec = Jvm.exec) (hZ : Z.Warmed39 s.vm) (eT : T.heap = h) {a : Addr} {kc : ClassId} {ty : FieldType} {z : Int32} {vs : List Value} {dv : Value} (V : Arv Z h a kc ty z vs dv)
    {pc : Nat} {Ls : Array Slot} {rest : List Value} (hd : decode c.code pc = .ok (.arraylength, 1)) (g : Goes p e below P (T.setTop (mkF m (pc + 1) Ls (.int z :: rest)))) : Goes p e below P (T.setTop (mkF m pc Ls (.ref a :: rest))) := by
  obtain ⟨cl, A, -, S, M, -, -⟩ := V
  rw [← len_of S M] at g
  exact Goes.pre (fun t kk => X.arraylength hx (cell := cl) (by rw [eT]; exact A.1) (State.isArrayOf_alike hZ.alike A.2.1) (g := mkF m pc Ls (.ref a :: rest)) rfl rfl hd t kk) g
end Own
theorem own_ltI {a b : Int32} : a < b ↔ a.toInt < b.toInt := Int32.lt_iff_toInt_lt
theorem own_eqI {a b : Int32} : a = b ↔ a.toInt = b.toInt := Int32.toInt_inj.symm
theorem own_ints (xs : List Int32) (i : Nat) : (xs.map Value.int).getD i (.int 0) = .int (xs.getD i 0) := by
  induction xs generalizing i with
  | nil => rfl
  | cons x xs ih => cases i with
    | zero => rfl
    | succ i => exact ih i
theorem own_mask31 (x : Int32) : ¬ (x &&& 2147483647) < 0 := by
  rw [own_ltI, Jvm.Kit.i32_mask x 2147483647 (k := 31) (by decide) (by decide), show (0 : Int32).toInt = 0 from rfl]
  omega
theorem own_rem (x y : Int32) (hx : ¬ x < 0) (hy : 0 < y) : ¬ x % y < 0 ∧ x % y < y := by
  rw [own_ltI, show (0 : Int32).toInt = 0 from rfl] at hx hy
  have e := Jvm.Kit.i32_rem_nonneg (x := x) (y := y) (by omega)
  rw [own_ltI, own_ltI, e, show (0 : Int32).toInt = 0 from rfl]
  have a := Int.emod_nonneg x.toInt (show y.toInt ≠ 0 by omega)
  have b := Int.emod_lt_of_pos x.toInt hy
  omega
theorem own_len {Z : State} {args : Array Value} {t : Term} {a : Addr} {cl : Cell} {ty : FieldType} {z : Int32} (ev : t.eval args Z none [] Z = some (.ref a)) (A : Arr Z Z.heap a cl ty) (h : (Term.length t).eval args Z none [] Z = some (.int z)) : cl.slots.size < 2 ^ 31 ∧ cl.slots.size.toInt32 = z := by
  have hA : Z.arrayAt? a = some cl := Arr.fin (State.Warmed39.refl Z).alike A
  simp [Term.eval, ev, hA] at h
  exact h
theorem own_eqvR {Z : State} {args : Array Value} {X F : Term} {idx : List Nat} {x : Addr} (hF : F.eval args Z none idx Z = some (.ref x)) (h : (Cond.eq X F).value args Z none Z idx = some true) : X.eval args Z none idx Z = some (.ref x) := by
  obtain ⟨u, y, hu, hy, k1, k2⟩ := cmp_v (Or.inl h)
  cases hF.symm.trans hy
  have hr : u.isRef = true := k2.2
  have q := gotT (eq_R hu hy hr rfl) h
  rw [hu, q]
theorem own_StaKeep {Z : State} {h h' : Heap} {C n d : String} {v : Value} (F : Sta Z h C n d v) (K : Keep h h' []) : Sta Z h' C n d v := by
  obtain ⟨cf, i, k, f, st, cell, h1, h2, h3, h4, h5, r⟩ := F
  exact ⟨cf, i, k, f, st, cell, h1, h2, h3, h4, K.2.1 _ _ h5 nin0, r⟩
theorem own_neLt {a b n : Nat} (h : a < n) (h2 : n ≤ b) : a ≠ b := Nat.ne_of_lt (Nat.lt_of_lt_of_le h h2)
def own_ic (c : Int32) : Prop := c = 9 ∨ c = 10 ∨ c = 13 ∨ (¬ c < 32 ∧ ¬ 55295 < c) ∨ (¬ c < 57344 ∧ ¬ 65533 < c) ∨ (¬ c < 65536 ∧ ¬ 1114111 < c)
def own_fb (c : Int32) : Prop := c < 9 ∨ c = 11 ∨ c = 12 ∨ (¬ c < 14 ∧ ¬ 31 < c) ∨ (¬ c < 55296 ∧ ¬ 57343 < c) ∨ c = 65534 ∨ c = 65535 ∨ 1114111 < c
theorem own_law (c : Int32) : own_ic c ↔ ¬ own_fb c := by
  unfold own_ic own_fb
  simp only [own_ltI, own_eqI]
  generalize c.toInt = z
  rw [show (9 : Int32).toInt = 9 from rfl, show (10 : Int32).toInt = 10 from rfl, show (13 : Int32).toInt = 13 from rfl, show (32 : Int32).toInt = 32 from rfl, show (55295 : Int32).toInt = 55295 from rfl, show (57344 : Int32).toInt = 57344 from rfl, show (65533 : Int32).toInt = 65533 from rfl, show (65536 : Int32).toInt = 65536 from rfl, show (1114111 : Int32).toInt = 1114111 from rfl, show (11 : Int32).toInt = 11 from rfl, show (12 : Int32).toInt = 12 from rfl, show (14 : Int32).toInt = 14 from rfl, show (31 : Int32).toInt = 31 from rfl, show (55296 : Int32).toInt = 55296 from rfl, show (57343 : Int32).toInt = 57343 from rfl, show (65534 : Int32).toInt = 65534 from rfl, show (65535 : Int32).toInt = 65535 from rfl]
  omega

theorem dic_0 : decode prog_181_method_2_code 0 = .ok (.iload_n 0, 1) := by decide +kernel
theorem dic_1 : decode prog_181_method_2_code 1 = .ok (.bipush 9, 2) := by decide +kernel
theorem dic_3 : decode prog_181_method_2_code 3 = .ok (.if_icmp .eq 51, 3) := by decide +kernel
theorem dic_6 : decode prog_181_method_2_code 6 = .ok (.iload_n 0, 1) := by decide +kernel
theorem dic_7 : decode prog_181_method_2_code 7 = .ok (.bipush 10, 2) := by decide +kernel
theorem dic_9 : decode prog_181_method_2_code 9 = .ok (.if_icmp .eq 45, 3) := by decide +kernel
theorem dic_12 : decode prog_181_method_2_code 12 = .ok (.iload_n 0, 1) := by decide +kernel
theorem dic_13 : decode prog_181_method_2_code 13 = .ok (.bipush 13, 2) := by decide +kernel
theorem dic_15 : decode prog_181_method_2_code 15 = .ok (.if_icmp .eq 39, 3) := by decide +kernel
theorem dic_18 : decode prog_181_method_2_code 18 = .ok (.iload_n 0, 1) := by decide +kernel
theorem dic_19 : decode prog_181_method_2_code 19 = .ok (.bipush 32, 2) := by decide +kernel
theorem dic_21 : decode prog_181_method_2_code 21 = .ok (.if_icmp .lt 9, 3) := by decide +kernel
theorem dic_24 : decode prog_181_method_2_code 24 = .ok (.iload_n 0, 1) := by decide +kernel
theorem dic_25 : decode prog_181_method_2_code 25 = .ok (.ldc 7, 2) := by decide +kernel
theorem dic_27 : decode prog_181_method_2_code 27 = .ok (.if_icmp .le 27, 3) := by decide +kernel
theorem dic_30 : decode prog_181_method_2_code 30 = .ok (.iload_n 0, 1) := by decide +kernel
theorem dic_31 : decode prog_181_method_2_code 31 = .ok (.ldc 8, 2) := by decide +kernel
theorem dic_33 : decode prog_181_method_2_code 33 = .ok (.if_icmp .lt 9, 3) := by decide +kernel
theorem dic_36 : decode prog_181_method_2_code 36 = .ok (.iload_n 0, 1) := by decide +kernel
theorem dic_37 : decode prog_181_method_2_code 37 = .ok (.ldc 9, 2) := by decide +kernel
theorem dic_39 : decode prog_181_method_2_code 39 = .ok (.if_icmp .le 15, 3) := by decide +kernel
theorem dic_42 : decode prog_181_method_2_code 42 = .ok (.iload_n 0, 1) := by decide +kernel
theorem dic_43 : decode prog_181_method_2_code 43 = .ok (.ldc 10, 2) := by decide +kernel
theorem dic_45 : decode prog_181_method_2_code 45 = .ok (.if_icmp .lt 13, 3) := by decide +kernel
theorem dic_48 : decode prog_181_method_2_code 48 = .ok (.iload_n 0, 1) := by decide +kernel
theorem dic_49 : decode prog_181_method_2_code 49 = .ok (.ldc 11, 2) := by decide +kernel
theorem dic_51 : decode prog_181_method_2_code 51 = .ok (.if_icmp .gt 7, 3) := by decide +kernel
theorem dic_54 : decode prog_181_method_2_code 54 = .ok (.iconst 1, 1) := by decide +kernel
theorem dic_55 : decode prog_181_method_2_code 55 = .ok (.goto 4, 3) := by decide +kernel
theorem dic_58 : decode prog_181_method_2_code 58 = .ok (.iconst 0, 1) := by decide +kernel
theorem dic_59 : decode prog_181_method_2_code 59 = .ok (.ireturn, 1) := by decide +kernel
theorem pd_ic : parseMethodDescriptor "(I)Z" = some ⟨[.int], some .boolean⟩ := by decide +kernel
theorem pn_ic : plainName "com/example/notarix/notarix/xml/Xml" = true := by first | (simp [plainName, overriddenIn]; done) | decide +kernel
def Q_ic (c : Int32) (h0 : Heap) (n0 : Nat) (v : Option Value) (h : Heap) (L : List Loc) : Prop := ((v = some (.int 1) ∧ own_ic c) ∨ (v = some (.int 0) ∧ ¬ own_ic c)) ∧ Fr n0 L ∧ h = h0
theorem ef_ic (m : MethodId) (c0 : Int32) : entryFrame m #[(.int c0)] 1 = mkF m 0 #[.val (.int c0)] [] := by first | (simp [entryFrame, mkF, argsToLocals, Value.category]; done) | rfl
set_option maxRecDepth 65536 in
set_option maxHeartbeats 40000000 in
theorem rm_ic (l : Launch) (Z : State) (a0 : Array Value) (hw : ∀ d ∈ tables_1, d.before a0 Z = true) (ws : List Jvm.Cond) (c0 : Int32)  (h0 : Heap) (n0 : Nat) (Z0 : n0 ≤ h0.size)  :
    Ctr l Z (⟨"com/example/notarix/notarix/xml/Xml", "isCharacter", "(I)Z"⟩ : MethodName) prog_181_method_2_code 1 (some .boolean) ws ({ frames := 0, cells := 0, slots := 0, locals := 0 } : Room) #[(.int c0)] h0 (Q_ic c0 h0 n0) := by
  refine MetFree.of_bodySF (plainFor_of_name pn_ic) hisR ?_
  intro p e s m args below meth c s₁ Bd hml0 hP hK
  obtain ⟨rfl, hZ, hh⟩ := hP
  have hx := Bd.exec
  have hby := Bd.bytes
  have hlk : meth.locks = false := Bd.notSynchronized
  have hml : c.maxLocals = 1 := hml0
  have hown : s.vm.findClass "com/example/notarix/notarix/xml/Xml" = some m.cls := findClass_of_methodNamed Bd.named
  have hnm := (name_of_methodNamed Bd.named Bd.method).1
  have X0 : Stand p l e ({ frames := 0, cells := 0, slots := 0, locals := 0 } : Room) s m #[(.int c0)] below meth c s₁ [] 0 0 := Stand.of_body Bd
  have e0 : s₁.heap = h0 := by rw [← hh, Bd.state]; rfl
  have N0 := Fr.nil n0
  show Goes p e below (EndQ s (Q_ic c0 h0 n0) ({ frames := 0, cells := 0, slots := 0, locals := 0 } : Room).cells ({ frames := 0, cells := 0, slots := 0, locals := 0 } : Room).slots) (s₁.setTop (entryFrame m #[(.int c0)] 1))
  refine Goes.pre (S' := (s₁.setTop (mkF m 0 #[.val (.int c0)] []))) (fun t k => castTop (ef_ic m c0) k) ?_
  refine Goes.pre (S' := (s₁.setTop (mkF m 1 #[.val (.int c0)] [(.int c0)]))) (fun _ k => XS.iloadN X0.here hx rfl (hb hby dic_0) rfl k) ?_
  refine Goes.pre (S' := (s₁.setTop (mkF m 3 #[.val (.int c0)] [(.int (9 : Int32)), (.int c0)]))) (fun _ k => XS.bipush X0.here hx rfl (hb hby dic_1) k) ?_
  by_cases c3 : c0 = (9 : Int32)
  · skip
    refine Goes.pre (S' := (s₁.setTop (mkF m 54 #[.val (.int c0)] []))) (fun _ k => XS.icmpYes X0.here hx rfl (pc0 := 3) (pc' := 54) rfl (hb hby dic_3) rfl (XT.ii_eq_t c3) (by decide) (by decide) k) ?_
    refine Goes.pre (S' := (s₁.setTop (mkF m 55 #[.val (.int c0)] [(.int (1 : Int32))]))) (fun _ k => XS.iconst X0.here hx rfl (hb hby dic_54) k) ?_
    refine Goes.pre (S' := (s₁.setTop (mkF m 59 #[.val (.int c0)] [(.int (1 : Int32))]))) (fun _ k => XS.goto X0.here hx rfl (pc0 := 55) (pc' := 59) rfl (hb hby dic_55) (by decide) (by decide) k) ?_
    have hf : own_ic c0 := by simp [own_ic, c3]
    exact Goes.retN X0 hx hlk (t := .boolean) Bd.returns (by simp) (hb hby dic_59) ⟨Or.inl ⟨rfl, hf⟩, N0, e0⟩ (by first | decide | exact Nat.le_of_ble_eq_true rfl | assumption | (simp [Value.category]; done)) (by first | decide | exact Nat.le_of_ble_eq_true rfl | assumption | (simp [Value.category]; done))
  · skip
    refine Goes.pre (S' := (s₁.setTop (mkF m 6 #[.val (.int c0)] []))) (fun _ k => XS.icmpNo X0.here hx rfl (hb hby dic_3) rfl (XT.ii_eq_f c3) k) ?_
    refine Goes.pre (S' := (s₁.setTop (mkF m 7 #[.val (.int c0)] [(.int c0)]))) (fun _ k => XS.iloadN X0.here hx rfl (hb hby dic_6) rfl k) ?_
    refine Goes.pre (S' := (s₁.setTop (mkF m 9 #[.val (.int c0)] [(.int (10 : Int32)), (.int c0)]))) (fun _ k => XS.bipush X0.here hx rfl (hb hby dic_7) k) ?_
    by_cases c9 : c0 = (10 : Int32)
    · skip
      refine Goes.pre (S' := (s₁.setTop (mkF m 54 #[.val (.int c0)] []))) (fun _ k => XS.icmpYes X0.here hx rfl (pc0 := 9) (pc' := 54) rfl (hb hby dic_9) rfl (XT.ii_eq_t c9) (by decide) (by decide) k) ?_
      refine Goes.pre (S' := (s₁.setTop (mkF m 55 #[.val (.int c0)] [(.int (1 : Int32))]))) (fun _ k => XS.iconst X0.here hx rfl (hb hby dic_54) k) ?_
      refine Goes.pre (S' := (s₁.setTop (mkF m 59 #[.val (.int c0)] [(.int (1 : Int32))]))) (fun _ k => XS.goto X0.here hx rfl (pc0 := 55) (pc' := 59) rfl (hb hby dic_55) (by decide) (by decide) k) ?_
      have hf : own_ic c0 := by simp [own_ic, c3, c9]
      exact Goes.retN X0 hx hlk (t := .boolean) Bd.returns (by simp) (hb hby dic_59) ⟨Or.inl ⟨rfl, hf⟩, N0, e0⟩ (by first | decide | exact Nat.le_of_ble_eq_true rfl | assumption | (simp [Value.category]; done)) (by first | decide | exact Nat.le_of_ble_eq_true rfl | assumption | (simp [Value.category]; done))
    · skip
      refine Goes.pre (S' := (s₁.setTop (mkF m 12 #[.val (.int c0)] []))) (fun _ k => XS.icmpNo X0.here hx rfl (hb hby dic_9) rfl (XT.ii_eq_f c9) k) ?_
      refine Goes.pre (S' := (s₁.setTop (mkF m 13 #[.val (.int c0)] [(.int c0)]))) (fun _ k => XS.iloadN X0.here hx rfl (hb hby dic_12) rfl k) ?_
      refine Goes.pre (S' := (s₁.setTop (mkF m 15 #[.val (.int c0)] [(.int (13 : Int32)), (.int c0)]))) (fun _ k => XS.bipush X0.here hx rfl (hb hby dic_13) k) ?_
      by_cases c15 : c0 = (13 : Int32)
      · skip
        refine Goes.pre (S' := (s₁.setTop (mkF m 54 #[.val (.int c0)] []))) (fun _ k => XS.icmpYes X0.here hx rfl (pc0 := 15) (pc' := 54) rfl (hb hby dic_15) rfl (XT.ii_eq_t c15) (by decide) (by decide) k) ?_
        refine Goes.pre (S' := (s₁.setTop (mkF m 55 #[.val (.int c0)] [(.int (1 : Int32))]))) (fun _ k => XS.iconst X0.here hx rfl (hb hby dic_54) k) ?_
        refine Goes.pre (S' := (s₁.setTop (mkF m 59 #[.val (.int c0)] [(.int (1 : Int32))]))) (fun _ k => XS.goto X0.here hx rfl (pc0 := 55) (pc' := 59) rfl (hb hby dic_55) (by decide) (by decide) k) ?_
        have hf : own_ic c0 := by simp [own_ic, c3, c9, c15]
        exact Goes.retN X0 hx hlk (t := .boolean) Bd.returns (by simp) (hb hby dic_59) ⟨Or.inl ⟨rfl, hf⟩, N0, e0⟩ (by first | decide | exact Nat.le_of_ble_eq_true rfl | assumption | (simp [Value.category]; done)) (by first | decide | exact Nat.le_of_ble_eq_true rfl | assumption | (simp [Value.category]; done))
      · skip
        refine Goes.pre (S' := (s₁.setTop (mkF m 18 #[.val (.int c0)] []))) (fun _ k => XS.icmpNo X0.here hx rfl (hb hby dic_15) rfl (XT.ii_eq_f c15) k) ?_
        refine Goes.pre (S' := (s₁.setTop (mkF m 19 #[.val (.int c0)] [(.int c0)]))) (fun _ k => XS.iloadN X0.here hx rfl (hb hby dic_18) rfl k) ?_
        refine Goes.pre (S' := (s₁.setTop (mkF m 21 #[.val (.int c0)] [(.int (32 : Int32)), (.int c0)]))) (fun _ k => XS.bipush X0.here hx rfl (hb hby dic_19) k) ?_
        by_cases c21 : c0 < (32 : Int32)
        · skip
          refine Goes.pre (S' := (s₁.setTop (mkF m 30 #[.val (.int c0)] []))) (fun _ k => XS.icmpYes X0.here hx rfl (pc0 := 21) (pc' := 30) rfl (hb hby dic_21) rfl (XT.ii_lt_t c21) (by decide) (by decide) k) ?_
          refine Goes.pre (S' := (s₁.setTop (mkF m 31 #[.val (.int c0)] [(.int c0)]))) (fun _ k => XS.iloadN X0.here hx rfl (hb hby dic_30) rfl k) ?_
          refine Goes.pre (S' := (s₁.setTop (mkF m 33 #[.val (.int c0)] [(.int (57344 : Int32)), (.int c0)]))) (fun _ k => Jvm.Stand.ldcI X0 hx hown (mvT hZ (hw _ (List.mem_of_getElem? (i := 11) rfl))) rfl (hb hby dic_31) k) ?_
          by_cases c33 : c0 < (57344 : Int32)
          · skip
            refine Goes.pre (S' := (s₁.setTop (mkF m 42 #[.val (.int c0)] []))) (fun _ k => XS.icmpYes X0.here hx rfl (pc0 := 33) (pc' := 42) rfl (hb hby dic_33) rfl (XT.ii_lt_t c33) (by decide) (by decide) k) ?_
            refine Goes.pre (S' := (s₁.setTop (mkF m 43 #[.val (.int c0)] [(.int c0)]))) (fun _ k => XS.iloadN X0.here hx rfl (hb hby dic_42) rfl k) ?_
            refine Goes.pre (S' := (s₁.setTop (mkF m 45 #[.val (.int c0)] [(.int (65536 : Int32)), (.int c0)]))) (fun _ k => Jvm.Stand.ldcI X0 hx hown (mvT hZ (hw _ (List.mem_of_getElem? (i := 12) rfl))) rfl (hb hby dic_43) k) ?_
            by_cases c45 : c0 < (65536 : Int32)
            · skip
              refine Goes.pre (S' := (s₁.setTop (mkF m 58 #[.val (.int c0)] []))) (fun _ k => XS.icmpYes X0.here hx rfl (pc0 := 45) (pc' := 58) rfl (hb hby dic_45) rfl (XT.ii_lt_t c45) (by decide) (by decide) k) ?_
              refine Goes.pre (S' := (s₁.setTop (mkF m 59 #[.val (.int c0)] [(.int (0 : Int32))]))) (fun _ k => XS.iconst X0.here hx rfl (hb hby dic_58) k) ?_
              have hf : ¬ own_ic c0 := by simp [own_ic, c3, c9, c15, c21, c33, c45]
              exact Goes.retN X0 hx hlk (t := .boolean) Bd.returns (by simp) (hb hby dic_59) ⟨Or.inr ⟨rfl, hf⟩, N0, e0⟩ (by first | decide | exact Nat.le_of_ble_eq_true rfl | assumption | (simp [Value.category]; done)) (by first | decide | exact Nat.le_of_ble_eq_true rfl | assumption | (simp [Value.category]; done))
            · skip
              refine Goes.pre (S' := (s₁.setTop (mkF m 48 #[.val (.int c0)] []))) (fun _ k => XS.icmpNo X0.here hx rfl (hb hby dic_45) rfl (XT.ii_lt_f c45) k) ?_
              refine Goes.pre (S' := (s₁.setTop (mkF m 49 #[.val (.int c0)] [(.int c0)]))) (fun _ k => XS.iloadN X0.here hx rfl (hb hby dic_48) rfl k) ?_
              refine Goes.pre (S' := (s₁.setTop (mkF m 51 #[.val (.int c0)] [(.int (1114111 : Int32)), (.int c0)]))) (fun _ k => Jvm.Stand.ldcI X0 hx hown (mvT hZ (hw _ (List.mem_of_getElem? (i := 23) rfl))) rfl (hb hby dic_49) k) ?_
              by_cases c51 : (1114111 : Int32) < c0
              · skip
                refine Goes.pre (S' := (s₁.setTop (mkF m 58 #[.val (.int c0)] []))) (fun _ k => XS.icmpYes X0.here hx rfl (pc0 := 51) (pc' := 58) rfl (hb hby dic_51) rfl (XT.ii_gt_t c51) (by decide) (by decide) k) ?_
                refine Goes.pre (S' := (s₁.setTop (mkF m 59 #[.val (.int c0)] [(.int (0 : Int32))]))) (fun _ k => XS.iconst X0.here hx rfl (hb hby dic_58) k) ?_
                have hf : ¬ own_ic c0 := by simp [own_ic, c3, c9, c15, c21, c33, c45, c51]
                exact Goes.retN X0 hx hlk (t := .boolean) Bd.returns (by simp) (hb hby dic_59) ⟨Or.inr ⟨rfl, hf⟩, N0, e0⟩ (by first | decide | exact Nat.le_of_ble_eq_true rfl | assumption | (simp [Value.category]; done)) (by first | decide | exact Nat.le_of_ble_eq_true rfl | assumption | (simp [Value.category]; done))
              · skip
                refine Goes.pre (S' := (s₁.setTop (mkF m 54 #[.val (.int c0)] []))) (fun _ k => XS.icmpNo X0.here hx rfl (hb hby dic_51) rfl (XT.ii_gt_f c51) k) ?_
                refine Goes.pre (S' := (s₁.setTop (mkF m 55 #[.val (.int c0)] [(.int (1 : Int32))]))) (fun _ k => XS.iconst X0.here hx rfl (hb hby dic_54) k) ?_
                refine Goes.pre (S' := (s₁.setTop (mkF m 59 #[.val (.int c0)] [(.int (1 : Int32))]))) (fun _ k => XS.goto X0.here hx rfl (pc0 := 55) (pc' := 59) rfl (hb hby dic_55) (by decide) (by decide) k) ?_
                have hf : own_ic c0 := by simp [own_ic, c3, c9, c15, c21, c33, c45, c51]
                exact Goes.retN X0 hx hlk (t := .boolean) Bd.returns (by simp) (hb hby dic_59) ⟨Or.inl ⟨rfl, hf⟩, N0, e0⟩ (by first | decide | exact Nat.le_of_ble_eq_true rfl | assumption | (simp [Value.category]; done)) (by first | decide | exact Nat.le_of_ble_eq_true rfl | assumption | (simp [Value.category]; done))
          · skip
            refine Goes.pre (S' := (s₁.setTop (mkF m 36 #[.val (.int c0)] []))) (fun _ k => XS.icmpNo X0.here hx rfl (hb hby dic_33) rfl (XT.ii_lt_f c33) k) ?_
            refine Goes.pre (S' := (s₁.setTop (mkF m 37 #[.val (.int c0)] [(.int c0)]))) (fun _ k => XS.iloadN X0.here hx rfl (hb hby dic_36) rfl k) ?_
            refine Goes.pre (S' := (s₁.setTop (mkF m 39 #[.val (.int c0)] [(.int (65533 : Int32)), (.int c0)]))) (fun _ k => Jvm.Stand.ldcI X0 hx hown (mvT hZ (hw _ (List.mem_of_getElem? (i := 22) rfl))) rfl (hb hby dic_37) k) ?_
            by_cases c39 : (65533 : Int32) < c0
            · skip
              refine Goes.pre (S' := (s₁.setTop (mkF m 42 #[.val (.int c0)] []))) (fun _ k => XS.icmpNo X0.here hx rfl (hb hby dic_39) rfl (XT.ii_le_f c39) k) ?_
              refine Goes.pre (S' := (s₁.setTop (mkF m 43 #[.val (.int c0)] [(.int c0)]))) (fun _ k => XS.iloadN X0.here hx rfl (hb hby dic_42) rfl k) ?_
              refine Goes.pre (S' := (s₁.setTop (mkF m 45 #[.val (.int c0)] [(.int (65536 : Int32)), (.int c0)]))) (fun _ k => Jvm.Stand.ldcI X0 hx hown (mvT hZ (hw _ (List.mem_of_getElem? (i := 12) rfl))) rfl (hb hby dic_43) k) ?_
              by_cases c45 : c0 < (65536 : Int32)
              · skip
                refine Goes.pre (S' := (s₁.setTop (mkF m 58 #[.val (.int c0)] []))) (fun _ k => XS.icmpYes X0.here hx rfl (pc0 := 45) (pc' := 58) rfl (hb hby dic_45) rfl (XT.ii_lt_t c45) (by decide) (by decide) k) ?_
                refine Goes.pre (S' := (s₁.setTop (mkF m 59 #[.val (.int c0)] [(.int (0 : Int32))]))) (fun _ k => XS.iconst X0.here hx rfl (hb hby dic_58) k) ?_
                have hf : ¬ own_ic c0 := by simp [own_ic, c3, c9, c15, c21, c33, c39, c45]
                exact Goes.retN X0 hx hlk (t := .boolean) Bd.returns (by simp) (hb hby dic_59) ⟨Or.inr ⟨rfl, hf⟩, N0, e0⟩ (by first | decide | exact Nat.le_of_ble_eq_true rfl | assumption | (simp [Value.category]; done)) (by first | decide | exact Nat.le_of_ble_eq_true rfl | assumption | (simp [Value.category]; done))
              · skip
                refine Goes.pre (S' := (s₁.setTop (mkF m 48 #[.val (.int c0)] []))) (fun _ k => XS.icmpNo X0.here hx rfl (hb hby dic_45) rfl (XT.ii_lt_f c45) k) ?_
                refine Goes.pre (S' := (s₁.setTop (mkF m 49 #[.val (.int c0)] [(.int c0)]))) (fun _ k => XS.iloadN X0.here hx rfl (hb hby dic_48) rfl k) ?_
                refine Goes.pre (S' := (s₁.setTop (mkF m 51 #[.val (.int c0)] [(.int (1114111 : Int32)), (.int c0)]))) (fun _ k => Jvm.Stand.ldcI X0 hx hown (mvT hZ (hw _ (List.mem_of_getElem? (i := 23) rfl))) rfl (hb hby dic_49) k) ?_
                by_cases c51 : (1114111 : Int32) < c0
                · skip
                  refine Goes.pre (S' := (s₁.setTop (mkF m 58 #[.val (.int c0)] []))) (fun _ k => XS.icmpYes X0.here hx rfl (pc0 := 51) (pc' := 58) rfl (hb hby dic_51) rfl (XT.ii_gt_t c51) (by decide) (by decide) k) ?_
                  refine Goes.pre (S' := (s₁.setTop (mkF m 59 #[.val (.int c0)] [(.int (0 : Int32))]))) (fun _ k => XS.iconst X0.here hx rfl (hb hby dic_58) k) ?_
                  have hf : ¬ own_ic c0 := by simp [own_ic, c3, c9, c15, c21, c33, c39, c45, c51]
                  exact Goes.retN X0 hx hlk (t := .boolean) Bd.returns (by simp) (hb hby dic_59) ⟨Or.inr ⟨rfl, hf⟩, N0, e0⟩ (by first | decide | exact Nat.le_of_ble_eq_true rfl | assumption | (simp [Value.category]; done)) (by first | decide | exact Nat.le_of_ble_eq_true rfl | assumption | (simp [Value.category]; done))
                · skip
                  refine Goes.pre (S' := (s₁.setTop (mkF m 54 #[.val (.int c0)] []))) (fun _ k => XS.icmpNo X0.here hx rfl (hb hby dic_51) rfl (XT.ii_gt_f c51) k) ?_
                  refine Goes.pre (S' := (s₁.setTop (mkF m 55 #[.val (.int c0)] [(.int (1 : Int32))]))) (fun _ k => XS.iconst X0.here hx rfl (hb hby dic_54) k) ?_
                  refine Goes.pre (S' := (s₁.setTop (mkF m 59 #[.val (.int c0)] [(.int (1 : Int32))]))) (fun _ k => XS.goto X0.here hx rfl (pc0 := 55) (pc' := 59) rfl (hb hby dic_55) (by decide) (by decide) k) ?_
                  have hf : own_ic c0 := by simp [own_ic, c3, c9, c15, c21, c33, c39, c45, c51]
                  exact Goes.retN X0 hx hlk (t := .boolean) Bd.returns (by simp) (hb hby dic_59) ⟨Or.inl ⟨rfl, hf⟩, N0, e0⟩ (by first | decide | exact Nat.le_of_ble_eq_true rfl | assumption | (simp [Value.category]; done)) (by first | decide | exact Nat.le_of_ble_eq_true rfl | assumption | (simp [Value.category]; done))
            · skip
              refine Goes.pre (S' := (s₁.setTop (mkF m 54 #[.val (.int c0)] []))) (fun _ k => XS.icmpYes X0.here hx rfl (pc0 := 39) (pc' := 54) rfl (hb hby dic_39) rfl (XT.ii_le_t c39) (by decide) (by decide) k) ?_
              refine Goes.pre (S' := (s₁.setTop (mkF m 55 #[.val (.int c0)] [(.int (1 : Int32))]))) (fun _ k => XS.iconst X0.here hx rfl (hb hby dic_54) k) ?_
              refine Goes.pre (S' := (s₁.setTop (mkF m 59 #[.val (.int c0)] [(.int (1 : Int32))]))) (fun _ k => XS.goto X0.here hx rfl (pc0 := 55) (pc' := 59) rfl (hb hby dic_55) (by decide) (by decide) k) ?_
              have hf : own_ic c0 := by simp [own_ic, c3, c9, c15, c21, c33, c39]
              exact Goes.retN X0 hx hlk (t := .boolean) Bd.returns (by simp) (hb hby dic_59) ⟨Or.inl ⟨rfl, hf⟩, N0, e0⟩ (by first | decide | exact Nat.le_of_ble_eq_true rfl | assumption | (simp [Value.category]; done)) (by first | decide | exact Nat.le_of_ble_eq_true rfl | assumption | (simp [Value.category]; done))
        · skip
          refine Goes.pre (S' := (s₁.setTop (mkF m 24 #[.val (.int c0)] []))) (fun _ k => XS.icmpNo X0.here hx rfl (hb hby dic_21) rfl (XT.ii_lt_f c21) k) ?_
          refine Goes.pre (S' := (s₁.setTop (mkF m 25 #[.val (.int c0)] [(.int c0)]))) (fun _ k => XS.iloadN X0.here hx rfl (hb hby dic_24) rfl k) ?_
          refine Goes.pre (S' := (s₁.setTop (mkF m 27 #[.val (.int c0)] [(.int (55295 : Int32)), (.int c0)]))) (fun _ k => Jvm.Stand.ldcI X0 hx hown (mvT hZ (hw _ (List.mem_of_getElem? (i := 17) rfl))) rfl (hb hby dic_25) k) ?_
          by_cases c27 : (55295 : Int32) < c0
          · skip
            refine Goes.pre (S' := (s₁.setTop (mkF m 30 #[.val (.int c0)] []))) (fun _ k => XS.icmpNo X0.here hx rfl (hb hby dic_27) rfl (XT.ii_le_f c27) k) ?_
            refine Goes.pre (S' := (s₁.setTop (mkF m 31 #[.val (.int c0)] [(.int c0)]))) (fun _ k => XS.iloadN X0.here hx rfl (hb hby dic_30) rfl k) ?_
            refine Goes.pre (S' := (s₁.setTop (mkF m 33 #[.val (.int c0)] [(.int (57344 : Int32)), (.int c0)]))) (fun _ k => Jvm.Stand.ldcI X0 hx hown (mvT hZ (hw _ (List.mem_of_getElem? (i := 11) rfl))) rfl (hb hby dic_31) k) ?_
            by_cases c33 : c0 < (57344 : Int32)
            · skip
              refine Goes.pre (S' := (s₁.setTop (mkF m 42 #[.val (.int c0)] []))) (fun _ k => XS.icmpYes X0.here hx rfl (pc0 := 33) (pc' := 42) rfl (hb hby dic_33) rfl (XT.ii_lt_t c33) (by decide) (by decide) k) ?_
              refine Goes.pre (S' := (s₁.setTop (mkF m 43 #[.val (.int c0)] [(.int c0)]))) (fun _ k => XS.iloadN X0.here hx rfl (hb hby dic_42) rfl k) ?_
              refine Goes.pre (S' := (s₁.setTop (mkF m 45 #[.val (.int c0)] [(.int (65536 : Int32)), (.int c0)]))) (fun _ k => Jvm.Stand.ldcI X0 hx hown (mvT hZ (hw _ (List.mem_of_getElem? (i := 12) rfl))) rfl (hb hby dic_43) k) ?_
              by_cases c45 : c0 < (65536 : Int32)
              · skip
                refine Goes.pre (S' := (s₁.setTop (mkF m 58 #[.val (.int c0)] []))) (fun _ k => XS.icmpYes X0.here hx rfl (pc0 := 45) (pc' := 58) rfl (hb hby dic_45) rfl (XT.ii_lt_t c45) (by decide) (by decide) k) ?_
                refine Goes.pre (S' := (s₁.setTop (mkF m 59 #[.val (.int c0)] [(.int (0 : Int32))]))) (fun _ k => XS.iconst X0.here hx rfl (hb hby dic_58) k) ?_
                have hf : ¬ own_ic c0 := by simp [own_ic, c3, c9, c15, c21, c27, c33, c45]
                exact Goes.retN X0 hx hlk (t := .boolean) Bd.returns (by simp) (hb hby dic_59) ⟨Or.inr ⟨rfl, hf⟩, N0, e0⟩ (by first | decide | exact Nat.le_of_ble_eq_true rfl | assumption | (simp [Value.category]; done)) (by first | decide | exact Nat.le_of_ble_eq_true rfl | assumption | (simp [Value.category]; done))
              · skip
                refine Goes.pre (S' := (s₁.setTop (mkF m 48 #[.val (.int c0)] []))) (fun _ k => XS.icmpNo X0.here hx rfl (hb hby dic_45) rfl (XT.ii_lt_f c45) k) ?_
                refine Goes.pre (S' := (s₁.setTop (mkF m 49 #[.val (.int c0)] [(.int c0)]))) (fun _ k => XS.iloadN X0.here hx rfl (hb hby dic_48) rfl k) ?_
                refine Goes.pre (S' := (s₁.setTop (mkF m 51 #[.val (.int c0)] [(.int (1114111 : Int32)), (.int c0)]))) (fun _ k => Jvm.Stand.ldcI X0 hx hown (mvT hZ (hw _ (List.mem_of_getElem? (i := 23) rfl))) rfl (hb hby dic_49) k) ?_
                by_cases c51 : (1114111 : Int32) < c0
                · skip
                  refine Goes.pre (S' := (s₁.setTop (mkF m 58 #[.val (.int c0)] []))) (fun _ k => XS.icmpYes X0.here hx rfl (pc0 := 51) (pc' := 58) rfl (hb hby dic_51) rfl (XT.ii_gt_t c51) (by decide) (by decide) k) ?_
                  refine Goes.pre (S' := (s₁.setTop (mkF m 59 #[.val (.int c0)] [(.int (0 : Int32))]))) (fun _ k => XS.iconst X0.here hx rfl (hb hby dic_58) k) ?_
                  have hf : ¬ own_ic c0 := by simp [own_ic, c3, c9, c15, c21, c27, c33, c45, c51]
                  exact Goes.retN X0 hx hlk (t := .boolean) Bd.returns (by simp) (hb hby dic_59) ⟨Or.inr ⟨rfl, hf⟩, N0, e0⟩ (by first | decide | exact Nat.le_of_ble_eq_true rfl | assumption | (simp [Value.category]; done)) (by first | decide | exact Nat.le_of_ble_eq_true rfl | assumption | (simp [Value.category]; done))
                · skip
                  refine Goes.pre (S' := (s₁.setTop (mkF m 54 #[.val (.int c0)] []))) (fun _ k => XS.icmpNo X0.here hx rfl (hb hby dic_51) rfl (XT.ii_gt_f c51) k) ?_
                  refine Goes.pre (S' := (s₁.setTop (mkF m 55 #[.val (.int c0)] [(.int (1 : Int32))]))) (fun _ k => XS.iconst X0.here hx rfl (hb hby dic_54) k) ?_
                  refine Goes.pre (S' := (s₁.setTop (mkF m 59 #[.val (.int c0)] [(.int (1 : Int32))]))) (fun _ k => XS.goto X0.here hx rfl (pc0 := 55) (pc' := 59) rfl (hb hby dic_55) (by decide) (by decide) k) ?_
                  have hf : own_ic c0 := by simp [own_ic, c3, c9, c15, c21, c27, c33, c45, c51]
                  exact Goes.retN X0 hx hlk (t := .boolean) Bd.returns (by simp) (hb hby dic_59) ⟨Or.inl ⟨rfl, hf⟩, N0, e0⟩ (by first | decide | exact Nat.le_of_ble_eq_true rfl | assumption | (simp [Value.category]; done)) (by first | decide | exact Nat.le_of_ble_eq_true rfl | assumption | (simp [Value.category]; done))
            · skip
              refine Goes.pre (S' := (s₁.setTop (mkF m 36 #[.val (.int c0)] []))) (fun _ k => XS.icmpNo X0.here hx rfl (hb hby dic_33) rfl (XT.ii_lt_f c33) k) ?_
              refine Goes.pre (S' := (s₁.setTop (mkF m 37 #[.val (.int c0)] [(.int c0)]))) (fun _ k => XS.iloadN X0.here hx rfl (hb hby dic_36) rfl k) ?_
              refine Goes.pre (S' := (s₁.setTop (mkF m 39 #[.val (.int c0)] [(.int (65533 : Int32)), (.int c0)]))) (fun _ k => Jvm.Stand.ldcI X0 hx hown (mvT hZ (hw _ (List.mem_of_getElem? (i := 22) rfl))) rfl (hb hby dic_37) k) ?_
              by_cases c39 : (65533 : Int32) < c0
              · skip
                refine Goes.pre (S' := (s₁.setTop (mkF m 42 #[.val (.int c0)] []))) (fun _ k => XS.icmpNo X0.here hx rfl (hb hby dic_39) rfl (XT.ii_le_f c39) k) ?_
                refine Goes.pre (S' := (s₁.setTop (mkF m 43 #[.val (.int c0)] [(.int c0)]))) (fun _ k => XS.iloadN X0.here hx rfl (hb hby dic_42) rfl k) ?_
                refine Goes.pre (S' := (s₁.setTop (mkF m 45 #[.val (.int c0)] [(.int (65536 : Int32)), (.int c0)]))) (fun _ k => Jvm.Stand.ldcI X0 hx hown (mvT hZ (hw _ (List.mem_of_getElem? (i := 12) rfl))) rfl (hb hby dic_43) k) ?_
                by_cases c45 : c0 < (65536 : Int32)
                · skip
                  refine Goes.pre (S' := (s₁.setTop (mkF m 58 #[.val (.int c0)] []))) (fun _ k => XS.icmpYes X0.here hx rfl (pc0 := 45) (pc' := 58) rfl (hb hby dic_45) rfl (XT.ii_lt_t c45) (by decide) (by decide) k) ?_
                  refine Goes.pre (S' := (s₁.setTop (mkF m 59 #[.val (.int c0)] [(.int (0 : Int32))]))) (fun _ k => XS.iconst X0.here hx rfl (hb hby dic_58) k) ?_
                  have hf : ¬ own_ic c0 := by simp [own_ic, c3, c9, c15, c21, c27, c33, c39, c45]
                  exact Goes.retN X0 hx hlk (t := .boolean) Bd.returns (by simp) (hb hby dic_59) ⟨Or.inr ⟨rfl, hf⟩, N0, e0⟩ (by first | decide | exact Nat.le_of_ble_eq_true rfl | assumption | (simp [Value.category]; done)) (by first | decide | exact Nat.le_of_ble_eq_true rfl | assumption | (simp [Value.category]; done))
                · skip
                  refine Goes.pre (S' := (s₁.setTop (mkF m 48 #[.val (.int c0)] []))) (fun _ k => XS.icmpNo X0.here hx rfl (hb hby dic_45) rfl (XT.ii_lt_f c45) k) ?_
                  refine Goes.pre (S' := (s₁.setTop (mkF m 49 #[.val (.int c0)] [(.int c0)]))) (fun _ k => XS.iloadN X0.here hx rfl (hb hby dic_48) rfl k) ?_
                  refine Goes.pre (S' := (s₁.setTop (mkF m 51 #[.val (.int c0)] [(.int (1114111 : Int32)), (.int c0)]))) (fun _ k => Jvm.Stand.ldcI X0 hx hown (mvT hZ (hw _ (List.mem_of_getElem? (i := 23) rfl))) rfl (hb hby dic_49) k) ?_
                  by_cases c51 : (1114111 : Int32) < c0
                  · skip
                    refine Goes.pre (S' := (s₁.setTop (mkF m 58 #[.val (.int c0)] []))) (fun _ k => XS.icmpYes X0.here hx rfl (pc0 := 51) (pc' := 58) rfl (hb hby dic_51) rfl (XT.ii_gt_t c51) (by decide) (by decide) k) ?_
                    refine Goes.pre (S' := (s₁.setTop (mkF m 59 #[.val (.int c0)] [(.int (0 : Int32))]))) (fun _ k => XS.iconst X0.here hx rfl (hb hby dic_58) k) ?_
                    have hf : ¬ own_ic c0 := by simp [own_ic, c3, c9, c15, c21, c27, c33, c39, c45, c51]
                    exact Goes.retN X0 hx hlk (t := .boolean) Bd.returns (by simp) (hb hby dic_59) ⟨Or.inr ⟨rfl, hf⟩, N0, e0⟩ (by first | decide | exact Nat.le_of_ble_eq_true rfl | assumption | (simp [Value.category]; done)) (by first | decide | exact Nat.le_of_ble_eq_true rfl | assumption | (simp [Value.category]; done))
                  · skip
                    refine Goes.pre (S' := (s₁.setTop (mkF m 54 #[.val (.int c0)] []))) (fun _ k => XS.icmpNo X0.here hx rfl (hb hby dic_51) rfl (XT.ii_gt_f c51) k) ?_
                    refine Goes.pre (S' := (s₁.setTop (mkF m 55 #[.val (.int c0)] [(.int (1 : Int32))]))) (fun _ k => XS.iconst X0.here hx rfl (hb hby dic_54) k) ?_
                    refine Goes.pre (S' := (s₁.setTop (mkF m 59 #[.val (.int c0)] [(.int (1 : Int32))]))) (fun _ k => XS.goto X0.here hx rfl (pc0 := 55) (pc' := 59) rfl (hb hby dic_55) (by decide) (by decide) k) ?_
                    have hf : own_ic c0 := by simp [own_ic, c3, c9, c15, c21, c27, c33, c39, c45, c51]
                    exact Goes.retN X0 hx hlk (t := .boolean) Bd.returns (by simp) (hb hby dic_59) ⟨Or.inl ⟨rfl, hf⟩, N0, e0⟩ (by first | decide | exact Nat.le_of_ble_eq_true rfl | assumption | (simp [Value.category]; done)) (by first | decide | exact Nat.le_of_ble_eq_true rfl | assumption | (simp [Value.category]; done))
              · skip
                refine Goes.pre (S' := (s₁.setTop (mkF m 54 #[.val (.int c0)] []))) (fun _ k => XS.icmpYes X0.here hx rfl (pc0 := 39) (pc' := 54) rfl (hb hby dic_39) rfl (XT.ii_le_t c39) (by decide) (by decide) k) ?_
                refine Goes.pre (S' := (s₁.setTop (mkF m 55 #[.val (.int c0)] [(.int (1 : Int32))]))) (fun _ k => XS.iconst X0.here hx rfl (hb hby dic_54) k) ?_
                refine Goes.pre (S' := (s₁.setTop (mkF m 59 #[.val (.int c0)] [(.int (1 : Int32))]))) (fun _ k => XS.goto X0.here hx rfl (pc0 := 55) (pc' := 59) rfl (hb hby dic_55) (by decide) (by decide) k) ?_
                have hf : own_ic c0 := by simp [own_ic, c3, c9, c15, c21, c27, c33, c39]
                exact Goes.retN X0 hx hlk (t := .boolean) Bd.returns (by simp) (hb hby dic_59) ⟨Or.inl ⟨rfl, hf⟩, N0, e0⟩ (by first | decide | exact Nat.le_of_ble_eq_true rfl | assumption | (simp [Value.category]; done)) (by first | decide | exact Nat.le_of_ble_eq_true rfl | assumption | (simp [Value.category]; done))
          · skip
            refine Goes.pre (S' := (s₁.setTop (mkF m 54 #[.val (.int c0)] []))) (fun _ k => XS.icmpYes X0.here hx rfl (pc0 := 27) (pc' := 54) rfl (hb hby dic_27) rfl (XT.ii_le_t c27) (by decide) (by decide) k) ?_
            refine Goes.pre (S' := (s₁.setTop (mkF m 55 #[.val (.int c0)] [(.int (1 : Int32))]))) (fun _ k => XS.iconst X0.here hx rfl (hb hby dic_54) k) ?_
            refine Goes.pre (S' := (s₁.setTop (mkF m 59 #[.val (.int c0)] [(.int (1 : Int32))]))) (fun _ k => XS.goto X0.here hx rfl (pc0 := 55) (pc' := 59) rfl (hb hby dic_55) (by decide) (by decide) k) ?_
            have hf : own_ic c0 := by simp [own_ic, c3, c9, c15, c21, c27]
            exact Goes.retN X0 hx hlk (t := .boolean) Bd.returns (by simp) (hb hby dic_59) ⟨Or.inl ⟨rfl, hf⟩, N0, e0⟩ (by first | decide | exact Nat.le_of_ble_eq_true rfl | assumption | (simp [Value.category]; done)) (by first | decide | exact Nat.le_of_ble_eq_true rfl | assumption | (simp [Value.category]; done))
theorem dfb_0 : decode method_2_code 0 = .ok (.iload_n 0, 1) := by decide +kernel
theorem dfb_1 : decode method_2_code 1 = .ok (.bipush 9, 2) := by decide +kernel
theorem dfb_3 : decode method_2_code 3 = .ok (.if_icmp .lt 57, 3) := by decide +kernel
theorem dfb_6 : decode method_2_code 6 = .ok (.iload_n 0, 1) := by decide +kernel
theorem dfb_7 : decode method_2_code 7 = .ok (.bipush 11, 2) := by decide +kernel
theorem dfb_9 : decode method_2_code 9 = .ok (.if_icmp .eq 51, 3) := by decide +kernel
theorem dfb_12 : decode method_2_code 12 = .ok (.iload_n 0, 1) := by decide +kernel
theorem dfb_13 : decode method_2_code 13 = .ok (.bipush 12, 2) := by decide +kernel
theorem dfb_15 : decode method_2_code 15 = .ok (.if_icmp .eq 45, 3) := by decide +kernel
theorem dfb_18 : decode method_2_code 18 = .ok (.iload_n 0, 1) := by decide +kernel
theorem dfb_19 : decode method_2_code 19 = .ok (.bipush 14, 2) := by decide +kernel
theorem dfb_21 : decode method_2_code 21 = .ok (.if_icmp .lt 9, 3) := by decide +kernel
theorem dfb_24 : decode method_2_code 24 = .ok (.iload_n 0, 1) := by decide +kernel
theorem dfb_25 : decode method_2_code 25 = .ok (.bipush 31, 2) := by decide +kernel
theorem dfb_27 : decode method_2_code 27 = .ok (.if_icmp .le 33, 3) := by decide +kernel
theorem dfb_30 : decode method_2_code 30 = .ok (.iload_n 0, 1) := by decide +kernel
theorem dfb_31 : decode method_2_code 31 = .ok (.ldc 7, 2) := by decide +kernel
theorem dfb_33 : decode method_2_code 33 = .ok (.if_icmp .lt 9, 3) := by decide +kernel
theorem dfb_36 : decode method_2_code 36 = .ok (.iload_n 0, 1) := by decide +kernel
theorem dfb_37 : decode method_2_code 37 = .ok (.ldc 8, 2) := by decide +kernel
theorem dfb_39 : decode method_2_code 39 = .ok (.if_icmp .le 21, 3) := by decide +kernel
theorem dfb_42 : decode method_2_code 42 = .ok (.iload_n 0, 1) := by decide +kernel
theorem dfb_43 : decode method_2_code 43 = .ok (.ldc 9, 2) := by decide +kernel
theorem dfb_45 : decode method_2_code 45 = .ok (.if_icmp .eq 15, 3) := by decide +kernel
theorem dfb_48 : decode method_2_code 48 = .ok (.iload_n 0, 1) := by decide +kernel
theorem dfb_49 : decode method_2_code 49 = .ok (.ldc 10, 2) := by decide +kernel
theorem dfb_51 : decode method_2_code 51 = .ok (.if_icmp .eq 9, 3) := by decide +kernel
theorem dfb_54 : decode method_2_code 54 = .ok (.iload_n 0, 1) := by decide +kernel
theorem dfb_55 : decode method_2_code 55 = .ok (.ldc 11, 2) := by decide +kernel
theorem dfb_57 : decode method_2_code 57 = .ok (.if_icmp .le 7, 3) := by decide +kernel
theorem dfb_60 : decode method_2_code 60 = .ok (.iconst 1, 1) := by decide +kernel
theorem dfb_61 : decode method_2_code 61 = .ok (.goto 4, 3) := by decide +kernel
theorem dfb_64 : decode method_2_code 64 = .ok (.iconst 0, 1) := by decide +kernel
theorem dfb_65 : decode method_2_code 65 = .ok (.ireturn, 1) := by decide +kernel
theorem pd_fb : parseMethodDescriptor "(I)Z" = some ⟨[.int], some .boolean⟩ := by decide +kernel
theorem pn_fb : plainName "com/example/notarix/notarix/xml/XmlIsCharacterPinLaw" = true := by first | (simp [plainName, overriddenIn]; done) | decide +kernel
def Q_fb (c : Int32) (h0 : Heap) (n0 : Nat) (v : Option Value) (h : Heap) (L : List Loc) : Prop := ((v = some (.int 1) ∧ own_fb c) ∨ (v = some (.int 0) ∧ ¬ own_fb c)) ∧ Fr n0 L ∧ h = h0
theorem ef_fb (m : MethodId) (c0 : Int32) : entryFrame m #[(.int c0)] 1 = mkF m 0 #[.val (.int c0)] [] := by first | (simp [entryFrame, mkF, argsToLocals, Value.category]; done) | rfl
set_option maxRecDepth 65536 in
set_option maxHeartbeats 40000000 in
theorem rm_fb (l : Launch) (Z : State) (a0 : Array Value) (hw : ∀ d ∈ tables_1, d.before a0 Z = true) (ws : List Jvm.Cond) (c0 : Int32)  (h0 : Heap) (n0 : Nat) (Z0 : n0 ≤ h0.size)  :
    Ctr l Z (⟨"com/example/notarix/notarix/xml/XmlIsCharacterPinLaw", "forbidden", "(I)Z"⟩ : MethodName) method_2_code 1 (some .boolean) ws ({ frames := 0, cells := 0, slots := 0, locals := 0 } : Room) #[(.int c0)] h0 (Q_fb c0 h0 n0) := by
  refine MetFree.of_bodySF (plainFor_of_name pn_fb) hisR ?_
  intro p e s m args below meth c s₁ Bd hml0 hP hK
  obtain ⟨rfl, hZ, hh⟩ := hP
  have hx := Bd.exec
  have hby := Bd.bytes
  have hlk : meth.locks = false := Bd.notSynchronized
  have hml : c.maxLocals = 1 := hml0
  have hown : s.vm.findClass "com/example/notarix/notarix/xml/XmlIsCharacterPinLaw" = some m.cls := findClass_of_methodNamed Bd.named
  have hnm := (name_of_methodNamed Bd.named Bd.method).1
  have X0 : Stand p l e ({ frames := 0, cells := 0, slots := 0, locals := 0 } : Room) s m #[(.int c0)] below meth c s₁ [] 0 0 := Stand.of_body Bd
  have e0 : s₁.heap = h0 := by rw [← hh, Bd.state]; rfl
  have N0 := Fr.nil n0
  show Goes p e below (EndQ s (Q_fb c0 h0 n0) ({ frames := 0, cells := 0, slots := 0, locals := 0 } : Room).cells ({ frames := 0, cells := 0, slots := 0, locals := 0 } : Room).slots) (s₁.setTop (entryFrame m #[(.int c0)] 1))
  refine Goes.pre (S' := (s₁.setTop (mkF m 0 #[.val (.int c0)] []))) (fun t k => castTop (ef_fb m c0) k) ?_
  refine Goes.pre (S' := (s₁.setTop (mkF m 1 #[.val (.int c0)] [(.int c0)]))) (fun _ k => XS.iloadN X0.here hx rfl (hb hby dfb_0) rfl k) ?_
  refine Goes.pre (S' := (s₁.setTop (mkF m 3 #[.val (.int c0)] [(.int (9 : Int32)), (.int c0)]))) (fun _ k => XS.bipush X0.here hx rfl (hb hby dfb_1) k) ?_
  by_cases c3 : c0 < (9 : Int32)
  · skip
    refine Goes.pre (S' := (s₁.setTop (mkF m 60 #[.val (.int c0)] []))) (fun _ k => XS.icmpYes X0.here hx rfl (pc0 := 3) (pc' := 60) rfl (hb hby dfb_3) rfl (XT.ii_lt_t c3) (by decide) (by decide) k) ?_
    refine Goes.pre (S' := (s₁.setTop (mkF m 61 #[.val (.int c0)] [(.int (1 : Int32))]))) (fun _ k => XS.iconst X0.here hx rfl (hb hby dfb_60) k) ?_
    refine Goes.pre (S' := (s₁.setTop (mkF m 65 #[.val (.int c0)] [(.int (1 : Int32))]))) (fun _ k => XS.goto X0.here hx rfl (pc0 := 61) (pc' := 65) rfl (hb hby dfb_61) (by decide) (by decide) k) ?_
    have hf : own_fb c0 := by simp [own_fb, c3]
    exact Goes.retN X0 hx hlk (t := .boolean) Bd.returns (by simp) (hb hby dfb_65) ⟨Or.inl ⟨rfl, hf⟩, N0, e0⟩ (by first | decide | exact Nat.le_of_ble_eq_true rfl | assumption | (simp [Value.category]; done)) (by first | decide | exact Nat.le_of_ble_eq_true rfl | assumption | (simp [Value.category]; done))
  · skip
    refine Goes.pre (S' := (s₁.setTop (mkF m 6 #[.val (.int c0)] []))) (fun _ k => XS.icmpNo X0.here hx rfl (hb hby dfb_3) rfl (XT.ii_lt_f c3) k) ?_
    refine Goes.pre (S' := (s₁.setTop (mkF m 7 #[.val (.int c0)] [(.int c0)]))) (fun _ k => XS.iloadN X0.here hx rfl (hb hby dfb_6) rfl k) ?_
    refine Goes.pre (S' := (s₁.setTop (mkF m 9 #[.val (.int c0)] [(.int (11 : Int32)), (.int c0)]))) (fun _ k => XS.bipush X0.here hx rfl (hb hby dfb_7) k) ?_
    by_cases c9 : c0 = (11 : Int32)
    · skip
      refine Goes.pre (S' := (s₁.setTop (mkF m 60 #[.val (.int c0)] []))) (fun _ k => XS.icmpYes X0.here hx rfl (pc0 := 9) (pc' := 60) rfl (hb hby dfb_9) rfl (XT.ii_eq_t c9) (by decide) (by decide) k) ?_
      refine Goes.pre (S' := (s₁.setTop (mkF m 61 #[.val (.int c0)] [(.int (1 : Int32))]))) (fun _ k => XS.iconst X0.here hx rfl (hb hby dfb_60) k) ?_
      refine Goes.pre (S' := (s₁.setTop (mkF m 65 #[.val (.int c0)] [(.int (1 : Int32))]))) (fun _ k => XS.goto X0.here hx rfl (pc0 := 61) (pc' := 65) rfl (hb hby dfb_61) (by decide) (by decide) k) ?_
      have hf : own_fb c0 := by simp [own_fb, c3, c9]
      exact Goes.retN X0 hx hlk (t := .boolean) Bd.returns (by simp) (hb hby dfb_65) ⟨Or.inl ⟨rfl, hf⟩, N0, e0⟩ (by first | decide | exact Nat.le_of_ble_eq_true rfl | assumption | (simp [Value.category]; done)) (by first | decide | exact Nat.le_of_ble_eq_true rfl | assumption | (simp [Value.category]; done))
    · skip
      refine Goes.pre (S' := (s₁.setTop (mkF m 12 #[.val (.int c0)] []))) (fun _ k => XS.icmpNo X0.here hx rfl (hb hby dfb_9) rfl (XT.ii_eq_f c9) k) ?_
      refine Goes.pre (S' := (s₁.setTop (mkF m 13 #[.val (.int c0)] [(.int c0)]))) (fun _ k => XS.iloadN X0.here hx rfl (hb hby dfb_12) rfl k) ?_
      refine Goes.pre (S' := (s₁.setTop (mkF m 15 #[.val (.int c0)] [(.int (12 : Int32)), (.int c0)]))) (fun _ k => XS.bipush X0.here hx rfl (hb hby dfb_13) k) ?_
      by_cases c15 : c0 = (12 : Int32)
      · skip
        refine Goes.pre (S' := (s₁.setTop (mkF m 60 #[.val (.int c0)] []))) (fun _ k => XS.icmpYes X0.here hx rfl (pc0 := 15) (pc' := 60) rfl (hb hby dfb_15) rfl (XT.ii_eq_t c15) (by decide) (by decide) k) ?_
        refine Goes.pre (S' := (s₁.setTop (mkF m 61 #[.val (.int c0)] [(.int (1 : Int32))]))) (fun _ k => XS.iconst X0.here hx rfl (hb hby dfb_60) k) ?_
        refine Goes.pre (S' := (s₁.setTop (mkF m 65 #[.val (.int c0)] [(.int (1 : Int32))]))) (fun _ k => XS.goto X0.here hx rfl (pc0 := 61) (pc' := 65) rfl (hb hby dfb_61) (by decide) (by decide) k) ?_
        have hf : own_fb c0 := by simp [own_fb, c3, c9, c15]
        exact Goes.retN X0 hx hlk (t := .boolean) Bd.returns (by simp) (hb hby dfb_65) ⟨Or.inl ⟨rfl, hf⟩, N0, e0⟩ (by first | decide | exact Nat.le_of_ble_eq_true rfl | assumption | (simp [Value.category]; done)) (by first | decide | exact Nat.le_of_ble_eq_true rfl | assumption | (simp [Value.category]; done))
      · skip
        refine Goes.pre (S' := (s₁.setTop (mkF m 18 #[.val (.int c0)] []))) (fun _ k => XS.icmpNo X0.here hx rfl (hb hby dfb_15) rfl (XT.ii_eq_f c15) k) ?_
        refine Goes.pre (S' := (s₁.setTop (mkF m 19 #[.val (.int c0)] [(.int c0)]))) (fun _ k => XS.iloadN X0.here hx rfl (hb hby dfb_18) rfl k) ?_
        refine Goes.pre (S' := (s₁.setTop (mkF m 21 #[.val (.int c0)] [(.int (14 : Int32)), (.int c0)]))) (fun _ k => XS.bipush X0.here hx rfl (hb hby dfb_19) k) ?_
        by_cases c21 : c0 < (14 : Int32)
        · skip
          refine Goes.pre (S' := (s₁.setTop (mkF m 30 #[.val (.int c0)] []))) (fun _ k => XS.icmpYes X0.here hx rfl (pc0 := 21) (pc' := 30) rfl (hb hby dfb_21) rfl (XT.ii_lt_t c21) (by decide) (by decide) k) ?_
          refine Goes.pre (S' := (s₁.setTop (mkF m 31 #[.val (.int c0)] [(.int c0)]))) (fun _ k => XS.iloadN X0.here hx rfl (hb hby dfb_30) rfl k) ?_
          refine Goes.pre (S' := (s₁.setTop (mkF m 33 #[.val (.int c0)] [(.int (55296 : Int32)), (.int c0)]))) (fun _ k => Jvm.Stand.ldcI X0 hx hown (mvT hZ (hw _ (List.mem_of_getElem? (i := 18) rfl))) rfl (hb hby dfb_31) k) ?_
          by_cases c33 : c0 < (55296 : Int32)
          · skip
            refine Goes.pre (S' := (s₁.setTop (mkF m 42 #[.val (.int c0)] []))) (fun _ k => XS.icmpYes X0.here hx rfl (pc0 := 33) (pc' := 42) rfl (hb hby dfb_33) rfl (XT.ii_lt_t c33) (by decide) (by decide) k) ?_
            refine Goes.pre (S' := (s₁.setTop (mkF m 43 #[.val (.int c0)] [(.int c0)]))) (fun _ k => XS.iloadN X0.here hx rfl (hb hby dfb_42) rfl k) ?_
            refine Goes.pre (S' := (s₁.setTop (mkF m 45 #[.val (.int c0)] [(.int (65534 : Int32)), (.int c0)]))) (fun _ k => Jvm.Stand.ldcI X0 hx hown (mvT hZ (hw _ (List.mem_of_getElem? (i := 19) rfl))) rfl (hb hby dfb_43) k) ?_
            by_cases c45 : c0 = (65534 : Int32)
            · skip
              refine Goes.pre (S' := (s₁.setTop (mkF m 60 #[.val (.int c0)] []))) (fun _ k => XS.icmpYes X0.here hx rfl (pc0 := 45) (pc' := 60) rfl (hb hby dfb_45) rfl (XT.ii_eq_t c45) (by decide) (by decide) k) ?_
              refine Goes.pre (S' := (s₁.setTop (mkF m 61 #[.val (.int c0)] [(.int (1 : Int32))]))) (fun _ k => XS.iconst X0.here hx rfl (hb hby dfb_60) k) ?_
              refine Goes.pre (S' := (s₁.setTop (mkF m 65 #[.val (.int c0)] [(.int (1 : Int32))]))) (fun _ k => XS.goto X0.here hx rfl (pc0 := 61) (pc' := 65) rfl (hb hby dfb_61) (by decide) (by decide) k) ?_
              have hf : own_fb c0 := by simp [own_fb, c3, c9, c15, c21, c33, c45]
              exact Goes.retN X0 hx hlk (t := .boolean) Bd.returns (by simp) (hb hby dfb_65) ⟨Or.inl ⟨rfl, hf⟩, N0, e0⟩ (by first | decide | exact Nat.le_of_ble_eq_true rfl | assumption | (simp [Value.category]; done)) (by first | decide | exact Nat.le_of_ble_eq_true rfl | assumption | (simp [Value.category]; done))
            · skip
              refine Goes.pre (S' := (s₁.setTop (mkF m 48 #[.val (.int c0)] []))) (fun _ k => XS.icmpNo X0.here hx rfl (hb hby dfb_45) rfl (XT.ii_eq_f c45) k) ?_
              refine Goes.pre (S' := (s₁.setTop (mkF m 49 #[.val (.int c0)] [(.int c0)]))) (fun _ k => XS.iloadN X0.here hx rfl (hb hby dfb_48) rfl k) ?_
              refine Goes.pre (S' := (s₁.setTop (mkF m 51 #[.val (.int c0)] [(.int (65535 : Int32)), (.int c0)]))) (fun _ k => Jvm.Stand.ldcI X0 hx hown (mvT hZ (hw _ (List.mem_of_getElem? (i := 20) rfl))) rfl (hb hby dfb_49) k) ?_
              by_cases c51 : c0 = (65535 : Int32)
              · skip
                refine Goes.pre (S' := (s₁.setTop (mkF m 60 #[.val (.int c0)] []))) (fun _ k => XS.icmpYes X0.here hx rfl (pc0 := 51) (pc' := 60) rfl (hb hby dfb_51) rfl (XT.ii_eq_t c51) (by decide) (by decide) k) ?_
                refine Goes.pre (S' := (s₁.setTop (mkF m 61 #[.val (.int c0)] [(.int (1 : Int32))]))) (fun _ k => XS.iconst X0.here hx rfl (hb hby dfb_60) k) ?_
                refine Goes.pre (S' := (s₁.setTop (mkF m 65 #[.val (.int c0)] [(.int (1 : Int32))]))) (fun _ k => XS.goto X0.here hx rfl (pc0 := 61) (pc' := 65) rfl (hb hby dfb_61) (by decide) (by decide) k) ?_
                have hf : own_fb c0 := by simp [own_fb, c3, c9, c15, c21, c33, c45, c51]
                exact Goes.retN X0 hx hlk (t := .boolean) Bd.returns (by simp) (hb hby dfb_65) ⟨Or.inl ⟨rfl, hf⟩, N0, e0⟩ (by first | decide | exact Nat.le_of_ble_eq_true rfl | assumption | (simp [Value.category]; done)) (by first | decide | exact Nat.le_of_ble_eq_true rfl | assumption | (simp [Value.category]; done))
              · skip
                refine Goes.pre (S' := (s₁.setTop (mkF m 54 #[.val (.int c0)] []))) (fun _ k => XS.icmpNo X0.here hx rfl (hb hby dfb_51) rfl (XT.ii_eq_f c51) k) ?_
                refine Goes.pre (S' := (s₁.setTop (mkF m 55 #[.val (.int c0)] [(.int c0)]))) (fun _ k => XS.iloadN X0.here hx rfl (hb hby dfb_54) rfl k) ?_
                refine Goes.pre (S' := (s₁.setTop (mkF m 57 #[.val (.int c0)] [(.int (1114111 : Int32)), (.int c0)]))) (fun _ k => Jvm.Stand.ldcI X0 hx hown (mvT hZ (hw _ (List.mem_of_getElem? (i := 5) rfl))) rfl (hb hby dfb_55) k) ?_
                by_cases c57 : (1114111 : Int32) < c0
                · skip
                  refine Goes.pre (S' := (s₁.setTop (mkF m 60 #[.val (.int c0)] []))) (fun _ k => XS.icmpNo X0.here hx rfl (hb hby dfb_57) rfl (XT.ii_le_f c57) k) ?_
                  refine Goes.pre (S' := (s₁.setTop (mkF m 61 #[.val (.int c0)] [(.int (1 : Int32))]))) (fun _ k => XS.iconst X0.here hx rfl (hb hby dfb_60) k) ?_
                  refine Goes.pre (S' := (s₁.setTop (mkF m 65 #[.val (.int c0)] [(.int (1 : Int32))]))) (fun _ k => XS.goto X0.here hx rfl (pc0 := 61) (pc' := 65) rfl (hb hby dfb_61) (by decide) (by decide) k) ?_
                  have hf : own_fb c0 := by simp [own_fb, c3, c9, c15, c21, c33, c45, c51, c57]
                  exact Goes.retN X0 hx hlk (t := .boolean) Bd.returns (by simp) (hb hby dfb_65) ⟨Or.inl ⟨rfl, hf⟩, N0, e0⟩ (by first | decide | exact Nat.le_of_ble_eq_true rfl | assumption | (simp [Value.category]; done)) (by first | decide | exact Nat.le_of_ble_eq_true rfl | assumption | (simp [Value.category]; done))
                · skip
                  refine Goes.pre (S' := (s₁.setTop (mkF m 64 #[.val (.int c0)] []))) (fun _ k => XS.icmpYes X0.here hx rfl (pc0 := 57) (pc' := 64) rfl (hb hby dfb_57) rfl (XT.ii_le_t c57) (by decide) (by decide) k) ?_
                  refine Goes.pre (S' := (s₁.setTop (mkF m 65 #[.val (.int c0)] [(.int (0 : Int32))]))) (fun _ k => XS.iconst X0.here hx rfl (hb hby dfb_64) k) ?_
                  have hf : ¬ own_fb c0 := by simp [own_fb, c3, c9, c15, c21, c33, c45, c51, c57]
                  exact Goes.retN X0 hx hlk (t := .boolean) Bd.returns (by simp) (hb hby dfb_65) ⟨Or.inr ⟨rfl, hf⟩, N0, e0⟩ (by first | decide | exact Nat.le_of_ble_eq_true rfl | assumption | (simp [Value.category]; done)) (by first | decide | exact Nat.le_of_ble_eq_true rfl | assumption | (simp [Value.category]; done))
          · skip
            refine Goes.pre (S' := (s₁.setTop (mkF m 36 #[.val (.int c0)] []))) (fun _ k => XS.icmpNo X0.here hx rfl (hb hby dfb_33) rfl (XT.ii_lt_f c33) k) ?_
            refine Goes.pre (S' := (s₁.setTop (mkF m 37 #[.val (.int c0)] [(.int c0)]))) (fun _ k => XS.iloadN X0.here hx rfl (hb hby dfb_36) rfl k) ?_
            refine Goes.pre (S' := (s₁.setTop (mkF m 39 #[.val (.int c0)] [(.int (57343 : Int32)), (.int c0)]))) (fun _ k => Jvm.Stand.ldcI X0 hx hown (mvT hZ (hw _ (List.mem_of_getElem? (i := 21) rfl))) rfl (hb hby dfb_37) k) ?_
            by_cases c39 : (57343 : Int32) < c0
            · skip
              refine Goes.pre (S' := (s₁.setTop (mkF m 42 #[.val (.int c0)] []))) (fun _ k => XS.icmpNo X0.here hx rfl (hb hby dfb_39) rfl (XT.ii_le_f c39) k) ?_
              refine Goes.pre (S' := (s₁.setTop (mkF m 43 #[.val (.int c0)] [(.int c0)]))) (fun _ k => XS.iloadN X0.here hx rfl (hb hby dfb_42) rfl k) ?_
              refine Goes.pre (S' := (s₁.setTop (mkF m 45 #[.val (.int c0)] [(.int (65534 : Int32)), (.int c0)]))) (fun _ k => Jvm.Stand.ldcI X0 hx hown (mvT hZ (hw _ (List.mem_of_getElem? (i := 19) rfl))) rfl (hb hby dfb_43) k) ?_
              by_cases c45 : c0 = (65534 : Int32)
              · skip
                refine Goes.pre (S' := (s₁.setTop (mkF m 60 #[.val (.int c0)] []))) (fun _ k => XS.icmpYes X0.here hx rfl (pc0 := 45) (pc' := 60) rfl (hb hby dfb_45) rfl (XT.ii_eq_t c45) (by decide) (by decide) k) ?_
                refine Goes.pre (S' := (s₁.setTop (mkF m 61 #[.val (.int c0)] [(.int (1 : Int32))]))) (fun _ k => XS.iconst X0.here hx rfl (hb hby dfb_60) k) ?_
                refine Goes.pre (S' := (s₁.setTop (mkF m 65 #[.val (.int c0)] [(.int (1 : Int32))]))) (fun _ k => XS.goto X0.here hx rfl (pc0 := 61) (pc' := 65) rfl (hb hby dfb_61) (by decide) (by decide) k) ?_
                have hf : own_fb c0 := by simp [own_fb, c3, c9, c15, c21, c33, c39, c45]
                exact Goes.retN X0 hx hlk (t := .boolean) Bd.returns (by simp) (hb hby dfb_65) ⟨Or.inl ⟨rfl, hf⟩, N0, e0⟩ (by first | decide | exact Nat.le_of_ble_eq_true rfl | assumption | (simp [Value.category]; done)) (by first | decide | exact Nat.le_of_ble_eq_true rfl | assumption | (simp [Value.category]; done))
              · skip
                refine Goes.pre (S' := (s₁.setTop (mkF m 48 #[.val (.int c0)] []))) (fun _ k => XS.icmpNo X0.here hx rfl (hb hby dfb_45) rfl (XT.ii_eq_f c45) k) ?_
                refine Goes.pre (S' := (s₁.setTop (mkF m 49 #[.val (.int c0)] [(.int c0)]))) (fun _ k => XS.iloadN X0.here hx rfl (hb hby dfb_48) rfl k) ?_
                refine Goes.pre (S' := (s₁.setTop (mkF m 51 #[.val (.int c0)] [(.int (65535 : Int32)), (.int c0)]))) (fun _ k => Jvm.Stand.ldcI X0 hx hown (mvT hZ (hw _ (List.mem_of_getElem? (i := 20) rfl))) rfl (hb hby dfb_49) k) ?_
                by_cases c51 : c0 = (65535 : Int32)
                · skip
                  refine Goes.pre (S' := (s₁.setTop (mkF m 60 #[.val (.int c0)] []))) (fun _ k => XS.icmpYes X0.here hx rfl (pc0 := 51) (pc' := 60) rfl (hb hby dfb_51) rfl (XT.ii_eq_t c51) (by decide) (by decide) k) ?_
                  refine Goes.pre (S' := (s₁.setTop (mkF m 61 #[.val (.int c0)] [(.int (1 : Int32))]))) (fun _ k => XS.iconst X0.here hx rfl (hb hby dfb_60) k) ?_
                  refine Goes.pre (S' := (s₁.setTop (mkF m 65 #[.val (.int c0)] [(.int (1 : Int32))]))) (fun _ k => XS.goto X0.here hx rfl (pc0 := 61) (pc' := 65) rfl (hb hby dfb_61) (by decide) (by decide) k) ?_
                  have hf : own_fb c0 := by simp [own_fb, c3, c9, c15, c21, c33, c39, c45, c51]
                  exact Goes.retN X0 hx hlk (t := .boolean) Bd.returns (by simp) (hb hby dfb_65) ⟨Or.inl ⟨rfl, hf⟩, N0, e0⟩ (by first | decide | exact Nat.le_of_ble_eq_true rfl | assumption | (simp [Value.category]; done)) (by first | decide | exact Nat.le_of_ble_eq_true rfl | assumption | (simp [Value.category]; done))
                · skip
                  refine Goes.pre (S' := (s₁.setTop (mkF m 54 #[.val (.int c0)] []))) (fun _ k => XS.icmpNo X0.here hx rfl (hb hby dfb_51) rfl (XT.ii_eq_f c51) k) ?_
                  refine Goes.pre (S' := (s₁.setTop (mkF m 55 #[.val (.int c0)] [(.int c0)]))) (fun _ k => XS.iloadN X0.here hx rfl (hb hby dfb_54) rfl k) ?_
                  refine Goes.pre (S' := (s₁.setTop (mkF m 57 #[.val (.int c0)] [(.int (1114111 : Int32)), (.int c0)]))) (fun _ k => Jvm.Stand.ldcI X0 hx hown (mvT hZ (hw _ (List.mem_of_getElem? (i := 5) rfl))) rfl (hb hby dfb_55) k) ?_
                  by_cases c57 : (1114111 : Int32) < c0
                  · skip
                    refine Goes.pre (S' := (s₁.setTop (mkF m 60 #[.val (.int c0)] []))) (fun _ k => XS.icmpNo X0.here hx rfl (hb hby dfb_57) rfl (XT.ii_le_f c57) k) ?_
                    refine Goes.pre (S' := (s₁.setTop (mkF m 61 #[.val (.int c0)] [(.int (1 : Int32))]))) (fun _ k => XS.iconst X0.here hx rfl (hb hby dfb_60) k) ?_
                    refine Goes.pre (S' := (s₁.setTop (mkF m 65 #[.val (.int c0)] [(.int (1 : Int32))]))) (fun _ k => XS.goto X0.here hx rfl (pc0 := 61) (pc' := 65) rfl (hb hby dfb_61) (by decide) (by decide) k) ?_
                    have hf : own_fb c0 := by simp [own_fb, c3, c9, c15, c21, c33, c39, c45, c51, c57]
                    exact Goes.retN X0 hx hlk (t := .boolean) Bd.returns (by simp) (hb hby dfb_65) ⟨Or.inl ⟨rfl, hf⟩, N0, e0⟩ (by first | decide | exact Nat.le_of_ble_eq_true rfl | assumption | (simp [Value.category]; done)) (by first | decide | exact Nat.le_of_ble_eq_true rfl | assumption | (simp [Value.category]; done))
                  · skip
                    refine Goes.pre (S' := (s₁.setTop (mkF m 64 #[.val (.int c0)] []))) (fun _ k => XS.icmpYes X0.here hx rfl (pc0 := 57) (pc' := 64) rfl (hb hby dfb_57) rfl (XT.ii_le_t c57) (by decide) (by decide) k) ?_
                    refine Goes.pre (S' := (s₁.setTop (mkF m 65 #[.val (.int c0)] [(.int (0 : Int32))]))) (fun _ k => XS.iconst X0.here hx rfl (hb hby dfb_64) k) ?_
                    have hf : ¬ own_fb c0 := by simp [own_fb, c3, c9, c15, c21, c33, c39, c45, c51, c57]
                    exact Goes.retN X0 hx hlk (t := .boolean) Bd.returns (by simp) (hb hby dfb_65) ⟨Or.inr ⟨rfl, hf⟩, N0, e0⟩ (by first | decide | exact Nat.le_of_ble_eq_true rfl | assumption | (simp [Value.category]; done)) (by first | decide | exact Nat.le_of_ble_eq_true rfl | assumption | (simp [Value.category]; done))
            · skip
              refine Goes.pre (S' := (s₁.setTop (mkF m 60 #[.val (.int c0)] []))) (fun _ k => XS.icmpYes X0.here hx rfl (pc0 := 39) (pc' := 60) rfl (hb hby dfb_39) rfl (XT.ii_le_t c39) (by decide) (by decide) k) ?_
              refine Goes.pre (S' := (s₁.setTop (mkF m 61 #[.val (.int c0)] [(.int (1 : Int32))]))) (fun _ k => XS.iconst X0.here hx rfl (hb hby dfb_60) k) ?_
              refine Goes.pre (S' := (s₁.setTop (mkF m 65 #[.val (.int c0)] [(.int (1 : Int32))]))) (fun _ k => XS.goto X0.here hx rfl (pc0 := 61) (pc' := 65) rfl (hb hby dfb_61) (by decide) (by decide) k) ?_
              have hf : own_fb c0 := by simp [own_fb, c3, c9, c15, c21, c33, c39]
              exact Goes.retN X0 hx hlk (t := .boolean) Bd.returns (by simp) (hb hby dfb_65) ⟨Or.inl ⟨rfl, hf⟩, N0, e0⟩ (by first | decide | exact Nat.le_of_ble_eq_true rfl | assumption | (simp [Value.category]; done)) (by first | decide | exact Nat.le_of_ble_eq_true rfl | assumption | (simp [Value.category]; done))
        · skip
          refine Goes.pre (S' := (s₁.setTop (mkF m 24 #[.val (.int c0)] []))) (fun _ k => XS.icmpNo X0.here hx rfl (hb hby dfb_21) rfl (XT.ii_lt_f c21) k) ?_
          refine Goes.pre (S' := (s₁.setTop (mkF m 25 #[.val (.int c0)] [(.int c0)]))) (fun _ k => XS.iloadN X0.here hx rfl (hb hby dfb_24) rfl k) ?_
          refine Goes.pre (S' := (s₁.setTop (mkF m 27 #[.val (.int c0)] [(.int (31 : Int32)), (.int c0)]))) (fun _ k => XS.bipush X0.here hx rfl (hb hby dfb_25) k) ?_
          by_cases c27 : (31 : Int32) < c0
          · skip
            refine Goes.pre (S' := (s₁.setTop (mkF m 30 #[.val (.int c0)] []))) (fun _ k => XS.icmpNo X0.here hx rfl (hb hby dfb_27) rfl (XT.ii_le_f c27) k) ?_
            refine Goes.pre (S' := (s₁.setTop (mkF m 31 #[.val (.int c0)] [(.int c0)]))) (fun _ k => XS.iloadN X0.here hx rfl (hb hby dfb_30) rfl k) ?_
            refine Goes.pre (S' := (s₁.setTop (mkF m 33 #[.val (.int c0)] [(.int (55296 : Int32)), (.int c0)]))) (fun _ k => Jvm.Stand.ldcI X0 hx hown (mvT hZ (hw _ (List.mem_of_getElem? (i := 18) rfl))) rfl (hb hby dfb_31) k) ?_
            by_cases c33 : c0 < (55296 : Int32)
            · skip
              refine Goes.pre (S' := (s₁.setTop (mkF m 42 #[.val (.int c0)] []))) (fun _ k => XS.icmpYes X0.here hx rfl (pc0 := 33) (pc' := 42) rfl (hb hby dfb_33) rfl (XT.ii_lt_t c33) (by decide) (by decide) k) ?_
              refine Goes.pre (S' := (s₁.setTop (mkF m 43 #[.val (.int c0)] [(.int c0)]))) (fun _ k => XS.iloadN X0.here hx rfl (hb hby dfb_42) rfl k) ?_
              refine Goes.pre (S' := (s₁.setTop (mkF m 45 #[.val (.int c0)] [(.int (65534 : Int32)), (.int c0)]))) (fun _ k => Jvm.Stand.ldcI X0 hx hown (mvT hZ (hw _ (List.mem_of_getElem? (i := 19) rfl))) rfl (hb hby dfb_43) k) ?_
              by_cases c45 : c0 = (65534 : Int32)
              · skip
                refine Goes.pre (S' := (s₁.setTop (mkF m 60 #[.val (.int c0)] []))) (fun _ k => XS.icmpYes X0.here hx rfl (pc0 := 45) (pc' := 60) rfl (hb hby dfb_45) rfl (XT.ii_eq_t c45) (by decide) (by decide) k) ?_
                refine Goes.pre (S' := (s₁.setTop (mkF m 61 #[.val (.int c0)] [(.int (1 : Int32))]))) (fun _ k => XS.iconst X0.here hx rfl (hb hby dfb_60) k) ?_
                refine Goes.pre (S' := (s₁.setTop (mkF m 65 #[.val (.int c0)] [(.int (1 : Int32))]))) (fun _ k => XS.goto X0.here hx rfl (pc0 := 61) (pc' := 65) rfl (hb hby dfb_61) (by decide) (by decide) k) ?_
                have hf : own_fb c0 := by simp [own_fb, c3, c9, c15, c21, c27, c33, c45]
                exact Goes.retN X0 hx hlk (t := .boolean) Bd.returns (by simp) (hb hby dfb_65) ⟨Or.inl ⟨rfl, hf⟩, N0, e0⟩ (by first | decide | exact Nat.le_of_ble_eq_true rfl | assumption | (simp [Value.category]; done)) (by first | decide | exact Nat.le_of_ble_eq_true rfl | assumption | (simp [Value.category]; done))
              · skip
                refine Goes.pre (S' := (s₁.setTop (mkF m 48 #[.val (.int c0)] []))) (fun _ k => XS.icmpNo X0.here hx rfl (hb hby dfb_45) rfl (XT.ii_eq_f c45) k) ?_
                refine Goes.pre (S' := (s₁.setTop (mkF m 49 #[.val (.int c0)] [(.int c0)]))) (fun _ k => XS.iloadN X0.here hx rfl (hb hby dfb_48) rfl k) ?_
                refine Goes.pre (S' := (s₁.setTop (mkF m 51 #[.val (.int c0)] [(.int (65535 : Int32)), (.int c0)]))) (fun _ k => Jvm.Stand.ldcI X0 hx hown (mvT hZ (hw _ (List.mem_of_getElem? (i := 20) rfl))) rfl (hb hby dfb_49) k) ?_
                by_cases c51 : c0 = (65535 : Int32)
                · skip
                  refine Goes.pre (S' := (s₁.setTop (mkF m 60 #[.val (.int c0)] []))) (fun _ k => XS.icmpYes X0.here hx rfl (pc0 := 51) (pc' := 60) rfl (hb hby dfb_51) rfl (XT.ii_eq_t c51) (by decide) (by decide) k) ?_
                  refine Goes.pre (S' := (s₁.setTop (mkF m 61 #[.val (.int c0)] [(.int (1 : Int32))]))) (fun _ k => XS.iconst X0.here hx rfl (hb hby dfb_60) k) ?_
                  refine Goes.pre (S' := (s₁.setTop (mkF m 65 #[.val (.int c0)] [(.int (1 : Int32))]))) (fun _ k => XS.goto X0.here hx rfl (pc0 := 61) (pc' := 65) rfl (hb hby dfb_61) (by decide) (by decide) k) ?_
                  have hf : own_fb c0 := by simp [own_fb, c3, c9, c15, c21, c27, c33, c45, c51]
                  exact Goes.retN X0 hx hlk (t := .boolean) Bd.returns (by simp) (hb hby dfb_65) ⟨Or.inl ⟨rfl, hf⟩, N0, e0⟩ (by first | decide | exact Nat.le_of_ble_eq_true rfl | assumption | (simp [Value.category]; done)) (by first | decide | exact Nat.le_of_ble_eq_true rfl | assumption | (simp [Value.category]; done))
                · skip
                  refine Goes.pre (S' := (s₁.setTop (mkF m 54 #[.val (.int c0)] []))) (fun _ k => XS.icmpNo X0.here hx rfl (hb hby dfb_51) rfl (XT.ii_eq_f c51) k) ?_
                  refine Goes.pre (S' := (s₁.setTop (mkF m 55 #[.val (.int c0)] [(.int c0)]))) (fun _ k => XS.iloadN X0.here hx rfl (hb hby dfb_54) rfl k) ?_
                  refine Goes.pre (S' := (s₁.setTop (mkF m 57 #[.val (.int c0)] [(.int (1114111 : Int32)), (.int c0)]))) (fun _ k => Jvm.Stand.ldcI X0 hx hown (mvT hZ (hw _ (List.mem_of_getElem? (i := 5) rfl))) rfl (hb hby dfb_55) k) ?_
                  by_cases c57 : (1114111 : Int32) < c0
                  · skip
                    refine Goes.pre (S' := (s₁.setTop (mkF m 60 #[.val (.int c0)] []))) (fun _ k => XS.icmpNo X0.here hx rfl (hb hby dfb_57) rfl (XT.ii_le_f c57) k) ?_
                    refine Goes.pre (S' := (s₁.setTop (mkF m 61 #[.val (.int c0)] [(.int (1 : Int32))]))) (fun _ k => XS.iconst X0.here hx rfl (hb hby dfb_60) k) ?_
                    refine Goes.pre (S' := (s₁.setTop (mkF m 65 #[.val (.int c0)] [(.int (1 : Int32))]))) (fun _ k => XS.goto X0.here hx rfl (pc0 := 61) (pc' := 65) rfl (hb hby dfb_61) (by decide) (by decide) k) ?_
                    have hf : own_fb c0 := by simp [own_fb, c3, c9, c15, c21, c27, c33, c45, c51, c57]
                    exact Goes.retN X0 hx hlk (t := .boolean) Bd.returns (by simp) (hb hby dfb_65) ⟨Or.inl ⟨rfl, hf⟩, N0, e0⟩ (by first | decide | exact Nat.le_of_ble_eq_true rfl | assumption | (simp [Value.category]; done)) (by first | decide | exact Nat.le_of_ble_eq_true rfl | assumption | (simp [Value.category]; done))
                  · skip
                    refine Goes.pre (S' := (s₁.setTop (mkF m 64 #[.val (.int c0)] []))) (fun _ k => XS.icmpYes X0.here hx rfl (pc0 := 57) (pc' := 64) rfl (hb hby dfb_57) rfl (XT.ii_le_t c57) (by decide) (by decide) k) ?_
                    refine Goes.pre (S' := (s₁.setTop (mkF m 65 #[.val (.int c0)] [(.int (0 : Int32))]))) (fun _ k => XS.iconst X0.here hx rfl (hb hby dfb_64) k) ?_
                    have hf : ¬ own_fb c0 := by simp [own_fb, c3, c9, c15, c21, c27, c33, c45, c51, c57]
                    exact Goes.retN X0 hx hlk (t := .boolean) Bd.returns (by simp) (hb hby dfb_65) ⟨Or.inr ⟨rfl, hf⟩, N0, e0⟩ (by first | decide | exact Nat.le_of_ble_eq_true rfl | assumption | (simp [Value.category]; done)) (by first | decide | exact Nat.le_of_ble_eq_true rfl | assumption | (simp [Value.category]; done))
            · skip
              refine Goes.pre (S' := (s₁.setTop (mkF m 36 #[.val (.int c0)] []))) (fun _ k => XS.icmpNo X0.here hx rfl (hb hby dfb_33) rfl (XT.ii_lt_f c33) k) ?_
              refine Goes.pre (S' := (s₁.setTop (mkF m 37 #[.val (.int c0)] [(.int c0)]))) (fun _ k => XS.iloadN X0.here hx rfl (hb hby dfb_36) rfl k) ?_
              refine Goes.pre (S' := (s₁.setTop (mkF m 39 #[.val (.int c0)] [(.int (57343 : Int32)), (.int c0)]))) (fun _ k => Jvm.Stand.ldcI X0 hx hown (mvT hZ (hw _ (List.mem_of_getElem? (i := 21) rfl))) rfl (hb hby dfb_37) k) ?_
              by_cases c39 : (57343 : Int32) < c0
              · skip
                refine Goes.pre (S' := (s₁.setTop (mkF m 42 #[.val (.int c0)] []))) (fun _ k => XS.icmpNo X0.here hx rfl (hb hby dfb_39) rfl (XT.ii_le_f c39) k) ?_
                refine Goes.pre (S' := (s₁.setTop (mkF m 43 #[.val (.int c0)] [(.int c0)]))) (fun _ k => XS.iloadN X0.here hx rfl (hb hby dfb_42) rfl k) ?_
                refine Goes.pre (S' := (s₁.setTop (mkF m 45 #[.val (.int c0)] [(.int (65534 : Int32)), (.int c0)]))) (fun _ k => Jvm.Stand.ldcI X0 hx hown (mvT hZ (hw _ (List.mem_of_getElem? (i := 19) rfl))) rfl (hb hby dfb_43) k) ?_
                by_cases c45 : c0 = (65534 : Int32)
                · skip
                  refine Goes.pre (S' := (s₁.setTop (mkF m 60 #[.val (.int c0)] []))) (fun _ k => XS.icmpYes X0.here hx rfl (pc0 := 45) (pc' := 60) rfl (hb hby dfb_45) rfl (XT.ii_eq_t c45) (by decide) (by decide) k) ?_
                  refine Goes.pre (S' := (s₁.setTop (mkF m 61 #[.val (.int c0)] [(.int (1 : Int32))]))) (fun _ k => XS.iconst X0.here hx rfl (hb hby dfb_60) k) ?_
                  refine Goes.pre (S' := (s₁.setTop (mkF m 65 #[.val (.int c0)] [(.int (1 : Int32))]))) (fun _ k => XS.goto X0.here hx rfl (pc0 := 61) (pc' := 65) rfl (hb hby dfb_61) (by decide) (by decide) k) ?_
                  have hf : own_fb c0 := by simp [own_fb, c3, c9, c15, c21, c27, c33, c39, c45]
                  exact Goes.retN X0 hx hlk (t := .boolean) Bd.returns (by simp) (hb hby dfb_65) ⟨Or.inl ⟨rfl, hf⟩, N0, e0⟩ (by first | decide | exact Nat.le_of_ble_eq_true rfl | assumption | (simp [Value.category]; done)) (by first | decide | exact Nat.le_of_ble_eq_true rfl | assumption | (simp [Value.category]; done))
                · skip
                  refine Goes.pre (S' := (s₁.setTop (mkF m 48 #[.val (.int c0)] []))) (fun _ k => XS.icmpNo X0.here hx rfl (hb hby dfb_45) rfl (XT.ii_eq_f c45) k) ?_
                  refine Goes.pre (S' := (s₁.setTop (mkF m 49 #[.val (.int c0)] [(.int c0)]))) (fun _ k => XS.iloadN X0.here hx rfl (hb hby dfb_48) rfl k) ?_
                  refine Goes.pre (S' := (s₁.setTop (mkF m 51 #[.val (.int c0)] [(.int (65535 : Int32)), (.int c0)]))) (fun _ k => Jvm.Stand.ldcI X0 hx hown (mvT hZ (hw _ (List.mem_of_getElem? (i := 20) rfl))) rfl (hb hby dfb_49) k) ?_
                  by_cases c51 : c0 = (65535 : Int32)
                  · skip
                    refine Goes.pre (S' := (s₁.setTop (mkF m 60 #[.val (.int c0)] []))) (fun _ k => XS.icmpYes X0.here hx rfl (pc0 := 51) (pc' := 60) rfl (hb hby dfb_51) rfl (XT.ii_eq_t c51) (by decide) (by decide) k) ?_
                    refine Goes.pre (S' := (s₁.setTop (mkF m 61 #[.val (.int c0)] [(.int (1 : Int32))]))) (fun _ k => XS.iconst X0.here hx rfl (hb hby dfb_60) k) ?_
                    refine Goes.pre (S' := (s₁.setTop (mkF m 65 #[.val (.int c0)] [(.int (1 : Int32))]))) (fun _ k => XS.goto X0.here hx rfl (pc0 := 61) (pc' := 65) rfl (hb hby dfb_61) (by decide) (by decide) k) ?_
                    have hf : own_fb c0 := by simp [own_fb, c3, c9, c15, c21, c27, c33, c39, c45, c51]
                    exact Goes.retN X0 hx hlk (t := .boolean) Bd.returns (by simp) (hb hby dfb_65) ⟨Or.inl ⟨rfl, hf⟩, N0, e0⟩ (by first | decide | exact Nat.le_of_ble_eq_true rfl | assumption | (simp [Value.category]; done)) (by first | decide | exact Nat.le_of_ble_eq_true rfl | assumption | (simp [Value.category]; done))
                  · skip
                    refine Goes.pre (S' := (s₁.setTop (mkF m 54 #[.val (.int c0)] []))) (fun _ k => XS.icmpNo X0.here hx rfl (hb hby dfb_51) rfl (XT.ii_eq_f c51) k) ?_
                    refine Goes.pre (S' := (s₁.setTop (mkF m 55 #[.val (.int c0)] [(.int c0)]))) (fun _ k => XS.iloadN X0.here hx rfl (hb hby dfb_54) rfl k) ?_
                    refine Goes.pre (S' := (s₁.setTop (mkF m 57 #[.val (.int c0)] [(.int (1114111 : Int32)), (.int c0)]))) (fun _ k => Jvm.Stand.ldcI X0 hx hown (mvT hZ (hw _ (List.mem_of_getElem? (i := 5) rfl))) rfl (hb hby dfb_55) k) ?_
                    by_cases c57 : (1114111 : Int32) < c0
                    · skip
                      refine Goes.pre (S' := (s₁.setTop (mkF m 60 #[.val (.int c0)] []))) (fun _ k => XS.icmpNo X0.here hx rfl (hb hby dfb_57) rfl (XT.ii_le_f c57) k) ?_
                      refine Goes.pre (S' := (s₁.setTop (mkF m 61 #[.val (.int c0)] [(.int (1 : Int32))]))) (fun _ k => XS.iconst X0.here hx rfl (hb hby dfb_60) k) ?_
                      refine Goes.pre (S' := (s₁.setTop (mkF m 65 #[.val (.int c0)] [(.int (1 : Int32))]))) (fun _ k => XS.goto X0.here hx rfl (pc0 := 61) (pc' := 65) rfl (hb hby dfb_61) (by decide) (by decide) k) ?_
                      have hf : own_fb c0 := by simp [own_fb, c3, c9, c15, c21, c27, c33, c39, c45, c51, c57]
                      exact Goes.retN X0 hx hlk (t := .boolean) Bd.returns (by simp) (hb hby dfb_65) ⟨Or.inl ⟨rfl, hf⟩, N0, e0⟩ (by first | decide | exact Nat.le_of_ble_eq_true rfl | assumption | (simp [Value.category]; done)) (by first | decide | exact Nat.le_of_ble_eq_true rfl | assumption | (simp [Value.category]; done))
                    · skip
                      refine Goes.pre (S' := (s₁.setTop (mkF m 64 #[.val (.int c0)] []))) (fun _ k => XS.icmpYes X0.here hx rfl (pc0 := 57) (pc' := 64) rfl (hb hby dfb_57) rfl (XT.ii_le_t c57) (by decide) (by decide) k) ?_
                      refine Goes.pre (S' := (s₁.setTop (mkF m 65 #[.val (.int c0)] [(.int (0 : Int32))]))) (fun _ k => XS.iconst X0.here hx rfl (hb hby dfb_64) k) ?_
                      have hf : ¬ own_fb c0 := by simp [own_fb, c3, c9, c15, c21, c27, c33, c39, c45, c51, c57]
                      exact Goes.retN X0 hx hlk (t := .boolean) Bd.returns (by simp) (hb hby dfb_65) ⟨Or.inr ⟨rfl, hf⟩, N0, e0⟩ (by first | decide | exact Nat.le_of_ble_eq_true rfl | assumption | (simp [Value.category]; done)) (by first | decide | exact Nat.le_of_ble_eq_true rfl | assumption | (simp [Value.category]; done))
              · skip
                refine Goes.pre (S' := (s₁.setTop (mkF m 60 #[.val (.int c0)] []))) (fun _ k => XS.icmpYes X0.here hx rfl (pc0 := 39) (pc' := 60) rfl (hb hby dfb_39) rfl (XT.ii_le_t c39) (by decide) (by decide) k) ?_
                refine Goes.pre (S' := (s₁.setTop (mkF m 61 #[.val (.int c0)] [(.int (1 : Int32))]))) (fun _ k => XS.iconst X0.here hx rfl (hb hby dfb_60) k) ?_
                refine Goes.pre (S' := (s₁.setTop (mkF m 65 #[.val (.int c0)] [(.int (1 : Int32))]))) (fun _ k => XS.goto X0.here hx rfl (pc0 := 61) (pc' := 65) rfl (hb hby dfb_61) (by decide) (by decide) k) ?_
                have hf : own_fb c0 := by simp [own_fb, c3, c9, c15, c21, c27, c33, c39]
                exact Goes.retN X0 hx hlk (t := .boolean) Bd.returns (by simp) (hb hby dfb_65) ⟨Or.inl ⟨rfl, hf⟩, N0, e0⟩ (by first | decide | exact Nat.le_of_ble_eq_true rfl | assumption | (simp [Value.category]; done)) (by first | decide | exact Nat.le_of_ble_eq_true rfl | assumption | (simp [Value.category]; done))
          · skip
            refine Goes.pre (S' := (s₁.setTop (mkF m 60 #[.val (.int c0)] []))) (fun _ k => XS.icmpYes X0.here hx rfl (pc0 := 27) (pc' := 60) rfl (hb hby dfb_27) rfl (XT.ii_le_t c27) (by decide) (by decide) k) ?_
            refine Goes.pre (S' := (s₁.setTop (mkF m 61 #[.val (.int c0)] [(.int (1 : Int32))]))) (fun _ k => XS.iconst X0.here hx rfl (hb hby dfb_60) k) ?_
            refine Goes.pre (S' := (s₁.setTop (mkF m 65 #[.val (.int c0)] [(.int (1 : Int32))]))) (fun _ k => XS.goto X0.here hx rfl (pc0 := 61) (pc' := 65) rfl (hb hby dfb_61) (by decide) (by decide) k) ?_
            have hf : own_fb c0 := by simp [own_fb, c3, c9, c15, c21, c27]
            exact Goes.retN X0 hx hlk (t := .boolean) Bd.returns (by simp) (hb hby dfb_65) ⟨Or.inl ⟨rfl, hf⟩, N0, e0⟩ (by first | decide | exact Nat.le_of_ble_eq_true rfl | assumption | (simp [Value.category]; done)) (by first | decide | exact Nat.le_of_ble_eq_true rfl | assumption | (simp [Value.category]; done))
theorem pn_law : plainName "com/example/notarix/notarix/xml/XmlIsCharacterPinLaw" = true := by first | (simp [plainName, overriddenIn]; done) | decide +kernel
theorem own_idx (x : Int32) : ¬ ((x &&& 2147483647) % 10) < 0 ∧ ((x &&& 2147483647) % 10) < 10 := by
  have h0 := own_mask31 x
  have h1 := own_rem (x &&& 2147483647) 10 h0 (by decide)
  exact h1
def Q_law (h0 : Heap) (n0 : Nat) (v : Option Value) (h : Heap) (L : List Loc) : Prop := v = some (.int 1) ∧ Fr n0 L
theorem ef_law (m : MethodId) (i0 : Int32) (i1 : Int32) (i2 : Int32) : entryFrame m #[(.int i0), (.int i1), (.int i2)] maxLocals = mkF m 0 #[.val (.int i0), .val (.int i1), .val (.int i2), .unset, .unset, .unset, .unset] [] := by first | (simp [entryFrame, mkF, argsToLocals, Value.category, maxLocals]; done) | rfl
set_option maxRecDepth 65536 in
set_option maxHeartbeats 40000000 in
theorem rm_law (l : Launch) (Z : State) (a0 : Array Value) (hw : ∀ d ∈ tables_1, d.before a0 Z = true) (ws : List Jvm.Cond) (i0 : Int32) (i1 : Int32) (i2 : Int32)  (h0 : Heap) (n0 : Nat) (Z0 : n0 ≤ h0.size)  :
    Ctr l Z x code maxLocals ret ws room_1 #[(.int i0), (.int i1), (.int i2)] h0 (Q_law h0 n0) := by
  refine MetFree.of_bodySF (plainFor_of_name pn_law) hisR ?_
  intro p e s m args below meth c s₁ Bd hml0 hP hK
  obtain ⟨rfl, hZ, hh⟩ := hP
  have hx := Bd.exec
  have hby := Bd.bytes
  have hlk : meth.locks = false := Bd.notSynchronized
  have hml : c.maxLocals = 7 := hml0
  have hown : s.vm.findClass "com/example/notarix/notarix/xml/XmlIsCharacterPinLaw" = some m.cls := findClass_of_methodNamed Bd.named
  have hnm := (name_of_methodNamed Bd.named Bd.method).1
  have X0 : Stand p l e room_1 s m #[(.int i0), (.int i1), (.int i2)] below meth c s₁ [] 0 0 := Stand.of_body Bd
  have e0 : s₁.heap = h0 := by rw [← hh, Bd.state]; rfl
  have N0 := Fr.nil n0
  show Goes p e below (EndQ s (Q_law h0 n0) room_1.cells room_1.slots) (s₁.setTop (entryFrame m #[(.int i0), (.int i1), (.int i2)] maxLocals))
  refine Goes.pre (S' := (s₁.setTop (mkF m 0 #[.val (.int i0), .val (.int i1), .val (.int i2), .unset, .unset, .unset, .unset] []))) (fun t k => castTop (ef_law m i0 i1 i2) k) ?_
  refine Goes.pre (S' := (s₁.setTop (mkF m 2 #[.val (.int i0), .val (.int i1), .val (.int i2), .unset, .unset, .unset, .unset] [(.int (10 : Int32))]))) (fun _ k => XS.bipush X0.here hx rfl (hb hby at_0) k) ?_
  obtain ⟨T1, h1, k1, X1, e1, E1, A1, st1⟩ := newP X0 hx hZ (hw _ (List.mem_of_getElem? (i := 0) rfl)) e0 (g := (mkF m 2 #[.val (.int i0), .val (.int i1), .val (.int i2), .unset, .unset, .unset, .unset] [(.int (10 : Int32))])) rfl (hb hby at_2) rfl (by decide) (cap := 10) (by decide) (by decide) (by decide) (by decide)
  obtain ⟨b1, g1⟩ : ∃ z, z = h0.size := ⟨_, rfl⟩
  rw [← g1] at A1 st1
  have V1 : Arv Z h1 b1 k1 .int (10 : Int32) [(.int (0 : Int32)), (.int (0 : Int32)), (.int (0 : Int32)), (.int (0 : Int32)), (.int (0 : Int32)), (.int (0 : Int32)), (.int (0 : Int32)), (.int (0 : Int32)), (.int (0 : Int32)), (.int (0 : Int32))] (.int (0 : Int32)) := (Arv.new A1 (by decide)).pad (pad_rep [] (.int (0 : Int32)) 10)
  have gb1 : n0 ≤ b1 := Nat.le_trans Z0 (Nat.le_of_eq g1.symm)
  have Zn1 : n0 ≤ h1.size := Nat.le_trans Z0 E1.1
  refine Goes.pre (S' := (T1.setTop (mkF m 4 #[.val (.int i0), .val (.int i1), .val (.int i2), .unset, .unset, .unset, .unset] [(.ref b1)]))) st1 ?_
  refine Goes.pre (S' := (T1.setTop (mkF m 5 #[.val (.int i0), .val (.int i1), .val (.int i2), .unset, .unset, .unset, .unset] [(.ref b1), (.ref b1)]))) (fun _ k => XS.dup X1.here hx rfl (hb hby at_4) rfl rfl k) ?_
  refine Goes.pre (S' := (T1.setTop (mkF m 6 #[.val (.int i0), .val (.int i1), .val (.int i2), .unset, .unset, .unset, .unset] [(.int (0 : Int32)), (.ref b1), (.ref b1)]))) (fun _ k => XS.iconst X1.here hx rfl (hb hby at_5) k) ?_
  refine Goes.pre (S' := (T1.setTop (mkF m 8 #[.val (.int i0), .val (.int i1), .val (.int i2), .unset, .unset, .unset, .unset] [(.int (9 : Int32)), (.int (0 : Int32)), (.ref b1), (.ref b1)]))) (fun _ k => XS.bipush X1.here hx rfl (hb hby at_6) k) ?_
  obtain ⟨cl2, Ar2, q2, S2, M2, H2, G2⟩ := V1
  obtain ⟨T2, h2, X2, e2, W2, st2⟩ := stI X1 hx hZ e1 Ar2 (j := (0 : Int32)) (inb_of S2 ⟨by decide, by decide⟩) (g := (mkF m 8 #[.val (.int i0), .val (.int i1), .val (.int i2), .unset, .unset, .unset, .unset] [(.int (9 : Int32)), (.int (0 : Int32)), (.ref b1), (.ref b1)])) rfl rfl (hb hby at_8)
  have U0 := Arv.set Ar2 q2 S2 M2 H2 G2 rfl W2 0 rfl (Nat.le_of_ble_eq_true rfl)
  have N2 := Fr.snoc X2 N0 gb1
  have Zn2 : n0 ≤ h2.size := Nat.le_trans Zn1 (Nat.le_of_eq W2.size.symm)
  refine Goes.pre (S' := (T2.setTop (mkF m 9 #[.val (.int i0), .val (.int i1), .val (.int i2), .unset, .unset, .unset, .unset] [(.ref b1)]))) st2 ?_
  refine Goes.pre (S' := (T2.setTop (mkF m 10 #[.val (.int i0), .val (.int i1), .val (.int i2), .unset, .unset, .unset, .unset] [(.ref b1), (.ref b1)]))) (fun _ k => XS.dup X2.here hx rfl (hb hby at_9) rfl rfl k) ?_
  refine Goes.pre (S' := (T2.setTop (mkF m 11 #[.val (.int i0), .val (.int i1), .val (.int i2), .unset, .unset, .unset, .unset] [(.int (1 : Int32)), (.ref b1), (.ref b1)]))) (fun _ k => XS.iconst X2.here hx rfl (hb hby at_10) k) ?_
  refine Goes.pre (S' := (T2.setTop (mkF m 13 #[.val (.int i0), .val (.int i1), .val (.int i2), .unset, .unset, .unset, .unset] [(.int (10 : Int32)), (.int (1 : Int32)), (.ref b1), (.ref b1)]))) (fun _ k => XS.bipush X2.here hx rfl (hb hby at_11) k) ?_
  obtain ⟨cl3, Ar3, q3, S3, M3, H3, G3⟩ := U0
  obtain ⟨T3, h3, X3, e3, W3, st3⟩ := stI X2 hx hZ e2 Ar3 (j := (1 : Int32)) (inb_of S3 ⟨by decide, by decide⟩) (g := (mkF m 13 #[.val (.int i0), .val (.int i1), .val (.int i2), .unset, .unset, .unset, .unset] [(.int (10 : Int32)), (.int (1 : Int32)), (.ref b1), (.ref b1)])) rfl rfl (hb hby at_13)
  have U1 := Arv.set Ar3 q3 S3 M3 H3 G3 rfl W3 1 rfl (Nat.le_of_ble_eq_true rfl)
  have N3 := Fr.snoc X3 N2 gb1
  have Zn3 : n0 ≤ h3.size := Nat.le_trans Zn2 (Nat.le_of_eq W3.size.symm)
  refine Goes.pre (S' := (T3.setTop (mkF m 14 #[.val (.int i0), .val (.int i1), .val (.int i2), .unset, .unset, .unset, .unset] [(.ref b1)]))) st3 ?_
  refine Goes.pre (S' := (T3.setTop (mkF m 15 #[.val (.int i0), .val (.int i1), .val (.int i2), .unset, .unset, .unset, .unset] [(.ref b1), (.ref b1)]))) (fun _ k => XS.dup X3.here hx rfl (hb hby at_14) rfl rfl k) ?_
  refine Goes.pre (S' := (T3.setTop (mkF m 16 #[.val (.int i0), .val (.int i1), .val (.int i2), .unset, .unset, .unset, .unset] [(.int (2 : Int32)), (.ref b1), (.ref b1)]))) (fun _ k => XS.iconst X3.here hx rfl (hb hby at_15) k) ?_
  refine Goes.pre (S' := (T3.setTop (mkF m 18 #[.val (.int i0), .val (.int i1), .val (.int i2), .unset, .unset, .unset, .unset] [(.int (13 : Int32)), (.int (2 : Int32)), (.ref b1), (.ref b1)]))) (fun _ k => XS.bipush X3.here hx rfl (hb hby at_16) k) ?_
  obtain ⟨cl4, Ar4, q4, S4, M4, H4, G4⟩ := U1
  obtain ⟨T4, h4, X4, e4, W4, st4⟩ := stI X3 hx hZ e3 Ar4 (j := (2 : Int32)) (inb_of S4 ⟨by decide, by decide⟩) (g := (mkF m 18 #[.val (.int i0), .val (.int i1), .val (.int i2), .unset, .unset, .unset, .unset] [(.int (13 : Int32)), (.int (2 : Int32)), (.ref b1), (.ref b1)])) rfl rfl (hb hby at_18)
  have U2 := Arv.set Ar4 q4 S4 M4 H4 G4 rfl W4 2 rfl (Nat.le_of_ble_eq_true rfl)
  have N4 := Fr.snoc X4 N3 gb1
  have Zn4 : n0 ≤ h4.size := Nat.le_trans Zn3 (Nat.le_of_eq W4.size.symm)
  refine Goes.pre (S' := (T4.setTop (mkF m 19 #[.val (.int i0), .val (.int i1), .val (.int i2), .unset, .unset, .unset, .unset] [(.ref b1)]))) st4 ?_
  refine Goes.pre (S' := (T4.setTop (mkF m 20 #[.val (.int i0), .val (.int i1), .val (.int i2), .unset, .unset, .unset, .unset] [(.ref b1), (.ref b1)]))) (fun _ k => XS.dup X4.here hx rfl (hb hby at_19) rfl rfl k) ?_
  refine Goes.pre (S' := (T4.setTop (mkF m 21 #[.val (.int i0), .val (.int i1), .val (.int i2), .unset, .unset, .unset, .unset] [(.int (3 : Int32)), (.ref b1), (.ref b1)]))) (fun _ k => XS.iconst X4.here hx rfl (hb hby at_20) k) ?_
  refine Goes.pre (S' := (T4.setTop (mkF m 23 #[.val (.int i0), .val (.int i1), .val (.int i2), .unset, .unset, .unset, .unset] [(.int (32 : Int32)), (.int (3 : Int32)), (.ref b1), (.ref b1)]))) (fun _ k => XS.bipush X4.here hx rfl (hb hby at_21) k) ?_
  obtain ⟨cl5, Ar5, q5, S5, M5, H5, G5⟩ := U2
  obtain ⟨T5, h5, X5, e5, W5, st5⟩ := stI X4 hx hZ e4 Ar5 (j := (3 : Int32)) (inb_of S5 ⟨by decide, by decide⟩) (g := (mkF m 23 #[.val (.int i0), .val (.int i1), .val (.int i2), .unset, .unset, .unset, .unset] [(.int (32 : Int32)), (.int (3 : Int32)), (.ref b1), (.ref b1)])) rfl rfl (hb hby at_23)
  have U3 := Arv.set Ar5 q5 S5 M5 H5 G5 rfl W5 3 rfl (Nat.le_of_ble_eq_true rfl)
  have N5 := Fr.snoc X5 N4 gb1
  have Zn5 : n0 ≤ h5.size := Nat.le_trans Zn4 (Nat.le_of_eq W5.size.symm)
  refine Goes.pre (S' := (T5.setTop (mkF m 24 #[.val (.int i0), .val (.int i1), .val (.int i2), .unset, .unset, .unset, .unset] [(.ref b1)]))) st5 ?_
  refine Goes.pre (S' := (T5.setTop (mkF m 25 #[.val (.int i0), .val (.int i1), .val (.int i2), .unset, .unset, .unset, .unset] [(.ref b1), (.ref b1)]))) (fun _ k => XS.dup X5.here hx rfl (hb hby at_24) rfl rfl k) ?_
  refine Goes.pre (S' := (T5.setTop (mkF m 26 #[.val (.int i0), .val (.int i1), .val (.int i2), .unset, .unset, .unset, .unset] [(.int (4 : Int32)), (.ref b1), (.ref b1)]))) (fun _ k => XS.iconst X5.here hx rfl (hb hby at_25) k) ?_
  refine Goes.pre (S' := (T5.setTop (mkF m 28 #[.val (.int i0), .val (.int i1), .val (.int i2), .unset, .unset, .unset, .unset] [(.int (55295 : Int32)), (.int (4 : Int32)), (.ref b1), (.ref b1)]))) (fun _ k => Jvm.Stand.ldcI X5 hx hown (mvT hZ (hw _ (List.mem_of_getElem? (i := 1) rfl))) rfl (hb hby at_26) k) ?_
  obtain ⟨cl6, Ar6, q6, S6, M6, H6, G6⟩ := U3
  obtain ⟨T6, h6, X6, e6, W6, st6⟩ := stI X5 hx hZ e5 Ar6 (j := (4 : Int32)) (inb_of S6 ⟨by decide, by decide⟩) (g := (mkF m 28 #[.val (.int i0), .val (.int i1), .val (.int i2), .unset, .unset, .unset, .unset] [(.int (55295 : Int32)), (.int (4 : Int32)), (.ref b1), (.ref b1)])) rfl rfl (hb hby at_28)
  have U4 := Arv.set Ar6 q6 S6 M6 H6 G6 rfl W6 4 rfl (Nat.le_of_ble_eq_true rfl)
  have N6 := Fr.snoc X6 N5 gb1
  have Zn6 : n0 ≤ h6.size := Nat.le_trans Zn5 (Nat.le_of_eq W6.size.symm)
  refine Goes.pre (S' := (T6.setTop (mkF m 29 #[.val (.int i0), .val (.int i1), .val (.int i2), .unset, .unset, .unset, .unset] [(.ref b1)]))) st6 ?_
  refine Goes.pre (S' := (T6.setTop (mkF m 30 #[.val (.int i0), .val (.int i1), .val (.int i2), .unset, .unset, .unset, .unset] [(.ref b1), (.ref b1)]))) (fun _ k => XS.dup X6.here hx rfl (hb hby at_29) rfl rfl k) ?_
  refine Goes.pre (S' := (T6.setTop (mkF m 31 #[.val (.int i0), .val (.int i1), .val (.int i2), .unset, .unset, .unset, .unset] [(.int (5 : Int32)), (.ref b1), (.ref b1)]))) (fun _ k => XS.iconst X6.here hx rfl (hb hby at_30) k) ?_
  refine Goes.pre (S' := (T6.setTop (mkF m 33 #[.val (.int i0), .val (.int i1), .val (.int i2), .unset, .unset, .unset, .unset] [(.int (57344 : Int32)), (.int (5 : Int32)), (.ref b1), (.ref b1)]))) (fun _ k => Jvm.Stand.ldcI X6 hx hown (mvT hZ (hw _ (List.mem_of_getElem? (i := 2) rfl))) rfl (hb hby at_31) k) ?_
  obtain ⟨cl7, Ar7, q7, S7, M7, H7, G7⟩ := U4
  obtain ⟨T7, h7, X7, e7, W7, st7⟩ := stI X6 hx hZ e6 Ar7 (j := (5 : Int32)) (inb_of S7 ⟨by decide, by decide⟩) (g := (mkF m 33 #[.val (.int i0), .val (.int i1), .val (.int i2), .unset, .unset, .unset, .unset] [(.int (57344 : Int32)), (.int (5 : Int32)), (.ref b1), (.ref b1)])) rfl rfl (hb hby at_33)
  have U5 := Arv.set Ar7 q7 S7 M7 H7 G7 rfl W7 5 rfl (Nat.le_of_ble_eq_true rfl)
  have N7 := Fr.snoc X7 N6 gb1
  have Zn7 : n0 ≤ h7.size := Nat.le_trans Zn6 (Nat.le_of_eq W7.size.symm)
  refine Goes.pre (S' := (T7.setTop (mkF m 34 #[.val (.int i0), .val (.int i1), .val (.int i2), .unset, .unset, .unset, .unset] [(.ref b1)]))) st7 ?_
  refine Goes.pre (S' := (T7.setTop (mkF m 35 #[.val (.int i0), .val (.int i1), .val (.int i2), .unset, .unset, .unset, .unset] [(.ref b1), (.ref b1)]))) (fun _ k => XS.dup X7.here hx rfl (hb hby at_34) rfl rfl k) ?_
  refine Goes.pre (S' := (T7.setTop (mkF m 37 #[.val (.int i0), .val (.int i1), .val (.int i2), .unset, .unset, .unset, .unset] [(.int (6 : Int32)), (.ref b1), (.ref b1)]))) (fun _ k => XS.bipush X7.here hx rfl (hb hby at_35) k) ?_
  refine Goes.pre (S' := (T7.setTop (mkF m 39 #[.val (.int i0), .val (.int i1), .val (.int i2), .unset, .unset, .unset, .unset] [(.int (65533 : Int32)), (.int (6 : Int32)), (.ref b1), (.ref b1)]))) (fun _ k => Jvm.Stand.ldcI X7 hx hown (mvT hZ (hw _ (List.mem_of_getElem? (i := 3) rfl))) rfl (hb hby at_37) k) ?_
  obtain ⟨cl8, Ar8, q8, S8, M8, H8, G8⟩ := U5
  obtain ⟨T8, h8, X8, e8, W8, st8⟩ := stI X7 hx hZ e7 Ar8 (j := (6 : Int32)) (inb_of S8 ⟨by decide, by decide⟩) (g := (mkF m 39 #[.val (.int i0), .val (.int i1), .val (.int i2), .unset, .unset, .unset, .unset] [(.int (65533 : Int32)), (.int (6 : Int32)), (.ref b1), (.ref b1)])) rfl rfl (hb hby at_39)
  have U6 := Arv.set Ar8 q8 S8 M8 H8 G8 rfl W8 6 rfl (Nat.le_of_ble_eq_true rfl)
  have N8 := Fr.snoc X8 N7 gb1
  have Zn8 : n0 ≤ h8.size := Nat.le_trans Zn7 (Nat.le_of_eq W8.size.symm)
  refine Goes.pre (S' := (T8.setTop (mkF m 40 #[.val (.int i0), .val (.int i1), .val (.int i2), .unset, .unset, .unset, .unset] [(.ref b1)]))) st8 ?_
  refine Goes.pre (S' := (T8.setTop (mkF m 41 #[.val (.int i0), .val (.int i1), .val (.int i2), .unset, .unset, .unset, .unset] [(.ref b1), (.ref b1)]))) (fun _ k => XS.dup X8.here hx rfl (hb hby at_40) rfl rfl k) ?_
  refine Goes.pre (S' := (T8.setTop (mkF m 43 #[.val (.int i0), .val (.int i1), .val (.int i2), .unset, .unset, .unset, .unset] [(.int (7 : Int32)), (.ref b1), (.ref b1)]))) (fun _ k => XS.bipush X8.here hx rfl (hb hby at_41) k) ?_
  refine Goes.pre (S' := (T8.setTop (mkF m 45 #[.val (.int i0), .val (.int i1), .val (.int i2), .unset, .unset, .unset, .unset] [(.int (65536 : Int32)), (.int (7 : Int32)), (.ref b1), (.ref b1)]))) (fun _ k => Jvm.Stand.ldcI X8 hx hown (mvT hZ (hw _ (List.mem_of_getElem? (i := 4) rfl))) rfl (hb hby at_43) k) ?_
  obtain ⟨cl9, Ar9, q9, S9, M9, H9, G9⟩ := U6
  obtain ⟨T9, h9, X9, e9, W9, st9⟩ := stI X8 hx hZ e8 Ar9 (j := (7 : Int32)) (inb_of S9 ⟨by decide, by decide⟩) (g := (mkF m 45 #[.val (.int i0), .val (.int i1), .val (.int i2), .unset, .unset, .unset, .unset] [(.int (65536 : Int32)), (.int (7 : Int32)), (.ref b1), (.ref b1)])) rfl rfl (hb hby at_45)
  have U7 := Arv.set Ar9 q9 S9 M9 H9 G9 rfl W9 7 rfl (Nat.le_of_ble_eq_true rfl)
  have N9 := Fr.snoc X9 N8 gb1
  have Zn9 : n0 ≤ h9.size := Nat.le_trans Zn8 (Nat.le_of_eq W9.size.symm)
  refine Goes.pre (S' := (T9.setTop (mkF m 46 #[.val (.int i0), .val (.int i1), .val (.int i2), .unset, .unset, .unset, .unset] [(.ref b1)]))) st9 ?_
  refine Goes.pre (S' := (T9.setTop (mkF m 47 #[.val (.int i0), .val (.int i1), .val (.int i2), .unset, .unset, .unset, .unset] [(.ref b1), (.ref b1)]))) (fun _ k => XS.dup X9.here hx rfl (hb hby at_46) rfl rfl k) ?_
  refine Goes.pre (S' := (T9.setTop (mkF m 49 #[.val (.int i0), .val (.int i1), .val (.int i2), .unset, .unset, .unset, .unset] [(.int (8 : Int32)), (.ref b1), (.ref b1)]))) (fun _ k => XS.bipush X9.here hx rfl (hb hby at_47) k) ?_
  refine Goes.pre (S' := (T9.setTop (mkF m 51 #[.val (.int i0), .val (.int i1), .val (.int i2), .unset, .unset, .unset, .unset] [(.int (1114111 : Int32)), (.int (8 : Int32)), (.ref b1), (.ref b1)]))) (fun _ k => Jvm.Stand.ldcI X9 hx hown (mvT hZ (hw _ (List.mem_of_getElem? (i := 5) rfl))) rfl (hb hby at_49) k) ?_
  obtain ⟨cl10, Ar10, q10, S10, M10, H10, G10⟩ := U7
  obtain ⟨T10, h10, X10, e10, W10, st10⟩ := stI X9 hx hZ e9 Ar10 (j := (8 : Int32)) (inb_of S10 ⟨by decide, by decide⟩) (g := (mkF m 51 #[.val (.int i0), .val (.int i1), .val (.int i2), .unset, .unset, .unset, .unset] [(.int (1114111 : Int32)), (.int (8 : Int32)), (.ref b1), (.ref b1)])) rfl rfl (hb hby at_51)
  have U8 := Arv.set Ar10 q10 S10 M10 H10 G10 rfl W10 8 rfl (Nat.le_of_ble_eq_true rfl)
  have N10 := Fr.snoc X10 N9 gb1
  have Zn10 : n0 ≤ h10.size := Nat.le_trans Zn9 (Nat.le_of_eq W10.size.symm)
  refine Goes.pre (S' := (T10.setTop (mkF m 52 #[.val (.int i0), .val (.int i1), .val (.int i2), .unset, .unset, .unset, .unset] [(.ref b1)]))) st10 ?_
  refine Goes.pre (S' := (T10.setTop (mkF m 53 #[.val (.int i0), .val (.int i1), .val (.int i2), .unset, .unset, .unset, .unset] [(.ref b1), (.ref b1)]))) (fun _ k => XS.dup X10.here hx rfl (hb hby at_52) rfl rfl k) ?_
  refine Goes.pre (S' := (T10.setTop (mkF m 55 #[.val (.int i0), .val (.int i1), .val (.int i2), .unset, .unset, .unset, .unset] [(.int (9 : Int32)), (.ref b1), (.ref b1)]))) (fun _ k => XS.bipush X10.here hx rfl (hb hby at_53) k) ?_
  refine Goes.pre (S' := (T10.setTop (mkF m 56 #[.val (.int i0), .val (.int i1), .val (.int i2), .unset, .unset, .unset, .unset] [(.int (0 : Int32)), (.int (9 : Int32)), (.ref b1), (.ref b1)]))) (fun _ k => XS.iconst X10.here hx rfl (hb hby at_55) k) ?_
  obtain ⟨cl11, Ar11, q11, S11, M11, H11, G11⟩ := U8
  obtain ⟨T11, h11, X11, e11, W11, st11⟩ := stI X10 hx hZ e10 Ar11 (j := (9 : Int32)) (inb_of S11 ⟨by decide, by decide⟩) (g := (mkF m 56 #[.val (.int i0), .val (.int i1), .val (.int i2), .unset, .unset, .unset, .unset] [(.int (0 : Int32)), (.int (9 : Int32)), (.ref b1), (.ref b1)])) rfl rfl (hb hby at_56)
  have U9 := Arv.set Ar11 q11 S11 M11 H11 G11 rfl W11 9 rfl (Nat.le_of_ble_eq_true rfl)
  have N11 := Fr.snoc X11 N10 gb1
  have Zn11 : n0 ≤ h11.size := Nat.le_trans Zn10 (Nat.le_of_eq W11.size.symm)
  refine Goes.pre (S' := (T11.setTop (mkF m 57 #[.val (.int i0), .val (.int i1), .val (.int i2), .unset, .unset, .unset, .unset] [(.ref b1)]))) st11 ?_
  refine Goes.pre (S' := (T11.setTop (mkF m 58 #[.val (.int i0), .val (.int i1), .val (.int i2), .val (.ref b1), .unset, .unset, .unset] []))) (fun _ k => XS.astoreN X11.here hx rfl (hb hby at_57) rfl rfl (l' := #[.val (.int i0), .val (.int i1), .val (.int i2), .val (.ref b1), .unset, .unset, .unset]) rfl k) ?_
  refine Goes.pre (S' := (T11.setTop (mkF m 59 #[.val (.int i0), .val (.int i1), .val (.int i2), .val (.ref b1), .unset, .unset, .unset] [(.ref b1)]))) (fun _ k => XS.aloadN X11.here hx rfl (hb hby at_58) rfl rfl k) ?_
  refine Goes.pre (S' := (T11.setTop (mkF m 60 #[.val (.int i0), .val (.int i1), .val (.int i2), .val (.ref b1), .unset, .unset, .unset] [(.int i1), (.ref b1)]))) (fun _ k => XS.iloadN X11.here hx rfl (hb hby at_59) rfl k) ?_
  refine Goes.pre (S' := (T11.setTop (mkF m 62 #[.val (.int i0), .val (.int i1), .val (.int i2), .val (.ref b1), .unset, .unset, .unset] [(.int (2147483647 : Int32)), (.int i1), (.ref b1)]))) (fun _ k => Jvm.Stand.ldcI X11 hx hown (mvT hZ (hw _ (List.mem_of_getElem? (i := 6) rfl))) rfl (hb hby at_60) k) ?_
  refine Goes.pre (S' := (T11.setTop (mkF m 63 #[.val (.int i0), .val (.int i1), .val (.int i2), .val (.ref b1), .unset, .unset, .unset] [(.int (i1 &&& (2147483647 : Int32))), (.ref b1)]))) (fun _ k => XS.iand X11.here hx rfl (hb hby at_62) rfl k) ?_
  refine Goes.pre (S' := (T11.setTop (mkF m 65 #[.val (.int i0), .val (.int i1), .val (.int i2), .val (.ref b1), .unset, .unset, .unset] [(.int (10 : Int32)), (.int (i1 &&& (2147483647 : Int32))), (.ref b1)]))) (fun _ k => XS.bipush X11.here hx rfl (hb hby at_63) k) ?_
  refine Goes.pre (S' := (T11.setTop (mkF m 66 #[.val (.int i0), .val (.int i1), .val (.int i2), .val (.ref b1), .unset, .unset, .unset] [(.int ((i1 &&& (2147483647 : Int32)) % (10 : Int32))), (.ref b1)]))) (fun _ k => iremM X11 hx rfl (hb hby at_65) rfl (by decide) k) ?_
  obtain ⟨z12, hz12⟩ : ∃ z : Int32, z = [(9 : Int32), (10 : Int32), (13 : Int32), (32 : Int32), (55295 : Int32), (57344 : Int32), (65533 : Int32), (65536 : Int32), (1114111 : Int32), (0 : Int32)].getD ((i1 &&& 2147483647) % 10).toNatClampNeg 0 := ⟨_, rfl⟩
  refine Goes.iaload X11 hx hZ e11 U9 (own_idx i1) (w := .int z12) (by rw [hz12]; exact own_ints [(9 : Int32), (10 : Int32), (13 : Int32), (32 : Int32), (55295 : Int32), (57344 : Int32), (65533 : Int32), (65536 : Int32), (1114111 : Int32), (0 : Int32)] _) (hb hby at_66) ?_
  show Goes p e below _ (T11.setTop (mkF m 67 #[.val (.int i0), .val (.int i1), .val (.int i2), .val (.ref b1), .unset, .unset, .unset] [(.int z12)]))
  refine Goes.pre (S' := (T11.setTop (mkF m 68 #[.val (.int i0), .val (.int i1), .val (.int i2), .val (.ref b1), .unset, .unset, .unset] [(.int i2), (.int z12)]))) (fun _ k => XS.iloadN X11.here hx rfl (hb hby at_67) rfl k) ?_
  refine Goes.pre (S' := (T11.setTop (mkF m 70 #[.val (.int i0), .val (.int i1), .val (.int i2), .val (.ref b1), .unset, .unset, .unset] [(.int (2147483647 : Int32)), (.int i2), (.int z12)]))) (fun _ k => Jvm.Stand.ldcI X11 hx hown (mvT hZ (hw _ (List.mem_of_getElem? (i := 6) rfl))) rfl (hb hby at_68) k) ?_
  refine Goes.pre (S' := (T11.setTop (mkF m 71 #[.val (.int i0), .val (.int i1), .val (.int i2), .val (.ref b1), .unset, .unset, .unset] [(.int (i2 &&& (2147483647 : Int32))), (.int z12)]))) (fun _ k => XS.iand X11.here hx rfl (hb hby at_70) rfl k) ?_
  refine Goes.pre (S' := (T11.setTop (mkF m 72 #[.val (.int i0), .val (.int i1), .val (.int i2), .val (.ref b1), .unset, .unset, .unset] [(.int (5 : Int32)), (.int (i2 &&& (2147483647 : Int32))), (.int z12)]))) (fun _ k => XS.iconst X11.here hx rfl (hb hby at_71) k) ?_
  refine Goes.pre (S' := (T11.setTop (mkF m 73 #[.val (.int i0), .val (.int i1), .val (.int i2), .val (.ref b1), .unset, .unset, .unset] [(.int ((i2 &&& (2147483647 : Int32)) % (5 : Int32))), (.int z12)]))) (fun _ k => iremM X11 hx rfl (hb hby at_72) rfl (by decide) k) ?_
  refine Goes.pre (S' := (T11.setTop (mkF m 74 #[.val (.int i0), .val (.int i1), .val (.int i2), .val (.ref b1), .unset, .unset, .unset] [(.int (2 : Int32)), (.int ((i2 &&& (2147483647 : Int32)) % (5 : Int32))), (.int z12)]))) (fun _ k => XS.iconst X11.here hx rfl (hb hby at_73) k) ?_
  refine Goes.pre (S' := (T11.setTop (mkF m 75 #[.val (.int i0), .val (.int i1), .val (.int i2), .val (.ref b1), .unset, .unset, .unset] [(.int (((i2 &&& (2147483647 : Int32)) % (5 : Int32)) - (2 : Int32))), (.int z12)]))) (fun _ k => XS.isub X11.here hx rfl (hb hby at_74) rfl k) ?_
  refine Goes.pre (S' := (T11.setTop (mkF m 76 #[.val (.int i0), .val (.int i1), .val (.int i2), .val (.ref b1), .unset, .unset, .unset] [(.int (z12 + (((i2 &&& (2147483647 : Int32)) % (5 : Int32)) - (2 : Int32))))]))) (fun _ k => XS.iadd X11.here hx rfl (hb hby at_75) rfl k) ?_
  refine Goes.pre (S' := (T11.setTop (mkF m 78 #[.val (.int i0), .val (.int i1), .val (.int i2), .val (.ref b1), .val (.int (z12 + (((i2 &&& (2147483647 : Int32)) % (5 : Int32)) - (2 : Int32)))), .unset, .unset] []))) (fun _ k => XS.istore X11.here hx rfl (hb hby at_76) rfl (l' := #[.val (.int i0), .val (.int i1), .val (.int i2), .val (.ref b1), .val (.int (z12 + (((i2 &&& (2147483647 : Int32)) % (5 : Int32)) - (2 : Int32)))), .unset, .unset]) rfl k) ?_
  refine Goes.pre (S' := (T11.setTop (mkF m 79 #[.val (.int i0), .val (.int i1), .val (.int i2), .val (.ref b1), .val (.int (z12 + (((i2 &&& (2147483647 : Int32)) % (5 : Int32)) - (2 : Int32)))), .unset, .unset] [(.int i0)]))) (fun _ k => XS.iloadN X11.here hx rfl (hb hby at_78) rfl k) ?_
  refine Goes.callS (y := (⟨"com/example/notarix/notarix/xml/Xml", "isCharacter", "(I)Z"⟩ : MethodName)) X11 hx hZ hown (hw _ (List.mem_of_getElem? (i := 7) rfl)) (hw _ (List.mem_of_getElem? (i := 8) rfl)) (hw _ (List.mem_of_getElem? (i := 9) rfl)) (hw _ (List.mem_of_getElem? (i := 10) rfl)) (by decide) e11 (rm_ic l Z a0 hw [] i0 h11 n0 Zn11) (by rw [hml]; rfl) [(.int i0)] [] pd_ic rfl rfl rfl (hb hby at_79) (by decide) (by first | decide | exact Nat.le_of_ble_eq_true rfl | assumption | (simp [Value.category]; done)) (by first | decide | exact Nat.le_of_ble_eq_true rfl | assumption | (simp [Value.category]; done)) (by first | decide | exact Nat.le_of_ble_eq_true rfl | assumption | (simp [Value.category]; done)) ?_
  intro T13 v13 L13 X13 q13
  obtain ⟨d13, N13a, e13⟩ := q13
  have N13 := Fr.app N11 N13a
  obtain ⟨r13, hr13⟩ : ∃ r : Int32, v13 = some (.int r) := by rcases d13 with ⟨q, -⟩ | ⟨q, -⟩ <;> exact ⟨_, q⟩
  subst hr13
  show Goes p e below _ (T13.setTop (mkF m 82 #[.val (.int i0), .val (.int i1), .val (.int i2), .val (.ref b1), .val (.int (z12 + (((i2 &&& (2147483647 : Int32)) % (5 : Int32)) - (2 : Int32)))), .unset, .unset] [(.int r13)]))
  refine Goes.pre (S' := (T13.setTop (mkF m 83 #[.val (.int i0), .val (.int i1), .val (.int i2), .val (.ref b1), .val (.int (z12 + (((i2 &&& (2147483647 : Int32)) % (5 : Int32)) - (2 : Int32)))), .unset, .unset] [(.int i0), (.int r13)]))) (fun _ k => XS.iloadN X13.here hx rfl (hb hby at_82) rfl k) ?_
  refine Goes.callS (y := (⟨"com/example/notarix/notarix/xml/XmlIsCharacterPinLaw", "forbidden", "(I)Z"⟩ : MethodName)) X13 hx hZ hown (hw _ (List.mem_of_getElem? (i := 13) rfl)) (hw _ (List.mem_of_getElem? (i := 14) rfl)) (hw _ (List.mem_of_getElem? (i := 15) rfl)) (hw _ (List.mem_of_getElem? (i := 16) rfl)) (by decide) e13 (rm_fb l Z a0 hw [] i0 h11 n0 Zn11) (by rw [hml]; rfl) [(.int i0)] [(.int r13)] pd_fb rfl rfl rfl (hb hby at_83) (by decide) (by first | decide | exact Nat.le_of_ble_eq_true rfl | assumption | (simp [Value.category]; done)) (by first | decide | exact Nat.le_of_ble_eq_true rfl | assumption | (simp [Value.category]; done)) (by first | decide | exact Nat.le_of_ble_eq_true rfl | assumption | (simp [Value.category]; done)) ?_
  intro T14 v14 L14 X14 q14
  obtain ⟨d14, N14a, e14⟩ := q14
  have N14 := Fr.app N13 N14a
  obtain ⟨r14, hr14⟩ : ∃ r : Int32, v14 = some (.int r) := by rcases d14 with ⟨q, -⟩ | ⟨q, -⟩ <;> exact ⟨_, q⟩
  subst hr14
  have rel14 : (r13 = 1 ∧ r14 = 0) ∨ (r13 = 0 ∧ r14 = 1) := by
    have A := own_law i0
    rcases d13 with ⟨q, a⟩ | ⟨q, a⟩ <;> rcases d14 with ⟨q2, a2⟩ | ⟨q2, a2⟩ <;> cases q <;> cases q2
    · exact absurd a2 (A.mp a)
    · exact Or.inl ⟨rfl, rfl⟩
    · exact Or.inr ⟨rfl, rfl⟩
    · exact absurd (A.mpr a2) a
  show Goes p e below _ (T14.setTop (mkF m 86 #[.val (.int i0), .val (.int i1), .val (.int i2), .val (.ref b1), .val (.int (z12 + (((i2 &&& (2147483647 : Int32)) % (5 : Int32)) - (2 : Int32)))), .unset, .unset] [(.int r14), (.int r13)]))
  rcases rel14 with ⟨rfl, rfl⟩ | ⟨rfl, rfl⟩
  · skip
    show Goes p e below _ (T14.setTop (mkF m 86 #[.val (.int i0), .val (.int i1), .val (.int i2), .val (.ref b1), .val (.int (z12 + (((i2 &&& (2147483647 : Int32)) % (5 : Int32)) - (2 : Int32)))), .unset, .unset] [(.int (0 : Int32)), (.int (1 : Int32))]))
    refine Goes.pre (S' := (T14.setTop (mkF m 89 #[.val (.int i0), .val (.int i1), .val (.int i2), .val (.ref b1), .val (.int (z12 + (((i2 &&& (2147483647 : Int32)) % (5 : Int32)) - (2 : Int32)))), .unset, .unset] [(.int (1 : Int32))]))) (fun _ k => XS.ifNo X14.here hx rfl (hb hby at_86) rfl (XT.i0_ne_f (by decide)) k) ?_
    refine Goes.pre (S' := (T14.setTop (mkF m 90 #[.val (.int i0), .val (.int i1), .val (.int i2), .val (.ref b1), .val (.int (z12 + (((i2 &&& (2147483647 : Int32)) % (5 : Int32)) - (2 : Int32)))), .unset, .unset] [(.int (1 : Int32)), (.int (1 : Int32))]))) (fun _ k => XS.iconst X14.here hx rfl (hb hby at_89) k) ?_
    refine Goes.pre (S' := (T14.setTop (mkF m 94 #[.val (.int i0), .val (.int i1), .val (.int i2), .val (.ref b1), .val (.int (z12 + (((i2 &&& (2147483647 : Int32)) % (5 : Int32)) - (2 : Int32)))), .unset, .unset] [(.int (1 : Int32)), (.int (1 : Int32))]))) (fun _ k => XS.goto X14.here hx rfl (pc0 := 90) (pc' := 94) rfl (hb hby at_90) (by decide) (by decide) k) ?_
    refine Goes.pre (S' := (T14.setTop (mkF m 97 #[.val (.int i0), .val (.int i1), .val (.int i2), .val (.ref b1), .val (.int (z12 + (((i2 &&& (2147483647 : Int32)) % (5 : Int32)) - (2 : Int32)))), .unset, .unset] []))) (fun _ k => XS.icmpNo X14.here hx rfl (hb hby at_94) rfl (XT.ii_ne_f rfl) k) ?_
    refine Goes.pre (S' := (T14.setTop (mkF m 98 #[.val (.int i0), .val (.int i1), .val (.int i2), .val (.ref b1), .val (.int (z12 + (((i2 &&& (2147483647 : Int32)) % (5 : Int32)) - (2 : Int32)))), .unset, .unset] [(.int (1 : Int32))]))) (fun _ k => XS.iconst X14.here hx rfl (hb hby at_97) k) ?_
    refine Goes.pre (S' := (T14.setTop (mkF m 102 #[.val (.int i0), .val (.int i1), .val (.int i2), .val (.ref b1), .val (.int (z12 + (((i2 &&& (2147483647 : Int32)) % (5 : Int32)) - (2 : Int32)))), .unset, .unset] [(.int (1 : Int32))]))) (fun _ k => XS.goto X14.here hx rfl (pc0 := 98) (pc' := 102) rfl (hb hby at_98) (by decide) (by decide) k) ?_
    refine Goes.pre (S' := (T14.setTop (mkF m 104 #[.val (.int i0), .val (.int i1), .val (.int i2), .val (.ref b1), .val (.int (z12 + (((i2 &&& (2147483647 : Int32)) % (5 : Int32)) - (2 : Int32)))), .val (.int (1 : Int32)), .unset] []))) (fun _ k => XS.istore X14.here hx rfl (hb hby at_102) rfl (l' := #[.val (.int i0), .val (.int i1), .val (.int i2), .val (.ref b1), .val (.int (z12 + (((i2 &&& (2147483647 : Int32)) % (5 : Int32)) - (2 : Int32)))), .val (.int (1 : Int32)), .unset]) rfl k) ?_
    refine Goes.pre (S' := (T14.setTop (mkF m 106 #[.val (.int i0), .val (.int i1), .val (.int i2), .val (.ref b1), .val (.int (z12 + (((i2 &&& (2147483647 : Int32)) % (5 : Int32)) - (2 : Int32)))), .val (.int (1 : Int32)), .unset] [(.int (z12 + (((i2 &&& (2147483647 : Int32)) % (5 : Int32)) - (2 : Int32))))]))) (fun _ k => XS.iload X14.here hx rfl (hb hby at_104) rfl k) ?_
    refine Goes.callS (y := (⟨"com/example/notarix/notarix/xml/Xml", "isCharacter", "(I)Z"⟩ : MethodName)) X14 hx hZ hown (hw _ (List.mem_of_getElem? (i := 7) rfl)) (hw _ (List.mem_of_getElem? (i := 8) rfl)) (hw _ (List.mem_of_getElem? (i := 9) rfl)) (hw _ (List.mem_of_getElem? (i := 10) rfl)) (by decide) e14 (rm_ic l Z a0 hw [] (z12 + (((i2 &&& (2147483647 : Int32)) % (5 : Int32)) - (2 : Int32))) h11 n0 Zn11) (by rw [hml]; rfl) [(.int (z12 + (((i2 &&& (2147483647 : Int32)) % (5 : Int32)) - (2 : Int32))))] [] pd_ic rfl rfl rfl (hb hby at_106) (by decide) (by first | decide | exact Nat.le_of_ble_eq_true rfl | assumption | (simp [Value.category]; done)) (by first | decide | exact Nat.le_of_ble_eq_true rfl | assumption | (simp [Value.category]; done)) (by first | decide | exact Nat.le_of_ble_eq_true rfl | assumption | (simp [Value.category]; done)) ?_
    intro T15 v15 L15 X15 q15
    obtain ⟨d15, N15a, e15⟩ := q15
    have N15 := Fr.app N14 N15a
    obtain ⟨r15, hr15⟩ : ∃ r : Int32, v15 = some (.int r) := by rcases d15 with ⟨q, -⟩ | ⟨q, -⟩ <;> exact ⟨_, q⟩
    subst hr15
    show Goes p e below _ (T15.setTop (mkF m 109 #[.val (.int i0), .val (.int i1), .val (.int i2), .val (.ref b1), .val (.int (z12 + (((i2 &&& (2147483647 : Int32)) % (5 : Int32)) - (2 : Int32)))), .val (.int (1 : Int32)), .unset] [(.int r15)]))
    refine Goes.pre (S' := (T15.setTop (mkF m 111 #[.val (.int i0), .val (.int i1), .val (.int i2), .val (.ref b1), .val (.int (z12 + (((i2 &&& (2147483647 : Int32)) % (5 : Int32)) - (2 : Int32)))), .val (.int (1 : Int32)), .unset] [(.int (z12 + (((i2 &&& (2147483647 : Int32)) % (5 : Int32)) - (2 : Int32)))), (.int r15)]))) (fun _ k => XS.iload X15.here hx rfl (hb hby at_109) rfl k) ?_
    refine Goes.callS (y := (⟨"com/example/notarix/notarix/xml/XmlIsCharacterPinLaw", "forbidden", "(I)Z"⟩ : MethodName)) X15 hx hZ hown (hw _ (List.mem_of_getElem? (i := 13) rfl)) (hw _ (List.mem_of_getElem? (i := 14) rfl)) (hw _ (List.mem_of_getElem? (i := 15) rfl)) (hw _ (List.mem_of_getElem? (i := 16) rfl)) (by decide) e15 (rm_fb l Z a0 hw [] (z12 + (((i2 &&& (2147483647 : Int32)) % (5 : Int32)) - (2 : Int32))) h11 n0 Zn11) (by rw [hml]; rfl) [(.int (z12 + (((i2 &&& (2147483647 : Int32)) % (5 : Int32)) - (2 : Int32))))] [(.int r15)] pd_fb rfl rfl rfl (hb hby at_111) (by decide) (by first | decide | exact Nat.le_of_ble_eq_true rfl | assumption | (simp [Value.category]; done)) (by first | decide | exact Nat.le_of_ble_eq_true rfl | assumption | (simp [Value.category]; done)) (by first | decide | exact Nat.le_of_ble_eq_true rfl | assumption | (simp [Value.category]; done)) ?_
    intro T16 v16 L16 X16 q16
    obtain ⟨d16, N16a, e16⟩ := q16
    have N16 := Fr.app N15 N16a
    obtain ⟨r16, hr16⟩ : ∃ r : Int32, v16 = some (.int r) := by rcases d16 with ⟨q, -⟩ | ⟨q, -⟩ <;> exact ⟨_, q⟩
    subst hr16
    have rel16 : (r15 = 1 ∧ r16 = 0) ∨ (r15 = 0 ∧ r16 = 1) := by
      have A := own_law (z12 + (((i2 &&& (2147483647 : Int32)) % (5 : Int32)) - (2 : Int32)))
      rcases d15 with ⟨q, a⟩ | ⟨q, a⟩ <;> rcases d16 with ⟨q2, a2⟩ | ⟨q2, a2⟩ <;> cases q <;> cases q2
      · exact absurd a2 (A.mp a)
      · exact Or.inl ⟨rfl, rfl⟩
      · exact Or.inr ⟨rfl, rfl⟩
      · exact absurd (A.mpr a2) a
    show Goes p e below _ (T16.setTop (mkF m 114 #[.val (.int i0), .val (.int i1), .val (.int i2), .val (.ref b1), .val (.int (z12 + (((i2 &&& (2147483647 : Int32)) % (5 : Int32)) - (2 : Int32)))), .val (.int (1 : Int32)), .unset] [(.int r16), (.int r15)]))
    rcases rel16 with ⟨rfl, rfl⟩ | ⟨rfl, rfl⟩
    · skip
      show Goes p e below _ (T16.setTop (mkF m 114 #[.val (.int i0), .val (.int i1), .val (.int i2), .val (.ref b1), .val (.int (z12 + (((i2 &&& (2147483647 : Int32)) % (5 : Int32)) - (2 : Int32)))), .val (.int (1 : Int32)), .unset] [(.int (0 : Int32)), (.int (1 : Int32))]))
      refine Goes.pre (S' := (T16.setTop (mkF m 117 #[.val (.int i0), .val (.int i1), .val (.int i2), .val (.ref b1), .val (.int (z12 + (((i2 &&& (2147483647 : Int32)) % (5 : Int32)) - (2 : Int32)))), .val (.int (1 : Int32)), .unset] [(.int (1 : Int32))]))) (fun _ k => XS.ifNo X16.here hx rfl (hb hby at_114) rfl (XT.i0_ne_f (by decide)) k) ?_
      refine Goes.pre (S' := (T16.setTop (mkF m 118 #[.val (.int i0), .val (.int i1), .val (.int i2), .val (.ref b1), .val (.int (z12 + (((i2 &&& (2147483647 : Int32)) % (5 : Int32)) - (2 : Int32)))), .val (.int (1 : Int32)), .unset] [(.int (1 : Int32)), (.int (1 : Int32))]))) (fun _ k => XS.iconst X16.here hx rfl (hb hby at_117) k) ?_
      refine Goes.pre (S' := (T16.setTop (mkF m 122 #[.val (.int i0), .val (.int i1), .val (.int i2), .val (.ref b1), .val (.int (z12 + (((i2 &&& (2147483647 : Int32)) % (5 : Int32)) - (2 : Int32)))), .val (.int (1 : Int32)), .unset] [(.int (1 : Int32)), (.int (1 : Int32))]))) (fun _ k => XS.goto X16.here hx rfl (pc0 := 118) (pc' := 122) rfl (hb hby at_118) (by decide) (by decide) k) ?_
      refine Goes.pre (S' := (T16.setTop (mkF m 125 #[.val (.int i0), .val (.int i1), .val (.int i2), .val (.ref b1), .val (.int (z12 + (((i2 &&& (2147483647 : Int32)) % (5 : Int32)) - (2 : Int32)))), .val (.int (1 : Int32)), .unset] []))) (fun _ k => XS.icmpNo X16.here hx rfl (hb hby at_122) rfl (XT.ii_ne_f rfl) k) ?_
      refine Goes.pre (S' := (T16.setTop (mkF m 126 #[.val (.int i0), .val (.int i1), .val (.int i2), .val (.ref b1), .val (.int (z12 + (((i2 &&& (2147483647 : Int32)) % (5 : Int32)) - (2 : Int32)))), .val (.int (1 : Int32)), .unset] [(.int (1 : Int32))]))) (fun _ k => XS.iconst X16.here hx rfl (hb hby at_125) k) ?_
      refine Goes.pre (S' := (T16.setTop (mkF m 130 #[.val (.int i0), .val (.int i1), .val (.int i2), .val (.ref b1), .val (.int (z12 + (((i2 &&& (2147483647 : Int32)) % (5 : Int32)) - (2 : Int32)))), .val (.int (1 : Int32)), .unset] [(.int (1 : Int32))]))) (fun _ k => XS.goto X16.here hx rfl (pc0 := 126) (pc' := 130) rfl (hb hby at_126) (by decide) (by decide) k) ?_
      refine Goes.pre (S' := (T16.setTop (mkF m 132 #[.val (.int i0), .val (.int i1), .val (.int i2), .val (.ref b1), .val (.int (z12 + (((i2 &&& (2147483647 : Int32)) % (5 : Int32)) - (2 : Int32)))), .val (.int (1 : Int32)), .val (.int (1 : Int32))] []))) (fun _ k => XS.istore X16.here hx rfl (hb hby at_130) rfl (l' := #[.val (.int i0), .val (.int i1), .val (.int i2), .val (.ref b1), .val (.int (z12 + (((i2 &&& (2147483647 : Int32)) % (5 : Int32)) - (2 : Int32)))), .val (.int (1 : Int32)), .val (.int (1 : Int32))]) rfl k) ?_
      refine Goes.pre (S' := (T16.setTop (mkF m 134 #[.val (.int i0), .val (.int i1), .val (.int i2), .val (.ref b1), .val (.int (z12 + (((i2 &&& (2147483647 : Int32)) % (5 : Int32)) - (2 : Int32)))), .val (.int (1 : Int32)), .val (.int (1 : Int32))] [(.int (1 : Int32))]))) (fun _ k => XS.iload X16.here hx rfl (hb hby at_132) rfl k) ?_
      refine Goes.pre (S' := (T16.setTop (mkF m 137 #[.val (.int i0), .val (.int i1), .val (.int i2), .val (.ref b1), .val (.int (z12 + (((i2 &&& (2147483647 : Int32)) % (5 : Int32)) - (2 : Int32)))), .val (.int (1 : Int32)), .val (.int (1 : Int32))] []))) (fun _ k => XS.ifNo X16.here hx rfl (hb hby at_134) rfl (XT.i0_eq_f (by decide)) k) ?_
      refine Goes.pre (S' := (T16.setTop (mkF m 139 #[.val (.int i0), .val (.int i1), .val (.int i2), .val (.ref b1), .val (.int (z12 + (((i2 &&& (2147483647 : Int32)) % (5 : Int32)) - (2 : Int32)))), .val (.int (1 : Int32)), .val (.int (1 : Int32))] [(.int (1 : Int32))]))) (fun _ k => XS.iload X16.here hx rfl (hb hby at_137) rfl k) ?_
      refine Goes.pre (S' := (T16.setTop (mkF m 142 #[.val (.int i0), .val (.int i1), .val (.int i2), .val (.ref b1), .val (.int (z12 + (((i2 &&& (2147483647 : Int32)) % (5 : Int32)) - (2 : Int32)))), .val (.int (1 : Int32)), .val (.int (1 : Int32))] []))) (fun _ k => XS.ifNo X16.here hx rfl (hb hby at_139) rfl (XT.i0_eq_f (by decide)) k) ?_
      refine Goes.pre (S' := (T16.setTop (mkF m 143 #[.val (.int i0), .val (.int i1), .val (.int i2), .val (.ref b1), .val (.int (z12 + (((i2 &&& (2147483647 : Int32)) % (5 : Int32)) - (2 : Int32)))), .val (.int (1 : Int32)), .val (.int (1 : Int32))] [(.int (1 : Int32))]))) (fun _ k => XS.iconst X16.here hx rfl (hb hby at_142) k) ?_
      refine Goes.pre (S' := (T16.setTop (mkF m 147 #[.val (.int i0), .val (.int i1), .val (.int i2), .val (.ref b1), .val (.int (z12 + (((i2 &&& (2147483647 : Int32)) % (5 : Int32)) - (2 : Int32)))), .val (.int (1 : Int32)), .val (.int (1 : Int32))] [(.int (1 : Int32))]))) (fun _ k => XS.goto X16.here hx rfl (pc0 := 143) (pc' := 147) rfl (hb hby at_143) (by decide) (by decide) k) ?_
      exact Goes.retN X16 hx hlk (t := .boolean) Bd.returns (by simp) (hb hby at_147) ⟨rfl, N16⟩ (by first | decide | exact Nat.le_of_ble_eq_true rfl | assumption | (simp [Value.category]; done)) (by first | decide | exact Nat.le_of_ble_eq_true rfl | assumption | (simp [Value.category]; done))
    · skip
      show Goes p e below _ (T16.setTop (mkF m 114 #[.val (.int i0), .val (.int i1), .val (.int i2), .val (.ref b1), .val (.int (z12 + (((i2 &&& (2147483647 : Int32)) % (5 : Int32)) - (2 : Int32)))), .val (.int (1 : Int32)), .unset] [(.int (1 : Int32)), (.int (0 : Int32))]))
      refine Goes.pre (S' := (T16.setTop (mkF m 121 #[.val (.int i0), .val (.int i1), .val (.int i2), .val (.ref b1), .val (.int (z12 + (((i2 &&& (2147483647 : Int32)) % (5 : Int32)) - (2 : Int32)))), .val (.int (1 : Int32)), .unset] [(.int (0 : Int32))]))) (fun _ k => XS.ifYes X16.here hx rfl (pc0 := 114) (pc' := 121) rfl (hb hby at_114) rfl (XT.i0_ne_t (by decide)) (by decide) (by decide) k) ?_
      refine Goes.pre (S' := (T16.setTop (mkF m 122 #[.val (.int i0), .val (.int i1), .val (.int i2), .val (.ref b1), .val (.int (z12 + (((i2 &&& (2147483647 : Int32)) % (5 : Int32)) - (2 : Int32)))), .val (.int (1 : Int32)), .unset] [(.int (0 : Int32)), (.int (0 : Int32))]))) (fun _ k => XS.iconst X16.here hx rfl (hb hby at_121) k) ?_
      refine Goes.pre (S' := (T16.setTop (mkF m 125 #[.val (.int i0), .val (.int i1), .val (.int i2), .val (.ref b1), .val (.int (z12 + (((i2 &&& (2147483647 : Int32)) % (5 : Int32)) - (2 : Int32)))), .val (.int (1 : Int32)), .unset] []))) (fun _ k => XS.icmpNo X16.here hx rfl (hb hby at_122) rfl (XT.ii_ne_f rfl) k) ?_
      refine Goes.pre (S' := (T16.setTop (mkF m 126 #[.val (.int i0), .val (.int i1), .val (.int i2), .val (.ref b1), .val (.int (z12 + (((i2 &&& (2147483647 : Int32)) % (5 : Int32)) - (2 : Int32)))), .val (.int (1 : Int32)), .unset] [(.int (1 : Int32))]))) (fun _ k => XS.iconst X16.here hx rfl (hb hby at_125) k) ?_
      refine Goes.pre (S' := (T16.setTop (mkF m 130 #[.val (.int i0), .val (.int i1), .val (.int i2), .val (.ref b1), .val (.int (z12 + (((i2 &&& (2147483647 : Int32)) % (5 : Int32)) - (2 : Int32)))), .val (.int (1 : Int32)), .unset] [(.int (1 : Int32))]))) (fun _ k => XS.goto X16.here hx rfl (pc0 := 126) (pc' := 130) rfl (hb hby at_126) (by decide) (by decide) k) ?_
      refine Goes.pre (S' := (T16.setTop (mkF m 132 #[.val (.int i0), .val (.int i1), .val (.int i2), .val (.ref b1), .val (.int (z12 + (((i2 &&& (2147483647 : Int32)) % (5 : Int32)) - (2 : Int32)))), .val (.int (1 : Int32)), .val (.int (1 : Int32))] []))) (fun _ k => XS.istore X16.here hx rfl (hb hby at_130) rfl (l' := #[.val (.int i0), .val (.int i1), .val (.int i2), .val (.ref b1), .val (.int (z12 + (((i2 &&& (2147483647 : Int32)) % (5 : Int32)) - (2 : Int32)))), .val (.int (1 : Int32)), .val (.int (1 : Int32))]) rfl k) ?_
      refine Goes.pre (S' := (T16.setTop (mkF m 134 #[.val (.int i0), .val (.int i1), .val (.int i2), .val (.ref b1), .val (.int (z12 + (((i2 &&& (2147483647 : Int32)) % (5 : Int32)) - (2 : Int32)))), .val (.int (1 : Int32)), .val (.int (1 : Int32))] [(.int (1 : Int32))]))) (fun _ k => XS.iload X16.here hx rfl (hb hby at_132) rfl k) ?_
      refine Goes.pre (S' := (T16.setTop (mkF m 137 #[.val (.int i0), .val (.int i1), .val (.int i2), .val (.ref b1), .val (.int (z12 + (((i2 &&& (2147483647 : Int32)) % (5 : Int32)) - (2 : Int32)))), .val (.int (1 : Int32)), .val (.int (1 : Int32))] []))) (fun _ k => XS.ifNo X16.here hx rfl (hb hby at_134) rfl (XT.i0_eq_f (by decide)) k) ?_
      refine Goes.pre (S' := (T16.setTop (mkF m 139 #[.val (.int i0), .val (.int i1), .val (.int i2), .val (.ref b1), .val (.int (z12 + (((i2 &&& (2147483647 : Int32)) % (5 : Int32)) - (2 : Int32)))), .val (.int (1 : Int32)), .val (.int (1 : Int32))] [(.int (1 : Int32))]))) (fun _ k => XS.iload X16.here hx rfl (hb hby at_137) rfl k) ?_
      refine Goes.pre (S' := (T16.setTop (mkF m 142 #[.val (.int i0), .val (.int i1), .val (.int i2), .val (.ref b1), .val (.int (z12 + (((i2 &&& (2147483647 : Int32)) % (5 : Int32)) - (2 : Int32)))), .val (.int (1 : Int32)), .val (.int (1 : Int32))] []))) (fun _ k => XS.ifNo X16.here hx rfl (hb hby at_139) rfl (XT.i0_eq_f (by decide)) k) ?_
      refine Goes.pre (S' := (T16.setTop (mkF m 143 #[.val (.int i0), .val (.int i1), .val (.int i2), .val (.ref b1), .val (.int (z12 + (((i2 &&& (2147483647 : Int32)) % (5 : Int32)) - (2 : Int32)))), .val (.int (1 : Int32)), .val (.int (1 : Int32))] [(.int (1 : Int32))]))) (fun _ k => XS.iconst X16.here hx rfl (hb hby at_142) k) ?_
      refine Goes.pre (S' := (T16.setTop (mkF m 147 #[.val (.int i0), .val (.int i1), .val (.int i2), .val (.ref b1), .val (.int (z12 + (((i2 &&& (2147483647 : Int32)) % (5 : Int32)) - (2 : Int32)))), .val (.int (1 : Int32)), .val (.int (1 : Int32))] [(.int (1 : Int32))]))) (fun _ k => XS.goto X16.here hx rfl (pc0 := 143) (pc' := 147) rfl (hb hby at_143) (by decide) (by decide) k) ?_
      exact Goes.retN X16 hx hlk (t := .boolean) Bd.returns (by simp) (hb hby at_147) ⟨rfl, N16⟩ (by first | decide | exact Nat.le_of_ble_eq_true rfl | assumption | (simp [Value.category]; done)) (by first | decide | exact Nat.le_of_ble_eq_true rfl | assumption | (simp [Value.category]; done))
  · skip
    show Goes p e below _ (T14.setTop (mkF m 86 #[.val (.int i0), .val (.int i1), .val (.int i2), .val (.ref b1), .val (.int (z12 + (((i2 &&& (2147483647 : Int32)) % (5 : Int32)) - (2 : Int32)))), .unset, .unset] [(.int (1 : Int32)), (.int (0 : Int32))]))
    refine Goes.pre (S' := (T14.setTop (mkF m 93 #[.val (.int i0), .val (.int i1), .val (.int i2), .val (.ref b1), .val (.int (z12 + (((i2 &&& (2147483647 : Int32)) % (5 : Int32)) - (2 : Int32)))), .unset, .unset] [(.int (0 : Int32))]))) (fun _ k => XS.ifYes X14.here hx rfl (pc0 := 86) (pc' := 93) rfl (hb hby at_86) rfl (XT.i0_ne_t (by decide)) (by decide) (by decide) k) ?_
    refine Goes.pre (S' := (T14.setTop (mkF m 94 #[.val (.int i0), .val (.int i1), .val (.int i2), .val (.ref b1), .val (.int (z12 + (((i2 &&& (2147483647 : Int32)) % (5 : Int32)) - (2 : Int32)))), .unset, .unset] [(.int (0 : Int32)), (.int (0 : Int32))]))) (fun _ k => XS.iconst X14.here hx rfl (hb hby at_93) k) ?_
    refine Goes.pre (S' := (T14.setTop (mkF m 97 #[.val (.int i0), .val (.int i1), .val (.int i2), .val (.ref b1), .val (.int (z12 + (((i2 &&& (2147483647 : Int32)) % (5 : Int32)) - (2 : Int32)))), .unset, .unset] []))) (fun _ k => XS.icmpNo X14.here hx rfl (hb hby at_94) rfl (XT.ii_ne_f rfl) k) ?_
    refine Goes.pre (S' := (T14.setTop (mkF m 98 #[.val (.int i0), .val (.int i1), .val (.int i2), .val (.ref b1), .val (.int (z12 + (((i2 &&& (2147483647 : Int32)) % (5 : Int32)) - (2 : Int32)))), .unset, .unset] [(.int (1 : Int32))]))) (fun _ k => XS.iconst X14.here hx rfl (hb hby at_97) k) ?_
    refine Goes.pre (S' := (T14.setTop (mkF m 102 #[.val (.int i0), .val (.int i1), .val (.int i2), .val (.ref b1), .val (.int (z12 + (((i2 &&& (2147483647 : Int32)) % (5 : Int32)) - (2 : Int32)))), .unset, .unset] [(.int (1 : Int32))]))) (fun _ k => XS.goto X14.here hx rfl (pc0 := 98) (pc' := 102) rfl (hb hby at_98) (by decide) (by decide) k) ?_
    refine Goes.pre (S' := (T14.setTop (mkF m 104 #[.val (.int i0), .val (.int i1), .val (.int i2), .val (.ref b1), .val (.int (z12 + (((i2 &&& (2147483647 : Int32)) % (5 : Int32)) - (2 : Int32)))), .val (.int (1 : Int32)), .unset] []))) (fun _ k => XS.istore X14.here hx rfl (hb hby at_102) rfl (l' := #[.val (.int i0), .val (.int i1), .val (.int i2), .val (.ref b1), .val (.int (z12 + (((i2 &&& (2147483647 : Int32)) % (5 : Int32)) - (2 : Int32)))), .val (.int (1 : Int32)), .unset]) rfl k) ?_
    refine Goes.pre (S' := (T14.setTop (mkF m 106 #[.val (.int i0), .val (.int i1), .val (.int i2), .val (.ref b1), .val (.int (z12 + (((i2 &&& (2147483647 : Int32)) % (5 : Int32)) - (2 : Int32)))), .val (.int (1 : Int32)), .unset] [(.int (z12 + (((i2 &&& (2147483647 : Int32)) % (5 : Int32)) - (2 : Int32))))]))) (fun _ k => XS.iload X14.here hx rfl (hb hby at_104) rfl k) ?_
    refine Goes.callS (y := (⟨"com/example/notarix/notarix/xml/Xml", "isCharacter", "(I)Z"⟩ : MethodName)) X14 hx hZ hown (hw _ (List.mem_of_getElem? (i := 7) rfl)) (hw _ (List.mem_of_getElem? (i := 8) rfl)) (hw _ (List.mem_of_getElem? (i := 9) rfl)) (hw _ (List.mem_of_getElem? (i := 10) rfl)) (by decide) e14 (rm_ic l Z a0 hw [] (z12 + (((i2 &&& (2147483647 : Int32)) % (5 : Int32)) - (2 : Int32))) h11 n0 Zn11) (by rw [hml]; rfl) [(.int (z12 + (((i2 &&& (2147483647 : Int32)) % (5 : Int32)) - (2 : Int32))))] [] pd_ic rfl rfl rfl (hb hby at_106) (by decide) (by first | decide | exact Nat.le_of_ble_eq_true rfl | assumption | (simp [Value.category]; done)) (by first | decide | exact Nat.le_of_ble_eq_true rfl | assumption | (simp [Value.category]; done)) (by first | decide | exact Nat.le_of_ble_eq_true rfl | assumption | (simp [Value.category]; done)) ?_
    intro T17 v17 L17 X17 q17
    obtain ⟨d17, N17a, e17⟩ := q17
    have N17 := Fr.app N14 N17a
    obtain ⟨r17, hr17⟩ : ∃ r : Int32, v17 = some (.int r) := by rcases d17 with ⟨q, -⟩ | ⟨q, -⟩ <;> exact ⟨_, q⟩
    subst hr17
    show Goes p e below _ (T17.setTop (mkF m 109 #[.val (.int i0), .val (.int i1), .val (.int i2), .val (.ref b1), .val (.int (z12 + (((i2 &&& (2147483647 : Int32)) % (5 : Int32)) - (2 : Int32)))), .val (.int (1 : Int32)), .unset] [(.int r17)]))
    refine Goes.pre (S' := (T17.setTop (mkF m 111 #[.val (.int i0), .val (.int i1), .val (.int i2), .val (.ref b1), .val (.int (z12 + (((i2 &&& (2147483647 : Int32)) % (5 : Int32)) - (2 : Int32)))), .val (.int (1 : Int32)), .unset] [(.int (z12 + (((i2 &&& (2147483647 : Int32)) % (5 : Int32)) - (2 : Int32)))), (.int r17)]))) (fun _ k => XS.iload X17.here hx rfl (hb hby at_109) rfl k) ?_
    refine Goes.callS (y := (⟨"com/example/notarix/notarix/xml/XmlIsCharacterPinLaw", "forbidden", "(I)Z"⟩ : MethodName)) X17 hx hZ hown (hw _ (List.mem_of_getElem? (i := 13) rfl)) (hw _ (List.mem_of_getElem? (i := 14) rfl)) (hw _ (List.mem_of_getElem? (i := 15) rfl)) (hw _ (List.mem_of_getElem? (i := 16) rfl)) (by decide) e17 (rm_fb l Z a0 hw [] (z12 + (((i2 &&& (2147483647 : Int32)) % (5 : Int32)) - (2 : Int32))) h11 n0 Zn11) (by rw [hml]; rfl) [(.int (z12 + (((i2 &&& (2147483647 : Int32)) % (5 : Int32)) - (2 : Int32))))] [(.int r17)] pd_fb rfl rfl rfl (hb hby at_111) (by decide) (by first | decide | exact Nat.le_of_ble_eq_true rfl | assumption | (simp [Value.category]; done)) (by first | decide | exact Nat.le_of_ble_eq_true rfl | assumption | (simp [Value.category]; done)) (by first | decide | exact Nat.le_of_ble_eq_true rfl | assumption | (simp [Value.category]; done)) ?_
    intro T18 v18 L18 X18 q18
    obtain ⟨d18, N18a, e18⟩ := q18
    have N18 := Fr.app N17 N18a
    obtain ⟨r18, hr18⟩ : ∃ r : Int32, v18 = some (.int r) := by rcases d18 with ⟨q, -⟩ | ⟨q, -⟩ <;> exact ⟨_, q⟩
    subst hr18
    have rel18 : (r17 = 1 ∧ r18 = 0) ∨ (r17 = 0 ∧ r18 = 1) := by
      have A := own_law (z12 + (((i2 &&& (2147483647 : Int32)) % (5 : Int32)) - (2 : Int32)))
      rcases d17 with ⟨q, a⟩ | ⟨q, a⟩ <;> rcases d18 with ⟨q2, a2⟩ | ⟨q2, a2⟩ <;> cases q <;> cases q2
      · exact absurd a2 (A.mp a)
      · exact Or.inl ⟨rfl, rfl⟩
      · exact Or.inr ⟨rfl, rfl⟩
      · exact absurd (A.mpr a2) a
    show Goes p e below _ (T18.setTop (mkF m 114 #[.val (.int i0), .val (.int i1), .val (.int i2), .val (.ref b1), .val (.int (z12 + (((i2 &&& (2147483647 : Int32)) % (5 : Int32)) - (2 : Int32)))), .val (.int (1 : Int32)), .unset] [(.int r18), (.int r17)]))
    rcases rel18 with ⟨rfl, rfl⟩ | ⟨rfl, rfl⟩
    · skip
      show Goes p e below _ (T18.setTop (mkF m 114 #[.val (.int i0), .val (.int i1), .val (.int i2), .val (.ref b1), .val (.int (z12 + (((i2 &&& (2147483647 : Int32)) % (5 : Int32)) - (2 : Int32)))), .val (.int (1 : Int32)), .unset] [(.int (0 : Int32)), (.int (1 : Int32))]))
      refine Goes.pre (S' := (T18.setTop (mkF m 117 #[.val (.int i0), .val (.int i1), .val (.int i2), .val (.ref b1), .val (.int (z12 + (((i2 &&& (2147483647 : Int32)) % (5 : Int32)) - (2 : Int32)))), .val (.int (1 : Int32)), .unset] [(.int (1 : Int32))]))) (fun _ k => XS.ifNo X18.here hx rfl (hb hby at_114) rfl (XT.i0_ne_f (by decide)) k) ?_
      refine Goes.pre (S' := (T18.setTop (mkF m 118 #[.val (.int i0), .val (.int i1), .val (.int i2), .val (.ref b1), .val (.int (z12 + (((i2 &&& (2147483647 : Int32)) % (5 : Int32)) - (2 : Int32)))), .val (.int (1 : Int32)), .unset] [(.int (1 : Int32)), (.int (1 : Int32))]))) (fun _ k => XS.iconst X18.here hx rfl (hb hby at_117) k) ?_
      refine Goes.pre (S' := (T18.setTop (mkF m 122 #[.val (.int i0), .val (.int i1), .val (.int i2), .val (.ref b1), .val (.int (z12 + (((i2 &&& (2147483647 : Int32)) % (5 : Int32)) - (2 : Int32)))), .val (.int (1 : Int32)), .unset] [(.int (1 : Int32)), (.int (1 : Int32))]))) (fun _ k => XS.goto X18.here hx rfl (pc0 := 118) (pc' := 122) rfl (hb hby at_118) (by decide) (by decide) k) ?_
      refine Goes.pre (S' := (T18.setTop (mkF m 125 #[.val (.int i0), .val (.int i1), .val (.int i2), .val (.ref b1), .val (.int (z12 + (((i2 &&& (2147483647 : Int32)) % (5 : Int32)) - (2 : Int32)))), .val (.int (1 : Int32)), .unset] []))) (fun _ k => XS.icmpNo X18.here hx rfl (hb hby at_122) rfl (XT.ii_ne_f rfl) k) ?_
      refine Goes.pre (S' := (T18.setTop (mkF m 126 #[.val (.int i0), .val (.int i1), .val (.int i2), .val (.ref b1), .val (.int (z12 + (((i2 &&& (2147483647 : Int32)) % (5 : Int32)) - (2 : Int32)))), .val (.int (1 : Int32)), .unset] [(.int (1 : Int32))]))) (fun _ k => XS.iconst X18.here hx rfl (hb hby at_125) k) ?_
      refine Goes.pre (S' := (T18.setTop (mkF m 130 #[.val (.int i0), .val (.int i1), .val (.int i2), .val (.ref b1), .val (.int (z12 + (((i2 &&& (2147483647 : Int32)) % (5 : Int32)) - (2 : Int32)))), .val (.int (1 : Int32)), .unset] [(.int (1 : Int32))]))) (fun _ k => XS.goto X18.here hx rfl (pc0 := 126) (pc' := 130) rfl (hb hby at_126) (by decide) (by decide) k) ?_
      refine Goes.pre (S' := (T18.setTop (mkF m 132 #[.val (.int i0), .val (.int i1), .val (.int i2), .val (.ref b1), .val (.int (z12 + (((i2 &&& (2147483647 : Int32)) % (5 : Int32)) - (2 : Int32)))), .val (.int (1 : Int32)), .val (.int (1 : Int32))] []))) (fun _ k => XS.istore X18.here hx rfl (hb hby at_130) rfl (l' := #[.val (.int i0), .val (.int i1), .val (.int i2), .val (.ref b1), .val (.int (z12 + (((i2 &&& (2147483647 : Int32)) % (5 : Int32)) - (2 : Int32)))), .val (.int (1 : Int32)), .val (.int (1 : Int32))]) rfl k) ?_
      refine Goes.pre (S' := (T18.setTop (mkF m 134 #[.val (.int i0), .val (.int i1), .val (.int i2), .val (.ref b1), .val (.int (z12 + (((i2 &&& (2147483647 : Int32)) % (5 : Int32)) - (2 : Int32)))), .val (.int (1 : Int32)), .val (.int (1 : Int32))] [(.int (1 : Int32))]))) (fun _ k => XS.iload X18.here hx rfl (hb hby at_132) rfl k) ?_
      refine Goes.pre (S' := (T18.setTop (mkF m 137 #[.val (.int i0), .val (.int i1), .val (.int i2), .val (.ref b1), .val (.int (z12 + (((i2 &&& (2147483647 : Int32)) % (5 : Int32)) - (2 : Int32)))), .val (.int (1 : Int32)), .val (.int (1 : Int32))] []))) (fun _ k => XS.ifNo X18.here hx rfl (hb hby at_134) rfl (XT.i0_eq_f (by decide)) k) ?_
      refine Goes.pre (S' := (T18.setTop (mkF m 139 #[.val (.int i0), .val (.int i1), .val (.int i2), .val (.ref b1), .val (.int (z12 + (((i2 &&& (2147483647 : Int32)) % (5 : Int32)) - (2 : Int32)))), .val (.int (1 : Int32)), .val (.int (1 : Int32))] [(.int (1 : Int32))]))) (fun _ k => XS.iload X18.here hx rfl (hb hby at_137) rfl k) ?_
      refine Goes.pre (S' := (T18.setTop (mkF m 142 #[.val (.int i0), .val (.int i1), .val (.int i2), .val (.ref b1), .val (.int (z12 + (((i2 &&& (2147483647 : Int32)) % (5 : Int32)) - (2 : Int32)))), .val (.int (1 : Int32)), .val (.int (1 : Int32))] []))) (fun _ k => XS.ifNo X18.here hx rfl (hb hby at_139) rfl (XT.i0_eq_f (by decide)) k) ?_
      refine Goes.pre (S' := (T18.setTop (mkF m 143 #[.val (.int i0), .val (.int i1), .val (.int i2), .val (.ref b1), .val (.int (z12 + (((i2 &&& (2147483647 : Int32)) % (5 : Int32)) - (2 : Int32)))), .val (.int (1 : Int32)), .val (.int (1 : Int32))] [(.int (1 : Int32))]))) (fun _ k => XS.iconst X18.here hx rfl (hb hby at_142) k) ?_
      refine Goes.pre (S' := (T18.setTop (mkF m 147 #[.val (.int i0), .val (.int i1), .val (.int i2), .val (.ref b1), .val (.int (z12 + (((i2 &&& (2147483647 : Int32)) % (5 : Int32)) - (2 : Int32)))), .val (.int (1 : Int32)), .val (.int (1 : Int32))] [(.int (1 : Int32))]))) (fun _ k => XS.goto X18.here hx rfl (pc0 := 143) (pc' := 147) rfl (hb hby at_143) (by decide) (by decide) k) ?_
      exact Goes.retN X18 hx hlk (t := .boolean) Bd.returns (by simp) (hb hby at_147) ⟨rfl, N18⟩ (by first | decide | exact Nat.le_of_ble_eq_true rfl | assumption | (simp [Value.category]; done)) (by first | decide | exact Nat.le_of_ble_eq_true rfl | assumption | (simp [Value.category]; done))
    · skip
      show Goes p e below _ (T18.setTop (mkF m 114 #[.val (.int i0), .val (.int i1), .val (.int i2), .val (.ref b1), .val (.int (z12 + (((i2 &&& (2147483647 : Int32)) % (5 : Int32)) - (2 : Int32)))), .val (.int (1 : Int32)), .unset] [(.int (1 : Int32)), (.int (0 : Int32))]))
      refine Goes.pre (S' := (T18.setTop (mkF m 121 #[.val (.int i0), .val (.int i1), .val (.int i2), .val (.ref b1), .val (.int (z12 + (((i2 &&& (2147483647 : Int32)) % (5 : Int32)) - (2 : Int32)))), .val (.int (1 : Int32)), .unset] [(.int (0 : Int32))]))) (fun _ k => XS.ifYes X18.here hx rfl (pc0 := 114) (pc' := 121) rfl (hb hby at_114) rfl (XT.i0_ne_t (by decide)) (by decide) (by decide) k) ?_
      refine Goes.pre (S' := (T18.setTop (mkF m 122 #[.val (.int i0), .val (.int i1), .val (.int i2), .val (.ref b1), .val (.int (z12 + (((i2 &&& (2147483647 : Int32)) % (5 : Int32)) - (2 : Int32)))), .val (.int (1 : Int32)), .unset] [(.int (0 : Int32)), (.int (0 : Int32))]))) (fun _ k => XS.iconst X18.here hx rfl (hb hby at_121) k) ?_
      refine Goes.pre (S' := (T18.setTop (mkF m 125 #[.val (.int i0), .val (.int i1), .val (.int i2), .val (.ref b1), .val (.int (z12 + (((i2 &&& (2147483647 : Int32)) % (5 : Int32)) - (2 : Int32)))), .val (.int (1 : Int32)), .unset] []))) (fun _ k => XS.icmpNo X18.here hx rfl (hb hby at_122) rfl (XT.ii_ne_f rfl) k) ?_
      refine Goes.pre (S' := (T18.setTop (mkF m 126 #[.val (.int i0), .val (.int i1), .val (.int i2), .val (.ref b1), .val (.int (z12 + (((i2 &&& (2147483647 : Int32)) % (5 : Int32)) - (2 : Int32)))), .val (.int (1 : Int32)), .unset] [(.int (1 : Int32))]))) (fun _ k => XS.iconst X18.here hx rfl (hb hby at_125) k) ?_
      refine Goes.pre (S' := (T18.setTop (mkF m 130 #[.val (.int i0), .val (.int i1), .val (.int i2), .val (.ref b1), .val (.int (z12 + (((i2 &&& (2147483647 : Int32)) % (5 : Int32)) - (2 : Int32)))), .val (.int (1 : Int32)), .unset] [(.int (1 : Int32))]))) (fun _ k => XS.goto X18.here hx rfl (pc0 := 126) (pc' := 130) rfl (hb hby at_126) (by decide) (by decide) k) ?_
      refine Goes.pre (S' := (T18.setTop (mkF m 132 #[.val (.int i0), .val (.int i1), .val (.int i2), .val (.ref b1), .val (.int (z12 + (((i2 &&& (2147483647 : Int32)) % (5 : Int32)) - (2 : Int32)))), .val (.int (1 : Int32)), .val (.int (1 : Int32))] []))) (fun _ k => XS.istore X18.here hx rfl (hb hby at_130) rfl (l' := #[.val (.int i0), .val (.int i1), .val (.int i2), .val (.ref b1), .val (.int (z12 + (((i2 &&& (2147483647 : Int32)) % (5 : Int32)) - (2 : Int32)))), .val (.int (1 : Int32)), .val (.int (1 : Int32))]) rfl k) ?_
      refine Goes.pre (S' := (T18.setTop (mkF m 134 #[.val (.int i0), .val (.int i1), .val (.int i2), .val (.ref b1), .val (.int (z12 + (((i2 &&& (2147483647 : Int32)) % (5 : Int32)) - (2 : Int32)))), .val (.int (1 : Int32)), .val (.int (1 : Int32))] [(.int (1 : Int32))]))) (fun _ k => XS.iload X18.here hx rfl (hb hby at_132) rfl k) ?_
      refine Goes.pre (S' := (T18.setTop (mkF m 137 #[.val (.int i0), .val (.int i1), .val (.int i2), .val (.ref b1), .val (.int (z12 + (((i2 &&& (2147483647 : Int32)) % (5 : Int32)) - (2 : Int32)))), .val (.int (1 : Int32)), .val (.int (1 : Int32))] []))) (fun _ k => XS.ifNo X18.here hx rfl (hb hby at_134) rfl (XT.i0_eq_f (by decide)) k) ?_
      refine Goes.pre (S' := (T18.setTop (mkF m 139 #[.val (.int i0), .val (.int i1), .val (.int i2), .val (.ref b1), .val (.int (z12 + (((i2 &&& (2147483647 : Int32)) % (5 : Int32)) - (2 : Int32)))), .val (.int (1 : Int32)), .val (.int (1 : Int32))] [(.int (1 : Int32))]))) (fun _ k => XS.iload X18.here hx rfl (hb hby at_137) rfl k) ?_
      refine Goes.pre (S' := (T18.setTop (mkF m 142 #[.val (.int i0), .val (.int i1), .val (.int i2), .val (.ref b1), .val (.int (z12 + (((i2 &&& (2147483647 : Int32)) % (5 : Int32)) - (2 : Int32)))), .val (.int (1 : Int32)), .val (.int (1 : Int32))] []))) (fun _ k => XS.ifNo X18.here hx rfl (hb hby at_139) rfl (XT.i0_eq_f (by decide)) k) ?_
      refine Goes.pre (S' := (T18.setTop (mkF m 143 #[.val (.int i0), .val (.int i1), .val (.int i2), .val (.ref b1), .val (.int (z12 + (((i2 &&& (2147483647 : Int32)) % (5 : Int32)) - (2 : Int32)))), .val (.int (1 : Int32)), .val (.int (1 : Int32))] [(.int (1 : Int32))]))) (fun _ k => XS.iconst X18.here hx rfl (hb hby at_142) k) ?_
      refine Goes.pre (S' := (T18.setTop (mkF m 147 #[.val (.int i0), .val (.int i1), .val (.int i2), .val (.ref b1), .val (.int (z12 + (((i2 &&& (2147483647 : Int32)) % (5 : Int32)) - (2 : Int32)))), .val (.int (1 : Int32)), .val (.int (1 : Int32))] [(.int (1 : Int32))]))) (fun _ k => XS.goto X18.here hx rfl (pc0 := 143) (pc' := 147) rfl (hb hby at_143) (by decide) (by decide) k) ?_
      exact Goes.retN X18 hx hlk (t := .boolean) Bd.returns (by simp) (hb hby at_147) ⟨rfl, N18⟩ (by first | decide | exact Nat.le_of_ble_eq_true rfl | assumption | (simp [Value.category]; done)) (by first | decide | exact Nat.le_of_ble_eq_true rfl | assumption | (simp [Value.category]; done))
set_option maxRecDepth 65536 in
set_option maxHeartbeats 40000000 in
theorem comes_1 {Post : Tables → Env → Array Value → State → Outcome → State → Prop} (hpost : ∀ tb e args s v u, (limb_1_1.after args s (.returned v) u = true ∧ limb_1_2.after args s (.returned v) u = true ∧ True) → FrameEnd s (.returned v) u (Jvm.fieldLocs frame_1_writes args s ++ Jvm.arrayLocs frame_1_arrays args s ++ Jvm.staticLocs frame_1_statics s) 16 128 → Post tb e args s (.returned v) u) :
    ArmFor flags0 classFile x code maxLocals ret World_1 tables_1 room_1 Calls_1 rest_1 Pre_1 Post := by
  intro l hfl _ _ p e ha hc hk s m args below hf hA hF happ hP
  obtain ⟨hcalls, hrest, hpre⟩ := hP
  obtain ⟨-, -, -, hnamed, -, -, -, hat⟩ := (Spec.applies_iff hf).mp happ
  obtain ⟨hg, hn⟩ := and_e (Cond.before_iff.mp (show (Jvm.Cond.and given_1 narrow_1).before args s = true from hpre))
  obtain ⟨gc, gr0⟩ := and_e hg
  obtain ⟨ga0, gr1⟩ := and_e gr0
  obtain ⟨ga1, gr2⟩ := and_e gr1
  obtain ⟨w0, w1, w2, rfl⟩ : ∃ w0 w1 w2 : Value, args = #[w0, w1, w2] := by
    have hs : args.size = 3 := by simpa [Cond.value, given_1] using gc
    obtain ⟨L⟩ := args
    match L, hs with
    | [w0, w1, w2], _ => exact ⟨w0, w1, w2, rfl⟩
  have hw := fun d (hd : d ∈ tables_1) => atoms_spec (ws := Jvm.Cond.code x code maxLocals ret :: tables_1) hat d (List.mem_cons_of_mem _ hd)
  have hfit : Fit s := fun {y c} hc i hi => by
    obtain ⟨ha, rfl⟩ := Array.getElem?_eq_some_iff.mp hc
    have q := List.all_eq_true.mp ((Array.all_eq_true_iff_forall_mem.mp hF) _ (Array.getElem_mem ha)) i (List.mem_range.mpr hi)
    simpa [Array.getElem?_eq_getElem hi] using q
  obtain ⟨i0, ei0⟩ := is_v ga0
  obtain rfl : w0 = (.int i0) := Option.some.inj ei0
  obtain ⟨i1, ei1⟩ := is_v ga1
  obtain rfl : w1 = (.int i1) := Option.some.inj ei1
  obtain ⟨i2, ei2⟩ := is_v gr2
  obtain rfl : w2 = (.int i2) := Option.some.inj ei2
  obtain ⟨n, o, h1, h2, h3, _, L, rfl, ⟨rfl, N⟩, hq⟩ := rm_law l s _ hw tables_1 i0 i1 i2  s.heap s.heap.size (Nat.le_refl _)  p e ha hc hk s m _ below hf ((Spec.applies_iff_loose hf).mp happ).1 ⟨rfl, State.Warmed39.refl s, rfl⟩ trivial
  refine ⟨n, _, h1, h2, h3, hpost _ _ _ _ _ _ ⟨Cond.after_iff.mpr rfl, Cond.after_iff.mpr (eq_i res_at (Term.int_eval (1)) rfl), trivial⟩ ⟨hq.1, hq.2.1, (hq.2.2.sift fun y hy => Or.inr (N y hy)).mono (by decide) (by decide)⟩⟩
theorem main_1_1 : Claimed_1_1 := comes_1 fun _ _ _ _ _ _ h hF => ⟨h.1, hF⟩
theorem main_1_2 : Claimed_1_2 := comes_1 fun _ _ _ _ _ _ h hF => ⟨h.2.1, hF⟩
end Jvm.Pilot.@@N@@
namespace Jvm.Pilot.@@N@@
open Jvm Jvm.ClassFile Sem Op Lib Jvm.Free Jvm.Stand Jvm.Pilot.@@N@@.Jvm.D
/-! MADE BY PROGRAM (witnessworld.py) out of the Statement's table words and the real class files: 9 classes; the members and pool entries that the words name. The judged class is class 1, her method 2. -/
namespace start1
open Jvm.ClassFile
def u (s : String) : CpInfo := .utf8 (stringToUtf16 s)
/-- a pool by its gaps: so many unusable entries, then the entry; so many at the end -/
def gap : Nat → List CpInfo → List CpInfo
  | 0, r => r
  | n + 1, r => .unusable :: gap n r
def poolList (es : List (Nat × CpInfo)) (last : Nat) : List CpInfo := es.foldr (fun e r => gap e.1 (e.2 :: r)) (gap last [])
def pool (es : List (Nat × CpInfo)) (last : Nat) : Array CpInfo := ⟨poolList es last⟩
def fileOf (pool : Array CpInfo) (this : Nat) (attrs : Array Attribute := #[]) (ms : Array MethodInfo := #[]) (fl : Nat := 33) (sup : Nat := 0) (ifs : Array Nat := #[]) (fds : Array FieldInfo := #[]) : ClassFile where
  minorVersion := 0
  majorVersion := 65
  constantPool := pool
  accessFlags := fl
  thisClass := this
  superClass := sup
  interfaces := ifs
  fields := fds
  methods := ms
  attributes := attrs
def plain (name : String) (sup : Option ClassId) : Class where
  name := name
  kind := .ordinary
  loader := none
  accessFlags := 33
  super := sup
  interfaces := #[]
  cf := none
  fields := #[]
  methods := #[]
  instanceTypes := #[]
  staticTypes := #[]
  resolved := #[]
  callSites := []
  init := .initialized
  statics := none
  mirror := none

def pool0 : Array CpInfo := pool [(5, u "<init>"), (0, u "()V"), (1, .class_ 10), (1, u "java/lang/Object")] 113

def k0m0 : Method := { name := "<init>", desc := "()V", sig := { parameters := [], returnType := none }, accessFlags := 1, code := none }
/-- java/lang/Object -/
def k0 : Class := { plain "java/lang/Object" none with
  accessFlags := 33
  interfaces := #[]
  cf := some (fileOf pool0 8 #[] #[{ accessFlags := 1, nameIndex := 5, descriptorIndex := 6, attributes := #[] }] 33 0 #[] #[])
  fields := #[]
  methods := #[k0m0]
  instanceTypes := #[]
  staticTypes := #[]
  resolved := Array.replicate 124 none
  statics := none }

def pool1 : Array CpInfo := pool [(2, .class_ 4), (1, u "java/lang/Object"), (0, u "<init>"), (0, u "()V"), (0, .integer 55296), (0, .integer 57343), (0, .integer 65534), (0, .integer 65535), (0, .integer 1114111), (0, .integer 55295), (0, .integer 57344), (0, .integer 65533), (0, .integer 65536), (0, .integer 2147483647), (0, .methodref 18 19), (0, .class_ 20), (0, .nameAndType 21 22), (0, u "com/example/notarix/notarix/xml/Xml"), (0, u "isCharacter"), (0, u "(I)Z"), (0, .methodref 24 25), (0, .class_ 26), (0, .nameAndType 27 22), (0, u "com/example/notarix/notarix/xml/XmlIsCharacterPinLaw"), (0, u "forbidden"), (3, u "law"), (0, u "(III)Z")] 4

def k1m0 : Method := { name := "<init>", desc := "()V", sig := { parameters := [], returnType := none }, accessFlags := 2, code := none }
def k1c1 : Code := { maxStack := 2, maxLocals := 1, code := method_2_code, exceptionTable := #[], attributes := #[] }
def k1m1 : Method := { name := "forbidden", desc := "(I)Z", sig := { parameters := [.int], returnType := some .boolean }, accessFlags := 10, code := some k1c1 }
def k1c2 : Code := { maxStack := 4, maxLocals := 7, code := code, exceptionTable := #[], attributes := #[] }
def k1m2 : Method := { name := "law", desc := "(III)Z", sig := { parameters := [.int, .int, .int], returnType := some .boolean }, accessFlags := 9, code := some k1c2 }
/-- com/example/notarix/notarix/xml/XmlIsCharacterPinLaw -/
def k1 : Class := { plain "com/example/notarix/notarix/xml/XmlIsCharacterPinLaw" (some 0) with
  accessFlags := 49
  interfaces := #[]
  cf := some (fileOf pool1 24 #[] #[{ accessFlags := 2, nameIndex := 5, descriptorIndex := 6, attributes := #[] }, { accessFlags := 10, nameIndex := 27, descriptorIndex := 22, attributes := #[] }, { accessFlags := 9, nameIndex := 31, descriptorIndex := 32, attributes := #[] }] 49 2 #[] #[])
  fields := #[]
  methods := #[k1m0, k1m1, k1m2]
  instanceTypes := #[]
  staticTypes := #[]
  resolved := Array.replicate 37 none
  statics := none }

def pool2 : Array CpInfo := pool [(2, .class_ 4), (1, u "java/lang/Object"), (0, u "<init>"), (0, u "()V"), (0, .integer 55295), (0, .integer 57344), (0, .integer 65533), (0, .integer 65536), (0, .integer 1114111), (11, .class_ 25), (1, u "com/example/notarix/notarix/xml/Xml"), (0, u "isCharacter"), (0, u "(I)Z"), (11, u "NAME_START_RANGES"), (0, u "[[I"), (6, u "NAME_MORE_RANGES")] 17

def k2m0 : Method := { name := "<init>", desc := "()V", sig := { parameters := [], returnType := none }, accessFlags := 2, code := none }
def k2c1 : Code := { maxStack := 2, maxLocals := 1, code := prog_181_method_2_code, exceptionTable := #[], attributes := #[] }
def k2m1 : Method := { name := "isCharacter", desc := "(I)Z", sig := { parameters := [.int], returnType := some .boolean }, accessFlags := 9, code := some k2c1 }
/-- com/example/notarix/notarix/xml/Xml -/
def k2 : Class := { plain "com/example/notarix/notarix/xml/Xml" (some 0) with
  accessFlags := 49
  interfaces := #[]
  cf := some (fileOf pool2 23 #[] #[{ accessFlags := 2, nameIndex := 5, descriptorIndex := 6, attributes := #[] }, { accessFlags := 9, nameIndex := 26, descriptorIndex := 27, attributes := #[] }] 49 2 #[] #[{ accessFlags := 26, nameIndex := 39, descriptorIndex := 40, attributes := #[] }, { accessFlags := 26, nameIndex := 47, descriptorIndex := 40, attributes := #[] }])
  fields := #[{ name := "NAME_START_RANGES", type := (.array (.array .int)), accessFlags := 26, slot := 0, constantValue := 0 }, { name := "NAME_MORE_RANGES", type := (.array (.array .int)), accessFlags := 26, slot := 1, constantValue := 0 }]
  methods := #[k2m0, k2m1]
  instanceTypes := #[]
  staticTypes := #[(.array (.array .int)), (.array (.array .int))]
  resolved := Array.replicate 65 none
  statics := none }

def pool3 : Array CpInfo := pool [(1, u "java/lang/Cloneable"), (0, .class_ 1), (0, u "java/lang/Object"), (0, .class_ 3)] 3

/-- java/lang/Cloneable -/
def k3 : Class := { plain "java/lang/Cloneable" (some 0) with
  accessFlags := 1537
  interfaces := #[]
  cf := some (fileOf pool3 2 #[] #[] 1537 4 #[] #[])
  fields := #[]
  methods := #[]
  instanceTypes := #[]
  staticTypes := #[]
  resolved := Array.replicate 8 none
  statics := none }

def pool4 : Array CpInfo := pool [(1, u "java/io/Serializable"), (0, .class_ 1), (0, u "java/lang/Object"), (0, .class_ 3)] 3

/-- java/io/Serializable -/
def k4 : Class := { plain "java/io/Serializable" (some 0) with
  accessFlags := 1537
  interfaces := #[]
  cf := some (fileOf pool4 2 #[] #[] 1537 4 #[] #[])
  fields := #[]
  methods := #[]
  instanceTypes := #[]
  staticTypes := #[]
  resolved := Array.replicate 8 none
  statics := none }

/-- the primitive byte -/
def k5 : Class := { plain "byte" none with kind := .primitive 'B', accessFlags := 0x411 }
/-- [B -/
def k6 : Class := { plain "[B" (some 0) with kind := .array 5 .byte, interfaces := #[3, 4], accessFlags := 1041 }

/-- the primitive int -/
def k7 : Class := { plain "int" none with kind := .primitive 'I', accessFlags := 0x411 }
/-- [I -/
def k8 : Class := { plain "[I" (some 0) with kind := .array 7 .int, interfaces := #[3, 4], accessFlags := 1041 }

def heap : Heap := #[]
def classes : Array Class := #[k0, k1, k2, k3, k4, k5, k6, k7, k8]
def interned : List (Array UInt16 × Addr) := []
def slotsUsed : Nat := 0
def theMethod : MethodId := ⟨1, 2⟩
def args0 : Array Value := #[.int 5, .int 3, .int 1]
def aboutOver (below : List Frame) : State where
  vm := { classes := classes, interned := interned.toArray }
  heap := heap
  slotsUsed := slotsUsed
  threads := #[{ frames := .invoking theMethod args0 :: below }]
def below0 : List Frame := [.native { method := ⟨0, 0⟩, args := #[] }]
def about1 : State := aboutOver below0
def p0 : Program := .bare "" "" ""
def e0 : Env := launch0.env 0 0 0
theorem w_frames : about1.frames = Frame.invoking theMethod args0 :: below0 := rfl
set_option maxRecDepth 65536 in
theorem w_args : argsFit about1.vm theMethod args0 = true := by decide +kernel
set_option maxRecDepth 65536 in
theorem w_heap : heapFits about1 = true := by decide +kernel
set_option maxRecDepth 65536 in
theorem w_runnable : about1.curStatus? = some .runnable := by decide +kernel
set_option maxRecDepth 65536 in
theorem w_alone : about1.alone = true := by decide +kernel
set_option maxRecDepth 65536 in
theorem w_named : about1.methodNamed? x = some theMethod := by decide +kernel
set_option maxRecDepth 65536 in
theorem w_hears : about1.hears theMethod below0 = true := by decide +kernel
set_option maxRecDepth 65536 in
theorem w_ripe : about1.ripe theMethod args0 below0 = true := by decide +kernel
theorem w_running : about1.status = .running := rfl
set_option maxRecDepth 65536 in
theorem w_room : about1.hasRoom e0.platform room_1 = true :=
  launch0.hasRoom_least _ room_1 (by decide +kernel) (by decide +kernel) (by decide +kernel) (by decide +kernel) (by decide +kernel) (by decide +kernel)
theorem allAtoms_all (ts : List Jvm.Cond) (a : Array Jvm.Value) (st : Jvm.State) : (allAtoms ts).before a st = ts.all (fun c => c.before a st) := by
  induction ts with
  | nil => rfl
  | cons c t ih =>
    show (Jvm.Cond.and c (allAtoms t)).before a st = _
    rw [Jvm.Cond.before_and, ih, List.all_cons]
def words1 : List Jvm.Cond := Jvm.Cond.code x code maxLocals ret :: tables_1
/-- a 'code' word, met by the world's own term for the bytes: nothing is compared byte by byte -/
theorem code_word {y : MethodName} {bytes : ByteArray} {mx : Nat} {rt : Option FieldType} {a : Array Value} {s : State} {m : MethodId} {meth : Method} {c : Code} (h1 : s.methodNamed? y = some m) (h2 : s.vm.method? m = some meth) (h3 : meth.code = some c) (h4 : c.code = bytes)
    (h5 : (c.maxLocals == mx && c.exceptionTable.isEmpty && decide (c.maxStack ≤ mostOperands) && decide (meth.sig.returnType = rt) && !meth.locks && decide (parseMethodDescriptor y.desc = some meth.sig)) = true) : (Jvm.Cond.code y bytes mx rt).before a s = true := by
  simp only [Bool.and_eq_true, beq_iff_eq, Bool.not_eq_true', decide_eq_true_eq] at h5
  obtain ⟨⟨⟨⟨⟨g1, g2⟩, g3⟩, g4⟩, g5⟩, g6⟩ := h5
  simp [Cond.before, Cond.holds, Cond.value, h1, h2, h3, h4, g1, g2, g3, g4, g5, g6]
def isCode : Jvm.Cond → Bool
  | .code _ _ _ _ => true
  | _ => false
theorem all_split {L : List Jvm.Cond} {P : Jvm.Cond → Bool} (h1 : L.all (fun c => isCode c || P c) = true) (h2 : ∀ c ∈ L.filter isCode, P c = true) : L.all P = true := by
  refine List.all_eq_true.mpr fun c hc => ?_
  have h := List.all_eq_true.mp h1 c hc
  rcases Bool.eq_false_or_eq_true (isCode c) with hi | hi
  · exact h2 c (List.mem_filter.mpr ⟨hc, hi⟩)
  · simpa [hi] using h
set_option maxRecDepth 65536 in
theorem w_c0 : (Jvm.Cond.code x code maxLocals ret).before args0 about1 = true := code_word (m := ⟨1, 2⟩) (meth := k1m2) (c := k1c2) (by decide +kernel) rfl rfl rfl (by decide +kernel)
set_option maxRecDepth 65536 in
theorem w_c1 : (Jvm.Cond.code ({ cls := "com/example/notarix/notarix/xml/Xml", name := "isCharacter", desc := "(I)Z" } : Jvm.MethodName) prog_181_method_2_code (1 : Nat) (Option.some Jvm.ClassFile.FieldType.boolean)).before args0 about1 = true := code_word (m := ⟨2, 1⟩) (meth := k2m1) (c := k2c1) (by decide +kernel) rfl rfl rfl (by decide +kernel)
set_option maxRecDepth 65536 in
theorem w_c2 : (Jvm.Cond.code ({ cls := "com/example/notarix/notarix/xml/XmlIsCharacterPinLaw", name := "forbidden", desc := "(I)Z" } : Jvm.MethodName) method_2_code (1 : Nat) (Option.some Jvm.ClassFile.FieldType.boolean)).before args0 about1 = true := code_word (m := ⟨1, 1⟩) (meth := k1m1) (c := k1c1) (by decide +kernel) rfl rfl rfl (by decide +kernel)
def codes1 : List Jvm.Cond := [Jvm.Cond.code x code maxLocals ret, Jvm.Cond.code ({ cls := "com/example/notarix/notarix/xml/Xml", name := "isCharacter", desc := "(I)Z" } : Jvm.MethodName) prog_181_method_2_code (1 : Nat) (Option.some Jvm.ClassFile.FieldType.boolean), Jvm.Cond.code ({ cls := "com/example/notarix/notarix/xml/XmlIsCharacterPinLaw", name := "forbidden", desc := "(I)Z" } : Jvm.MethodName) method_2_code (1 : Nat) (Option.some Jvm.ClassFile.FieldType.boolean)]
set_option maxRecDepth 65536 in
theorem codes_eq : words1.filter isCode = codes1 := rfl
theorem w_codes : ∀ c ∈ words1.filter isCode, c.before args0 about1 = true := by
  rw [codes_eq]
  intro c hc
  simp only [codes1, List.mem_cons, List.not_mem_nil, or_false] at hc
  rcases hc with rfl | rfl | rfl
  · exact w_c0
  · exact w_c1
  · exact w_c2
set_option maxRecDepth 65536 in
theorem w_t1 : (words1.take 24).all (fun c => isCode c || c.before args0 about1) = true := by decide +kernel
set_option maxRecDepth 65536 in
theorem w_t2 : (words1.drop 24).all (fun c => isCode c || c.before args0 about1) = true := by decide +kernel
theorem w_tables : (allAtoms (Jvm.Cond.code x code maxLocals ret :: tables_1)).before args0 about1 = true := by
  rw [allAtoms_all]
  show words1.all (fun c => c.before args0 about1) = true
  refine all_split ?_ w_codes
  rw [← List.take_append_drop 24 words1, List.all_append, w_t1, w_t2]
  rfl
set_option maxRecDepth 65536 in
theorem w_case : (Jvm.Cond.and given_1 narrow_1).before args0 about1 = true := by decide +kernel
theorem w_applies : (headSpec (Jvm.Cond.code x code maxLocals ret :: tables_1) room_1).applies x e0.platform about1 = true :=
  (Spec.applies_iff w_frames).mpr ⟨w_running, w_runnable, w_alone, w_named, w_hears, w_ripe, w_room, w_tables⟩
theorem atStart : AtStart classFile x code maxLocals ret World_1 tables_1 room_1 Calls_1 rest_1 Pre_1 launch0 p0 e0 about1 theMethod args0 below0 :=
  ⟨lists_1, trivial, launch0.admits_env _ _ _, launch0.least_env, fairChoices_fair.cas, fairChoices_fair.clock, w_frames, w_args, w_heap, w_applies, trivial, trivial, w_case⟩
end start1
theorem witness_1 : WitnessClaimed_1 := ⟨start1.p0, start1.e0, start1.about1, start1.theMethod, start1.args0, start1.below0, start1.atStart⟩
end Jvm.Pilot.@@N@@
