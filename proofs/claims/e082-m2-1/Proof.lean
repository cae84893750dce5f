import JvmDerived
import JvmDerived.Pilot.@@N@@Statement
import JvmDerived.Pilot.@@N@@Code
set_option linter.unusedVariables false
set_option linter.unusedSimpArgs false
@@BLOCK:NumsL.lean.txt@@
namespace Jvm.Pilot.@@N@@
open Jvm Jvm.ClassFile Sem Op Lib Jvm.Free Jvm.Stand Jvm.LawKit Jvm.RoadKit Bundle Jvm.Pilot.@@N@@.Jvm.D
/-! The own kit: a walk forwards. 'Goes .. S': from S the body runs to its end, and Q holds there. -/
def Goes (p : Program) (e : Env) (below : List Frame) (P : Outcome → State → Prop) (S : State) : Prop :=
  ∃ s₂ o, Steps p.tables e below S s₂ ∧ s₂.status = .running ∧ Ended s₂ below o ∧ P o s₂
abbrev EndQ (s : State) (Q : Option Value → Heap → List Loc → Prop) (k n : Nat) : Outcome → State → Prop := fun o U => ∃ v L, o = .returned v ∧ Q v U.heap L ∧ FrameEnd s o U L k n
abbrev Ctr (l : Launch) (Z : State) (y : MethodName) (bytes : ByteArray) (maxL : Nat) (ret : Option FieldType) (ws : List Jvm.Cond) (rm : Room) (as' : Array Value) (h0 : Heap) (Q : Option Value → Heap → List Loc → Prop) : Prop :=
  MetFree l y (head1 (Jvm.Cond.code y bytes maxL ret :: ws) rm) (fun a U => a = as' ∧ Z.Warmed39 U.vm ∧ U.heap = h0) (fun _ _ _ _ _ => True) (fun _ U o U' => ∃ v L, o = .returned v ∧ Q v U'.heap L ∧ FrameEnd U o U' L rm.cells rm.slots)
abbrev CtrW (l : Launch) (Z : State) (y : MethodName) (bytes : ByteArray) (maxL : Nat) (ret : Option FieldType) (ws : List Jvm.Cond) (rm : Room) (as' : Array Value) (h0 : Heap) (Q : Option Value → Heap → List Loc → Prop) : Prop :=
  MetFree l y (head1 (Jvm.Cond.code y bytes maxL ret :: ws) rm) (fun a U => a = as' ∧ Z.Warmed39 U.vm ∧ U.heap = h0 ∧ U.vm = Z.vm) (fun _ _ _ _ _ => True) (fun _ U o U' => ∃ v L, o = .returned v ∧ Q v U'.heap L ∧ ReturnedEndW U o U' L rm.cells rm.slots)
section Own
variable {p : Program} {l : Launch} {e : Env} {R : Room} {s : State} {m : MethodId} {args : Array Value} {below : List Frame} {meth : Method} {c : Code} {T : State} {locs : List Loc} {cells slots : Nat} {Z : State} {a0 : Array Value} {h : Heap}
variable {Q : Option Value → Heap → List Loc → Prop} {k n : Nat} {S S' : State} {P : Outcome → State → Prop}
theorem Goes.pre (hs : ∀ t, Steps p.tables e below S' t → Steps p.tables e below S t) (g : Goes p e below P S') : Goes p e below P S := by
  obtain ⟨s₂, o, a, b⟩ := g
  exact ⟨s₂, o, hs _ a, b⟩
theorem Goes.via (hs : Steps p.tables e below S S') (g : Goes p e below P S') : Goes p e below P S := by
  obtain ⟨s₂, o, a, b⟩ := g
  exact ⟨s₂, o, hs.trans a, b⟩
theorem Goes.out (X : Stand p l e R s m args below meth c T locs cells slots) {v : Option Value} (hv : meth.sig.returnType = none → v = none) (hlocks : meth.locks = false) (hq : Q v T.heap locs) (hk : cells ≤ k) (hn : slots ≤ n)
    (hs : ∀ fs, (∀ (f : JFrame) (acts : List Action), f.method = m → f.locked = none → f.entered = [] → (doReturn e (T.setTop f) acts v).1 = T.setFrames fs) → Steps p.tables e below S (T.setFrames fs)) : Goes p e below (EndQ s Q k n) S := by
  obtain ⟨fs, hr, hrun, hended, hW, hsame⟩ := X.leave (v := v) hv hlocks
  exact ⟨_, _, hs fs hr, hrun, hended, _, _, rfl, hq, ⟨_, rfl⟩, hW, hsame.mono hk hn⟩
/-- ireturn of a boolean, byte, char, short -/
theorem Goes.retN (X : Stand p l e R s m args below meth c T locs cells slots) (hx : p.tables.exec = Jvm.exec) (hlocks : meth.locks = false) {t : FieldType} (hret : meth.sig.returnType = some t) (ht : t = .boolean ∨ t = .byte ∨ t = .char ∨ t = .short) {pc : Nat} (hd : decode c.code pc = .ok (.ireturn, 1)) {Ls : Array Slot} {z : Int32} {rest : List Value}
    (hq : Q (some (.int (nar t z))) T.heap locs) (hk : cells ≤ k) (hn : slots ≤ n) : Goes p e below (EndQ s Q k n) (T.setTop (mkF m pc Ls (.int z :: rest))) :=
  Goes.out X (v := some (.int (nar t z))) (fun q => by rw [hret] at q; cases q) hlocks hq hk hn fun _ hr => Jvm.RoadKit.retN X hx (t := t) hret ht hd hr
/-- ireturn of an int, areturn, lreturn -/
theorem Goes.ret (X : Stand p l e R s m args below meth c T locs cells slots) (hx : p.tables.exec = Jvm.exec) (hlocks : meth.locks = false) {t : FieldType} (hret : meth.sig.returnType = some t) {w : Value} (hnw : narrow t w = w) {i : Instr}
    (hi : (i = .ireturn ∧ (t = .int ∨ t = .boolean ∨ t = .byte ∨ t = .char ∨ t = .short) ∧ ∃ z, w = .int z) ∨ (i = .lreturn ∧ t = .long ∧ ∃ z, w = .long z) ∨ (i = .dreturn ∧ t = .double ∧ ∃ z, w = .double z) ∨ (i = .freturn ∧ t = .float ∧ ∃ z, w = .float z) ∨ (i = .areturn ∧ t.isReference = true ∧ w.isRef = true))
    {pc : Nat} (hd : decode c.code pc = .ok (i, 1)) {Ls : Array Slot} {rest : List Value}
    (hq : Q (some w) T.heap locs) (hk : cells ≤ k) (hn : slots ≤ n) : Goes p e below (EndQ s Q k n) (T.setTop (mkF m pc Ls (w :: rest))) :=
  Goes.out X (v := some w) (fun q => by rw [hret] at q; cases q) hlocks hq hk hn fun _ hr => retOut X hx hret hnw hi hd hr
theorem Goes.retV (X : Stand p l e R s m args below meth c T locs cells slots) (hx : p.tables.exec = Jvm.exec) (hlocks : meth.locks = false) (hret : meth.sig.returnType = none) {pc : Nat} (hd : decode c.code pc = .ok (.return_, 1)) {Ls : Array Slot}
    (hq : Q none T.heap locs) (hk : cells ≤ k) (hn : slots ≤ n) : Goes p e below (EndQ s Q k n) (T.setTop (mkF m pc Ls [])) :=
  Goes.out X (v := none) (fun _ => rfl) hlocks hq hk hn fun _ hr => X.returnOut hx hret hd hr
/-- the end of a walk that may have interned -/
abbrev EndW (s : State) (Q : Option Value → Heap → List Loc → Prop) (k n : Nat) : Outcome → State → Prop := fun o U => ∃ v L, o = .returned v ∧ Q v U.heap L ∧ ReturnedEndW s o U L k n
theorem Goes.retNW {vm₁ : Vm} (X : Stand p l e R (s.setVm vm₁) m args below meth c T locs cells slots) {j : Nat} (hS : s.Since vm₁ j) (hj : j ≤ T.heap.size) (hx : p.tables.exec = Jvm.exec) (hlocks : meth.locks = false) {t : FieldType} (hret : meth.sig.returnType = some t) (ht : t = .boolean ∨ t = .byte ∨ t = .char ∨ t = .short) {pc : Nat} (hd : decode c.code pc = .ok (.ireturn, 1)) {Ls : Array Slot} {z : Int32} {rest : List Value}
    (hq : Q (some (.int (nar t z))) T.heap locs) (hk : cells ≤ k) (hn : slots ≤ n) : Goes p e below (EndW s Q k n) (T.setTop (mkF m pc Ls (.int z :: rest))) := by
  obtain ⟨fs, hr, hrun, hended, h1, h2, h3, h4⟩ := X.leaveW hS hj (v := some (.int (nar t z))) (fun q => by rw [hret] at q; cases q) hlocks
  exact ⟨_, _, Jvm.RoadKit.retN X hx (t := t) hret ht hd hr, hrun, hended, _, _, rfl, hq, h1, h2, h3, h4.mono hk hn⟩
/-- a static call by its contract -/
theorem Goes.callS {y : MethodName} {bytes : ByteArray} {maxL : Nat} {ret : Option FieldType} {rm : Room} {as' : Array Value} {Qc : Option Value → Heap → List Loc → Prop}
    (X : Stand p l e R s m args below meth c T locs cells slots) (hx : p.tables.exec = Jvm.exec) (hZ : Z.Warmed39 s.vm) {own : String} {index : Nat} (hown : s.vm.findClass own = some m.cls)
    (w1 : (Jvm.Cond.methodLink own index y).before a0 Z = true) (w2 : (Jvm.Cond.static y).before a0 Z = true) (w3 : (Jvm.Cond.initialized y.cls).before a0 Z = true) (w4 : (Jvm.Cond.code y bytes maxL ret).before a0 Z = true)
    (hy : y.cls ≠ "java/lang/invoke/MethodHandle" ∧ y.cls ≠ "java/lang/invoke/VarHandle") (eT : T.heap = h) (hM : Ctr l Z y bytes maxL ret [] rm as' h Qc)
    {pc : Nat} {Ls : Array Slot} {stk : List Value} (hsize : Ls.size = c.maxLocals) (argsL rest : List Value) {ps : List FieldType} {r : Option FieldType} (hpd : parseMethodDescriptor y.desc = some ⟨ps, r⟩) (hlen : argsL.length = ps.length)
    (hstk : stk = argsL.reverse ++ rest) (has : argsL.toArray = as') (hd : decode c.code pc = .ok (.invokestatic index, 3))
    (hf : rm.frames + 1 ≤ R.frames) (hl : (rest.map fun v => v.category).sum + (maxL + 11) + rm.locals ≤ R.locals) (hc : cells + rm.cells ≤ R.cells) (hs : slots + rm.slots ≤ R.slots)
    (g : ∀ (T' : State) (v : Option Value) (L : List Loc), Stand p l e R s m args below meth c T' (locs ++ L) (cells + rm.cells) (slots + rm.slots) → Qc v T'.heap L → Goes p e below P (T'.setTop (mkF m (pc + 3) Ls (v.toList ++ rest)))) :
    Goes p e below P (T.setTop (mkF m pc Ls stk)) := by
  subst has
  obtain ⟨v, _, ⟨T', L', k', n'⟩, -, X', ⟨Lc, hQ, l1, l2, l3⟩, st⟩ := Jvm.LawKit.callS X hx (y := y) hown (mvT hZ w1) (mvT hZ w2) (mvT hZ w3) (mvT hZ w4) hy (backOf (W := (rest.map fun v => v.category).sum) hM hZ w4 w3 hf hl) (g := mkF m pc Ls stk) rfl hsize (argsL := argsL) (rest := rest) (lenOf hpd hlen) hstk (by show 2 * 0 + _ ≤ _; omega) hd (fun _ _ => ⟨rfl, eT, hc, hs⟩)
  dsimp only [Pt.U, Pt.locs, Pt.cells, Pt.slots] at X' l1 l2 l3 st hQ
  subst l1 l2 l3
  exact Goes.pre st (g T' v Lc X' hQ)
/-- a constructor by its contract -/
theorem Goes.init {y : MethodName} {bytes : ByteArray} {maxL : Nat} {rm : Room} {as' : Array Value} {Qc : Option Value → Heap → List Loc → Prop}
    (X : Stand p l e R s m args below meth c T locs cells slots) (hx : p.tables.exec = Jvm.exec) (hZ : Z.Warmed39 s.vm) {own : String} {index : Nat} (hown : s.vm.findClass own = some m.cls) (hnm : y.name = "<init>")
    (w1 : (Jvm.Cond.methodLink own index y).before a0 Z = true) (w2 : (Jvm.Cond.instanceMethod y).before a0 Z = true) (w3 : (Jvm.Cond.initialized y.cls).before a0 Z = true) (w4 : (Jvm.Cond.code y bytes maxL none).before a0 Z = true)
    (hy : y.cls ≠ "java/lang/invoke/MethodHandle" ∧ y.cls ≠ "java/lang/invoke/VarHandle") (eT : T.heap = h) (hM : Ctr l Z y bytes maxL none [] rm as' h Qc)
    {pc : Nat} {Ls : Array Slot} {stk : List Value} (hsize : Ls.size = c.maxLocals) (a : Addr) (argsL rest : List Value) {ps : List FieldType} {r : Option FieldType} (hpd : parseMethodDescriptor y.desc = some ⟨ps, r⟩) (hlen : argsL.length = ps.length)
    (hstk : stk = argsL.reverse ++ .ref a :: rest) (has : (.ref a :: argsL).toArray = as') (hd : decode c.code pc = .ok (.invokespecial index, 3))
    (hf : rm.frames + 1 ≤ R.frames) (hl : (rest.map fun v => v.category).sum + (maxL + 11) + rm.locals ≤ R.locals) (hc : cells + rm.cells ≤ R.cells) (hs : slots + rm.slots ≤ R.slots)
    (g : ∀ (T' : State) (v : Option Value) (L : List Loc), Stand p l e R s m args below meth c T' (locs ++ L) (cells + rm.cells) (slots + rm.slots) → Qc v T'.heap L → Goes p e below P (T'.setTop (mkF m (pc + 3) Ls (v.toList ++ rest)))) :
    Goes p e below P (T.setTop (mkF m pc Ls stk)) := by
  subst has
  obtain ⟨v, _, ⟨T', L', k', n'⟩, -, X', ⟨Lc, hQ, l1, l2, l3⟩, st⟩ := X.specialBack hx (y := y) hnm hown (mvT hZ w1) (mvT hZ w2) (mvT hZ w4) hy (backOf (W := (rest.map fun v => v.category).sum) hM hZ w4 w3 hf hl) (g := mkF m pc Ls stk) rfl hsize (Steps.refl _) (a := a) (argsL := argsL) (rest := rest) (lenOf hpd hlen) hstk (by show 2 * 0 + _ ≤ _; omega) hd (fun _ _ => ⟨rfl, eT, hc, hs⟩)
  dsimp only [Pt.U, Pt.locs, Pt.cells, Pt.slots] at X' l1 l2 l3 st hQ
  subst l1 l2 l3
  exact Goes.via st (g T' v Lc X' hQ)
/-- an instance method by its contract -/
theorem Goes.callV {y : MethodName} {C : String} {bytes : ByteArray} {maxL : Nat} {ret : Option FieldType} {rm : Room} {as' : Array Value} {Qc : Option Value → Heap → List Loc → Prop}
    (X : Stand p l e R s m args below meth c T locs cells slots) (hx : p.tables.exec = Jvm.exec) (hZ : Z.Warmed39 s.vm) {own : String} {index : Nat} (hown : s.vm.findClass own = some m.cls)
    (w1 : (Jvm.Cond.methodLink own index y).before a0 Z = true) (w2 : (Jvm.Cond.declares y).before a0 Z = true) (w5 : (Jvm.Cond.selects C y y).before a0 Z = true) (w6 : (Jvm.Cond.instanceMethod y).before a0 Z = true) (w3 : (Jvm.Cond.initialized y.cls).before a0 Z = true) (w4 : (Jvm.Cond.code y bytes maxL ret).before a0 Z = true)
    (hy : y.cls ≠ "java/lang/invoke/MethodHandle" ∧ y.cls ≠ "java/lang/invoke/VarHandle") (eT : T.heap = h) {a : Addr} (E : Exa Z h a C) (hM : Ctr l Z y bytes maxL ret [] rm as' h Qc)
    {pc : Nat} {Ls : Array Slot} {stk : List Value} (hsize : Ls.size = c.maxLocals) (argsL rest : List Value) {ps : List FieldType} {r : Option FieldType} (hpd : parseMethodDescriptor y.desc = some ⟨ps, r⟩) (hlen : argsL.length = ps.length)
    (hstk : stk = argsL.reverse ++ .ref a :: rest) (has : (.ref a :: argsL).toArray = as') (hd : decode c.code pc = .ok (.invokevirtual index, 3))
    (hf : rm.frames + 1 ≤ R.frames) (hl : (rest.map fun v => v.category).sum + (maxL + 11) + rm.locals ≤ R.locals) (hc : cells + rm.cells ≤ R.cells) (hs : slots + rm.slots ≤ R.slots)
    (g : ∀ (T' : State) (v : Option Value) (L : List Loc), Stand p l e R s m args below meth c T' (locs ++ L) (cells + rm.cells) (slots + rm.slots) → Qc v T'.heap L → Goes p e below P (T'.setTop (mkF m (pc + 3) Ls (v.toList ++ rest)))) :
    Goes p e below P (T.setTop (mkF m pc Ls stk)) := by
  subst has
  obtain ⟨cB, kB, q1, -, q3⟩ := isOf hZ eT E
  obtain ⟨v, _, ⟨T', L', k', n'⟩, -, X', ⟨Lc, hQ, l1, l2, l3⟩, st⟩ := X.virtualBack hx (y := y) (z := y) hown (mvT hZ w1) (mvT hZ w2) (notFace_of_selects (args := #[]) (mvT hZ w5)) (mvT hZ w5) (mvT hZ w6) hy (backOf (W := (rest.map fun v => v.category).sum) hM hZ w4 w3 hf hl) q1 q3 (g := mkF m pc Ls stk) rfl hsize (Steps.refl _) (argsL := argsL) (rest := rest) (lenOf hpd hlen) hstk (by show 2 * 0 + _ ≤ _; omega) hd (fun _ _ => ⟨rfl, eT, hc, hs⟩)
  dsimp only [Pt.U, Pt.locs, Pt.cells, Pt.slots] at X' l1 l2 l3 st hQ
  subst l1 l2 l3
  exact Goes.via st (g T' v Lc X' hQ)
theorem Goes.iaload (X : Stand p l e R s m args below meth c T locs cells slots) (hx : p.tables.exec = Jvm.exec) (hZ : Z.Warmed39 s.vm) (eT : T.heap = h) {a : Addr} {kc : ClassId} {z : Int32} {vs : List Value} {dv : Value} (V : Arv Z h a kc .int z vs dv) {j : Int32} (hj : ¬ j < 0 ∧ j < z) {w : Value} (hw : vs.getD j.toNatClampNeg dv = w)
    {pc : Nat} {Ls : Array Slot} {rest : List Value} (hd : decode c.code pc = .ok (.iaload, 1)) (g : Goes p e below P (T.setTop (mkF m (pc + 1) Ls (w :: rest)))) : Goes p e below P (T.setTop (mkF m pc Ls (.int j :: .ref a :: rest))) := by
  obtain ⟨cl, A, -, S, -, H, -⟩ := V
  exact Goes.pre (fun t kk => X.iaload hx (by rw [eT]; exact A.1) (State.isArrayOf_alike hZ.alike A.2.1) A.2.2 (inb_of S hj) (H.at (inb_of S hj) hw) (g := mkF m pc Ls (.int j :: .ref a :: rest)) rfl rfl hd t kk) g
theorem Goes.baloadZ (X : Stand p l e R s m args below meth c T locs cells slots) (hx : p.tables.exec = Jvm.exec) (hZ : Z.Warmed39 s.vm) (eT : T.heap = h) {a : Addr} {kc : ClassId} {z : Int32} {vs : List Value} {dv : Value} (V : Arv Z h a kc .boolean z vs dv) {j : Int32} (hj : ¬ j < 0 ∧ j < z) {w : Value} (hw : vs.getD j.toNatClampNeg dv = w)
    {pc : Nat} {Ls : Array Slot} {rest : List Value} (hd : decode c.code pc = .ok (.baload, 1)) (g : Goes p e below P (T.setTop (mkF m (pc + 1) Ls (w :: rest)))) : Goes p e below P (T.setTop (mkF m pc Ls (.int j :: .ref a :: rest))) := by
  obtain ⟨cl, A, -, S, -, H, -⟩ := V
  exact Goes.pre (fun t kk => X.baloadBooleans hx (by rw [eT]; exact A.1) (State.isArrayOf_alike hZ.alike A.2.1) A.2.2 (inb_of S hj) (H.at (inb_of S hj) hw) (g := mkF m pc Ls (.int j :: .ref a :: rest)) rfl rfl hd t kk) g
theorem Goes.baloadB (X : Stand p l e R s m args below meth c T locs cells slots) (hx : p.tables.exec = Jvm.exec) (hZ : Z.Warmed39 s.vm) (eT : T.heap = h) {a : Addr} {kc : ClassId} {z : Int32} {vs : List Value} {dv : Value} (V : Arv Z h a kc .byte z vs dv) {j : Int32} (hj : ¬ j < 0 ∧ j < z) {w : Value} (hw : vs.getD j.toNatClampNeg dv = w)
    {pc : Nat} {Ls : Array Slot} {rest : List Value} (hd : decode c.code pc = .ok (.baload, 1)) (g : Goes p e below P (T.setTop (mkF m (pc + 1) Ls (w :: rest)))) : Goes p e below P (T.setTop (mkF m pc Ls (.int j :: .ref a :: rest))) := by
  obtain ⟨cl, A, -, S, -, H, -⟩ := V
  exact Goes.pre (fun t kk => X.baloadBytes hx (by rw [eT]; exact A.1) (State.isArrayOf_alike hZ.alike A.2.1) A.2.2 (inb_of S hj) (H.at (inb_of S hj) hw) (g := mkF m pc Ls (.int j :: .ref a :: rest)) rfl rfl hd t kk) g
theorem Goes.aaload (X : Stand p l e R s m args below meth c T locs cells slots) (hx : p.tables.exec = Jvm.exec) (hZ : Z.Warmed39 s.vm) (eT : T.heap = h) {a : Addr} {kc : ClassId} {ty : FieldType} (hty : ty.isReference = true) {z : Int32} {vs : List Value} {dv : Value} (V : Arv Z h a kc ty z vs dv) {j : Int32} (hj : ¬ j < 0 ∧ j < z) {w : Value} (hw : vs.getD j.toNatClampNeg dv = w)
    {pc : Nat} {Ls : Array Slot} {rest : List Value} (hd : decode c.code pc = .ok (.aaload, 1)) (g : Goes p e below P (T.setTop (mkF m (pc + 1) Ls (w :: rest)))) : Goes p e below P (T.setTop (mkF m pc Ls (.int j :: .ref a :: rest))) := by
  obtain ⟨cl, A, -, S, -, H, -⟩ := V
  exact Goes.pre (fun t kk => X.aaload hx (by rw [eT]; exact A.1) (State.isArrayOf_alike hZ.alike A.2.1) hty A.2.2 (inb_of S hj) (H.at (inb_of S hj) hw) (g := mkF m pc Ls (.int j :: .ref a :: rest)) rfl rfl hd t kk) g
theorem Goes.alen (X : Stand p l e R s m args below meth c T locs cells slots) (hx : p.tables.exec = Jvm.exec) (hZ : Z.Warmed39 s.vm) (eT : T.heap = h) {a : Addr} {kc : ClassId} {ty : FieldType} {z : Int32} {vs : List Value} {dv : Value} (V : Arv Z h a kc ty z vs dv)
    {pc : Nat} {Ls : Array Slot} {rest : List Value} (hd : decode c.code pc = .ok (.arraylength, 1)) (g : Goes p e below P (T.setTop (mkF m (pc + 1) Ls (.int z :: rest)))) : Goes p e below P (T.setTop (mkF m pc Ls (.ref a :: rest))) := by
  obtain ⟨cl, A, -, S, M, -, -⟩ := V
  rw [← len_of S M] at g
  exact Goes.pre (fun t kk => X.arraylength hx (cell := cl) (by rw [eT]; exact A.1) (State.isArrayOf_alike hZ.alike A.2.1) (g := mkF m pc Ls (.ref a :: rest)) rfl rfl hd t kk) g
end Own
theorem own_ltI {a b : Int32} : a < b ↔ a.toInt < b.toInt := Int32.lt_iff_toInt_lt
theorem own_eqI {a b : Int32} : a = b ↔ a.toInt = b.toInt := Int32.toInt_inj.symm
theorem own_ints (xs : List Int32) (i : Nat) : (xs.map Value.int).getD i (.int 0) = .int (xs.getD i 0) := by
  induction xs generalizing i with
  | nil => rfl
  | cons x xs ih => cases i with
    | zero => rfl
    | succ i => exact ih i
theorem own_mask31 (x : Int32) : ¬ (x &&& 2147483647) < 0 := by
  rw [own_ltI, Jvm.Kit.i32_mask x 2147483647 (k := 31) (by decide) (by decide), show (0 : Int32).toInt = 0 from rfl]
  omega
theorem own_rem (x y : Int32) (hx : ¬ x < 0) (hy : 0 < y) : ¬ x % y < 0 ∧ x % y < y := by
  rw [own_ltI, show (0 : Int32).toInt = 0 from rfl] at hx hy
  have e := Jvm.Kit.i32_rem_nonneg (x := x) (y := y) (by omega)
  rw [own_ltI, own_ltI, e, show (0 : Int32).toInt = 0 from rfl]
  have a := Int.emod_nonneg x.toInt (show y.toInt ≠ 0 by omega)
  have b := Int.emod_lt_of_pos x.toInt hy
  omega
theorem own_len {Z : State} {args : Array Value} {t : Term} {a : Addr} {cl : Cell} {ty : FieldType} {z : Int32} (ev : t.eval args Z none [] Z = some (.ref a)) (A : Arr Z Z.heap a cl ty) (h : (Term.length t).eval args Z none [] Z = some (.int z)) : cl.slots.size < 2 ^ 31 ∧ cl.slots.size.toInt32 = z := by
  have hA : Z.arrayAt? a = some cl := Arr.fin (State.Warmed39.refl Z).alike A
  simp [Term.eval, ev, hA] at h
  exact h
theorem own_eqvR {Z : State} {args : Array Value} {X F : Term} {idx : List Nat} {x : Addr} (hF : F.eval args Z none idx Z = some (.ref x)) (h : (Cond.eq X F).value args Z none Z idx = some true) : X.eval args Z none idx Z = some (.ref x) := by
  obtain ⟨u, y, hu, hy, k1, k2⟩ := cmp_v (Or.inl h)
  cases hF.symm.trans hy
  have hr : u.isRef = true := k2.2
  have q := gotT (eq_R hu hy hr rfl) h
  rw [hu, q]
theorem own_StaKeep {Z : State} {h h' : Heap} {C n d : String} {v : Value} (F : Sta Z h C n d v) (K : Keep h h' []) : Sta Z h' C n d v := by
  obtain ⟨cf, i, k, f, st, cell, h1, h2, h3, h4, h5, r⟩ := F
  exact ⟨cf, i, k, f, st, cell, h1, h2, h3, h4, K.2.1 _ _ h5 nin0, r⟩
theorem own_neLt {a b n : Nat} (h : a < n) (h2 : n ≤ b) : a ≠ b := Nat.ne_of_lt (Nat.lt_of_lt_of_le h h2)
theorem own_pad (P U : Int) (hU : 0 < U) : 0 ≤ (U - P.tmod U).tmod U ∧ (U - P.tmod U).tmod U < U ∧ (P.tmod U + (U - P.tmod U).tmod U).tmod U = 0 ∧ 0 < U - P.tmod U ∧ U - P.tmod U < 2 * U := by
  have h1 := Int.tmod_lt_of_pos P hU
  have h2 : -U < P.tmod U := by
    rcases Int.lt_or_le P 0 with h | h
    · have q := Int.tmod_lt_of_pos (-P) hU
      rw [Int.neg_tmod] at q
      omega
    · have q := Int.tmod_nonneg U h
      omega
  generalize P.tmod U = M at h1 h2
  have e : (U - M).tmod U = if 0 < M then U - M else -M := by
    rw [Int.tmod_eq_emod_of_nonneg (by omega)]
    split
    · exact Int.emod_eq_of_lt (by omega) (by omega)
    · rw [show U - M = -M + U from by omega, Int.add_emod_right]
      exact Int.emod_eq_of_lt (by omega) (by omega)
  rw [e]
  split
  · rw [show M + (U - M) = U from by omega, Int.tmod_self]
    omega
  · rw [show M + -M = 0 from by omega, Int.zero_tmod]
    omega
/-- what paddingAt answers, and what the law asks of it -/
theorem own_r (q : Int64) (u : Int32) (hu : 0 < u) :
    let M : Int64 := q - q / u.toInt64 * u.toInt64
    let t : Int64 := u.toInt64 - M
    let r : Int64 := ((t - t / u.toInt64 * u.toInt64).toInt32).toInt64
    ¬ r < 0 ∧ r < u.toInt64 ∧ (M + r) - (M + r) / u.toInt64 * u.toInt64 = 0 := by
  intro M t r
  rw [own_ltI, show (0 : Int32).toInt = 0 from rfl] at hu
  have hU := u.toInt_lt
  have eu : u.toInt64.toInt = u.toInt := Int32.toInt_toInt64 u
  obtain ⟨a1, a2, a3, a4, a5⟩ := own_pad q.toInt u.toInt hu
  have eM : M.toInt = q.toInt.tmod u.toInt := by rw [← eu]; exact Jvm.Kit.i64_rem q u.toInt64
  have et : t.toInt = u.toInt - q.toInt.tmod u.toInt := by
    show (u.toInt64 - M).toInt = _
    rw [Jvm.Kit.i64_sub, eu, eM]
    · rw [eu, eM]; omega
    · rw [eu, eM]; omega
  have er0 : (t - t / u.toInt64 * u.toInt64).toInt = (u.toInt - q.toInt.tmod u.toInt).tmod u.toInt := by rw [Jvm.Kit.i64_rem, et, eu]
  have er : r.toInt = (u.toInt - q.toInt.tmod u.toInt).tmod u.toInt := by
    show ((t - t / u.toInt64 * u.toInt64).toInt32).toInt64.toInt = _
    rw [Int32.toInt_toInt64, Jvm.Kit.i32_of_i64, er0]
    · rw [er0]; omega
    · rw [er0]; omega
  refine ⟨?_, ?_, ?_⟩
  · rw [Int64.lt_iff_toInt_lt, er, show (0 : Int64).toInt = 0 from rfl]; omega
  · rw [Int64.lt_iff_toInt_lt, er, eu]; exact a2
  · rw [← Int64.toInt_inj, Jvm.Kit.i64_rem, eu, Jvm.Kit.i64_add, eM, er, a3]
    · rfl
    · rw [eM, er]; omega
    · rw [eM, er]; omega
theorem own_ne (u : Int32) (hu : 0 < u) : u.toInt64 ≠ 0 := fun q => by
  have e : u.toInt64.toInt = u.toInt := Int32.toInt_toInt64 u
  rw [q, show (0 : Int64).toInt = 0 from rfl] at e
  rw [own_ltI, show (0 : Int32).toInt = 0 from rfl] at hu
  omega
theorem own_bool {b : Int32} (h : b = 0 ∨ b = 1) : narrow .boolean (.int b) = .int b ∧ fits .boolean (.int b) = true := by rcases h with rfl | rfl <;> exact ⟨rfl, rfl⟩

theorem own_u1 (x : Int32) : 0 < 1 + (x &&& 63) := by
  have e := Jvm.Kit.i32_mask x 63 (k := 6) (by decide) (by decide)
  rw [own_ltI, Jvm.Kit.i32_add (by rw [e, show (1 : Int32).toInt = 1 from rfl]; omega) (by rw [e, show (1 : Int32).toInt = 1 from rfl]; omega), e, show (1 : Int32).toInt = 1 from rfl, show (0 : Int32).toInt = 0 from rfl]
  omega
theorem own_u2 (x : Int32) (h : ¬ (x &&& 2147483647) = 0) : 0 < x &&& 2147483647 := by
  have e := own_mask31 x
  rw [own_eqI] at h
  rw [own_ltI] at e ⊢
  rw [show (0 : Int32).toInt = 0 from rfl] at *
  omega
theorem din_0 : decode prog_2_method_1_code 0 = .ok (.aload_n 0, 1) := by decide +kernel
theorem din_1 : decode prog_2_method_1_code 1 = .ok (.invokespecial 1, 3) := by decide +kernel
theorem din_4 : decode prog_2_method_1_code 4 = .ok (.aload_n 0, 1) := by decide +kernel
theorem din_5 : decode prog_2_method_1_code 5 = .ok (.iload_n 1, 1) := by decide +kernel
theorem din_6 : decode prog_2_method_1_code 6 = .ok (.putfield 7, 3) := by decide +kernel
theorem din_9 : decode prog_2_method_1_code 9 = .ok (.aload_n 0, 1) := by decide +kernel
theorem din_10 : decode prog_2_method_1_code 10 = .ok (.iload_n 2, 1) := by decide +kernel
theorem din_11 : decode prog_2_method_1_code 11 = .ok (.putfield 13, 3) := by decide +kernel
theorem din_14 : decode prog_2_method_1_code 14 = .ok (.return_, 1) := by decide +kernel
theorem pd_in : parseMethodDescriptor "(IZ)V" = some ⟨[.int, .boolean], none⟩ := by decide +kernel
theorem pn_in : plainName "com/example/tagweave/tagweave/asn1/Alignment" = true := by first | (simp [plainName, overriddenIn]; done) | decide +kernel
def Q_in (Z : State) (a : Addr) (u : Int32) (h0 : Heap) (n0 : Nat) (v : Option Value) (h : Heap) (L : List Loc) : Prop := v = none ∧ Fr n0 L ∧ Keep h0 h [a] ∧ Fld Z h a "com/example/tagweave/tagweave/asn1/Alignment" "unit" "I" (.int u)
theorem ef_in (m : MethodId) (a : Addr) (u : Int32) (b : Int32) : entryFrame m #[(.ref a), (.int u), (.int b)] 3 = mkF m 0 #[.val (.ref a), .val (.int u), .val (.int b)] [] := by first | (simp [entryFrame, mkF, argsToLocals, Value.category]; done) | rfl
set_option maxRecDepth 65536 in
set_option maxHeartbeats 40000000 in
theorem rm_in (l : Launch) (Z : State) (a0 : Array Value) (hw : ∀ d ∈ tables_1, d.before a0 Z = true) (ws : List Jvm.Cond) (a : Addr) (u : Int32) (b : Int32)  (h0 : Heap) (n0 : Nat) (Z0 : n0 ≤ h0.size) (hb01 : b = 0 ∨ b = 1) (F1 : Fld Z h0 a "com/example/tagweave/tagweave/asn1/Alignment" "unit" "I" (.int (0 : Int32))) (F2 : Fld Z h0 a "com/example/tagweave/tagweave/asn1/Alignment" "ones" "Z" (.int (0 : Int32))) (E0 : Exa Z h0 a "com/example/tagweave/tagweave/asn1/Alignment") (ga : n0 ≤ a) :
    Ctr l Z (⟨"com/example/tagweave/tagweave/asn1/Alignment", "<init>", "(IZ)V"⟩ : MethodName) prog_2_method_1_code 3 (none : Option FieldType) ws ({ frames := 1, cells := 0, slots := 0, locals := 12 } : Room) #[(.ref a), (.int u), (.int b)] h0 (Q_in Z a u h0 n0) := by
  refine MetFree.of_bodySF (plainFor_of_name pn_in) hisR ?_
  intro p e s m args below meth c s₁ Bd hml0 hP hK
  obtain ⟨rfl, hZ, hh⟩ := hP
  have hx := Bd.exec
  have hby := Bd.bytes
  have hlk : meth.locks = false := Bd.notSynchronized
  have hml : c.maxLocals = 3 := hml0
  have hown : s.vm.findClass "com/example/tagweave/tagweave/asn1/Alignment" = some m.cls := findClass_of_methodNamed Bd.named
  have hnm := (name_of_methodNamed Bd.named Bd.method).1
  have X0 : Stand p l e ({ frames := 1, cells := 0, slots := 0, locals := 12 } : Room) s m #[(.ref a), (.int u), (.int b)] below meth c s₁ [] 0 0 := Stand.of_body Bd
  have e0 : s₁.heap = h0 := by rw [← hh, Bd.state]; rfl
  have N0 := Fr.nil n0
  show Goes p e below (EndQ s (Q_in Z a u h0 n0) ({ frames := 1, cells := 0, slots := 0, locals := 12 } : Room).cells ({ frames := 1, cells := 0, slots := 0, locals := 12 } : Room).slots) (s₁.setTop (entryFrame m #[(.ref a), (.int u), (.int b)] 3))
  refine Goes.pre (S' := (s₁.setTop (mkF m 0 #[.val (.ref a), .val (.int u), .val (.int b)] []))) (fun t k => castTop (ef_in m a u b) k) ?_
  refine Goes.pre (S' := (s₁.setTop (mkF m 1 #[.val (.ref a), .val (.int u), .val (.int b)] [(.ref a)]))) (fun _ k => XS.aloadN X0.here hx rfl (hb hby din_0) rfl rfl k) ?_
  obtain ⟨T1, X1, e1, st1⟩ := initO X0 hx hZ hown (hw _ (List.mem_of_getElem? (i := 6) rfl)) (hw _ (List.mem_of_getElem? (i := 7) rfl)) (hw _ (List.mem_of_getElem? (i := 8) rfl)) e0 (g := (mkF m 1 #[.val (.ref a), .val (.int u), .val (.int b)] [(.ref a)])) rfl (by rw [hml]; rfl) rfl (hb hby din_1) (by decide) (W := 0) (by show 2 * 0 + _ ≤ _; exact Nat.le_of_eq rfl) (by decide)
  refine Goes.pre (S' := (T1.setTop (mkF m 4 #[.val (.ref a), .val (.int u), .val (.int b)] []))) st1 ?_
  refine Goes.pre (S' := (T1.setTop (mkF m 5 #[.val (.ref a), .val (.int u), .val (.int b)] [(.ref a)]))) (fun _ k => XS.aloadN X1.here hx rfl (hb hby din_4) rfl rfl k) ?_
  refine Goes.pre (S' := (T1.setTop (mkF m 6 #[.val (.ref a), .val (.int u), .val (.int b)] [(.int u), (.ref a)]))) (fun _ k => XS.iloadN X1.here hx rfl (hb hby din_5) rfl k) ?_
  obtain ⟨T2, h2, X2, e2, W2, st2⟩ := putF X1 hx hZ hown (host := "") (Or.inl (hw _ (List.mem_of_getElem? (i := 9) rfl))) Via.refl e1 F1 E0 (Or.inr ⟨(hw _ (List.mem_of_getElem? (i := 10) rfl)), rfl, hnm⟩) (hw _ (List.mem_of_getElem? (i := 1) rfl)) (ty := .int) (by decide) rfl rfl (g := (mkF m 6 #[.val (.ref a), .val (.int u), .val (.int b)] [(.int u), (.ref a)])) rfl rfl (hb hby din_6)
  have N2 := Fr.snoc X2 N0 ga
  have Zn2 : n0 ≤ h2.size := Nat.le_trans Z0 (Nat.le_of_eq W2.size.symm)
  refine Goes.pre (S' := (T2.setTop (mkF m 9 #[.val (.ref a), .val (.int u), .val (.int b)] []))) st2 ?_
  have E1 := E0.wr W2
  have F1a := F1.same W2
  have sne := slot_ne (Z := Z) (a0 := a0) (Or.inr (hw _ (List.mem_of_getElem? (i := 10) rfl))) (Or.inr (hw _ (List.mem_of_getElem? (i := 12) rfl))) (by decide) (t := .int) (t' := .boolean) (by decide) (by decide)
  have F2a := F2.other W2 (Or.inr sne.symm)
  refine Goes.pre (S' := (T2.setTop (mkF m 10 #[.val (.ref a), .val (.int u), .val (.int b)] [(.ref a)]))) (fun _ k => XS.aloadN X2.here hx rfl (hb hby din_9) rfl rfl k) ?_
  refine Goes.pre (S' := (T2.setTop (mkF m 11 #[.val (.ref a), .val (.int u), .val (.int b)] [(.int b), (.ref a)]))) (fun _ k => XS.iloadN X2.here hx rfl (hb hby din_10) rfl k) ?_
  obtain ⟨T3, h3, X3, e3, W3, st3⟩ := putF X2 hx hZ hown (host := "") (Or.inl (hw _ (List.mem_of_getElem? (i := 11) rfl))) Via.refl e2 F2a E1 (Or.inr ⟨(hw _ (List.mem_of_getElem? (i := 12) rfl)), rfl, hnm⟩) (hw _ (List.mem_of_getElem? (i := 1) rfl)) (ty := .boolean) (by decide) (own_bool hb01).1 (own_bool hb01).2 (g := (mkF m 11 #[.val (.ref a), .val (.int u), .val (.int b)] [(.int b), (.ref a)])) rfl rfl (hb hby din_11)
  have N3 := Fr.snoc X3 N2 ga
  have Zn3 : n0 ≤ h3.size := Nat.le_trans Zn2 (Nat.le_of_eq W3.size.symm)
  refine Goes.pre (S' := (T3.setTop (mkF m 14 #[.val (.ref a), .val (.int u), .val (.int b)] []))) st3 ?_
  have F1b := F1a.other W3 (Or.inr sne)
  have K : Keep h0 h3 [a] := ((Keep.refl _ _).wr W2 (Or.inl (List.mem_singleton.mpr rfl))).wr W3 (Or.inl (List.mem_singleton.mpr rfl))
  exact Goes.retV X3 hx hlk Bd.returns (hb hby din_14) (by rw [e3]; exact ⟨rfl, N3, K, F1b⟩) (by first | decide | exact Nat.le_of_ble_eq_true rfl | assumption | (simp [Value.category]; done)) (by first | decide | exact Nat.le_of_ble_eq_true rfl | assumption | (simp [Value.category]; done))
theorem dpa_0 : decode prog_2_method_2_code 0 = .ok (.aload_n 0, 1) := by decide +kernel
theorem dpa_1 : decode prog_2_method_2_code 1 = .ok (.getfield 7, 3) := by decide +kernel
theorem dpa_4 : decode prog_2_method_2_code 4 = .ok (.i2l, 1) := by decide +kernel
theorem dpa_5 : decode prog_2_method_2_code 5 = .ok (.lload_n 1, 1) := by decide +kernel
theorem dpa_6 : decode prog_2_method_2_code 6 = .ok (.aload_n 0, 1) := by decide +kernel
theorem dpa_7 : decode prog_2_method_2_code 7 = .ok (.getfield 7, 3) := by decide +kernel
theorem dpa_10 : decode prog_2_method_2_code 10 = .ok (.i2l, 1) := by decide +kernel
theorem dpa_11 : decode prog_2_method_2_code 11 = .ok (.lrem, 1) := by decide +kernel
theorem dpa_12 : decode prog_2_method_2_code 12 = .ok (.lsub, 1) := by decide +kernel
theorem dpa_13 : decode prog_2_method_2_code 13 = .ok (.aload_n 0, 1) := by decide +kernel
theorem dpa_14 : decode prog_2_method_2_code 14 = .ok (.getfield 7, 3) := by decide +kernel
theorem dpa_17 : decode prog_2_method_2_code 17 = .ok (.i2l, 1) := by decide +kernel
theorem dpa_18 : decode prog_2_method_2_code 18 = .ok (.lrem, 1) := by decide +kernel
theorem dpa_19 : decode prog_2_method_2_code 19 = .ok (.l2i, 1) := by decide +kernel
theorem dpa_20 : decode prog_2_method_2_code 20 = .ok (.ireturn, 1) := by decide +kernel
theorem pd_pa : parseMethodDescriptor "(J)I" = some ⟨[.long], some .int⟩ := by decide +kernel
theorem pn_pa : plainName "com/example/tagweave/tagweave/asn1/Alignment" = true := by first | (simp [plainName, overriddenIn]; done) | decide +kernel
def Q_pa (u : Int32) (q : Int64) (h0 : Heap) (n0 : Nat) (v : Option Value) (h : Heap) (L : List Loc) : Prop := v = some (.int ((u.toInt64 - (q - q / u.toInt64 * u.toInt64)) - (u.toInt64 - (q - q / u.toInt64 * u.toInt64)) / u.toInt64 * u.toInt64).toInt32) ∧ Fr n0 L ∧ h = h0
theorem ef_pa (m : MethodId) (a : Addr) (q : Int64) : entryFrame m #[(.ref a), (.long q)] 3 = mkF m 0 #[.val (.ref a), .val (.long q), .second] [] := by first | (simp [entryFrame, mkF, argsToLocals, Value.category]; done) | rfl
set_option maxRecDepth 65536 in
set_option maxHeartbeats 40000000 in
theorem rm_pa (l : Launch) (Z : State) (a0 : Array Value) (hw : ∀ d ∈ tables_1, d.before a0 Z = true) (ws : List Jvm.Cond) (a : Addr) (q : Int64) (u : Int32) (h0 : Heap) (n0 : Nat) (Z0 : n0 ≤ h0.size) (hu : 0 < u) (F1 : Fld Z h0 a "com/example/tagweave/tagweave/asn1/Alignment" "unit" "I" (.int u)) :
    Ctr l Z (⟨"com/example/tagweave/tagweave/asn1/Alignment", "paddingAt", "(J)I"⟩ : MethodName) prog_2_method_2_code 3 (some .int) ws ({ frames := 0, cells := 0, slots := 0, locals := 0 } : Room) #[(.ref a), (.long q)] h0 (Q_pa u q h0 n0) := by
  refine MetFree.of_bodySF (plainFor_of_name pn_pa) hisR ?_
  intro p e s m args below meth c s₁ Bd hml0 hP hK
  obtain ⟨rfl, hZ, hh⟩ := hP
  have hx := Bd.exec
  have hby := Bd.bytes
  have hlk : meth.locks = false := Bd.notSynchronized
  have hml : c.maxLocals = 3 := hml0
  have hown : s.vm.findClass "com/example/tagweave/tagweave/asn1/Alignment" = some m.cls := findClass_of_methodNamed Bd.named
  have hnm := (name_of_methodNamed Bd.named Bd.method).1
  have X0 : Stand p l e ({ frames := 0, cells := 0, slots := 0, locals := 0 } : Room) s m #[(.ref a), (.long q)] below meth c s₁ [] 0 0 := Stand.of_body Bd
  have e0 : s₁.heap = h0 := by rw [← hh, Bd.state]; rfl
  have N0 := Fr.nil n0
  show Goes p e below (EndQ s (Q_pa u q h0 n0) ({ frames := 0, cells := 0, slots := 0, locals := 0 } : Room).cells ({ frames := 0, cells := 0, slots := 0, locals := 0 } : Room).slots) (s₁.setTop (entryFrame m #[(.ref a), (.long q)] 3))
  refine Goes.pre (S' := (s₁.setTop (mkF m 0 #[.val (.ref a), .val (.long q), .second] []))) (fun t k => castTop (ef_pa m a q) k) ?_
  refine Goes.pre (S' := (s₁.setTop (mkF m 1 #[.val (.ref a), .val (.long q), .second] [(.ref a)]))) (fun _ k => XS.aloadN X0.here hx rfl (hb hby dpa_0) rfl rfl k) ?_
  obtain ⟨T1, X1, e1, st1⟩ := getF X0 hx hZ hown (host := "") (Or.inl (hw _ (List.mem_of_getElem? (i := 9) rfl))) Via.refl e0 F1 (g := (mkF m 1 #[.val (.ref a), .val (.long q), .second] [(.ref a)])) rfl rfl (hb hby dpa_1)
  refine Goes.pre (S' := (T1.setTop (mkF m 4 #[.val (.ref a), .val (.long q), .second] [(.int u)]))) st1 ?_
  refine Goes.pre (S' := (T1.setTop (mkF m 5 #[.val (.ref a), .val (.long q), .second] [(.long (u).toInt64)]))) (fun _ k => XT.i2l X1.here hx rfl (hb hby dpa_4) rfl k) ?_
  refine Goes.pre (S' := (T1.setTop (mkF m 6 #[.val (.ref a), .val (.long q), .second] [(.long q), (.long (u).toInt64)]))) (fun _ k => XT.lloadN X1.here hx rfl (hb hby dpa_5) rfl k) ?_
  refine Goes.pre (S' := (T1.setTop (mkF m 7 #[.val (.ref a), .val (.long q), .second] [(.ref a), (.long q), (.long (u).toInt64)]))) (fun _ k => XS.aloadN X1.here hx rfl (hb hby dpa_6) rfl rfl k) ?_
  obtain ⟨T2, X2, e2, st2⟩ := getF X1 hx hZ hown (host := "") (Or.inl (hw _ (List.mem_of_getElem? (i := 9) rfl))) Via.refl e1 F1 (g := (mkF m 7 #[.val (.ref a), .val (.long q), .second] [(.ref a), (.long q), (.long (u).toInt64)])) rfl rfl (hb hby dpa_7)
  refine Goes.pre (S' := (T2.setTop (mkF m 10 #[.val (.ref a), .val (.long q), .second] [(.int u), (.long q), (.long (u).toInt64)]))) st2 ?_
  refine Goes.pre (S' := (T2.setTop (mkF m 11 #[.val (.ref a), .val (.long q), .second] [(.long (u).toInt64), (.long q), (.long (u).toInt64)]))) (fun _ k => XT.i2l X2.here hx rfl (hb hby dpa_10) rfl k) ?_
  refine Goes.pre (S' := (T2.setTop (mkF m 12 #[.val (.ref a), .val (.long q), .second] [(.long (q - (q / (u).toInt64) * (u).toInt64)), (.long (u).toInt64)]))) (fun _ k => XT.lrem X2.here hx rfl (hb hby dpa_11) rfl (own_ne u hu) k) ?_
  refine Goes.pre (S' := (T2.setTop (mkF m 13 #[.val (.ref a), .val (.long q), .second] [(.long ((u).toInt64 - (q - (q / (u).toInt64) * (u).toInt64)))]))) (fun _ k => XT.lsub X2.here hx rfl (hb hby dpa_12) rfl k) ?_
  refine Goes.pre (S' := (T2.setTop (mkF m 14 #[.val (.ref a), .val (.long q), .second] [(.ref a), (.long ((u).toInt64 - (q - (q / (u).toInt64) * (u).toInt64)))]))) (fun _ k => XS.aloadN X2.here hx rfl (hb hby dpa_13) rfl rfl k) ?_
  obtain ⟨T3, X3, e3, st3⟩ := getF X2 hx hZ hown (host := "") (Or.inl (hw _ (List.mem_of_getElem? (i := 9) rfl))) Via.refl e2 F1 (g := (mkF m 14 #[.val (.ref a), .val (.long q), .second] [(.ref a), (.long ((u).toInt64 - (q - (q / (u).toInt64) * (u).toInt64)))])) rfl rfl (hb hby dpa_14)
  refine Goes.pre (S' := (T3.setTop (mkF m 17 #[.val (.ref a), .val (.long q), .second] [(.int u), (.long ((u).toInt64 - (q - (q / (u).toInt64) * (u).toInt64)))]))) st3 ?_
  refine Goes.pre (S' := (T3.setTop (mkF m 18 #[.val (.ref a), .val (.long q), .second] [(.long (u).toInt64), (.long ((u).toInt64 - (q - (q / (u).toInt64) * (u).toInt64)))]))) (fun _ k => XT.i2l X3.here hx rfl (hb hby dpa_17) rfl k) ?_
  refine Goes.pre (S' := (T3.setTop (mkF m 19 #[.val (.ref a), .val (.long q), .second] [(.long (((u).toInt64 - (q - (q / (u).toInt64) * (u).toInt64)) - (((u).toInt64 - (q - (q / (u).toInt64) * (u).toInt64)) / (u).toInt64) * (u).toInt64))]))) (fun _ k => XT.lrem X3.here hx rfl (hb hby dpa_18) rfl (own_ne u hu) k) ?_
  refine Goes.pre (S' := (T3.setTop (mkF m 20 #[.val (.ref a), .val (.long q), .second] [(.int ((((u).toInt64 - (q - (q / (u).toInt64) * (u).toInt64)) - (((u).toInt64 - (q - (q / (u).toInt64) * (u).toInt64)) / (u).toInt64) * (u).toInt64)).toInt32)]))) (fun _ k => XT.l2i X3.here hx rfl (hb hby dpa_19) rfl k) ?_
  exact Goes.ret X3 hx hlk (t := .int) Bd.returns rfl (Or.inl ⟨rfl, Or.inl rfl, _, rfl⟩) (hb hby dpa_20) ⟨rfl, N0, e3⟩ (by first | decide | exact Nat.le_of_ble_eq_true rfl | assumption | (simp [Value.category]; done)) (by first | decide | exact Nat.le_of_ble_eq_true rfl | assumption | (simp [Value.category]; done))
theorem pn_law : plainName "com/example/tagweave/tagweave/asn1/AlignmentPaddingAtPinLaw" = true := by first | (simp [plainName, overriddenIn]; done) | decide +kernel
def Q_law (h0 : Heap) (n0 : Nat) (v : Option Value) (h : Heap) (L : List Loc) : Prop := v = some (.int 1) ∧ Fr n0 L
theorem ef_law (m : MethodId) (i0 : Int64) (i1 : Int32) (i2 : Int32) (i3 : Int32) : entryFrame m #[(.long i0), (.int i1), (.int i2), (.int i3)] maxLocals = mkF m 0 #[.val (.long i0), .second, .val (.int i1), .val (.int i2), .val (.int i3), .unset, .unset, .unset, .unset, .unset, .unset, .unset, .unset] [] := by first | (simp [entryFrame, mkF, argsToLocals, Value.category, maxLocals]; done) | rfl
set_option maxRecDepth 65536 in
set_option maxHeartbeats 40000000 in
theorem rm_law (l : Launch) (Z : State) (a0 : Array Value) (hw : ∀ d ∈ tables_1, d.before a0 Z = true) (ws : List Jvm.Cond) (i0 : Int64) (i1 : Int32) (i2 : Int32) (i3 : Int32)  (h0 : Heap) (n0 : Nat) (Z0 : n0 ≤ h0.size)  :
    Ctr l Z x code maxLocals ret ws room_1 #[(.long i0), (.int i1), (.int i2), (.int i3)] h0 (Q_law h0 n0) := by
  refine MetFree.of_bodySF (plainFor_of_name pn_law) hisR ?_
  intro p e s m args below meth c s₁ Bd hml0 hP hK
  obtain ⟨rfl, hZ, hh⟩ := hP
  have hx := Bd.exec
  have hby := Bd.bytes
  have hlk : meth.locks = false := Bd.notSynchronized
  have hml : c.maxLocals = 13 := hml0
  have hown : s.vm.findClass "com/example/tagweave/tagweave/asn1/AlignmentPaddingAtPinLaw" = some m.cls := findClass_of_methodNamed Bd.named
  have hnm := (name_of_methodNamed Bd.named Bd.method).1
  have X0 : Stand p l e room_1 s m #[(.long i0), (.int i1), (.int i2), (.int i3)] below meth c s₁ [] 0 0 := Stand.of_body Bd
  have e0 : s₁.heap = h0 := by rw [← hh, Bd.state]; rfl
  have N0 := Fr.nil n0
  show Goes p e below (EndQ s (Q_law h0 n0) room_1.cells room_1.slots) (s₁.setTop (entryFrame m #[(.long i0), (.int i1), (.int i2), (.int i3)] maxLocals))
  refine Goes.pre (S' := (s₁.setTop (mkF m 0 #[.val (.long i0), .second, .val (.int i1), .val (.int i2), .val (.int i3), .unset, .unset, .unset, .unset, .unset, .unset, .unset, .unset] []))) (fun t k => castTop (ef_law m i0 i1 i2 i3) k) ?_
  have tail : ∀ (mo u b : Int32) (hu : 0 < u) (hb01 : b = 0 ∨ b = 1), Goes p e below (EndQ s (Q_law h0 n0) room_1.cells room_1.slots) (s₁.setTop (mkF m 68 #[.val (.long i0), .second, .val (.int i1), .val (.int i2), .val (.int i3), .val (.int mo), .val (.int u), .val (.int b), .unset, .unset, .unset, .unset, .unset] [])) := by
    intro mo u b hu hb01
    obtain ⟨T1, h1, X1, e1, E1, A1, D1, U1, st1⟩ := newO X0 hx hZ hown (hw _ (List.mem_of_getElem? (i := 0) rfl)) (hw _ (List.mem_of_getElem? (i := 1) rfl)) (hw _ (List.mem_of_getElem? (i := 2) rfl)) e0 (g := (mkF m 68 #[.val (.long i0), .second, .val (.int i1), .val (.int i2), .val (.int i3), .val (.int mo), .val (.int u), .val (.int b), .unset, .unset, .unset, .unset, .unset] [])) rfl (hb hby at_68) (by decide) (by decide)
    obtain ⟨a1, g1⟩ : ∃ z, z = h0.size := ⟨_, rfl⟩
    rw [← g1] at A1 D1 st1
    have ga1 : n0 ≤ a1 := Nat.le_trans Z0 (Nat.le_of_eq g1.symm)
    have Zn1 : n0 ≤ h1.size := Nat.le_trans Z0 E1.1
    refine Goes.pre (S' := (T1.setTop (mkF m 71 #[.val (.long i0), .second, .val (.int i1), .val (.int i2), .val (.int i3), .val (.int mo), .val (.int u), .val (.int b), .unset, .unset, .unset, .unset, .unset] [(.ref a1)]))) st1 ?_
    have F1 : Fld Z h1 a1 "com/example/tagweave/tagweave/asn1/Alignment" "unit" "I" (.int (0 : Int32)) := D1 (Or.inr (hw _ (List.mem_of_getElem? (i := 10) rfl))) (ty := .int) (by decide)
    have F2 : Fld Z h1 a1 "com/example/tagweave/tagweave/asn1/Alignment" "ones" "Z" (.int (0 : Int32)) := D1 (Or.inr (hw _ (List.mem_of_getElem? (i := 12) rfl))) (ty := .boolean) (by decide)
    refine Goes.pre (S' := (T1.setTop (mkF m 72 #[.val (.long i0), .second, .val (.int i1), .val (.int i2), .val (.int i3), .val (.int mo), .val (.int u), .val (.int b), .unset, .unset, .unset, .unset, .unset] [(.ref a1), (.ref a1)]))) (fun _ k => XS.dup X1.here hx rfl (hb hby at_71) rfl rfl k) ?_
    refine Goes.pre (S' := (T1.setTop (mkF m 74 #[.val (.long i0), .second, .val (.int i1), .val (.int i2), .val (.int i3), .val (.int mo), .val (.int u), .val (.int b), .unset, .unset, .unset, .unset, .unset] [(.int u), (.ref a1), (.ref a1)]))) (fun _ k => XS.iload X1.here hx rfl (hb hby at_72) rfl k) ?_
    refine Goes.pre (S' := (T1.setTop (mkF m 76 #[.val (.long i0), .second, .val (.int i1), .val (.int i2), .val (.int i3), .val (.int mo), .val (.int u), .val (.int b), .unset, .unset, .unset, .unset, .unset] [(.int b), (.int u), (.ref a1), (.ref a1)]))) (fun _ k => XS.iload X1.here hx rfl (hb hby at_74) rfl k) ?_
    refine Goes.init (y := (⟨"com/example/tagweave/tagweave/asn1/Alignment", "<init>", "(IZ)V"⟩ : MethodName)) X1 hx hZ hown rfl (hw _ (List.mem_of_getElem? (i := 3) rfl)) (hw _ (List.mem_of_getElem? (i := 4) rfl)) (hw _ (List.mem_of_getElem? (i := 2) rfl)) (hw _ (List.mem_of_getElem? (i := 5) rfl)) (by decide) e1 (rm_in l Z a0 hw [] a1 u b h1 n0 Zn1 hb01 F1 F2 A1 ga1) (by rw [hml]; rfl) a1 [(.int u), (.int b)] [(.ref a1)] pd_in rfl rfl rfl (hb hby at_76) (by decide) (by first | decide | exact Nat.le_of_ble_eq_true rfl | assumption | (simp [Value.category]; done)) (by first | decide | exact Nat.le_of_ble_eq_true rfl | assumption | (simp [Value.category]; done)) (by first | decide | exact Nat.le_of_ble_eq_true rfl | assumption | (simp [Value.category]; done)) ?_
    intro T2 v2 L2 X2 q2
    obtain ⟨rfl, N2a, K2, F2⟩ := q2
    have N2 := Fr.app N0 N2a
    have Zn2 : n0 ≤ T2.heap.size := Nat.le_trans Zn1 K2.1
    have Ex2 := A1.keep K2
    show Goes p e below _ (T2.setTop (mkF m 79 #[.val (.long i0), .second, .val (.int i1), .val (.int i2), .val (.int i3), .val (.int mo), .val (.int u), .val (.int b), .unset, .unset, .unset, .unset, .unset] [(.ref a1)]))
    refine Goes.pre (S' := (T2.setTop (mkF m 81 #[.val (.long i0), .second, .val (.int i1), .val (.int i2), .val (.int i3), .val (.int mo), .val (.int u), .val (.int b), .val (.ref a1), .unset, .unset, .unset, .unset] []))) (fun _ k => XS.astore X2.here hx rfl (hb hby at_79) rfl rfl (l' := #[.val (.long i0), .second, .val (.int i1), .val (.int i2), .val (.int i3), .val (.int mo), .val (.int u), .val (.int b), .val (.ref a1), .unset, .unset, .unset, .unset]) rfl k) ?_
    refine Goes.pre (S' := (T2.setTop (mkF m 83 #[.val (.long i0), .second, .val (.int i1), .val (.int i2), .val (.int i3), .val (.int mo), .val (.int u), .val (.int b), .val (.ref a1), .unset, .unset, .unset, .unset] [(.ref a1)]))) (fun _ k => XS.aload X2.here hx rfl (hb hby at_81) rfl rfl k) ?_
    refine Goes.pre (S' := (T2.setTop (mkF m 84 #[.val (.long i0), .second, .val (.int i1), .val (.int i2), .val (.int i3), .val (.int mo), .val (.int u), .val (.int b), .val (.ref a1), .unset, .unset, .unset, .unset] [(.long i0), (.ref a1)]))) (fun _ k => XT.lloadN X2.here hx rfl (hb hby at_83) rfl k) ?_
    refine Goes.callV (y := (⟨"com/example/tagweave/tagweave/asn1/Alignment", "paddingAt", "(J)I"⟩ : MethodName)) (C := "com/example/tagweave/tagweave/asn1/Alignment") X2 hx hZ hown (hw _ (List.mem_of_getElem? (i := 13) rfl)) (hw _ (List.mem_of_getElem? (i := 14) rfl)) (hw _ (List.mem_of_getElem? (i := 16) rfl)) (hw _ (List.mem_of_getElem? (i := 15) rfl)) (hw _ (List.mem_of_getElem? (i := 2) rfl)) (hw _ (List.mem_of_getElem? (i := 17) rfl)) (by decide) rfl Ex2 (rm_pa l Z a0 hw [] a1 i0 u T2.heap n0 Zn2 hu F2) (by rw [hml]; rfl) [(.long i0)] [] pd_pa rfl rfl rfl (hb hby at_84) (by decide) (by first | decide | exact Nat.le_of_ble_eq_true rfl | assumption | (simp [Value.category]; done)) (by first | decide | exact Nat.le_of_ble_eq_true rfl | assumption | (simp [Value.category]; done)) (by first | decide | exact Nat.le_of_ble_eq_true rfl | assumption | (simp [Value.category]; done)) ?_
    intro T3 v3 L3 X3 q3
    obtain ⟨rfl, N3a, e3⟩ := q3
    have N3 := Fr.app N2 N3a
    obtain ⟨c1, c2, c3⟩ := own_r i0 u hu
    show Goes p e below _ (T3.setTop (mkF m 87 #[.val (.long i0), .second, .val (.int i1), .val (.int i2), .val (.int i3), .val (.int mo), .val (.int u), .val (.int b), .val (.ref a1), .unset, .unset, .unset, .unset] [(.int (((u).toInt64 - (i0 - i0 / (u).toInt64 * (u).toInt64)) - ((u).toInt64 - (i0 - i0 / (u).toInt64 * (u).toInt64)) / (u).toInt64 * (u).toInt64).toInt32)]))
    refine Goes.pre (S' := (T3.setTop (mkF m 88 #[.val (.long i0), .second, .val (.int i1), .val (.int i2), .val (.int i3), .val (.int mo), .val (.int u), .val (.int b), .val (.ref a1), .unset, .unset, .unset, .unset] [(.long ((((u).toInt64 - (i0 - i0 / (u).toInt64 * (u).toInt64)) - ((u).toInt64 - (i0 - i0 / (u).toInt64 * (u).toInt64)) / (u).toInt64 * (u).toInt64).toInt32).toInt64)]))) (fun _ k => XT.i2l X3.here hx rfl (hb hby at_87) rfl k) ?_
    refine Goes.pre (S' := (T3.setTop (mkF m 90 #[.val (.long i0), .second, .val (.int i1), .val (.int i2), .val (.int i3), .val (.int mo), .val (.int u), .val (.int b), .val (.ref a1), .val (.long ((((u).toInt64 - (i0 - i0 / (u).toInt64 * (u).toInt64)) - ((u).toInt64 - (i0 - i0 / (u).toInt64 * (u).toInt64)) / (u).toInt64 * (u).toInt64).toInt32).toInt64), .second, .unset, .unset] []))) (fun _ k => XT.lstore X3.here hx rfl (hb hby at_88) rfl (l' := #[.val (.long i0), .second, .val (.int i1), .val (.int i2), .val (.int i3), .val (.int mo), .val (.int u), .val (.int b), .val (.ref a1), .val (.long ((((u).toInt64 - (i0 - i0 / (u).toInt64 * (u).toInt64)) - ((u).toInt64 - (i0 - i0 / (u).toInt64 * (u).toInt64)) / (u).toInt64 * (u).toInt64).toInt32).toInt64), .second, .unset, .unset]) rfl k) ?_
    refine Goes.pre (S' := (T3.setTop (mkF m 92 #[.val (.long i0), .second, .val (.int i1), .val (.int i2), .val (.int i3), .val (.int mo), .val (.int u), .val (.int b), .val (.ref a1), .val (.long ((((u).toInt64 - (i0 - i0 / (u).toInt64 * (u).toInt64)) - ((u).toInt64 - (i0 - i0 / (u).toInt64 * (u).toInt64)) / (u).toInt64 * (u).toInt64).toInt32).toInt64), .second, .unset, .unset] [(.long ((((u).toInt64 - (i0 - i0 / (u).toInt64 * (u).toInt64)) - ((u).toInt64 - (i0 - i0 / (u).toInt64 * (u).toInt64)) / (u).toInt64 * (u).toInt64).toInt32).toInt64)]))) (fun _ k => XT.lload X3.here hx rfl (hb hby at_90) rfl k) ?_
    refine Goes.pre (S' := (T3.setTop (mkF m 93 #[.val (.long i0), .second, .val (.int i1), .val (.int i2), .val (.int i3), .val (.int mo), .val (.int u), .val (.int b), .val (.ref a1), .val (.long ((((u).toInt64 - (i0 - i0 / (u).toInt64 * (u).toInt64)) - ((u).toInt64 - (i0 - i0 / (u).toInt64 * (u).toInt64)) / (u).toInt64 * (u).toInt64).toInt32).toInt64), .second, .unset, .unset] [(.long (0 : Int64)), (.long ((((u).toInt64 - (i0 - i0 / (u).toInt64 * (u).toInt64)) - ((u).toInt64 - (i0 - i0 / (u).toInt64 * (u).toInt64)) / (u).toInt64 * (u).toInt64).toInt32).toInt64)]))) (fun _ k => XT.lconst X3.here hx rfl (hb hby at_92) k) ?_
    refine Goes.pre (S' := (T3.setTop (mkF m 94 #[.val (.long i0), .second, .val (.int i1), .val (.int i2), .val (.int i3), .val (.int mo), .val (.int u), .val (.int b), .val (.ref a1), .val (.long ((((u).toInt64 - (i0 - i0 / (u).toInt64 * (u).toInt64)) - ((u).toInt64 - (i0 - i0 / (u).toInt64 * (u).toInt64)) / (u).toInt64 * (u).toInt64).toInt32).toInt64), .second, .unset, .unset] [(.int (XT.cmpL ((((u).toInt64 - (i0 - i0 / (u).toInt64 * (u).toInt64)) - ((u).toInt64 - (i0 - i0 / (u).toInt64 * (u).toInt64)) / (u).toInt64 * (u).toInt64).toInt32).toInt64 (0 : Int64)))]))) (fun _ k => XT.lcmp X3.here hx rfl (hb hby at_93) rfl k) ?_
    refine Goes.pre (S' := (T3.setTop (mkF m 97 #[.val (.long i0), .second, .val (.int i1), .val (.int i2), .val (.int i3), .val (.int mo), .val (.int u), .val (.int b), .val (.ref a1), .val (.long ((((u).toInt64 - (i0 - i0 / (u).toInt64 * (u).toInt64)) - ((u).toInt64 - (i0 - i0 / (u).toInt64 * (u).toInt64)) / (u).toInt64 * (u).toInt64).toInt32).toInt64), .second, .unset, .unset] []))) (fun _ k => XS.ifNo X3.here hx rfl (hb hby at_94) rfl (XT.ll_lt_f c1) k) ?_
    refine Goes.pre (S' := (T3.setTop (mkF m 99 #[.val (.long i0), .second, .val (.int i1), .val (.int i2), .val (.int i3), .val (.int mo), .val (.int u), .val (.int b), .val (.ref a1), .val (.long ((((u).toInt64 - (i0 - i0 / (u).toInt64 * (u).toInt64)) - ((u).toInt64 - (i0 - i0 / (u).toInt64 * (u).toInt64)) / (u).toInt64 * (u).toInt64).toInt32).toInt64), .second, .unset, .unset] [(.long ((((u).toInt64 - (i0 - i0 / (u).toInt64 * (u).toInt64)) - ((u).toInt64 - (i0 - i0 / (u).toInt64 * (u).toInt64)) / (u).toInt64 * (u).toInt64).toInt32).toInt64)]))) (fun _ k => XT.lload X3.here hx rfl (hb hby at_97) rfl k) ?_
    refine Goes.pre (S' := (T3.setTop (mkF m 101 #[.val (.long i0), .second, .val (.int i1), .val (.int i2), .val (.int i3), .val (.int mo), .val (.int u), .val (.int b), .val (.ref a1), .val (.long ((((u).toInt64 - (i0 - i0 / (u).toInt64 * (u).toInt64)) - ((u).toInt64 - (i0 - i0 / (u).toInt64 * (u).toInt64)) / (u).toInt64 * (u).toInt64).toInt32).toInt64), .second, .unset, .unset] [(.int u), (.long ((((u).toInt64 - (i0 - i0 / (u).toInt64 * (u).toInt64)) - ((u).toInt64 - (i0 - i0 / (u).toInt64 * (u).toInt64)) / (u).toInt64 * (u).toInt64).toInt32).toInt64)]))) (fun _ k => XS.iload X3.here hx rfl (hb hby at_99) rfl k) ?_
    refine Goes.pre (S' := (T3.setTop (mkF m 102 #[.val (.long i0), .second, .val (.int i1), .val (.int i2), .val (.int i3), .val (.int mo), .val (.int u), .val (.int b), .val (.ref a1), .val (.long ((((u).toInt64 - (i0 - i0 / (u).toInt64 * (u).toInt64)) - ((u).toInt64 - (i0 - i0 / (u).toInt64 * (u).toInt64)) / (u).toInt64 * (u).toInt64).toInt32).toInt64), .second, .unset, .unset] [(.long (u).toInt64), (.long ((((u).toInt64 - (i0 - i0 / (u).toInt64 * (u).toInt64)) - ((u).toInt64 - (i0 - i0 / (u).toInt64 * (u).toInt64)) / (u).toInt64 * (u).toInt64).toInt32).toInt64)]))) (fun _ k => XT.i2l X3.here hx rfl (hb hby at_101) rfl k) ?_
    refine Goes.pre (S' := (T3.setTop (mkF m 103 #[.val (.long i0), .second, .val (.int i1), .val (.int i2), .val (.int i3), .val (.int mo), .val (.int u), .val (.int b), .val (.ref a1), .val (.long ((((u).toInt64 - (i0 - i0 / (u).toInt64 * (u).toInt64)) - ((u).toInt64 - (i0 - i0 / (u).toInt64 * (u).toInt64)) / (u).toInt64 * (u).toInt64).toInt32).toInt64), .second, .unset, .unset] [(.int (XT.cmpL ((((u).toInt64 - (i0 - i0 / (u).toInt64 * (u).toInt64)) - ((u).toInt64 - (i0 - i0 / (u).toInt64 * (u).toInt64)) / (u).toInt64 * (u).toInt64).toInt32).toInt64 (u).toInt64))]))) (fun _ k => XT.lcmp X3.here hx rfl (hb hby at_102) rfl k) ?_
    refine Goes.pre (S' := (T3.setTop (mkF m 108 #[.val (.long i0), .second, .val (.int i1), .val (.int i2), .val (.int i3), .val (.int mo), .val (.int u), .val (.int b), .val (.ref a1), .val (.long ((((u).toInt64 - (i0 - i0 / (u).toInt64 * (u).toInt64)) - ((u).toInt64 - (i0 - i0 / (u).toInt64 * (u).toInt64)) / (u).toInt64 * (u).toInt64).toInt32).toInt64), .second, .unset, .unset] []))) (fun _ k => XS.ifYes X3.here hx rfl (pc0 := 103) (pc' := 108) rfl (hb hby at_103) rfl (XT.ll_lt_t c2) (by decide) (by decide) k) ?_
    refine Goes.pre (S' := (T3.setTop (mkF m 109 #[.val (.long i0), .second, .val (.int i1), .val (.int i2), .val (.int i3), .val (.int mo), .val (.int u), .val (.int b), .val (.ref a1), .val (.long ((((u).toInt64 - (i0 - i0 / (u).toInt64 * (u).toInt64)) - ((u).toInt64 - (i0 - i0 / (u).toInt64 * (u).toInt64)) / (u).toInt64 * (u).toInt64).toInt32).toInt64), .second, .unset, .unset] [(.long i0)]))) (fun _ k => XT.lloadN X3.here hx rfl (hb hby at_108) rfl k) ?_
    refine Goes.pre (S' := (T3.setTop (mkF m 111 #[.val (.long i0), .second, .val (.int i1), .val (.int i2), .val (.int i3), .val (.int mo), .val (.int u), .val (.int b), .val (.ref a1), .val (.long ((((u).toInt64 - (i0 - i0 / (u).toInt64 * (u).toInt64)) - ((u).toInt64 - (i0 - i0 / (u).toInt64 * (u).toInt64)) / (u).toInt64 * (u).toInt64).toInt32).toInt64), .second, .unset, .unset] [(.int u), (.long i0)]))) (fun _ k => XS.iload X3.here hx rfl (hb hby at_109) rfl k) ?_
    refine Goes.pre (S' := (T3.setTop (mkF m 112 #[.val (.long i0), .second, .val (.int i1), .val (.int i2), .val (.int i3), .val (.int mo), .val (.int u), .val (.int b), .val (.ref a1), .val (.long ((((u).toInt64 - (i0 - i0 / (u).toInt64 * (u).toInt64)) - ((u).toInt64 - (i0 - i0 / (u).toInt64 * (u).toInt64)) / (u).toInt64 * (u).toInt64).toInt32).toInt64), .second, .unset, .unset] [(.long (u).toInt64), (.long i0)]))) (fun _ k => XT.i2l X3.here hx rfl (hb hby at_111) rfl k) ?_
    refine Goes.pre (S' := (T3.setTop (mkF m 113 #[.val (.long i0), .second, .val (.int i1), .val (.int i2), .val (.int i3), .val (.int mo), .val (.int u), .val (.int b), .val (.ref a1), .val (.long ((((u).toInt64 - (i0 - i0 / (u).toInt64 * (u).toInt64)) - ((u).toInt64 - (i0 - i0 / (u).toInt64 * (u).toInt64)) / (u).toInt64 * (u).toInt64).toInt32).toInt64), .second, .unset, .unset] [(.long (i0 - (i0 / (u).toInt64) * (u).toInt64))]))) (fun _ k => XT.lrem X3.here hx rfl (hb hby at_112) rfl (own_ne u hu) k) ?_
    refine Goes.pre (S' := (T3.setTop (mkF m 115 #[.val (.long i0), .second, .val (.int i1), .val (.int i2), .val (.int i3), .val (.int mo), .val (.int u), .val (.int b), .val (.ref a1), .val (.long ((((u).toInt64 - (i0 - i0 / (u).toInt64 * (u).toInt64)) - ((u).toInt64 - (i0 - i0 / (u).toInt64 * (u).toInt64)) / (u).toInt64 * (u).toInt64).toInt32).toInt64), .second, .val (.long (i0 - (i0 / (u).toInt64) * (u).toInt64)), .second] []))) (fun _ k => XT.lstore X3.here hx rfl (hb hby at_113) rfl (l' := #[.val (.long i0), .second, .val (.int i1), .val (.int i2), .val (.int i3), .val (.int mo), .val (.int u), .val (.int b), .val (.ref a1), .val (.long ((((u).toInt64 - (i0 - i0 / (u).toInt64 * (u).toInt64)) - ((u).toInt64 - (i0 - i0 / (u).toInt64 * (u).toInt64)) / (u).toInt64 * (u).toInt64).toInt32).toInt64), .second, .val (.long (i0 - (i0 / (u).toInt64) * (u).toInt64)), .second]) rfl k) ?_
    refine Goes.pre (S' := (T3.setTop (mkF m 117 #[.val (.long i0), .second, .val (.int i1), .val (.int i2), .val (.int i3), .val (.int mo), .val (.int u), .val (.int b), .val (.ref a1), .val (.long ((((u).toInt64 - (i0 - i0 / (u).toInt64 * (u).toInt64)) - ((u).toInt64 - (i0 - i0 / (u).toInt64 * (u).toInt64)) / (u).toInt64 * (u).toInt64).toInt32).toInt64), .second, .val (.long (i0 - (i0 / (u).toInt64) * (u).toInt64)), .second] [(.long (i0 - (i0 / (u).toInt64) * (u).toInt64))]))) (fun _ k => XT.lload X3.here hx rfl (hb hby at_115) rfl k) ?_
    refine Goes.pre (S' := (T3.setTop (mkF m 119 #[.val (.long i0), .second, .val (.int i1), .val (.int i2), .val (.int i3), .val (.int mo), .val (.int u), .val (.int b), .val (.ref a1), .val (.long ((((u).toInt64 - (i0 - i0 / (u).toInt64 * (u).toInt64)) - ((u).toInt64 - (i0 - i0 / (u).toInt64 * (u).toInt64)) / (u).toInt64 * (u).toInt64).toInt32).toInt64), .second, .val (.long (i0 - (i0 / (u).toInt64) * (u).toInt64)), .second] [(.long ((((u).toInt64 - (i0 - i0 / (u).toInt64 * (u).toInt64)) - ((u).toInt64 - (i0 - i0 / (u).toInt64 * (u).toInt64)) / (u).toInt64 * (u).toInt64).toInt32).toInt64), (.long (i0 - (i0 / (u).toInt64) * (u).toInt64))]))) (fun _ k => XT.lload X3.here hx rfl (hb hby at_117) rfl k) ?_
    refine Goes.pre (S' := (T3.setTop (mkF m 120 #[.val (.long i0), .second, .val (.int i1), .val (.int i2), .val (.int i3), .val (.int mo), .val (.int u), .val (.int b), .val (.ref a1), .val (.long ((((u).toInt64 - (i0 - i0 / (u).toInt64 * (u).toInt64)) - ((u).toInt64 - (i0 - i0 / (u).toInt64 * (u).toInt64)) / (u).toInt64 * (u).toInt64).toInt32).toInt64), .second, .val (.long (i0 - (i0 / (u).toInt64) * (u).toInt64)), .second] [(.long ((i0 - (i0 / (u).toInt64) * (u).toInt64) + ((((u).toInt64 - (i0 - i0 / (u).toInt64 * (u).toInt64)) - ((u).toInt64 - (i0 - i0 / (u).toInt64 * (u).toInt64)) / (u).toInt64 * (u).toInt64).toInt32).toInt64))]))) (fun _ k => XT.ladd X3.here hx rfl (hb hby at_119) rfl k) ?_
    refine Goes.pre (S' := (T3.setTop (mkF m 122 #[.val (.long i0), .second, .val (.int i1), .val (.int i2), .val (.int i3), .val (.int mo), .val (.int u), .val (.int b), .val (.ref a1), .val (.long ((((u).toInt64 - (i0 - i0 / (u).toInt64 * (u).toInt64)) - ((u).toInt64 - (i0 - i0 / (u).toInt64 * (u).toInt64)) / (u).toInt64 * (u).toInt64).toInt32).toInt64), .second, .val (.long (i0 - (i0 / (u).toInt64) * (u).toInt64)), .second] [(.int u), (.long ((i0 - (i0 / (u).toInt64) * (u).toInt64) + ((((u).toInt64 - (i0 - i0 / (u).toInt64 * (u).toInt64)) - ((u).toInt64 - (i0 - i0 / (u).toInt64 * (u).toInt64)) / (u).toInt64 * (u).toInt64).toInt32).toInt64))]))) (fun _ k => XS.iload X3.here hx rfl (hb hby at_120) rfl k) ?_
    refine Goes.pre (S' := (T3.setTop (mkF m 123 #[.val (.long i0), .second, .val (.int i1), .val (.int i2), .val (.int i3), .val (.int mo), .val (.int u), .val (.int b), .val (.ref a1), .val (.long ((((u).toInt64 - (i0 - i0 / (u).toInt64 * (u).toInt64)) - ((u).toInt64 - (i0 - i0 / (u).toInt64 * (u).toInt64)) / (u).toInt64 * (u).toInt64).toInt32).toInt64), .second, .val (.long (i0 - (i0 / (u).toInt64) * (u).toInt64)), .second] [(.long (u).toInt64), (.long ((i0 - (i0 / (u).toInt64) * (u).toInt64) + ((((u).toInt64 - (i0 - i0 / (u).toInt64 * (u).toInt64)) - ((u).toInt64 - (i0 - i0 / (u).toInt64 * (u).toInt64)) / (u).toInt64 * (u).toInt64).toInt32).toInt64))]))) (fun _ k => XT.i2l X3.here hx rfl (hb hby at_122) rfl k) ?_
    refine Goes.pre (S' := (T3.setTop (mkF m 124 #[.val (.long i0), .second, .val (.int i1), .val (.int i2), .val (.int i3), .val (.int mo), .val (.int u), .val (.int b), .val (.ref a1), .val (.long ((((u).toInt64 - (i0 - i0 / (u).toInt64 * (u).toInt64)) - ((u).toInt64 - (i0 - i0 / (u).toInt64 * (u).toInt64)) / (u).toInt64 * (u).toInt64).toInt32).toInt64), .second, .val (.long (i0 - (i0 / (u).toInt64) * (u).toInt64)), .second] [(.long (((i0 - (i0 / (u).toInt64) * (u).toInt64) + ((((u).toInt64 - (i0 - i0 / (u).toInt64 * (u).toInt64)) - ((u).toInt64 - (i0 - i0 / (u).toInt64 * (u).toInt64)) / (u).toInt64 * (u).toInt64).toInt32).toInt64) - (((i0 - (i0 / (u).toInt64) * (u).toInt64) + ((((u).toInt64 - (i0 - i0 / (u).toInt64 * (u).toInt64)) - ((u).toInt64 - (i0 - i0 / (u).toInt64 * (u).toInt64)) / (u).toInt64 * (u).toInt64).toInt32).toInt64) / (u).toInt64) * (u).toInt64))]))) (fun _ k => XT.lrem X3.here hx rfl (hb hby at_123) rfl (own_ne u hu) k) ?_
    refine Goes.pre (S' := (T3.setTop (mkF m 125 #[.val (.long i0), .second, .val (.int i1), .val (.int i2), .val (.int i3), .val (.int mo), .val (.int u), .val (.int b), .val (.ref a1), .val (.long ((((u).toInt64 - (i0 - i0 / (u).toInt64 * (u).toInt64)) - ((u).toInt64 - (i0 - i0 / (u).toInt64 * (u).toInt64)) / (u).toInt64 * (u).toInt64).toInt32).toInt64), .second, .val (.long (i0 - (i0 / (u).toInt64) * (u).toInt64)), .second] [(.long (0 : Int64)), (.long (((i0 - (i0 / (u).toInt64) * (u).toInt64) + ((((u).toInt64 - (i0 - i0 / (u).toInt64 * (u).toInt64)) - ((u).toInt64 - (i0 - i0 / (u).toInt64 * (u).toInt64)) / (u).toInt64 * (u).toInt64).toInt32).toInt64) - (((i0 - (i0 / (u).toInt64) * (u).toInt64) + ((((u).toInt64 - (i0 - i0 / (u).toInt64 * (u).toInt64)) - ((u).toInt64 - (i0 - i0 / (u).toInt64 * (u).toInt64)) / (u).toInt64 * (u).toInt64).toInt32).toInt64) / (u).toInt64) * (u).toInt64))]))) (fun _ k => XT.lconst X3.here hx rfl (hb hby at_124) k) ?_
    refine Goes.pre (S' := (T3.setTop (mkF m 126 #[.val (.long i0), .second, .val (.int i1), .val (.int i2), .val (.int i3), .val (.int mo), .val (.int u), .val (.int b), .val (.ref a1), .val (.long ((((u).toInt64 - (i0 - i0 / (u).toInt64 * (u).toInt64)) - ((u).toInt64 - (i0 - i0 / (u).toInt64 * (u).toInt64)) / (u).toInt64 * (u).toInt64).toInt32).toInt64), .second, .val (.long (i0 - (i0 / (u).toInt64) * (u).toInt64)), .second] [(.int (XT.cmpL (((i0 - (i0 / (u).toInt64) * (u).toInt64) + ((((u).toInt64 - (i0 - i0 / (u).toInt64 * (u).toInt64)) - ((u).toInt64 - (i0 - i0 / (u).toInt64 * (u).toInt64)) / (u).toInt64 * (u).toInt64).toInt32).toInt64) - (((i0 - (i0 / (u).toInt64) * (u).toInt64) + ((((u).toInt64 - (i0 - i0 / (u).toInt64 * (u).toInt64)) - ((u).toInt64 - (i0 - i0 / (u).toInt64 * (u).toInt64)) / (u).toInt64 * (u).toInt64).toInt32).toInt64) / (u).toInt64) * (u).toInt64) (0 : Int64)))]))) (fun _ k => XT.lcmp X3.here hx rfl (hb hby at_125) rfl k) ?_
    refine Goes.pre (S' := (T3.setTop (mkF m 129 #[.val (.long i0), .second, .val (.int i1), .val (.int i2), .val (.int i3), .val (.int mo), .val (.int u), .val (.int b), .val (.ref a1), .val (.long ((((u).toInt64 - (i0 - i0 / (u).toInt64 * (u).toInt64)) - ((u).toInt64 - (i0 - i0 / (u).toInt64 * (u).toInt64)) / (u).toInt64 * (u).toInt64).toInt32).toInt64), .second, .val (.long (i0 - (i0 / (u).toInt64) * (u).toInt64)), .second] []))) (fun _ k => XS.ifNo X3.here hx rfl (hb hby at_126) rfl (XT.ll_ne_f c3) k) ?_
    refine Goes.pre (S' := (T3.setTop (mkF m 130 #[.val (.long i0), .second, .val (.int i1), .val (.int i2), .val (.int i3), .val (.int mo), .val (.int u), .val (.int b), .val (.ref a1), .val (.long ((((u).toInt64 - (i0 - i0 / (u).toInt64 * (u).toInt64)) - ((u).toInt64 - (i0 - i0 / (u).toInt64 * (u).toInt64)) / (u).toInt64 * (u).toInt64).toInt32).toInt64), .second, .val (.long (i0 - (i0 / (u).toInt64) * (u).toInt64)), .second] [(.int (1 : Int32))]))) (fun _ k => XS.iconst X3.here hx rfl (hb hby at_129) k) ?_
    refine Goes.pre (S' := (T3.setTop (mkF m 134 #[.val (.long i0), .second, .val (.int i1), .val (.int i2), .val (.int i3), .val (.int mo), .val (.int u), .val (.int b), .val (.ref a1), .val (.long ((((u).toInt64 - (i0 - i0 / (u).toInt64 * (u).toInt64)) - ((u).toInt64 - (i0 - i0 / (u).toInt64 * (u).toInt64)) / (u).toInt64 * (u).toInt64).toInt32).toInt64), .second, .val (.long (i0 - (i0 / (u).toInt64) * (u).toInt64)), .second] [(.int (1 : Int32))]))) (fun _ k => XS.goto X3.here hx rfl (pc0 := 130) (pc' := 134) rfl (hb hby at_130) (by decide) (by decide) k) ?_
    exact Goes.retN X3 hx hlk (t := .boolean) Bd.returns (by simp) (hb hby at_134) ⟨rfl, N3⟩ (by first | decide | exact Nat.le_of_ble_eq_true rfl | assumption | (simp [Value.category]; done)) (by first | decide | exact Nat.le_of_ble_eq_true rfl | assumption | (simp [Value.category]; done))
  have mid : ∀ (mo u : Int32) (x7 : Slot) (hu : 0 < u) (h7 : x7 = .unset ∨ ∃ z, x7 = .val (.int z)), Goes p e below (EndQ s (Q_law h0 n0) room_1.cells room_1.slots) (s₁.setTop (mkF m 54 #[.val (.long i0), .second, .val (.int i1), .val (.int i2), .val (.int i3), .val (.int mo), .val (.int u), x7, .unset, .unset, .unset, .unset, .unset] [])) := by
    intro mo u x7 hu h7
    rcases h7 with rfl | ⟨z7, rfl⟩
    · skip
      show Goes p e below _ (s₁.setTop (mkF m 54 #[.val (.long i0), .second, .val (.int i1), .val (.int i2), .val (.int i3), .val (.int mo), .val (.int u), .unset, .unset, .unset, .unset, .unset, .unset] []))
      refine Goes.pre (S' := (s₁.setTop (mkF m 56 #[.val (.long i0), .second, .val (.int i1), .val (.int i2), .val (.int i3), .val (.int mo), .val (.int u), .unset, .unset, .unset, .unset, .unset, .unset] [(.int i3)]))) (fun _ k => XS.iload X0.here hx rfl (hb hby at_54) rfl k) ?_
      refine Goes.pre (S' := (s₁.setTop (mkF m 57 #[.val (.long i0), .second, .val (.int i1), .val (.int i2), .val (.int i3), .val (.int mo), .val (.int u), .unset, .unset, .unset, .unset, .unset, .unset] [(.int (1 : Int32)), (.int i3)]))) (fun _ k => XS.iconst X0.here hx rfl (hb hby at_56) k) ?_
      refine Goes.pre (S' := (s₁.setTop (mkF m 58 #[.val (.long i0), .second, .val (.int i1), .val (.int i2), .val (.int i3), .val (.int mo), .val (.int u), .unset, .unset, .unset, .unset, .unset, .unset] [(.int (i3 &&& (1 : Int32)))]))) (fun _ k => XS.iand X0.here hx rfl (hb hby at_57) rfl k) ?_
      by_cases c58 : (i3 &&& (1 : Int32)) = 0
      · skip
        refine Goes.pre (S' := (s₁.setTop (mkF m 65 #[.val (.long i0), .second, .val (.int i1), .val (.int i2), .val (.int i3), .val (.int mo), .val (.int u), .unset, .unset, .unset, .unset, .unset, .unset] []))) (fun _ k => XS.ifYes X0.here hx rfl (pc0 := 58) (pc' := 65) rfl (hb hby at_58) rfl (XT.i0_eq_t c58) (by decide) (by decide) k) ?_
        refine Goes.pre (S' := (s₁.setTop (mkF m 66 #[.val (.long i0), .second, .val (.int i1), .val (.int i2), .val (.int i3), .val (.int mo), .val (.int u), .unset, .unset, .unset, .unset, .unset, .unset] [(.int (0 : Int32))]))) (fun _ k => XS.iconst X0.here hx rfl (hb hby at_65) k) ?_
        refine Goes.pre (S' := (s₁.setTop (mkF m 68 #[.val (.long i0), .second, .val (.int i1), .val (.int i2), .val (.int i3), .val (.int mo), .val (.int u), .val (.int (0 : Int32)), .unset, .unset, .unset, .unset, .unset] []))) (fun _ k => XS.istore X0.here hx rfl (hb hby at_66) rfl (l' := #[.val (.long i0), .second, .val (.int i1), .val (.int i2), .val (.int i3), .val (.int mo), .val (.int u), .val (.int (0 : Int32)), .unset, .unset, .unset, .unset, .unset]) rfl k) ?_
        exact tail mo u _ hu (Or.inl rfl)
      · skip
        refine Goes.pre (S' := (s₁.setTop (mkF m 61 #[.val (.long i0), .second, .val (.int i1), .val (.int i2), .val (.int i3), .val (.int mo), .val (.int u), .unset, .unset, .unset, .unset, .unset, .unset] []))) (fun _ k => XS.ifNo X0.here hx rfl (hb hby at_58) rfl (XT.i0_eq_f c58) k) ?_
        refine Goes.pre (S' := (s₁.setTop (mkF m 62 #[.val (.long i0), .second, .val (.int i1), .val (.int i2), .val (.int i3), .val (.int mo), .val (.int u), .unset, .unset, .unset, .unset, .unset, .unset] [(.int (1 : Int32))]))) (fun _ k => XS.iconst X0.here hx rfl (hb hby at_61) k) ?_
        refine Goes.pre (S' := (s₁.setTop (mkF m 66 #[.val (.long i0), .second, .val (.int i1), .val (.int i2), .val (.int i3), .val (.int mo), .val (.int u), .unset, .unset, .unset, .unset, .unset, .unset] [(.int (1 : Int32))]))) (fun _ k => XS.goto X0.here hx rfl (pc0 := 62) (pc' := 66) rfl (hb hby at_62) (by decide) (by decide) k) ?_
        refine Goes.pre (S' := (s₁.setTop (mkF m 68 #[.val (.long i0), .second, .val (.int i1), .val (.int i2), .val (.int i3), .val (.int mo), .val (.int u), .val (.int (1 : Int32)), .unset, .unset, .unset, .unset, .unset] []))) (fun _ k => XS.istore X0.here hx rfl (hb hby at_66) rfl (l' := #[.val (.long i0), .second, .val (.int i1), .val (.int i2), .val (.int i3), .val (.int mo), .val (.int u), .val (.int (1 : Int32)), .unset, .unset, .unset, .unset, .unset]) rfl k) ?_
        exact tail mo u _ hu (Or.inr rfl)
    · skip
      show Goes p e below _ (s₁.setTop (mkF m 54 #[.val (.long i0), .second, .val (.int i1), .val (.int i2), .val (.int i3), .val (.int mo), .val (.int u), .val (.int z7), .unset, .unset, .unset, .unset, .unset] []))
      refine Goes.pre (S' := (s₁.setTop (mkF m 56 #[.val (.long i0), .second, .val (.int i1), .val (.int i2), .val (.int i3), .val (.int mo), .val (.int u), .val (.int z7), .unset, .unset, .unset, .unset, .unset] [(.int i3)]))) (fun _ k => XS.iload X0.here hx rfl (hb hby at_54) rfl k) ?_
      refine Goes.pre (S' := (s₁.setTop (mkF m 57 #[.val (.long i0), .second, .val (.int i1), .val (.int i2), .val (.int i3), .val (.int mo), .val (.int u), .val (.int z7), .unset, .unset, .unset, .unset, .unset] [(.int (1 : Int32)), (.int i3)]))) (fun _ k => XS.iconst X0.here hx rfl (hb hby at_56) k) ?_
      refine Goes.pre (S' := (s₁.setTop (mkF m 58 #[.val (.long i0), .second, .val (.int i1), .val (.int i2), .val (.int i3), .val (.int mo), .val (.int u), .val (.int z7), .unset, .unset, .unset, .unset, .unset] [(.int (i3 &&& (1 : Int32)))]))) (fun _ k => XS.iand X0.here hx rfl (hb hby at_57) rfl k) ?_
      by_cases c58 : (i3 &&& (1 : Int32)) = 0
      · skip
        refine Goes.pre (S' := (s₁.setTop (mkF m 65 #[.val (.long i0), .second, .val (.int i1), .val (.int i2), .val (.int i3), .val (.int mo), .val (.int u), .val (.int z7), .unset, .unset, .unset, .unset, .unset] []))) (fun _ k => XS.ifYes X0.here hx rfl (pc0 := 58) (pc' := 65) rfl (hb hby at_58) rfl (XT.i0_eq_t c58) (by decide) (by decide) k) ?_
        refine Goes.pre (S' := (s₁.setTop (mkF m 66 #[.val (.long i0), .second, .val (.int i1), .val (.int i2), .val (.int i3), .val (.int mo), .val (.int u), .val (.int z7), .unset, .unset, .unset, .unset, .unset] [(.int (0 : Int32))]))) (fun _ k => XS.iconst X0.here hx rfl (hb hby at_65) k) ?_
        refine Goes.pre (S' := (s₁.setTop (mkF m 68 #[.val (.long i0), .second, .val (.int i1), .val (.int i2), .val (.int i3), .val (.int mo), .val (.int u), .val (.int (0 : Int32)), .unset, .unset, .unset, .unset, .unset] []))) (fun _ k => XS.istore X0.here hx rfl (hb hby at_66) rfl (l' := #[.val (.long i0), .second, .val (.int i1), .val (.int i2), .val (.int i3), .val (.int mo), .val (.int u), .val (.int (0 : Int32)), .unset, .unset, .unset, .unset, .unset]) rfl k) ?_
        exact tail mo u _ hu (Or.inl rfl)
      · skip
        refine Goes.pre (S' := (s₁.setTop (mkF m 61 #[.val (.long i0), .second, .val (.int i1), .val (.int i2), .val (.int i3), .val (.int mo), .val (.int u), .val (.int z7), .unset, .unset, .unset, .unset, .unset] []))) (fun _ k => XS.ifNo X0.here hx rfl (hb hby at_58) rfl (XT.i0_eq_f c58) k) ?_
        refine Goes.pre (S' := (s₁.setTop (mkF m 62 #[.val (.long i0), .second, .val (.int i1), .val (.int i2), .val (.int i3), .val (.int mo), .val (.int u), .val (.int z7), .unset, .unset, .unset, .unset, .unset] [(.int (1 : Int32))]))) (fun _ k => XS.iconst X0.here hx rfl (hb hby at_61) k) ?_
        refine Goes.pre (S' := (s₁.setTop (mkF m 66 #[.val (.long i0), .second, .val (.int i1), .val (.int i2), .val (.int i3), .val (.int mo), .val (.int u), .val (.int z7), .unset, .unset, .unset, .unset, .unset] [(.int (1 : Int32))]))) (fun _ k => XS.goto X0.here hx rfl (pc0 := 62) (pc' := 66) rfl (hb hby at_62) (by decide) (by decide) k) ?_
        refine Goes.pre (S' := (s₁.setTop (mkF m 68 #[.val (.long i0), .second, .val (.int i1), .val (.int i2), .val (.int i3), .val (.int mo), .val (.int u), .val (.int (1 : Int32)), .unset, .unset, .unset, .unset, .unset] []))) (fun _ k => XS.istore X0.here hx rfl (hb hby at_66) rfl (l' := #[.val (.long i0), .second, .val (.int i1), .val (.int i2), .val (.int i3), .val (.int mo), .val (.int u), .val (.int (1 : Int32)), .unset, .unset, .unset, .unset, .unset]) rfl k) ?_
        exact tail mo u _ hu (Or.inr rfl)
  refine Goes.pre (S' := (s₁.setTop (mkF m 1 #[.val (.long i0), .second, .val (.int i1), .val (.int i2), .val (.int i3), .unset, .unset, .unset, .unset, .unset, .unset, .unset, .unset] [(.int i2)]))) (fun _ k => XS.iloadN X0.here hx rfl (hb hby at_0) rfl k) ?_
  refine Goes.pre (S' := (s₁.setTop (mkF m 2 #[.val (.long i0), .second, .val (.int i1), .val (.int i2), .val (.int i3), .unset, .unset, .unset, .unset, .unset, .unset, .unset, .unset] [(.int (3 : Int32)), (.int i2)]))) (fun _ k => XS.iconst X0.here hx rfl (hb hby at_1) k) ?_
  refine Goes.pre (S' := (s₁.setTop (mkF m 3 #[.val (.long i0), .second, .val (.int i1), .val (.int i2), .val (.int i3), .unset, .unset, .unset, .unset, .unset, .unset, .unset, .unset] [(.int (i2 &&& (3 : Int32)))]))) (fun _ k => XS.iand X0.here hx rfl (hb hby at_2) rfl k) ?_
  refine Goes.pre (S' := (s₁.setTop (mkF m 5 #[.val (.long i0), .second, .val (.int i1), .val (.int i2), .val (.int i3), .val (.int (i2 &&& (3 : Int32))), .unset, .unset, .unset, .unset, .unset, .unset, .unset] []))) (fun _ k => XS.istore X0.here hx rfl (hb hby at_3) rfl (l' := #[.val (.long i0), .second, .val (.int i1), .val (.int i2), .val (.int i3), .val (.int (i2 &&& (3 : Int32))), .unset, .unset, .unset, .unset, .unset, .unset, .unset]) rfl k) ?_
  refine Goes.pre (S' := (s₁.setTop (mkF m 7 #[.val (.long i0), .second, .val (.int i1), .val (.int i2), .val (.int i3), .val (.int (i2 &&& (3 : Int32))), .unset, .unset, .unset, .unset, .unset, .unset, .unset] [(.int (i2 &&& (3 : Int32)))]))) (fun _ k => XS.iload X0.here hx rfl (hb hby at_5) rfl k) ?_
  by_cases c7 : (i2 &&& (3 : Int32)) = 0
  · skip
    refine Goes.pre (S' := (s₁.setTop (mkF m 10 #[.val (.long i0), .second, .val (.int i1), .val (.int i2), .val (.int i3), .val (.int (i2 &&& (3 : Int32))), .unset, .unset, .unset, .unset, .unset, .unset, .unset] []))) (fun _ k => XS.ifNo X0.here hx rfl (hb hby at_7) rfl (XT.i0_ne_f c7) k) ?_
    refine Goes.pre (S' := (s₁.setTop (mkF m 12 #[.val (.long i0), .second, .val (.int i1), .val (.int i2), .val (.int i3), .val (.int (i2 &&& (3 : Int32))), .unset, .unset, .unset, .unset, .unset, .unset, .unset] [(.int (8 : Int32))]))) (fun _ k => XS.bipush X0.here hx rfl (hb hby at_10) k) ?_
    refine Goes.pre (S' := (s₁.setTop (mkF m 14 #[.val (.long i0), .second, .val (.int i1), .val (.int i2), .val (.int i3), .val (.int (i2 &&& (3 : Int32))), .val (.int (8 : Int32)), .unset, .unset, .unset, .unset, .unset, .unset] []))) (fun _ k => XS.istore X0.here hx rfl (hb hby at_12) rfl (l' := #[.val (.long i0), .second, .val (.int i1), .val (.int i2), .val (.int i3), .val (.int (i2 &&& (3 : Int32))), .val (.int (8 : Int32)), .unset, .unset, .unset, .unset, .unset, .unset]) rfl k) ?_
    refine Goes.pre (S' := (s₁.setTop (mkF m 54 #[.val (.long i0), .second, .val (.int i1), .val (.int i2), .val (.int i3), .val (.int (i2 &&& (3 : Int32))), .val (.int (8 : Int32)), .unset, .unset, .unset, .unset, .unset, .unset] []))) (fun _ k => XS.goto X0.here hx rfl (pc0 := 14) (pc' := 54) rfl (hb hby at_14) (by decide) (by decide) k) ?_
    exact mid _ _ _ (by decide) (Or.inl rfl)
  · skip
    refine Goes.pre (S' := (s₁.setTop (mkF m 17 #[.val (.long i0), .second, .val (.int i1), .val (.int i2), .val (.int i3), .val (.int (i2 &&& (3 : Int32))), .unset, .unset, .unset, .unset, .unset, .unset, .unset] []))) (fun _ k => XS.ifYes X0.here hx rfl (pc0 := 7) (pc' := 17) rfl (hb hby at_7) rfl (XT.i0_ne_t c7) (by decide) (by decide) k) ?_
    refine Goes.pre (S' := (s₁.setTop (mkF m 19 #[.val (.long i0), .second, .val (.int i1), .val (.int i2), .val (.int i3), .val (.int (i2 &&& (3 : Int32))), .unset, .unset, .unset, .unset, .unset, .unset, .unset] [(.int (i2 &&& (3 : Int32)))]))) (fun _ k => XS.iload X0.here hx rfl (hb hby at_17) rfl k) ?_
    refine Goes.pre (S' := (s₁.setTop (mkF m 20 #[.val (.long i0), .second, .val (.int i1), .val (.int i2), .val (.int i3), .val (.int (i2 &&& (3 : Int32))), .unset, .unset, .unset, .unset, .unset, .unset, .unset] [(.int (1 : Int32)), (.int (i2 &&& (3 : Int32)))]))) (fun _ k => XS.iconst X0.here hx rfl (hb hby at_19) k) ?_
    by_cases c20 : (i2 &&& (3 : Int32)) = (1 : Int32)
    · skip
      refine Goes.pre (S' := (s₁.setTop (mkF m 23 #[.val (.long i0), .second, .val (.int i1), .val (.int i2), .val (.int i3), .val (.int (i2 &&& (3 : Int32))), .unset, .unset, .unset, .unset, .unset, .unset, .unset] []))) (fun _ k => XS.icmpNo X0.here hx rfl (hb hby at_20) rfl (XT.ii_ne_f c20) k) ?_
      refine Goes.pre (S' := (s₁.setTop (mkF m 24 #[.val (.long i0), .second, .val (.int i1), .val (.int i2), .val (.int i3), .val (.int (i2 &&& (3 : Int32))), .unset, .unset, .unset, .unset, .unset, .unset, .unset] [(.int (1 : Int32))]))) (fun _ k => XS.iconst X0.here hx rfl (hb hby at_23) k) ?_
      refine Goes.pre (S' := (s₁.setTop (mkF m 25 #[.val (.long i0), .second, .val (.int i1), .val (.int i2), .val (.int i3), .val (.int (i2 &&& (3 : Int32))), .unset, .unset, .unset, .unset, .unset, .unset, .unset] [(.int i1), (.int (1 : Int32))]))) (fun _ k => XS.iloadN X0.here hx rfl (hb hby at_24) rfl k) ?_
      refine Goes.pre (S' := (s₁.setTop (mkF m 27 #[.val (.long i0), .second, .val (.int i1), .val (.int i2), .val (.int i3), .val (.int (i2 &&& (3 : Int32))), .unset, .unset, .unset, .unset, .unset, .unset, .unset] [(.int (63 : Int32)), (.int i1), (.int (1 : Int32))]))) (fun _ k => XS.bipush X0.here hx rfl (hb hby at_25) k) ?_
      refine Goes.pre (S' := (s₁.setTop (mkF m 28 #[.val (.long i0), .second, .val (.int i1), .val (.int i2), .val (.int i3), .val (.int (i2 &&& (3 : Int32))), .unset, .unset, .unset, .unset, .unset, .unset, .unset] [(.int (i1 &&& (63 : Int32))), (.int (1 : Int32))]))) (fun _ k => XS.iand X0.here hx rfl (hb hby at_27) rfl k) ?_
      refine Goes.pre (S' := (s₁.setTop (mkF m 29 #[.val (.long i0), .second, .val (.int i1), .val (.int i2), .val (.int i3), .val (.int (i2 &&& (3 : Int32))), .unset, .unset, .unset, .unset, .unset, .unset, .unset] [(.int ((1 : Int32) + (i1 &&& (63 : Int32))))]))) (fun _ k => XS.iadd X0.here hx rfl (hb hby at_28) rfl k) ?_
      refine Goes.pre (S' := (s₁.setTop (mkF m 31 #[.val (.long i0), .second, .val (.int i1), .val (.int i2), .val (.int i3), .val (.int (i2 &&& (3 : Int32))), .val (.int ((1 : Int32) + (i1 &&& (63 : Int32)))), .unset, .unset, .unset, .unset, .unset, .unset] []))) (fun _ k => XS.istore X0.here hx rfl (hb hby at_29) rfl (l' := #[.val (.long i0), .second, .val (.int i1), .val (.int i2), .val (.int i3), .val (.int (i2 &&& (3 : Int32))), .val (.int ((1 : Int32) + (i1 &&& (63 : Int32)))), .unset, .unset, .unset, .unset, .unset, .unset]) rfl k) ?_
      refine Goes.pre (S' := (s₁.setTop (mkF m 54 #[.val (.long i0), .second, .val (.int i1), .val (.int i2), .val (.int i3), .val (.int (i2 &&& (3 : Int32))), .val (.int ((1 : Int32) + (i1 &&& (63 : Int32)))), .unset, .unset, .unset, .unset, .unset, .unset] []))) (fun _ k => XS.goto X0.here hx rfl (pc0 := 31) (pc' := 54) rfl (hb hby at_31) (by decide) (by decide) k) ?_
      exact mid _ _ _ (own_u1 i1) (Or.inl rfl)
    · skip
      refine Goes.pre (S' := (s₁.setTop (mkF m 34 #[.val (.long i0), .second, .val (.int i1), .val (.int i2), .val (.int i3), .val (.int (i2 &&& (3 : Int32))), .unset, .unset, .unset, .unset, .unset, .unset, .unset] []))) (fun _ k => XS.icmpYes X0.here hx rfl (pc0 := 20) (pc' := 34) rfl (hb hby at_20) rfl (XT.ii_ne_t c20) (by decide) (by decide) k) ?_
      refine Goes.pre (S' := (s₁.setTop (mkF m 35 #[.val (.long i0), .second, .val (.int i1), .val (.int i2), .val (.int i3), .val (.int (i2 &&& (3 : Int32))), .unset, .unset, .unset, .unset, .unset, .unset, .unset] [(.int i1)]))) (fun _ k => XS.iloadN X0.here hx rfl (hb hby at_34) rfl k) ?_
      refine Goes.pre (S' := (s₁.setTop (mkF m 37 #[.val (.long i0), .second, .val (.int i1), .val (.int i2), .val (.int i3), .val (.int (i2 &&& (3 : Int32))), .unset, .unset, .unset, .unset, .unset, .unset, .unset] [(.int (2147483647 : Int32)), (.int i1)]))) (fun _ k => Jvm.Stand.ldcI X0 hx hown (mvT hZ (hw _ (List.mem_of_getElem? (i := 18) rfl))) rfl (hb hby at_35) k) ?_
      refine Goes.pre (S' := (s₁.setTop (mkF m 38 #[.val (.long i0), .second, .val (.int i1), .val (.int i2), .val (.int i3), .val (.int (i2 &&& (3 : Int32))), .unset, .unset, .unset, .unset, .unset, .unset, .unset] [(.int (i1 &&& (2147483647 : Int32)))]))) (fun _ k => XS.iand X0.here hx rfl (hb hby at_37) rfl k) ?_
      refine Goes.pre (S' := (s₁.setTop (mkF m 40 #[.val (.long i0), .second, .val (.int i1), .val (.int i2), .val (.int i3), .val (.int (i2 &&& (3 : Int32))), .unset, .val (.int (i1 &&& (2147483647 : Int32))), .unset, .unset, .unset, .unset, .unset] []))) (fun _ k => XS.istore X0.here hx rfl (hb hby at_38) rfl (l' := #[.val (.long i0), .second, .val (.int i1), .val (.int i2), .val (.int i3), .val (.int (i2 &&& (3 : Int32))), .unset, .val (.int (i1 &&& (2147483647 : Int32))), .unset, .unset, .unset, .unset, .unset]) rfl k) ?_
      refine Goes.pre (S' := (s₁.setTop (mkF m 42 #[.val (.long i0), .second, .val (.int i1), .val (.int i2), .val (.int i3), .val (.int (i2 &&& (3 : Int32))), .unset, .val (.int (i1 &&& (2147483647 : Int32))), .unset, .unset, .unset, .unset, .unset] [(.int (i1 &&& (2147483647 : Int32)))]))) (fun _ k => XS.iload X0.here hx rfl (hb hby at_40) rfl k) ?_
      by_cases c42 : (i1 &&& (2147483647 : Int32)) = 0
      · skip
        refine Goes.pre (S' := (s₁.setTop (mkF m 45 #[.val (.long i0), .second, .val (.int i1), .val (.int i2), .val (.int i3), .val (.int (i2 &&& (3 : Int32))), .unset, .val (.int (i1 &&& (2147483647 : Int32))), .unset, .unset, .unset, .unset, .unset] []))) (fun _ k => XS.ifNo X0.here hx rfl (hb hby at_42) rfl (XT.i0_ne_f c42) k) ?_
        refine Goes.pre (S' := (s₁.setTop (mkF m 47 #[.val (.long i0), .second, .val (.int i1), .val (.int i2), .val (.int i3), .val (.int (i2 &&& (3 : Int32))), .unset, .val (.int (i1 &&& (2147483647 : Int32))), .unset, .unset, .unset, .unset, .unset] [(.int (2147483647 : Int32))]))) (fun _ k => Jvm.Stand.ldcI X0 hx hown (mvT hZ (hw _ (List.mem_of_getElem? (i := 18) rfl))) rfl (hb hby at_45) k) ?_
        refine Goes.pre (S' := (s₁.setTop (mkF m 52 #[.val (.long i0), .second, .val (.int i1), .val (.int i2), .val (.int i3), .val (.int (i2 &&& (3 : Int32))), .unset, .val (.int (i1 &&& (2147483647 : Int32))), .unset, .unset, .unset, .unset, .unset] [(.int (2147483647 : Int32))]))) (fun _ k => XS.goto X0.here hx rfl (pc0 := 47) (pc' := 52) rfl (hb hby at_47) (by decide) (by decide) k) ?_
        refine Goes.pre (S' := (s₁.setTop (mkF m 54 #[.val (.long i0), .second, .val (.int i1), .val (.int i2), .val (.int i3), .val (.int (i2 &&& (3 : Int32))), .val (.int (2147483647 : Int32)), .val (.int (i1 &&& (2147483647 : Int32))), .unset, .unset, .unset, .unset, .unset] []))) (fun _ k => XS.istore X0.here hx rfl (hb hby at_52) rfl (l' := #[.val (.long i0), .second, .val (.int i1), .val (.int i2), .val (.int i3), .val (.int (i2 &&& (3 : Int32))), .val (.int (2147483647 : Int32)), .val (.int (i1 &&& (2147483647 : Int32))), .unset, .unset, .unset, .unset, .unset]) rfl k) ?_
        exact mid _ _ _ (by decide) (Or.inr ⟨_, rfl⟩)
      · skip
        refine Goes.pre (S' := (s₁.setTop (mkF m 50 #[.val (.long i0), .second, .val (.int i1), .val (.int i2), .val (.int i3), .val (.int (i2 &&& (3 : Int32))), .unset, .val (.int (i1 &&& (2147483647 : Int32))), .unset, .unset, .unset, .unset, .unset] []))) (fun _ k => XS.ifYes X0.here hx rfl (pc0 := 42) (pc' := 50) rfl (hb hby at_42) rfl (XT.i0_ne_t c42) (by decide) (by decide) k) ?_
        refine Goes.pre (S' := (s₁.setTop (mkF m 52 #[.val (.long i0), .second, .val (.int i1), .val (.int i2), .val (.int i3), .val (.int (i2 &&& (3 : Int32))), .unset, .val (.int (i1 &&& (2147483647 : Int32))), .unset, .unset, .unset, .unset, .unset] [(.int (i1 &&& (2147483647 : Int32)))]))) (fun _ k => XS.iload X0.here hx rfl (hb hby at_50) rfl k) ?_
        refine Goes.pre (S' := (s₁.setTop (mkF m 54 #[.val (.long i0), .second, .val (.int i1), .val (.int i2), .val (.int i3), .val (.int (i2 &&& (3 : Int32))), .val (.int (i1 &&& (2147483647 : Int32))), .val (.int (i1 &&& (2147483647 : Int32))), .unset, .unset, .unset, .unset, .unset] []))) (fun _ k => XS.istore X0.here hx rfl (hb hby at_52) rfl (l' := #[.val (.long i0), .second, .val (.int i1), .val (.int i2), .val (.int i3), .val (.int (i2 &&& (3 : Int32))), .val (.int (i1 &&& (2147483647 : Int32))), .val (.int (i1 &&& (2147483647 : Int32))), .unset, .unset, .unset, .unset, .unset]) rfl k) ?_
        exact mid _ _ _ (own_u2 i1 c42) (Or.inr ⟨_, rfl⟩)
set_option maxRecDepth 65536 in
set_option maxHeartbeats 40000000 in
theorem comes_1 {Post : Tables → Env → Array Value → State → Outcome → State → Prop} (hpost : ∀ tb e args s v u, (limb_1_1.after args s (.returned v) u = true ∧ limb_1_2.after args s (.returned v) u = true ∧ True) → FrameEnd s (.returned v) u (Jvm.fieldLocs frame_1_writes args s ++ Jvm.arrayLocs frame_1_arrays args s ++ Jvm.staticLocs frame_1_statics s) 16 128 → Post tb e args s (.returned v) u) :
    ArmFor flags0 classFile x code maxLocals ret World_1 tables_1 room_1 Calls_1 rest_1 Pre_1 Post := by
  intro l hfl _ _ p e ha hc hk s m args below hf hA hF happ hP
  obtain ⟨hcalls, hrest, hpre⟩ := hP
  obtain ⟨-, -, -, hnamed, -, -, -, hat⟩ := (Spec.applies_iff hf).mp happ
  obtain ⟨hg, hn⟩ := and_e (Cond.before_iff.mp (show (Jvm.Cond.and given_1 narrow_1).before args s = true from hpre))
  obtain ⟨gc, gr0⟩ := and_e hg
  obtain ⟨ga0, gr1⟩ := and_e gr0
  obtain ⟨ga1, gr2⟩ := and_e gr1
  obtain ⟨ga2, gr3⟩ := and_e gr2
  obtain ⟨w0, w1, w2, w3, rfl⟩ : ∃ w0 w1 w2 w3 : Value, args = #[w0, w1, w2, w3] := by
    have hs : args.size = 4 := by simpa [Cond.value, given_1] using gc
    obtain ⟨L⟩ := args
    match L, hs with
    | [w0, w1, w2, w3], _ => exact ⟨w0, w1, w2, w3, rfl⟩
  have hw := fun d (hd : d ∈ tables_1) => atoms_spec (ws := Jvm.Cond.code x code maxLocals ret :: tables_1) hat d (List.mem_cons_of_mem _ hd)
  have hfit : Fit s := fun {y c} hc i hi => by
    obtain ⟨ha, rfl⟩ := Array.getElem?_eq_some_iff.mp hc
    have q := List.all_eq_true.mp ((Array.all_eq_true_iff_forall_mem.mp hF) _ (Array.getElem_mem ha)) i (List.mem_range.mpr hi)
    simpa [Array.getElem?_eq_getElem hi] using q
  obtain ⟨i0, ei0⟩ := isL_v ga0
  obtain rfl : w0 = (.long i0) := Option.some.inj ei0
  obtain ⟨i1, ei1⟩ := is_v ga1
  obtain rfl : w1 = (.int i1) := Option.some.inj ei1
  obtain ⟨i2, ei2⟩ := is_v ga2
  obtain rfl : w2 = (.int i2) := Option.some.inj ei2
  obtain ⟨i3, ei3⟩ := is_v gr3
  obtain rfl : w3 = (.int i3) := Option.some.inj ei3
  obtain ⟨n, o, h1, h2, h3, _, L, rfl, ⟨rfl, N⟩, hq⟩ := rm_law l s _ hw tables_1 i0 i1 i2 i3  s.heap s.heap.size (Nat.le_refl _)  p e ha hc hk s m _ below hf ((Spec.applies_iff_loose hf).mp happ).1 ⟨rfl, State.Warmed39.refl s, rfl⟩ trivial
  refine ⟨n, _, h1, h2, h3, hpost _ _ _ _ _ _ ⟨Cond.after_iff.mpr rfl, Cond.after_iff.mpr (eq_i res_at (Term.int_eval (1)) rfl), trivial⟩ ⟨hq.1, hq.2.1, (hq.2.2.sift fun y hy => Or.inr (N y hy)).mono (by decide) (by decide)⟩⟩
theorem main_1_1 : Claimed_1_1 := comes_1 fun _ _ _ _ _ _ h hF => ⟨h.1, hF⟩
theorem main_1_2 : Claimed_1_2 := comes_1 fun _ _ _ _ _ _ h hF => ⟨h.2.1, hF⟩
end Jvm.Pilot.@@N@@
namespace Jvm.Pilot.@@N@@
open Jvm Jvm.ClassFile Sem Op Lib Jvm.Free Jvm.Stand Jvm.Pilot.@@N@@.Jvm.D
/-! MADE BY PROGRAM (witnessworld.py) out of the Statement's table words and the real class files: 9 classes; the members and pool entries that the words name. The judged class is class 1, her method 1. -/
namespace start1
open Jvm.ClassFile
def u (s : String) : CpInfo := .utf8 (stringToUtf16 s)
/-- a pool by its gaps: so many unusable entries, then the entry; so many at the end -/
def gap : Nat → List CpInfo → List CpInfo
  | 0, r => r
  | n + 1, r => .unusable :: gap n r
def poolList (es : List (Nat × CpInfo)) (last : Nat) : List CpInfo := es.foldr (fun e r => gap e.1 (e.2 :: r)) (gap last [])
def pool (es : List (Nat × CpInfo)) (last : Nat) : Array CpInfo := ⟨poolList es last⟩
def fileOf (pool : Array CpInfo) (this : Nat) (attrs : Array Attribute := #[]) (ms : Array MethodInfo := #[]) (fl : Nat := 33) (sup : Nat := 0) (ifs : Array Nat := #[]) (fds : Array FieldInfo := #[]) : ClassFile where
  minorVersion := 0
  majorVersion := 65
  constantPool := pool
  accessFlags := fl
  thisClass := this
  superClass := sup
  interfaces := ifs
  fields := fds
  methods := ms
  attributes := attrs
def plain (name : String) (sup : Option ClassId) : Class where
  name := name
  kind := .ordinary
  loader := none
  accessFlags := 33
  super := sup
  interfaces := #[]
  cf := none
  fields := #[]
  methods := #[]
  instanceTypes := #[]
  staticTypes := #[]
  resolved := #[]
  callSites := []
  init := .initialized
  statics := none
  mirror := none

def pool0 : Array CpInfo := pool [(5, u "<init>"), (0, u "()V"), (1, .class_ 10), (1, u "java/lang/Object")] 113

def k0c0 : Code := { maxStack := 0, maxLocals := 1, code := object_method_1_code, exceptionTable := #[], attributes := #[] }
def k0m0 : Method := { name := "<init>", desc := "()V", sig := { parameters := [], returnType := none }, accessFlags := 1, code := some k0c0 }
/-- java/lang/Object -/
def k0 : Class := { plain "java/lang/Object" none with
  accessFlags := 33
  interfaces := #[]
  cf := some (fileOf pool0 8 #[] #[{ accessFlags := 1, nameIndex := 5, descriptorIndex := 6, attributes := #[] }] 33 0 #[] #[])
  fields := #[]
  methods := #[k0m0]
  instanceTypes := #[]
  staticTypes := #[]
  resolved := Array.replicate 124 none
  statics := none }

def pool1 : Array CpInfo := pool [(2, .class_ 4), (1, u "java/lang/Object"), (0, u "<init>"), (0, u "()V"), (0, .integer 2147483647), (2, .class_ 11), (0, u "com/example/tagweave/tagweave/asn1/Alignment"), (0, .methodref 10 13), (0, .nameAndType 5 14), (0, u "(IZ)V"), (0, .methodref 10 16), (0, .nameAndType 17 18), (0, u "paddingAt"), (0, u "(J)I"), (0, .class_ 20), (0, u "com/example/tagweave/tagweave/asn1/AlignmentPaddingAtPinLaw"), (2, u "law"), (0, u "(JIII)Z")] 3

def k1m0 : Method := { name := "<init>", desc := "()V", sig := { parameters := [], returnType := none }, accessFlags := 1, code := none }
def k1c1 : Code := { maxStack := 4, maxLocals := 13, code := code, exceptionTable := #[], attributes := #[] }
def k1m1 : Method := { name := "law", desc := "(JIII)Z", sig := { parameters := [.long, .int, .int, .int], returnType := some .boolean }, accessFlags := 9, code := some k1c1 }
/-- com/example/tagweave/tagweave/asn1/AlignmentPaddingAtPinLaw -/
def k1 : Class := { plain "com/example/tagweave/tagweave/asn1/AlignmentPaddingAtPinLaw" (some 0) with
  accessFlags := 49
  interfaces := #[]
  cf := some (fileOf pool1 19 #[] #[{ accessFlags := 1, nameIndex := 5, descriptorIndex := 6, attributes := #[] }, { accessFlags := 9, nameIndex := 23, descriptorIndex := 24, attributes := #[] }] 49 2 #[] #[])
  fields := #[]
  methods := #[k1m0, k1m1]
  instanceTypes := #[]
  staticTypes := #[]
  resolved := Array.replicate 28 none
  statics := none }

def pool2 : Array CpInfo := pool [(1, .methodref 2 3), (0, .class_ 4), (0, .nameAndType 5 6), (0, u "java/lang/Object"), (0, u "<init>"), (0, u "()V"), (0, .fieldref 8 9), (0, .class_ 10), (0, .nameAndType 11 12), (0, u "com/example/tagweave/tagweave/asn1/Alignment"), (0, u "unit"), (0, u "I"), (0, .fieldref 8 14), (0, .nameAndType 15 16), (0, u "ones"), (0, u "Z"), (0, u "(IZ)V"), (2, u "paddingAt"), (0, u "(J)I")] 3

def k2c0 : Code := { maxStack := 2, maxLocals := 3, code := prog_2_method_1_code, exceptionTable := #[], attributes := #[] }
def k2m0 : Method := { name := "<init>", desc := "(IZ)V", sig := { parameters := [.int, .boolean], returnType := none }, accessFlags := 0, code := some k2c0 }
def k2c1 : Code := { maxStack := 6, maxLocals := 3, code := prog_2_method_2_code, exceptionTable := #[], attributes := #[] }
def k2m1 : Method := { name := "paddingAt", desc := "(J)I", sig := { parameters := [.long], returnType := some .int }, accessFlags := 1, code := some k2c1 }
/-- com/example/tagweave/tagweave/asn1/Alignment -/
def k2 : Class := { plain "com/example/tagweave/tagweave/asn1/Alignment" (some 0) with
  accessFlags := 49
  interfaces := #[]
  cf := some (fileOf pool2 8 #[] #[{ accessFlags := 0, nameIndex := 5, descriptorIndex := 17, attributes := #[] }, { accessFlags := 1, nameIndex := 20, descriptorIndex := 21, attributes := #[] }] 49 2 #[] #[{ accessFlags := 18, nameIndex := 11, descriptorIndex := 12, attributes := #[] }, { accessFlags := 18, nameIndex := 15, descriptorIndex := 16, attributes := #[] }])
  fields := #[{ name := "unit", type := .int, accessFlags := 18, slot := 0, constantValue := 0 }, { name := "ones", type := .boolean, accessFlags := 18, slot := 1, constantValue := 0 }]
  methods := #[k2m0, k2m1]
  instanceTypes := #[.int, .boolean]
  staticTypes := #[]
  resolved := Array.replicate 25 none
  statics := none }

def pool3 : Array CpInfo := pool [(1, u "java/lang/Cloneable"), (0, .class_ 1), (0, u "java/lang/Object"), (0, .class_ 3)] 3

/-- java/lang/Cloneable -/
def k3 : Class := { plain "java/lang/Cloneable" (some 0) with
  accessFlags := 1537
  interfaces := #[]
  cf := some (fileOf pool3 2 #[] #[] 1537 4 #[] #[])
  fields := #[]
  methods := #[]
  instanceTypes := #[]
  staticTypes := #[]
  resolved := Array.replicate 8 none
  statics := none }

def pool4 : Array CpInfo := pool [(1, u "java/io/Serializable"), (0, .class_ 1), (0, u "java/lang/Object"), (0, .class_ 3)] 3

/-- java/io/Serializable -/
def k4 : Class := { plain "java/io/Serializable" (some 0) with
  accessFlags := 1537
  interfaces := #[]
  cf := some (fileOf pool4 2 #[] #[] 1537 4 #[] #[])
  fields := #[]
  methods := #[]
  instanceTypes := #[]
  staticTypes := #[]
  resolved := Array.replicate 8 none
  statics := none }

/-- the primitive byte -/
def k5 : Class := { plain "byte" none with kind := .primitive 'B', accessFlags := 0x411 }
/-- [B -/
def k6 : Class := { plain "[B" (some 0) with kind := .array 5 .byte, interfaces := #[3, 4], accessFlags := 1041 }

/-- the primitive int -/
def k7 : Class := { plain "int" none with kind := .primitive 'I', accessFlags := 0x411 }
/-- [I -/
def k8 : Class := { plain "[I" (some 0) with kind := .array 7 .int, interfaces := #[3, 4], accessFlags := 1041 }

def heap : Heap := #[]
def classes : Array Class := #[k0, k1, k2, k3, k4, k5, k6, k7, k8]
def interned : List (Array UInt16 × Addr) := []
def slotsUsed : Nat := 0
def theMethod : MethodId := ⟨1, 1⟩
def args0 : Array Value := #[.long 5, .int 3, .int 1, .int 0]
def aboutOver (below : List Frame) : State where
  vm := { classes := classes, interned := interned.toArray }
  heap := heap
  slotsUsed := slotsUsed
  threads := #[{ frames := .invoking theMethod args0 :: below }]
def below0 : List Frame := [.native { method := ⟨0, 0⟩, args := #[] }]
def about1 : State := aboutOver below0
def p0 : Program := .bare "" "" ""
def e0 : Env := launch0.env 0 0 0
theorem w_frames : about1.frames = Frame.invoking theMethod args0 :: below0 := rfl
set_option maxRecDepth 65536 in
theorem w_args : argsFit about1.vm theMethod args0 = true := by decide +kernel
set_option maxRecDepth 65536 in
theorem w_heap : heapFits about1 = true := by decide +kernel
set_option maxRecDepth 65536 in
theorem w_runnable : about1.curStatus? = some .runnable := by decide +kernel
set_option maxRecDepth 65536 in
theorem w_alone : about1.alone = true := by decide +kernel
set_option maxRecDepth 65536 in
theorem w_named : about1.methodNamed? x = some theMethod := by decide +kernel
set_option maxRecDepth 65536 in
theorem w_hears : about1.hears theMethod below0 = true := by decide +kernel
set_option maxRecDepth 65536 in
theorem w_ripe : about1.ripe theMethod args0 below0 = true := by decide +kernel
theorem w_running : about1.status = .running := rfl
set_option maxRecDepth 65536 in
theorem w_room : about1.hasRoom e0.platform room_1 = true :=
  launch0.hasRoom_least _ room_1 (by decide +kernel) (by decide +kernel) (by decide +kernel) (by decide +kernel) (by decide +kernel) (by decide +kernel)
theorem allAtoms_all (ts : List Jvm.Cond) (a : Array Jvm.Value) (st : Jvm.State) : (allAtoms ts).before a st = ts.all (fun c => c.before a st) := by
  induction ts with
  | nil => rfl
  | cons c t ih =>
    show (Jvm.Cond.and c (allAtoms t)).before a st = _
    rw [Jvm.Cond.before_and, ih, List.all_cons]
def words1 : List Jvm.Cond := Jvm.Cond.code x code maxLocals ret :: tables_1
/-- a 'code' word, met by the world's own term for the bytes: nothing is compared byte by byte -/
theorem code_word {y : MethodName} {bytes : ByteArray} {mx : Nat} {rt : Option FieldType} {a : Array Value} {s : State} {m : MethodId} {meth : Method} {c : Code} (h1 : s.methodNamed? y = some m) (h2 : s.vm.method? m = some meth) (h3 : meth.code = some c) (h4 : c.code = bytes)
    (h5 : (c.maxLocals == mx && c.exceptionTable.isEmpty && decide (c.maxStack ≤ mostOperands) && decide (meth.sig.returnType = rt) && !meth.locks && decide (parseMethodDescriptor y.desc = some meth.sig)) = true) : (Jvm.Cond.code y bytes mx rt).before a s = true := by
  simp only [Bool.and_eq_true, beq_iff_eq, Bool.not_eq_true', decide_eq_true_eq] at h5
  obtain ⟨⟨⟨⟨⟨g1, g2⟩, g3⟩, g4⟩, g5⟩, g6⟩ := h5
  simp [Cond.before, Cond.holds, Cond.value, h1, h2, h3, h4, g1, g2, g3, g4, g5, g6]
def isCode : Jvm.Cond → Bool
  | .code _ _ _ _ => true
  | _ => false
theorem all_split {L : List Jvm.Cond} {P : Jvm.Cond → Bool} (h1 : L.all (fun c => isCode c || P c) = true) (h2 : ∀ c ∈ L.filter isCode, P c = true) : L.all P = true := by
  refine List.all_eq_true.mpr fun c hc => ?_
  have h := List.all_eq_true.mp h1 c hc
  rcases Bool.eq_false_or_eq_true (isCode c) with hi | hi
  · exact h2 c (List.mem_filter.mpr ⟨hc, hi⟩)
  · simpa [hi] using h
set_option maxRecDepth 65536 in
theorem w_c0 : (Jvm.Cond.code x code maxLocals ret).before args0 about1 = true := code_word (m := ⟨1, 1⟩) (meth := k1m1) (c := k1c1) (by decide +kernel) rfl rfl rfl (by decide +kernel)
set_option maxRecDepth 65536 in
theorem w_c1 : (Jvm.Cond.code ({ cls := "com/example/tagweave/tagweave/asn1/Alignment", name := "<init>", desc := "(IZ)V" } : Jvm.MethodName) prog_2_method_1_code (3 : Nat) (Option.none : Option Jvm.ClassFile.FieldType)).before args0 about1 = true := code_word (m := ⟨2, 0⟩) (meth := k2m0) (c := k2c0) (by decide +kernel) rfl rfl rfl (by decide +kernel)
set_option maxRecDepth 65536 in
theorem w_c2 : (Jvm.Cond.code ({ cls := "java/lang/Object", name := "<init>", desc := "()V" } : Jvm.MethodName) object_method_1_code (1 : Nat) (Option.none : Option Jvm.ClassFile.FieldType)).before args0 about1 = true := code_word (m := ⟨0, 0⟩) (meth := k0m0) (c := k0c0) (by decide +kernel) rfl rfl rfl (by decide +kernel)
set_option maxRecDepth 65536 in
theorem w_c3 : (Jvm.Cond.code ({ cls := "com/example/tagweave/tagweave/asn1/Alignment", name := "paddingAt", desc := "(J)I" } : Jvm.MethodName) prog_2_method_2_code (3 : Nat) (Option.some Jvm.ClassFile.FieldType.int)).before args0 about1 = true := code_word (m := ⟨2, 1⟩) (meth := k2m1) (c := k2c1) (by decide +kernel) rfl rfl rfl (by decide +kernel)
def codes1 : List Jvm.Cond := [Jvm.Cond.code x code maxLocals ret, Jvm.Cond.code ({ cls := "com/example/tagweave/tagweave/asn1/Alignment", name := "<init>", desc := "(IZ)V" } : Jvm.MethodName) prog_2_method_1_code (3 : Nat) (Option.none : Option Jvm.ClassFile.FieldType), Jvm.Cond.code ({ cls := "java/lang/Object", name := "<init>", desc := "()V" } : Jvm.MethodName) object_method_1_code (1 : Nat) (Option.none : Option Jvm.ClassFile.FieldType), Jvm.Cond.code ({ cls := "com/example/tagweave/tagweave/asn1/Alignment", name := "paddingAt", desc := "(J)I" } : Jvm.MethodName) prog_2_method_2_code (3 : Nat) (Option.some Jvm.ClassFile.FieldType.int)]
set_option maxRecDepth 65536 in
theorem codes_eq : words1.filter isCode = codes1 := rfl
theorem w_codes : ∀ c ∈ words1.filter isCode, c.before args0 about1 = true := by
  rw [codes_eq]
  intro c hc
  simp only [codes1, List.mem_cons, List.not_mem_nil, or_false] at hc
  rcases hc with rfl | rfl | rfl | rfl
  · exact w_c0
  · exact w_c1
  · exact w_c2
  · exact w_c3
set_option maxRecDepth 65536 in
theorem w_t1 : words1.all (fun c => isCode c || c.before args0 about1) = true := by decide +kernel
theorem w_tables : (allAtoms (Jvm.Cond.code x code maxLocals ret :: tables_1)).before args0 about1 = true := by
  rw [allAtoms_all]
  show words1.all (fun c => c.before args0 about1) = true
  refine all_split ?_ w_codes
  rw [w_t1]
set_option maxRecDepth 65536 in
theorem w_case : (Jvm.Cond.and given_1 narrow_1).before args0 about1 = true := by decide +kernel
theorem w_applies : (headSpec (Jvm.Cond.code x code maxLocals ret :: tables_1) room_1).applies x e0.platform about1 = true :=
  (Spec.applies_iff w_frames).mpr ⟨w_running, w_runnable, w_alone, w_named, w_hears, w_ripe, w_room, w_tables⟩
theorem atStart : AtStart classFile x code maxLocals ret World_1 tables_1 room_1 Calls_1 rest_1 Pre_1 launch0 p0 e0 about1 theMethod args0 below0 :=
  ⟨lists_1, trivial, launch0.admits_env _ _ _, launch0.least_env, fairChoices_fair.cas, fairChoices_fair.clock, w_frames, w_args, w_heap, w_applies, trivial, trivial, w_case⟩
end start1
theorem witness_1 : WitnessClaimed_1 := ⟨start1.p0, start1.e0, start1.about1, start1.theMethod, start1.args0, start1.below0, start1.atStart⟩
end Jvm.Pilot.@@N@@
