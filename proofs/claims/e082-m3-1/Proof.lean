import JvmDerived
import JvmDerived.Pilot.@@N@@Statement
import JvmDerived.Pilot.@@N@@Code
set_option linter.unusedVariables false
set_option linter.unusedSimpArgs false
@@BLOCK:NumsL.lean.txt@@
namespace Jvm.Pilot.@@N@@
open Jvm Jvm.ClassFile Sem Op Lib Jvm.Free Jvm.Stand Jvm.LawKit Jvm.RoadKit Bundle Jvm.Pilot.@@N@@.Jvm.D
/-! The own kit: a walk forwards. 'Goes .. S': from S the body runs to its end, and Q holds there. -/
def Goes (p : Program) (e : Env) (below : List Frame) (P : Outcome → State → Prop) (S : State) : Prop :=
  ∃ s₂ o, Steps p.tables e below S s₂ ∧ s₂.status = .running ∧ Ended s₂ below o ∧ P o s₂
abbrev EndQ (s : State) (Q : Option Value → Heap → List Loc → Prop) (k n : Nat) : Outcome → State → Prop := fun o U => ∃ v L, o = .returned v ∧ Q v U.heap L ∧ FrameEnd s o U L k n
abbrev Ctr (l : Launch) (Z : State) (y : MethodName) (bytes : ByteArray) (maxL : Nat) (ret : Option FieldType) (ws : List Jvm.Cond) (rm : Room) (as' : Array Value) (h0 : Heap) (Q : Option Value → Heap → List Loc → Prop) : Prop :=
  MetFree l y (head1 (Jvm.Cond.code y bytes maxL ret :: ws) rm) (fun a U => a = as' ∧ Z.Warmed39 U.vm ∧ U.heap = h0) (fun _ _ _ _ _ => True) (fun _ U o U' => ∃ v L, o = .returned v ∧ Q v U'.heap L ∧ FrameEnd U o U' L rm.cells rm.slots)
abbrev CtrW (l : Launch) (Z : State) (y : MethodName) (bytes : ByteArray) (maxL : Nat) (ret : Option FieldType) (ws : List Jvm.Cond) (rm : Room) (as' : Array Value) (h0 : Heap) (Q : Option Value → Heap → List Loc → Prop) : Prop :=
  MetFree l y (head1 (Jvm.Cond.code y bytes maxL ret :: ws) rm) (fun a U => a = as' ∧ Z.Warmed39 U.vm ∧ U.heap = h0 ∧ U.vm = Z.vm) (fun _ _ _ _ _ => True) (fun _ U o U' => ∃ v L, o = .returned v ∧ Q v U'.heap L ∧ ReturnedEndW U o U' L rm.cells rm.slots)
section Own
variable {p : Program} {l : Launch} {e : Env} {R : Room} {s : State} {m : MethodId} {args : Array Value} {below : List Frame} {meth : Method} {c : Code} {T : State} {locs : List Loc} {cells slots : Nat} {Z : State} {a0 : Array Value} {h : Heap}
variable {Q : Option Value → Heap → List Loc → Prop} {k n : Nat} {S S' : State} {P : Outcome → State → Prop}
theorem Goes.pre (hs : ∀ t, Steps p.tables e below S' t → Steps p.tables e below S t) (g : Goes p e below P S') : Goes p e below P S := by
  obtain ⟨s₂, o, a, b⟩ := g
  exact ⟨s₂, o, hs _ a, b⟩
theorem Goes.via (hs : Steps p.tables e below S S') (g : Goes p e below P S') : Goes p e below P S := by
  obtain ⟨s₂, o, a, b⟩ := g
  exact ⟨s₂, o, hs.trans a, b⟩
theorem Goes.out (X : Stand p l e R s m args below meth c T locs cells slots) {v : Option Value} (hv : meth.sig.returnType = none → v = none) (hlocks : meth.locks = false) (hq : Q v T.heap locs) (hk : cells ≤ k) (hn : slots ≤ n)
    (hs : ∀ fs, (∀ (f : JFrame) (acts : List Action), f.method = m → f.locked = none → f.entered = [] → (doReturn e (T.setTop f) acts v).1 = T.setFrames fs) → Steps p.tables e below S (T.setFrames fs)) : Goes p e below (EndQ s Q k n) S := by
  obtain ⟨fs, hr, hrun, hended, hW, hsame⟩ := X.leave (v := v) hv hlocks
  exact ⟨_, _, hs fs hr, hrun, hended, _, _, rfl, hq, ⟨_, rfl⟩, hW, hsame.mono hk hn⟩
/-- ireturn of a boolean, byte, char, short -/
theorem Goes.retN (X : Stand p l e R s m args below meth c T locs cells slots) (hx : p.tables.exec = Jvm.exec) (hlocks : meth.locks = false) {t : FieldType} (hret : meth.sig.returnType = some t) (ht : t = .boolean ∨ t = .byte ∨ t = .char ∨ t = .short) {pc : Nat} (hd : decode c.code pc = .ok (.ireturn, 1)) {Ls : Array Slot} {z : Int32} {rest : List Value}
    (hq : Q (some (.int (nar t z))) T.heap locs) (hk : cells ≤ k) (hn : slots ≤ n) : Goes p e below (EndQ s Q k n) (T.setTop (mkF m pc Ls (.int z :: rest))) :=
  Goes.out X (v := some (.int (nar t z))) (fun q => by rw [hret] at q; cases q) hlocks hq hk hn fun _ hr => Jvm.RoadKit.retN X hx (t := t) hret ht hd hr
/-- ireturn of an int, areturn, lreturn -/
theorem Goes.ret (X : Stand p l e R s m args below meth c T locs cells slots) (hx : p.tables.exec = Jvm.exec) (hlocks : meth.locks = false) {t : FieldType} (hret : meth.sig.returnType = some t) {w : Value} (hnw : narrow t w = w) {i : Instr}
    (hi : (i = .ireturn ∧ (t = .int ∨ t = .boolean ∨ t = .byte ∨ t = .char ∨ t = .short) ∧ ∃ z, w = .int z) ∨ (i = .lreturn ∧ t = .long ∧ ∃ z, w = .long z) ∨ (i = .dreturn ∧ t = .double ∧ ∃ z, w = .double z) ∨ (i = .freturn ∧ t = .float ∧ ∃ z, w = .float z) ∨ (i = .areturn ∧ t.isReference = true ∧ w.isRef = true))
    {pc : Nat} (hd : decode c.code pc = .ok (i, 1)) {Ls : Array Slot} {rest : List Value}
    (hq : Q (some w) T.heap locs) (hk : cells ≤ k) (hn : slots ≤ n) : Goes p e below (EndQ s Q k n) (T.setTop (mkF m pc Ls (w :: rest))) :=
  Goes.out X (v := some w) (fun q => by rw [hret] at q; cases q) hlocks hq hk hn fun _ hr => retOut X hx hret hnw hi hd hr
theorem Goes.retV (X : Stand p l e R s m args below meth c T locs cells slots) (hx : p.tables.exec = Jvm.exec) (hlocks : meth.locks = false) (hret : meth.sig.returnType = none) {pc : Nat} (hd : decode c.code pc = .ok (.return_, 1)) {Ls : Array Slot}
    (hq : Q none T.heap locs) (hk : cells ≤ k) (hn : slots ≤ n) : Goes p e below (EndQ s Q k n) (T.setTop (mkF m pc Ls [])) :=
  Goes.out X (v := none) (fun _ => rfl) hlocks hq hk hn fun _ hr => X.returnOut hx hret hd hr
/-- the end of a walk that may have interned -/
abbrev EndW (s : State) (Q : Option Value → Heap → List Loc → Prop) (k n : Nat) : Outcome → State → Prop := fun o U => ∃ v L, o = .returned v ∧ Q v U.heap L ∧ ReturnedEndW s o U L k n
theorem Goes.retNW {vm₁ : Vm} (X : Stand p l e R (s.setVm vm₁) m args below meth c T locs cells slots) {j : Nat} (hS : s.Since vm₁ j) (hj : j ≤ T.heap.size) (hx : p.tables.exec = Jvm.exec) (hlocks : meth.locks = false) {t : FieldType} (hret : meth.sig.returnType = some t) (ht : t = .boolean ∨ t = .byte ∨ t = .char ∨ t = .short) {pc : Nat} (hd : decode c.code pc = .ok (.ireturn, 1)) {Ls : Array Slot} {z : Int32} {rest : List Value}
    (hq : Q (some (.int (nar t z))) T.heap locs) (hk : cells ≤ k) (hn : slots ≤ n) : Goes p e below (EndW s Q k n) (T.setTop (mkF m pc Ls (.int z :: rest))) := by
  obtain ⟨fs, hr, hrun, hended, h1, h2, h3, h4⟩ := X.leaveW hS hj (v := some (.int (nar t z))) (fun q => by rw [hret] at q; cases q) hlocks
  exact ⟨_, _, Jvm.RoadKit.retN X hx (t := t) hret ht hd hr, hrun, hended, _, _, rfl, hq, h1, h2, h3, h4.mono hk hn⟩
/-- a static call by its contract -/
theorem Goes.callS {y : MethodName} {bytes : ByteArray} {maxL : Nat} {ret : Option FieldType} {rm : Room} {as' : Array Value} {Qc : Option Value → Heap → List Loc → Prop}
    (X : Stand p l e R s m args below meth c T locs cells slots) (hx : p.tables.exec = Jvm.exec) (hZ : Z.Warmed39 s.vm) {own : String} {index : Nat} (hown : s.vm.findClass own = some m.cls)
    (w1 : (Jvm.Cond.methodLink own index y).before a0 Z = true) (w2 : (Jvm.Cond.static y).before a0 Z = true) (w3 : (Jvm.Cond.initialized y.cls).before a0 Z = true) (w4 : (Jvm.Cond.code y bytes maxL ret).before a0 Z = true)
    (hy : y.cls ≠ "java/lang/invoke/MethodHandle" ∧ y.cls ≠ "java/lang/invoke/VarHandle") (eT : T.heap = h) (hM : Ctr l Z y bytes maxL ret [] rm as' h Qc)
    {pc : Nat} {Ls : Array Slot} {stk : List Value} (hsize : Ls.size = c.maxLocals) (argsL rest : List Value) {ps : List FieldType} {r : Option FieldType} (hpd : parseMethodDescriptor y.desc = some ⟨ps, r⟩) (hlen : argsL.length = ps.length)
    (hstk : stk = argsL.reverse ++ rest) (has : argsL.toArray = as') (hd : decode c.code pc = .ok (.invokestatic index, 3))
    (hf : rm.frames + 1 ≤ R.frames) (hl : (rest.map fun v => v.category).sum + (maxL + 11) + rm.locals ≤ R.locals) (hc : cells + rm.cells ≤ R.cells) (hs : slots + rm.slots ≤ R.slots)
    (g : ∀ (T' : State) (v : Option Value) (L : List Loc), Stand p l e R s m args below meth c T' (locs ++ L) (cells + rm.cells) (slots + rm.slots) → Qc v T'.heap L → Goes p e below P (T'.setTop (mkF m (pc + 3) Ls (v.toList ++ rest)))) :
    Goes p e below P (T.setTop (mkF m pc Ls stk)) := by
  subst has
  obtain ⟨v, _, ⟨T', L', k', n'⟩, -, X', ⟨Lc, hQ, l1, l2, l3⟩, st⟩ := Jvm.LawKit.callS X hx (y := y) hown (mvT hZ w1) (mvT hZ w2) (mvT hZ w3) (mvT hZ w4) hy (backOf (W := (rest.map fun v => v.category).sum) hM hZ w4 w3 hf hl) (g := mkF m pc Ls stk) rfl hsize (argsL := argsL) (rest := rest) (lenOf hpd hlen) hstk (by show 2 * 0 + _ ≤ _; omega) hd (fun _ _ => ⟨rfl, eT, hc, hs⟩)
  dsimp only [Pt.U, Pt.locs, Pt.cells, Pt.slots] at X' l1 l2 l3 st hQ
  subst l1 l2 l3
  exact Goes.pre st (g T' v Lc X' hQ)
/-- a constructor by its contract -/
theorem Goes.init {y : MethodName} {bytes : ByteArray} {maxL : Nat} {rm : Room} {as' : Array Value} {Qc : Option Value → Heap → List Loc → Prop}
    (X : Stand p l e R s m args below meth c T locs cells slots) (hx : p.tables.exec = Jvm.exec) (hZ : Z.Warmed39 s.vm) {own : String} {index : Nat} (hown : s.vm.findClass own = some m.cls) (hnm : y.name = "<init>")
    (w1 : (Jvm.Cond.methodLink own index y).before a0 Z = true) (w2 : (Jvm.Cond.instanceMethod y).before a0 Z = true) (w3 : (Jvm.Cond.initialized y.cls).before a0 Z = true) (w4 : (Jvm.Cond.code y bytes maxL none).before a0 Z = true)
    (hy : y.cls ≠ "java/lang/invoke/MethodHandle" ∧ y.cls ≠ "java/lang/invoke/VarHandle") (eT : T.heap = h) (hM : Ctr l Z y bytes maxL none [] rm as' h Qc)
    {pc : Nat} {Ls : Array Slot} {stk : List Value} (hsize : Ls.size = c.maxLocals) (a : Addr) (argsL rest : List Value) {ps : List FieldType} {r : Option FieldType} (hpd : parseMethodDescriptor y.desc = some ⟨ps, r⟩) (hlen : argsL.length = ps.length)
    (hstk : stk = argsL.reverse ++ .ref a :: rest) (has : (.ref a :: argsL).toArray = as') (hd : decode c.code pc = .ok (.invokespecial index, 3))
    (hf : rm.frames + 1 ≤ R.frames) (hl : (rest.map fun v => v.category).sum + (maxL + 11) + rm.locals ≤ R.locals) (hc : cells + rm.cells ≤ R.cells) (hs : slots + rm.slots ≤ R.slots)
    (g : ∀ (T' : State) (v : Option Value) (L : List Loc), Stand p l e R s m args below meth c T' (locs ++ L) (cells + rm.cells) (slots + rm.slots) → Qc v T'.heap L → Goes p e below P (T'.setTop (mkF m (pc + 3) Ls (v.toList ++ rest)))) :
    Goes p e below P (T.setTop (mkF m pc Ls stk)) := by
  subst has
  obtain ⟨v, _, ⟨T', L', k', n'⟩, -, X', ⟨Lc, hQ, l1, l2, l3⟩, st⟩ := X.specialBack hx (y := y) hnm hown (mvT hZ w1) (mvT hZ w2) (mvT hZ w4) hy (backOf (W := (rest.map fun v => v.category).sum) hM hZ w4 w3 hf hl) (g := mkF m pc Ls stk) rfl hsize (Steps.refl _) (a := a) (argsL := argsL) (rest := rest) (lenOf hpd hlen) hstk (by show 2 * 0 + _ ≤ _; omega) hd (fun _ _ => ⟨rfl, eT, hc, hs⟩)
  dsimp only [Pt.U, Pt.locs, Pt.cells, Pt.slots] at X' l1 l2 l3 st hQ
  subst l1 l2 l3
  exact Goes.via st (g T' v Lc X' hQ)
/-- an instance method by its contract -/
theorem Goes.callV {y : MethodName} {C : String} {bytes : ByteArray} {maxL : Nat} {ret : Option FieldType} {rm : Room} {as' : Array Value} {Qc : Option Value → Heap → List Loc → Prop}
    (X : Stand p l e R s m args below meth c T locs cells slots) (hx : p.tables.exec = Jvm.exec) (hZ : Z.Warmed39 s.vm) {own : String} {index : Nat} (hown : s.vm.findClass own = some m.cls)
    (w1 : (Jvm.Cond.methodLink own index y).before a0 Z = true) (w2 : (Jvm.Cond.declares y).before a0 Z = true) (w5 : (Jvm.Cond.selects C y y).before a0 Z = true) (w6 : (Jvm.Cond.instanceMethod y).before a0 Z = true) (w3 : (Jvm.Cond.initialized y.cls).before a0 Z = true) (w4 : (Jvm.Cond.code y bytes maxL ret).before a0 Z = true)
    (hy : y.cls ≠ "java/lang/invoke/MethodHandle" ∧ y.cls ≠ "java/lang/invoke/VarHandle") (eT : T.heap = h) {a : Addr} (E : Exa Z h a C) (hM : Ctr l Z y bytes maxL ret [] rm as' h Qc)
    {pc : Nat} {Ls : Array Slot} {stk : List Value} (hsize : Ls.size = c.maxLocals) (argsL rest : List Value) {ps : List FieldType} {r : Option FieldType} (hpd : parseMethodDescriptor y.desc = some ⟨ps, r⟩) (hlen : argsL.length = ps.length)
    (hstk : stk = argsL.reverse ++ .ref a :: rest) (has : (.ref a :: argsL).toArray = as') (hd : decode c.code pc = .ok (.invokevirtual index, 3))
    (hf : rm.frames + 1 ≤ R.frames) (hl : (rest.map fun v => v.category).sum + (maxL + 11) + rm.locals ≤ R.locals) (hc : cells + rm.cells ≤ R.cells) (hs : slots + rm.slots ≤ R.slots)
    (g : ∀ (T' : State) (v : Option Value) (L : List Loc), Stand p l e R s m args below meth c T' (locs ++ L) (cells + rm.cells) (slots + rm.slots) → Qc v T'.heap L → Goes p e below P (T'.setTop (mkF m (pc + 3) Ls (v.toList ++ rest)))) :
    Goes p e below P (T.setTop (mkF m pc Ls stk)) := by
  subst has
  obtain ⟨cB, kB, q1, -, q3⟩ := isOf hZ eT E
  obtain ⟨v, _, ⟨T', L', k', n'⟩, -, X', ⟨Lc, hQ, l1, l2, l3⟩, st⟩ := X.virtualBack hx (y := y) (z := y) hown (mvT hZ w1) (mvT hZ w2) (notFace_of_selects (args := #[]) (mvT hZ w5)) (mvT hZ w5) (mvT hZ w6) hy (backOf (W := (rest.map fun v => v.category).sum) hM hZ w4 w3 hf hl) q1 q3 (g := mkF m pc Ls stk) rfl hsize (Steps.refl _) (argsL := argsL) (rest := rest) (lenOf hpd hlen) hstk (by show 2 * 0 + _ ≤ _; omega) hd (fun _ _ => ⟨rfl, eT, hc, hs⟩)
  dsimp only [Pt.U, Pt.locs, Pt.cells, Pt.slots] at X' l1 l2 l3 st hQ
  subst l1 l2 l3
  exact Goes.via st (g T' v Lc X' hQ)
theorem Goes.iaload (X : Stand p l e R s m args below meth c T locs cells slots) (hx : p.tables.exec = Jvm.exec) (hZ : Z.Warmed39 s.vm) (eT : T.heap = h) {a : Addr} {kc : ClassId} {z : Int32} {vs : List Value} {dv : Value} (V : Arv Z h a kc .int z vs dv) {j : Int32} (hj : ¬ j < 0 ∧ j < z) {w : Value} (hw : vs.getD j.toNatClampNeg dv = w)
    {pc : Nat} {Ls : Array Slot} {rest : List Value} (hd : decode c.code pc = .ok (.iaload, 1)) (g : Goes p e below P (T.setTop (mkF m (pc + 1) Ls (w :: rest)))) : Goes p e below P (T.setTop (mkF m pc Ls (.int j :: .ref a :: rest))) := by
  obtain ⟨cl, A, -, S, -, H, -⟩ := V
  exact Goes.pre (fun t kk => X.iaload hx (by rw [eT]; exact A.1) (State.isArrayOf_alike hZ.alike A.2.1) A.2.2 (inb_of S hj) (H.at (inb_of S hj) hw) (g := mkF m pc Ls (.int j :: .ref a :: rest)) rfl rfl hd t kk) g
theorem Goes.baloadZ (X : Stand p l e R s m args below meth c T locs cells slots) (hx : p.tables.exec = Jvm.exec) (hZ : Z.Warmed39 s.vm) (eT : T.heap = h) {a : Addr} {kc : ClassId} {z : Int32} {vs : List Value} {dv : Value} (V : Arv Z h a kc .boolean z vs dv) {j : Int32} (hj : ¬ j < 0 ∧ j < z) {w : Value} (hw : vs.getD j.toNatClampNeg dv = w)
    {pc : Nat} {Ls : Array Slot} {rest : List Value} (hd : decode c.code pc = .ok (.baload, 1)) (g : Goes p e below P (T.setTop (mkF m (pc + 1) Ls (w :: rest)))) : Goes p e below P (T.setTop (mkF m pc Ls (.int j :: .ref a :: rest))) := by
  obtain ⟨cl, A, -, S, -, H, -⟩ := V
  exact Goes.pre (fun t kk => X.baloadBooleans hx (by rw [eT]; exact A.1) (State.isArrayOf_alike hZ.alike A.2.1) A.2.2 (inb_of S hj) (H.at (inb_of S hj) hw) (g := mkF m pc Ls (.int j :: .ref a :: rest)) rfl rfl hd t kk) g
theorem Goes.baloadB (X : Stand p l e R s m args below meth c T locs cells slots) (hx : p.tables.exec = Jvm.exec) (hZ : Z.Warmed39 s.vm) (eT : T.heap = h) {a : Addr} {kc : ClassId} {z : Int32} {vs : List Value} {dv : Value} (V : Arv Z h a kc .byte z vs dv) {j : Int32} (hj : ¬ j < 0 ∧ j < z) {w : Value} (hw : vs.getD j.toNatClampNeg dv = w)
    {pc : Nat} {Ls : Array Slot} {rest : List Value} (hd : decode c.code pc = .ok (.baload, 1)) (g : Goes p e below P (T.setTop (mkF m (pc + 1) Ls (w :: rest)))) : Goes p e below P (T.setTop (mkF m pc Ls (.int j :: .ref a :: rest))) := by
  obtain ⟨cl, A, -, S, -, H, -⟩ := V
  exact Goes.pre (fun t kk => X.baloadBytes hx (by rw [eT]; exact A.1) (State.isArrayOf_alike hZ.alike A.2.1) A.2.2 (inb_of S hj) (H.at (inb_of S hj) hw) (g := mkF m pc Ls (.int j :: .ref a :: rest)) rfl rfl hd t kk) g
theorem Goes.aaload (X : Stand p l e R s m args below meth c T locs cells slots) (hx : p.tables.exec = Jvm.exec) (hZ : Z.Warmed39 s.vm) (eT : T.heap = h) {a : Addr} {kc : ClassId} {ty : FieldType} (hty : ty.isReference = true) {z : Int32} {vs : List Value} {dv : Value} (V : Arv Z h a kc ty z vs dv) {j : Int32} (hj : ¬ j < 0 ∧ j < z) {w : Value} (hw : vs.getD j.toNatClampNeg dv = w)
    {pc : Nat} {Ls : Array Slot} {rest : List Value} (hd : decode c.code pc = .ok (.aaload, 1)) (g : Goes p e below P (T.setTop (mkF m (pc + 1) Ls (w :: rest)))) : Goes p e below P (T.setTop (mkF m pc Ls (.int j :: .ref a :: rest))) := by
  obtain ⟨cl, A, -, S, -, H, -⟩ := V
  exact Goes.pre (fun t kk => X.aaload hx (by rw [eT]; exact A.1) (State.isArrayOf_alike hZ.alike A.2.1) hty A.2.2 (inb_of S hj) (H.at (inb_of S hj) hw) (g := mkF m pc Ls (.int j :: .ref a :: rest)) rfl rfl hd t kk) g
theorem Goes.alen (X : Stand p l e R s m args below meth c T locs cells slots) (hx : p.tables.exec = Jvm.exec) (hZ : Z.Warmed39 s.vm) (eT : T.heap = h) {a : Addr} {kc : ClassId} {ty : FieldType} {z : Int32} {vs : List Value} {dv : Value} (V : Arv Z h a kc ty z vs dv)
    {pc : Nat} {Ls : Array Slot} {rest : List Value} (hd : decode c.code pc = .ok (.arraylength, 1)) (g : Goes p e below P (T.setTop (mkF m (pc + 1) Ls (.int z :: rest)))) : Goes p e below P (T.setTop (mkF m pc Ls (.ref a :: rest))) := by
  obtain ⟨cl, A, -, S, M, -, -⟩ := V
  rw [← len_of S M] at g
  exact Goes.pre (fun t kk => X.arraylength hx (cell := cl) (by rw [eT]; exact A.1) (State.isArrayOf_alike hZ.alike A.2.1) (g := mkF m pc Ls (.ref a :: rest)) rfl rfl hd t kk) g
end Own
theorem own_ltI {a b : Int32} : a < b ↔ a.toInt < b.toInt := Int32.lt_iff_toInt_lt
theorem own_eqI {a b : Int32} : a = b ↔ a.toInt = b.toInt := Int32.toInt_inj.symm
theorem own_ints (xs : List Int32) (i : Nat) : (xs.map Value.int).getD i (.int 0) = .int (xs.getD i 0) := by
  induction xs generalizing i with
  | nil => rfl
  | cons x xs ih => cases i with
    | zero => rfl
    | succ i => exact ih i
theorem own_mask31 (x : Int32) : ¬ (x &&& 2147483647) < 0 := by
  rw [own_ltI, Jvm.Kit.i32_mask x 2147483647 (k := 31) (by decide) (by decide), show (0 : Int32).toInt = 0 from rfl]
  omega
theorem own_rem (x y : Int32) (hx : ¬ x < 0) (hy : 0 < y) : ¬ x % y < 0 ∧ x % y < y := by
  rw [own_ltI, show (0 : Int32).toInt = 0 from rfl] at hx hy
  have e := Jvm.Kit.i32_rem_nonneg (x := x) (y := y) (by omega)
  rw [own_ltI, own_ltI, e, show (0 : Int32).toInt = 0 from rfl]
  have a := Int.emod_nonneg x.toInt (show y.toInt ≠ 0 by omega)
  have b := Int.emod_lt_of_pos x.toInt hy
  omega
theorem own_len {Z : State} {args : Array Value} {t : Term} {a : Addr} {cl : Cell} {ty : FieldType} {z : Int32} (ev : t.eval args Z none [] Z = some (.ref a)) (A : Arr Z Z.heap a cl ty) (h : (Term.length t).eval args Z none [] Z = some (.int z)) : cl.slots.size < 2 ^ 31 ∧ cl.slots.size.toInt32 = z := by
  have hA : Z.arrayAt? a = some cl := Arr.fin (State.Warmed39.refl Z).alike A
  simp [Term.eval, ev, hA] at h
  exact h
theorem own_eqvR {Z : State} {args : Array Value} {X F : Term} {idx : List Nat} {x : Addr} (hF : F.eval args Z none idx Z = some (.ref x)) (h : (Cond.eq X F).value args Z none Z idx = some true) : X.eval args Z none idx Z = some (.ref x) := by
  obtain ⟨u, y, hu, hy, k1, k2⟩ := cmp_v (Or.inl h)
  cases hF.symm.trans hy
  have hr : u.isRef = true := k2.2
  have q := gotT (eq_R hu hy hr rfl) h
  rw [hu, q]
theorem own_StaKeep {Z : State} {h h' : Heap} {C n d : String} {v : Value} (F : Sta Z h C n d v) (K : Keep h h' []) : Sta Z h' C n d v := by
  obtain ⟨cf, i, k, f, st, cell, h1, h2, h3, h4, h5, r⟩ := F
  exact ⟨cf, i, k, f, st, cell, h1, h2, h3, h4, K.2.1 _ _ h5 nin0, r⟩
theorem own_neLt {a b n : Nat} (h : a < n) (h2 : n ≤ b) : a ≠ b := Nat.ne_of_lt (Nat.lt_of_lt_of_le h h2)
def own_En (Z : State) (h : Heap) (nm : String) (a : Addr) (t : Int32) : Prop := Sta Z h "com/example/tagweave/tagweave/asn1/CharacterSet" nm "Lcom/example/tagweave/tagweave/asn1/CharacterSet;" (.ref a) ∧ Exa Z h a "com/example/tagweave/tagweave/asn1/CharacterSet" ∧ Fld Z h a "com/example/tagweave/tagweave/asn1/CharacterSet" "tagNumber" "I" (.int t)
def own_tri (i t : Int32) (a a6 a7 : Addr) : Prop := (i = 6 ∧ t = 23 ∧ a = a6) ∨ (i = 7 ∧ t = 24 ∧ a = a7) ∨ (¬ i = 6 ∧ ¬ i = 7 ∧ ¬ t = 23 ∧ ¬ t = 24 ∧ ¬ a = a6 ∧ ¬ a = a7)

theorem dpk_0 : decode method_2_code 0 = .ok (.iload_n 0, 1) := by decide +kernel
theorem dpk_1 : decode method_2_code 1 = .ok (.ifCond .ne 7, 3) := by decide +kernel
theorem dpk_4 : decode method_2_code 4 = .ok (.getstatic 7, 3) := by decide +kernel
theorem dpk_7 : decode method_2_code 7 = .ok (.areturn, 1) := by decide +kernel
theorem dpk_8 : decode method_2_code 8 = .ok (.iload_n 0, 1) := by decide +kernel
theorem dpk_9 : decode method_2_code 9 = .ok (.iconst 1, 1) := by decide +kernel
theorem dpk_10 : decode method_2_code 10 = .ok (.if_icmp .ne 7, 3) := by decide +kernel
theorem dpk_13 : decode method_2_code 13 = .ok (.getstatic 13, 3) := by decide +kernel
theorem dpk_16 : decode method_2_code 16 = .ok (.areturn, 1) := by decide +kernel
theorem dpk_17 : decode method_2_code 17 = .ok (.iload_n 0, 1) := by decide +kernel
theorem dpk_18 : decode method_2_code 18 = .ok (.iconst 2, 1) := by decide +kernel
theorem dpk_19 : decode method_2_code 19 = .ok (.if_icmp .ne 7, 3) := by decide +kernel
theorem dpk_22 : decode method_2_code 22 = .ok (.getstatic 16, 3) := by decide +kernel
theorem dpk_25 : decode method_2_code 25 = .ok (.areturn, 1) := by decide +kernel
theorem dpk_26 : decode method_2_code 26 = .ok (.iload_n 0, 1) := by decide +kernel
theorem dpk_27 : decode method_2_code 27 = .ok (.iconst 3, 1) := by decide +kernel
theorem dpk_28 : decode method_2_code 28 = .ok (.if_icmp .ne 7, 3) := by decide +kernel
theorem dpk_31 : decode method_2_code 31 = .ok (.getstatic 19, 3) := by decide +kernel
theorem dpk_34 : decode method_2_code 34 = .ok (.areturn, 1) := by decide +kernel
theorem dpk_35 : decode method_2_code 35 = .ok (.iload_n 0, 1) := by decide +kernel
theorem dpk_36 : decode method_2_code 36 = .ok (.iconst 4, 1) := by decide +kernel
theorem dpk_37 : decode method_2_code 37 = .ok (.if_icmp .ne 7, 3) := by decide +kernel
theorem dpk_40 : decode method_2_code 40 = .ok (.getstatic 22, 3) := by decide +kernel
theorem dpk_43 : decode method_2_code 43 = .ok (.areturn, 1) := by decide +kernel
theorem dpk_44 : decode method_2_code 44 = .ok (.iload_n 0, 1) := by decide +kernel
theorem dpk_45 : decode method_2_code 45 = .ok (.iconst 5, 1) := by decide +kernel
theorem dpk_46 : decode method_2_code 46 = .ok (.if_icmp .ne 7, 3) := by decide +kernel
theorem dpk_49 : decode method_2_code 49 = .ok (.getstatic 25, 3) := by decide +kernel
theorem dpk_52 : decode method_2_code 52 = .ok (.areturn, 1) := by decide +kernel
theorem dpk_53 : decode method_2_code 53 = .ok (.iload_n 0, 1) := by decide +kernel
theorem dpk_54 : decode method_2_code 54 = .ok (.bipush 6, 2) := by decide +kernel
theorem dpk_56 : decode method_2_code 56 = .ok (.if_icmp .ne 7, 3) := by decide +kernel
theorem dpk_59 : decode method_2_code 59 = .ok (.getstatic 28, 3) := by decide +kernel
theorem dpk_62 : decode method_2_code 62 = .ok (.areturn, 1) := by decide +kernel
theorem dpk_63 : decode method_2_code 63 = .ok (.iload_n 0, 1) := by decide +kernel
theorem dpk_64 : decode method_2_code 64 = .ok (.bipush 7, 2) := by decide +kernel
theorem dpk_66 : decode method_2_code 66 = .ok (.if_icmp .ne 7, 3) := by decide +kernel
theorem dpk_69 : decode method_2_code 69 = .ok (.getstatic 31, 3) := by decide +kernel
theorem dpk_72 : decode method_2_code 72 = .ok (.areturn, 1) := by decide +kernel
theorem dpk_73 : decode method_2_code 73 = .ok (.iload_n 0, 1) := by decide +kernel
theorem dpk_74 : decode method_2_code 74 = .ok (.bipush 8, 2) := by decide +kernel
theorem dpk_76 : decode method_2_code 76 = .ok (.if_icmp .ne 7, 3) := by decide +kernel
theorem dpk_79 : decode method_2_code 79 = .ok (.getstatic 34, 3) := by decide +kernel
theorem dpk_82 : decode method_2_code 82 = .ok (.areturn, 1) := by decide +kernel
theorem dpk_83 : decode method_2_code 83 = .ok (.iload_n 0, 1) := by decide +kernel
theorem dpk_84 : decode method_2_code 84 = .ok (.bipush 9, 2) := by decide +kernel
theorem dpk_86 : decode method_2_code 86 = .ok (.if_icmp .ne 7, 3) := by decide +kernel
theorem dpk_89 : decode method_2_code 89 = .ok (.getstatic 37, 3) := by decide +kernel
theorem dpk_92 : decode method_2_code 92 = .ok (.areturn, 1) := by decide +kernel
theorem dpk_93 : decode method_2_code 93 = .ok (.iload_n 0, 1) := by decide +kernel
theorem dpk_94 : decode method_2_code 94 = .ok (.bipush 10, 2) := by decide +kernel
theorem dpk_96 : decode method_2_code 96 = .ok (.if_icmp .ne 7, 3) := by decide +kernel
theorem dpk_99 : decode method_2_code 99 = .ok (.getstatic 40, 3) := by decide +kernel
theorem dpk_102 : decode method_2_code 102 = .ok (.areturn, 1) := by decide +kernel
theorem dpk_103 : decode method_2_code 103 = .ok (.iload_n 0, 1) := by decide +kernel
theorem dpk_104 : decode method_2_code 104 = .ok (.bipush 11, 2) := by decide +kernel
theorem dpk_106 : decode method_2_code 106 = .ok (.if_icmp .ne 7, 3) := by decide +kernel
theorem dpk_109 : decode method_2_code 109 = .ok (.getstatic 43, 3) := by decide +kernel
theorem dpk_112 : decode method_2_code 112 = .ok (.areturn, 1) := by decide +kernel
theorem dpk_113 : decode method_2_code 113 = .ok (.getstatic 46, 3) := by decide +kernel
theorem dpk_116 : decode method_2_code 116 = .ok (.areturn, 1) := by decide +kernel
theorem pd_pk : parseMethodDescriptor "(I)Lcom/example/tagweave/tagweave/asn1/CharacterSet;" = some ⟨[.int], some (.object "com/example/tagweave/tagweave/asn1/CharacterSet")⟩ := by decide +kernel
theorem pn_pk : plainName "com/example/tagweave/tagweave/asn1/CharacterSetIsTimePinLaw" = true := by first | (simp [plainName, overriddenIn]; done) | decide +kernel
def Q_pk (Z : State) (x6 x7 : Addr) (i : Int32) (h0 : Heap) (n0 : Nat) (v : Option Value) (h : Heap) (L : List Loc) : Prop := (∃ (a : Addr) (t : Int32), v = some (.ref a) ∧ Exa Z h0 a "com/example/tagweave/tagweave/asn1/CharacterSet" ∧ Fld Z h0 a "com/example/tagweave/tagweave/asn1/CharacterSet" "tagNumber" "I" (.int t) ∧ own_tri i t a x6 x7) ∧ Fr n0 L ∧ h = h0
theorem ef_pk (m : MethodId) (i : Int32) : entryFrame m #[(.int i)] 1 = mkF m 0 #[.val (.int i)] [] := by first | (simp [entryFrame, mkF, argsToLocals, Value.category]; done) | rfl
set_option maxRecDepth 65536 in
set_option maxHeartbeats 40000000 in
theorem rm_pk (l : Launch) (Z : State) (a0 : Array Value) (hw : ∀ d ∈ tables_1, d.before a0 Z = true) (ws : List Jvm.Cond) (i : Int32) (x0 x1 x2 x3 x4 x5 x6 x7 x8 x9 x10 x11 x12 : Addr) (h0 : Heap) (n0 : Nat) (Z0 : n0 ≤ h0.size) (H0 : own_En Z h0 "UTF8_STRING" x0 (12 : Int32)) (H1 : own_En Z h0 "NUMERIC_STRING" x1 (18 : Int32)) (H2 : own_En Z h0 "PRINTABLE_STRING" x2 (19 : Int32)) (H3 : own_En Z h0 "TELETEX_STRING" x3 (20 : Int32)) (H4 : own_En Z h0 "VIDEOTEX_STRING" x4 (21 : Int32)) (H5 : own_En Z h0 "IA5_STRING" x5 (22 : Int32)) (H6 : own_En Z h0 "UTC_TIME" x6 (23 : Int32)) (H7 : own_En Z h0 "GENERALIZED_TIME" x7 (24 : Int32)) (H8 : own_En Z h0 "GRAPHIC_STRING" x8 (25 : Int32)) (H9 : own_En Z h0 "VISIBLE_STRING" x9 (26 : Int32)) (H10 : own_En Z h0 "GENERAL_STRING" x10 (27 : Int32)) (H11 : own_En Z h0 "UNIVERSAL_STRING" x11 (28 : Int32)) (H12 : own_En Z h0 "BMP_STRING" x12 (30 : Int32)) :
    Ctr l Z (⟨"com/example/tagweave/tagweave/asn1/CharacterSetIsTimePinLaw", "pick", "(I)Lcom/example/tagweave/tagweave/asn1/CharacterSet;"⟩ : MethodName) method_2_code 1 (some (.object "com/example/tagweave/tagweave/asn1/CharacterSet")) ws ({ frames := 0, cells := 0, slots := 0, locals := 0 } : Room) #[(.int i)] h0 (Q_pk Z x6 x7 i h0 n0) := by
  refine MetFree.of_bodySF (plainFor_of_name pn_pk) hisR ?_
  intro p e s m args below meth c s₁ Bd hml0 hP hK
  obtain ⟨rfl, hZ, hh⟩ := hP
  have hx := Bd.exec
  have hby := Bd.bytes
  have hlk : meth.locks = false := Bd.notSynchronized
  have hml : c.maxLocals = 1 := hml0
  have hown : s.vm.findClass "com/example/tagweave/tagweave/asn1/CharacterSetIsTimePinLaw" = some m.cls := findClass_of_methodNamed Bd.named
  have hnm := (name_of_methodNamed Bd.named Bd.method).1
  have X0 : Stand p l e ({ frames := 0, cells := 0, slots := 0, locals := 0 } : Room) s m #[(.int i)] below meth c s₁ [] 0 0 := Stand.of_body Bd
  have e0 : s₁.heap = h0 := by rw [← hh, Bd.state]; rfl
  have N0 := Fr.nil n0
  show Goes p e below (EndQ s (Q_pk Z x6 x7 i h0 n0) ({ frames := 0, cells := 0, slots := 0, locals := 0 } : Room).cells ({ frames := 0, cells := 0, slots := 0, locals := 0 } : Room).slots) (s₁.setTop (entryFrame m #[(.int i)] 1))
  refine Goes.pre (S' := (s₁.setTop (mkF m 0 #[.val (.int i)] []))) (fun t k => castTop (ef_pk m i) k) ?_
  refine Goes.pre (S' := (s₁.setTop (mkF m 1 #[.val (.int i)] [(.int i)]))) (fun _ k => XS.iloadN X0.here hx rfl (hb hby dpk_0) rfl k) ?_
  by_cases c0 : i = 0
  · skip
    refine Goes.pre (S' := (s₁.setTop (mkF m 4 #[.val (.int i)] []))) (fun _ k => XS.ifNo X0.here hx rfl (hb hby dpk_1) rfl (XT.i0_ne_f c0) k) ?_
    obtain ⟨T1, X1, e1, st1⟩ := getS (host := "") X0 hx hZ hown (hw _ (List.mem_of_getElem? (i := 5) rfl)) Via.refl e0 H0.1 (g := (mkF m 4 #[.val (.int i)] [])) rfl (hb hby dpk_4)
    refine Goes.pre (S' := (T1.setTop (mkF m 7 #[.val (.int i)] [(.ref x0)]))) st1 ?_
    exact Goes.ret X1 hx hlk (t := (.object "com/example/tagweave/tagweave/asn1/CharacterSet")) Bd.returns rfl (Or.inr (Or.inr (Or.inr (Or.inr ⟨rfl, rfl, rfl⟩)))) (hb hby dpk_7) ⟨⟨x0, (12 : Int32), rfl, H0.2.1, H0.2.2, Or.inr (Or.inr ⟨fun q => by rw [c0] at q; exact absurd q (by decide), fun q => by rw [c0] at q; exact absurd q (by decide), by decide, by decide, Fld.ne H0.2.2 H6.2.2 (by decide), Fld.ne H0.2.2 H7.2.2 (by decide)⟩)⟩, N0, e1⟩ (by first | decide | exact Nat.le_of_ble_eq_true rfl | assumption | (simp [Value.category]; done)) (by first | decide | exact Nat.le_of_ble_eq_true rfl | assumption | (simp [Value.category]; done))
  · skip
    refine Goes.pre (S' := (s₁.setTop (mkF m 8 #[.val (.int i)] []))) (fun _ k => XS.ifYes X0.here hx rfl (pc0 := 1) (pc' := 8) rfl (hb hby dpk_1) rfl (XT.i0_ne_t c0) (by decide) (by decide) k) ?_
    refine Goes.pre (S' := (s₁.setTop (mkF m 9 #[.val (.int i)] [(.int i)]))) (fun _ k => XS.iloadN X0.here hx rfl (hb hby dpk_8) rfl k) ?_
    refine Goes.pre (S' := (s₁.setTop (mkF m 10 #[.val (.int i)] [(.int (1 : Int32)), (.int i)]))) (fun _ k => XS.iconst X0.here hx rfl (hb hby dpk_9) k) ?_
    by_cases c1 : i = (1 : Int32)
    · skip
      refine Goes.pre (S' := (s₁.setTop (mkF m 13 #[.val (.int i)] []))) (fun _ k => XS.icmpNo X0.here hx rfl (hb hby dpk_10) rfl (XT.ii_ne_f c1) k) ?_
      obtain ⟨T2, X2, e2, st2⟩ := getS (host := "") X0 hx hZ hown (hw _ (List.mem_of_getElem? (i := 36) rfl)) Via.refl e0 H1.1 (g := (mkF m 13 #[.val (.int i)] [])) rfl (hb hby dpk_13)
      refine Goes.pre (S' := (T2.setTop (mkF m 16 #[.val (.int i)] [(.ref x1)]))) st2 ?_
      exact Goes.ret X2 hx hlk (t := (.object "com/example/tagweave/tagweave/asn1/CharacterSet")) Bd.returns rfl (Or.inr (Or.inr (Or.inr (Or.inr ⟨rfl, rfl, rfl⟩)))) (hb hby dpk_16) ⟨⟨x1, (18 : Int32), rfl, H1.2.1, H1.2.2, Or.inr (Or.inr ⟨fun q => by rw [c1] at q; exact absurd q (by decide), fun q => by rw [c1] at q; exact absurd q (by decide), by decide, by decide, Fld.ne H1.2.2 H6.2.2 (by decide), Fld.ne H1.2.2 H7.2.2 (by decide)⟩)⟩, N0, e2⟩ (by first | decide | exact Nat.le_of_ble_eq_true rfl | assumption | (simp [Value.category]; done)) (by first | decide | exact Nat.le_of_ble_eq_true rfl | assumption | (simp [Value.category]; done))
    · skip
      refine Goes.pre (S' := (s₁.setTop (mkF m 17 #[.val (.int i)] []))) (fun _ k => XS.icmpYes X0.here hx rfl (pc0 := 10) (pc' := 17) rfl (hb hby dpk_10) rfl (XT.ii_ne_t c1) (by decide) (by decide) k) ?_
      refine Goes.pre (S' := (s₁.setTop (mkF m 18 #[.val (.int i)] [(.int i)]))) (fun _ k => XS.iloadN X0.here hx rfl (hb hby dpk_17) rfl k) ?_
      refine Goes.pre (S' := (s₁.setTop (mkF m 19 #[.val (.int i)] [(.int (2 : Int32)), (.int i)]))) (fun _ k => XS.iconst X0.here hx rfl (hb hby dpk_18) k) ?_
      by_cases c2 : i = (2 : Int32)
      · skip
        refine Goes.pre (S' := (s₁.setTop (mkF m 22 #[.val (.int i)] []))) (fun _ k => XS.icmpNo X0.here hx rfl (hb hby dpk_19) rfl (XT.ii_ne_f c2) k) ?_
        obtain ⟨T3, X3, e3, st3⟩ := getS (host := "") X0 hx hZ hown (hw _ (List.mem_of_getElem? (i := 32) rfl)) Via.refl e0 H2.1 (g := (mkF m 22 #[.val (.int i)] [])) rfl (hb hby dpk_22)
        refine Goes.pre (S' := (T3.setTop (mkF m 25 #[.val (.int i)] [(.ref x2)]))) st3 ?_
        exact Goes.ret X3 hx hlk (t := (.object "com/example/tagweave/tagweave/asn1/CharacterSet")) Bd.returns rfl (Or.inr (Or.inr (Or.inr (Or.inr ⟨rfl, rfl, rfl⟩)))) (hb hby dpk_25) ⟨⟨x2, (19 : Int32), rfl, H2.2.1, H2.2.2, Or.inr (Or.inr ⟨fun q => by rw [c2] at q; exact absurd q (by decide), fun q => by rw [c2] at q; exact absurd q (by decide), by decide, by decide, Fld.ne H2.2.2 H6.2.2 (by decide), Fld.ne H2.2.2 H7.2.2 (by decide)⟩)⟩, N0, e3⟩ (by first | decide | exact Nat.le_of_ble_eq_true rfl | assumption | (simp [Value.category]; done)) (by first | decide | exact Nat.le_of_ble_eq_true rfl | assumption | (simp [Value.category]; done))
      · skip
        refine Goes.pre (S' := (s₁.setTop (mkF m 26 #[.val (.int i)] []))) (fun _ k => XS.icmpYes X0.here hx rfl (pc0 := 19) (pc' := 26) rfl (hb hby dpk_19) rfl (XT.ii_ne_t c2) (by decide) (by decide) k) ?_
        refine Goes.pre (S' := (s₁.setTop (mkF m 27 #[.val (.int i)] [(.int i)]))) (fun _ k => XS.iloadN X0.here hx rfl (hb hby dpk_26) rfl k) ?_
        refine Goes.pre (S' := (s₁.setTop (mkF m 28 #[.val (.int i)] [(.int (3 : Int32)), (.int i)]))) (fun _ k => XS.iconst X0.here hx rfl (hb hby dpk_27) k) ?_
        by_cases c3 : i = (3 : Int32)
        · skip
          refine Goes.pre (S' := (s₁.setTop (mkF m 31 #[.val (.int i)] []))) (fun _ k => XS.icmpNo X0.here hx rfl (hb hby dpk_28) rfl (XT.ii_ne_f c3) k) ?_
          obtain ⟨T4, X4, e4, st4⟩ := getS (host := "") X0 hx hZ hown (hw _ (List.mem_of_getElem? (i := 24) rfl)) Via.refl e0 H3.1 (g := (mkF m 31 #[.val (.int i)] [])) rfl (hb hby dpk_31)
          refine Goes.pre (S' := (T4.setTop (mkF m 34 #[.val (.int i)] [(.ref x3)]))) st4 ?_
          exact Goes.ret X4 hx hlk (t := (.object "com/example/tagweave/tagweave/asn1/CharacterSet")) Bd.returns rfl (Or.inr (Or.inr (Or.inr (Or.inr ⟨rfl, rfl, rfl⟩)))) (hb hby dpk_34) ⟨⟨x3, (20 : Int32), rfl, H3.2.1, H3.2.2, Or.inr (Or.inr ⟨fun q => by rw [c3] at q; exact absurd q (by decide), fun q => by rw [c3] at q; exact absurd q (by decide), by decide, by decide, Fld.ne H3.2.2 H6.2.2 (by decide), Fld.ne H3.2.2 H7.2.2 (by decide)⟩)⟩, N0, e4⟩ (by first | decide | exact Nat.le_of_ble_eq_true rfl | assumption | (simp [Value.category]; done)) (by first | decide | exact Nat.le_of_ble_eq_true rfl | assumption | (simp [Value.category]; done))
        · skip
          refine Goes.pre (S' := (s₁.setTop (mkF m 35 #[.val (.int i)] []))) (fun _ k => XS.icmpYes X0.here hx rfl (pc0 := 28) (pc' := 35) rfl (hb hby dpk_28) rfl (XT.ii_ne_t c3) (by decide) (by decide) k) ?_
          refine Goes.pre (S' := (s₁.setTop (mkF m 36 #[.val (.int i)] [(.int i)]))) (fun _ k => XS.iloadN X0.here hx rfl (hb hby dpk_35) rfl k) ?_
          refine Goes.pre (S' := (s₁.setTop (mkF m 37 #[.val (.int i)] [(.int (4 : Int32)), (.int i)]))) (fun _ k => XS.iconst X0.here hx rfl (hb hby dpk_36) k) ?_
          by_cases c4 : i = (4 : Int32)
          · skip
            refine Goes.pre (S' := (s₁.setTop (mkF m 40 #[.val (.int i)] []))) (fun _ k => XS.icmpNo X0.here hx rfl (hb hby dpk_37) rfl (XT.ii_ne_f c4) k) ?_
            obtain ⟨T5, X5, e5, st5⟩ := getS (host := "") X0 hx hZ hown (hw _ (List.mem_of_getElem? (i := 44) rfl)) Via.refl e0 H4.1 (g := (mkF m 40 #[.val (.int i)] [])) rfl (hb hby dpk_40)
            refine Goes.pre (S' := (T5.setTop (mkF m 43 #[.val (.int i)] [(.ref x4)]))) st5 ?_
            exact Goes.ret X5 hx hlk (t := (.object "com/example/tagweave/tagweave/asn1/CharacterSet")) Bd.returns rfl (Or.inr (Or.inr (Or.inr (Or.inr ⟨rfl, rfl, rfl⟩)))) (hb hby dpk_43) ⟨⟨x4, (21 : Int32), rfl, H4.2.1, H4.2.2, Or.inr (Or.inr ⟨fun q => by rw [c4] at q; exact absurd q (by decide), fun q => by rw [c4] at q; exact absurd q (by decide), by decide, by decide, Fld.ne H4.2.2 H6.2.2 (by decide), Fld.ne H4.2.2 H7.2.2 (by decide)⟩)⟩, N0, e5⟩ (by first | decide | exact Nat.le_of_ble_eq_true rfl | assumption | (simp [Value.category]; done)) (by first | decide | exact Nat.le_of_ble_eq_true rfl | assumption | (simp [Value.category]; done))
          · skip
            refine Goes.pre (S' := (s₁.setTop (mkF m 44 #[.val (.int i)] []))) (fun _ k => XS.icmpYes X0.here hx rfl (pc0 := 37) (pc' := 44) rfl (hb hby dpk_37) rfl (XT.ii_ne_t c4) (by decide) (by decide) k) ?_
            refine Goes.pre (S' := (s₁.setTop (mkF m 45 #[.val (.int i)] [(.int i)]))) (fun _ k => XS.iloadN X0.here hx rfl (hb hby dpk_44) rfl k) ?_
            refine Goes.pre (S' := (s₁.setTop (mkF m 46 #[.val (.int i)] [(.int (5 : Int32)), (.int i)]))) (fun _ k => XS.iconst X0.here hx rfl (hb hby dpk_45) k) ?_
            by_cases c5 : i = (5 : Int32)
            · skip
              refine Goes.pre (S' := (s₁.setTop (mkF m 49 #[.val (.int i)] []))) (fun _ k => XS.icmpNo X0.here hx rfl (hb hby dpk_46) rfl (XT.ii_ne_f c5) k) ?_
              obtain ⟨T6, X6, e6, st6⟩ := getS (host := "") X0 hx hZ hown (hw _ (List.mem_of_getElem? (i := 27) rfl)) Via.refl e0 H5.1 (g := (mkF m 49 #[.val (.int i)] [])) rfl (hb hby dpk_49)
              refine Goes.pre (S' := (T6.setTop (mkF m 52 #[.val (.int i)] [(.ref x5)]))) st6 ?_
              exact Goes.ret X6 hx hlk (t := (.object "com/example/tagweave/tagweave/asn1/CharacterSet")) Bd.returns rfl (Or.inr (Or.inr (Or.inr (Or.inr ⟨rfl, rfl, rfl⟩)))) (hb hby dpk_52) ⟨⟨x5, (22 : Int32), rfl, H5.2.1, H5.2.2, Or.inr (Or.inr ⟨fun q => by rw [c5] at q; exact absurd q (by decide), fun q => by rw [c5] at q; exact absurd q (by decide), by decide, by decide, Fld.ne H5.2.2 H6.2.2 (by decide), Fld.ne H5.2.2 H7.2.2 (by decide)⟩)⟩, N0, e6⟩ (by first | decide | exact Nat.le_of_ble_eq_true rfl | assumption | (simp [Value.category]; done)) (by first | decide | exact Nat.le_of_ble_eq_true rfl | assumption | (simp [Value.category]; done))
            · skip
              refine Goes.pre (S' := (s₁.setTop (mkF m 53 #[.val (.int i)] []))) (fun _ k => XS.icmpYes X0.here hx rfl (pc0 := 46) (pc' := 53) rfl (hb hby dpk_46) rfl (XT.ii_ne_t c5) (by decide) (by decide) k) ?_
              refine Goes.pre (S' := (s₁.setTop (mkF m 54 #[.val (.int i)] [(.int i)]))) (fun _ k => XS.iloadN X0.here hx rfl (hb hby dpk_53) rfl k) ?_
              refine Goes.pre (S' := (s₁.setTop (mkF m 56 #[.val (.int i)] [(.int (6 : Int32)), (.int i)]))) (fun _ k => XS.bipush X0.here hx rfl (hb hby dpk_54) k) ?_
              by_cases c6 : i = (6 : Int32)
              · skip
                refine Goes.pre (S' := (s₁.setTop (mkF m 59 #[.val (.int i)] []))) (fun _ k => XS.icmpNo X0.here hx rfl (hb hby dpk_56) rfl (XT.ii_ne_f c6) k) ?_
                obtain ⟨T7, X7, e7, st7⟩ := getS (host := "") X0 hx hZ hown (hw _ (List.mem_of_getElem? (i := 26) rfl)) Via.refl e0 H6.1 (g := (mkF m 59 #[.val (.int i)] [])) rfl (hb hby dpk_59)
                refine Goes.pre (S' := (T7.setTop (mkF m 62 #[.val (.int i)] [(.ref x6)]))) st7 ?_
                exact Goes.ret X7 hx hlk (t := (.object "com/example/tagweave/tagweave/asn1/CharacterSet")) Bd.returns rfl (Or.inr (Or.inr (Or.inr (Or.inr ⟨rfl, rfl, rfl⟩)))) (hb hby dpk_62) ⟨⟨x6, (23 : Int32), rfl, H6.2.1, H6.2.2, Or.inl ⟨c6, rfl, rfl⟩⟩, N0, e7⟩ (by first | decide | exact Nat.le_of_ble_eq_true rfl | assumption | (simp [Value.category]; done)) (by first | decide | exact Nat.le_of_ble_eq_true rfl | assumption | (simp [Value.category]; done))
              · skip
                refine Goes.pre (S' := (s₁.setTop (mkF m 63 #[.val (.int i)] []))) (fun _ k => XS.icmpYes X0.here hx rfl (pc0 := 56) (pc' := 63) rfl (hb hby dpk_56) rfl (XT.ii_ne_t c6) (by decide) (by decide) k) ?_
                refine Goes.pre (S' := (s₁.setTop (mkF m 64 #[.val (.int i)] [(.int i)]))) (fun _ k => XS.iloadN X0.here hx rfl (hb hby dpk_63) rfl k) ?_
                refine Goes.pre (S' := (s₁.setTop (mkF m 66 #[.val (.int i)] [(.int (7 : Int32)), (.int i)]))) (fun _ k => XS.bipush X0.here hx rfl (hb hby dpk_64) k) ?_
                by_cases c7 : i = (7 : Int32)
                · skip
                  refine Goes.pre (S' := (s₁.setTop (mkF m 69 #[.val (.int i)] []))) (fun _ k => XS.icmpNo X0.here hx rfl (hb hby dpk_66) rfl (XT.ii_ne_f c7) k) ?_
                  obtain ⟨T8, X8, e8, st8⟩ := getS (host := "") X0 hx hZ hown (hw _ (List.mem_of_getElem? (i := 29) rfl)) Via.refl e0 H7.1 (g := (mkF m 69 #[.val (.int i)] [])) rfl (hb hby dpk_69)
                  refine Goes.pre (S' := (T8.setTop (mkF m 72 #[.val (.int i)] [(.ref x7)]))) st8 ?_
                  exact Goes.ret X8 hx hlk (t := (.object "com/example/tagweave/tagweave/asn1/CharacterSet")) Bd.returns rfl (Or.inr (Or.inr (Or.inr (Or.inr ⟨rfl, rfl, rfl⟩)))) (hb hby dpk_72) ⟨⟨x7, (24 : Int32), rfl, H7.2.1, H7.2.2, Or.inr (Or.inl ⟨c7, rfl, rfl⟩)⟩, N0, e8⟩ (by first | decide | exact Nat.le_of_ble_eq_true rfl | assumption | (simp [Value.category]; done)) (by first | decide | exact Nat.le_of_ble_eq_true rfl | assumption | (simp [Value.category]; done))
                · skip
                  refine Goes.pre (S' := (s₁.setTop (mkF m 73 #[.val (.int i)] []))) (fun _ k => XS.icmpYes X0.here hx rfl (pc0 := 66) (pc' := 73) rfl (hb hby dpk_66) rfl (XT.ii_ne_t c7) (by decide) (by decide) k) ?_
                  refine Goes.pre (S' := (s₁.setTop (mkF m 74 #[.val (.int i)] [(.int i)]))) (fun _ k => XS.iloadN X0.here hx rfl (hb hby dpk_73) rfl k) ?_
                  refine Goes.pre (S' := (s₁.setTop (mkF m 76 #[.val (.int i)] [(.int (8 : Int32)), (.int i)]))) (fun _ k => XS.bipush X0.here hx rfl (hb hby dpk_74) k) ?_
                  by_cases c8 : i = (8 : Int32)
                  · skip
                    refine Goes.pre (S' := (s₁.setTop (mkF m 79 #[.val (.int i)] []))) (fun _ k => XS.icmpNo X0.here hx rfl (hb hby dpk_76) rfl (XT.ii_ne_f c8) k) ?_
                    obtain ⟨T9, X9, e9, st9⟩ := getS (host := "") X0 hx hZ hown (hw _ (List.mem_of_getElem? (i := 38) rfl)) Via.refl e0 H8.1 (g := (mkF m 79 #[.val (.int i)] [])) rfl (hb hby dpk_79)
                    refine Goes.pre (S' := (T9.setTop (mkF m 82 #[.val (.int i)] [(.ref x8)]))) st9 ?_
                    exact Goes.ret X9 hx hlk (t := (.object "com/example/tagweave/tagweave/asn1/CharacterSet")) Bd.returns rfl (Or.inr (Or.inr (Or.inr (Or.inr ⟨rfl, rfl, rfl⟩)))) (hb hby dpk_82) ⟨⟨x8, (25 : Int32), rfl, H8.2.1, H8.2.2, Or.inr (Or.inr ⟨fun q => by rw [c8] at q; exact absurd q (by decide), fun q => by rw [c8] at q; exact absurd q (by decide), by decide, by decide, Fld.ne H8.2.2 H6.2.2 (by decide), Fld.ne H8.2.2 H7.2.2 (by decide)⟩)⟩, N0, e9⟩ (by first | decide | exact Nat.le_of_ble_eq_true rfl | assumption | (simp [Value.category]; done)) (by first | decide | exact Nat.le_of_ble_eq_true rfl | assumption | (simp [Value.category]; done))
                  · skip
                    refine Goes.pre (S' := (s₁.setTop (mkF m 83 #[.val (.int i)] []))) (fun _ k => XS.icmpYes X0.here hx rfl (pc0 := 76) (pc' := 83) rfl (hb hby dpk_76) rfl (XT.ii_ne_t c8) (by decide) (by decide) k) ?_
                    refine Goes.pre (S' := (s₁.setTop (mkF m 84 #[.val (.int i)] [(.int i)]))) (fun _ k => XS.iloadN X0.here hx rfl (hb hby dpk_83) rfl k) ?_
                    refine Goes.pre (S' := (s₁.setTop (mkF m 86 #[.val (.int i)] [(.int (9 : Int32)), (.int i)]))) (fun _ k => XS.bipush X0.here hx rfl (hb hby dpk_84) k) ?_
                    by_cases c9 : i = (9 : Int32)
                    · skip
                      refine Goes.pre (S' := (s₁.setTop (mkF m 89 #[.val (.int i)] []))) (fun _ k => XS.icmpNo X0.here hx rfl (hb hby dpk_86) rfl (XT.ii_ne_f c9) k) ?_
                      obtain ⟨T10, X10, e10, st10⟩ := getS (host := "") X0 hx hZ hown (hw _ (List.mem_of_getElem? (i := 30) rfl)) Via.refl e0 H9.1 (g := (mkF m 89 #[.val (.int i)] [])) rfl (hb hby dpk_89)
                      refine Goes.pre (S' := (T10.setTop (mkF m 92 #[.val (.int i)] [(.ref x9)]))) st10 ?_
                      exact Goes.ret X10 hx hlk (t := (.object "com/example/tagweave/tagweave/asn1/CharacterSet")) Bd.returns rfl (Or.inr (Or.inr (Or.inr (Or.inr ⟨rfl, rfl, rfl⟩)))) (hb hby dpk_92) ⟨⟨x9, (26 : Int32), rfl, H9.2.1, H9.2.2, Or.inr (Or.inr ⟨fun q => by rw [c9] at q; exact absurd q (by decide), fun q => by rw [c9] at q; exact absurd q (by decide), by decide, by decide, Fld.ne H9.2.2 H6.2.2 (by decide), Fld.ne H9.2.2 H7.2.2 (by decide)⟩)⟩, N0, e10⟩ (by first | decide | exact Nat.le_of_ble_eq_true rfl | assumption | (simp [Value.category]; done)) (by first | decide | exact Nat.le_of_ble_eq_true rfl | assumption | (simp [Value.category]; done))
                    · skip
                      refine Goes.pre (S' := (s₁.setTop (mkF m 93 #[.val (.int i)] []))) (fun _ k => XS.icmpYes X0.here hx rfl (pc0 := 86) (pc' := 93) rfl (hb hby dpk_86) rfl (XT.ii_ne_t c9) (by decide) (by decide) k) ?_
                      refine Goes.pre (S' := (s₁.setTop (mkF m 94 #[.val (.int i)] [(.int i)]))) (fun _ k => XS.iloadN X0.here hx rfl (hb hby dpk_93) rfl k) ?_
                      refine Goes.pre (S' := (s₁.setTop (mkF m 96 #[.val (.int i)] [(.int (10 : Int32)), (.int i)]))) (fun _ k => XS.bipush X0.here hx rfl (hb hby dpk_94) k) ?_
                      by_cases c10 : i = (10 : Int32)
                      · skip
                        refine Goes.pre (S' := (s₁.setTop (mkF m 99 #[.val (.int i)] []))) (fun _ k => XS.icmpNo X0.here hx rfl (hb hby dpk_96) rfl (XT.ii_ne_f c10) k) ?_
                        obtain ⟨T11, X11, e11, st11⟩ := getS (host := "") X0 hx hZ hown (hw _ (List.mem_of_getElem? (i := 40) rfl)) Via.refl e0 H10.1 (g := (mkF m 99 #[.val (.int i)] [])) rfl (hb hby dpk_99)
                        refine Goes.pre (S' := (T11.setTop (mkF m 102 #[.val (.int i)] [(.ref x10)]))) st11 ?_
                        exact Goes.ret X11 hx hlk (t := (.object "com/example/tagweave/tagweave/asn1/CharacterSet")) Bd.returns rfl (Or.inr (Or.inr (Or.inr (Or.inr ⟨rfl, rfl, rfl⟩)))) (hb hby dpk_102) ⟨⟨x10, (27 : Int32), rfl, H10.2.1, H10.2.2, Or.inr (Or.inr ⟨fun q => by rw [c10] at q; exact absurd q (by decide), fun q => by rw [c10] at q; exact absurd q (by decide), by decide, by decide, Fld.ne H10.2.2 H6.2.2 (by decide), Fld.ne H10.2.2 H7.2.2 (by decide)⟩)⟩, N0, e11⟩ (by first | decide | exact Nat.le_of_ble_eq_true rfl | assumption | (simp [Value.category]; done)) (by first | decide | exact Nat.le_of_ble_eq_true rfl | assumption | (simp [Value.category]; done))
                      · skip
                        refine Goes.pre (S' := (s₁.setTop (mkF m 103 #[.val (.int i)] []))) (fun _ k => XS.icmpYes X0.here hx rfl (pc0 := 96) (pc' := 103) rfl (hb hby dpk_96) rfl (XT.ii_ne_t c10) (by decide) (by decide) k) ?_
                        refine Goes.pre (S' := (s₁.setTop (mkF m 104 #[.val (.int i)] [(.int i)]))) (fun _ k => XS.iloadN X0.here hx rfl (hb hby dpk_103) rfl k) ?_
                        refine Goes.pre (S' := (s₁.setTop (mkF m 106 #[.val (.int i)] [(.int (11 : Int32)), (.int i)]))) (fun _ k => XS.bipush X0.here hx rfl (hb hby dpk_104) k) ?_
                        by_cases c11 : i = (11 : Int32)
                        · skip
                          refine Goes.pre (S' := (s₁.setTop (mkF m 109 #[.val (.int i)] []))) (fun _ k => XS.icmpNo X0.here hx rfl (hb hby dpk_106) rfl (XT.ii_ne_f c11) k) ?_
                          obtain ⟨T12, X12, e12, st12⟩ := getS (host := "") X0 hx hZ hown (hw _ (List.mem_of_getElem? (i := 34) rfl)) Via.refl e0 H11.1 (g := (mkF m 109 #[.val (.int i)] [])) rfl (hb hby dpk_109)
                          refine Goes.pre (S' := (T12.setTop (mkF m 112 #[.val (.int i)] [(.ref x11)]))) st12 ?_
                          exact Goes.ret X12 hx hlk (t := (.object "com/example/tagweave/tagweave/asn1/CharacterSet")) Bd.returns rfl (Or.inr (Or.inr (Or.inr (Or.inr ⟨rfl, rfl, rfl⟩)))) (hb hby dpk_112) ⟨⟨x11, (28 : Int32), rfl, H11.2.1, H11.2.2, Or.inr (Or.inr ⟨fun q => by rw [c11] at q; exact absurd q (by decide), fun q => by rw [c11] at q; exact absurd q (by decide), by decide, by decide, Fld.ne H11.2.2 H6.2.2 (by decide), Fld.ne H11.2.2 H7.2.2 (by decide)⟩)⟩, N0, e12⟩ (by first | decide | exact Nat.le_of_ble_eq_true rfl | assumption | (simp [Value.category]; done)) (by first | decide | exact Nat.le_of_ble_eq_true rfl | assumption | (simp [Value.category]; done))
                        · skip
                          refine Goes.pre (S' := (s₁.setTop (mkF m 113 #[.val (.int i)] []))) (fun _ k => XS.icmpYes X0.here hx rfl (pc0 := 106) (pc' := 113) rfl (hb hby dpk_106) rfl (XT.ii_ne_t c11) (by decide) (by decide) k) ?_
                          obtain ⟨T13, X13, e13, st13⟩ := getS (host := "") X0 hx hZ hown (hw _ (List.mem_of_getElem? (i := 42) rfl)) Via.refl e0 H12.1 (g := (mkF m 113 #[.val (.int i)] [])) rfl (hb hby dpk_113)
                          refine Goes.pre (S' := (T13.setTop (mkF m 116 #[.val (.int i)] [(.ref x12)]))) st13 ?_
                          exact Goes.ret X13 hx hlk (t := (.object "com/example/tagweave/tagweave/asn1/CharacterSet")) Bd.returns rfl (Or.inr (Or.inr (Or.inr (Or.inr ⟨rfl, rfl, rfl⟩)))) (hb hby dpk_116) ⟨⟨x12, (30 : Int32), rfl, H12.2.1, H12.2.2, Or.inr (Or.inr ⟨c6, c7, by decide, by decide, Fld.ne H12.2.2 H6.2.2 (by decide), Fld.ne H12.2.2 H7.2.2 (by decide)⟩)⟩, N0, e13⟩ (by first | decide | exact Nat.le_of_ble_eq_true rfl | assumption | (simp [Value.category]; done)) (by first | decide | exact Nat.le_of_ble_eq_true rfl | assumption | (simp [Value.category]; done))
theorem dtn_0 : decode prog_15_method_6_code 0 = .ok (.aload_n 0, 1) := by decide +kernel
theorem dtn_1 : decode prog_15_method_6_code 1 = .ok (.getfield 66, 3) := by decide +kernel
theorem dtn_4 : decode prog_15_method_6_code 4 = .ok (.ireturn, 1) := by decide +kernel
theorem pd_tn : parseMethodDescriptor "()I" = some ⟨[], some .int⟩ := by decide +kernel
theorem pn_tn : plainName "com/example/tagweave/tagweave/asn1/CharacterSet" = true := by first | (simp [plainName, overriddenIn]; done) | decide +kernel
def Q_tn (t : Int32) (h0 : Heap) (n0 : Nat) (v : Option Value) (h : Heap) (L : List Loc) : Prop := v = some (.int t) ∧ Fr n0 L ∧ h = h0
theorem ef_tn (m : MethodId) (a : Addr) : entryFrame m #[(.ref a)] 1 = mkF m 0 #[.val (.ref a)] [] := by first | (simp [entryFrame, mkF, argsToLocals, Value.category]; done) | rfl
set_option maxRecDepth 65536 in
set_option maxHeartbeats 40000000 in
theorem rm_tn (l : Launch) (Z : State) (a0 : Array Value) (hw : ∀ d ∈ tables_1, d.before a0 Z = true) (ws : List Jvm.Cond) (a : Addr) (t : Int32) (h0 : Heap) (n0 : Nat) (Z0 : n0 ≤ h0.size) (F : Fld Z h0 a "com/example/tagweave/tagweave/asn1/CharacterSet" "tagNumber" "I" (.int t)) :
    Ctr l Z (⟨"com/example/tagweave/tagweave/asn1/CharacterSet", "tagNumber", "()I"⟩ : MethodName) prog_15_method_6_code 1 (some .int) ws ({ frames := 0, cells := 0, slots := 0, locals := 0 } : Room) #[(.ref a)] h0 (Q_tn t h0 n0) := by
  refine MetFree.of_bodySF (plainFor_of_name pn_tn) hisR ?_
  intro p e s m args below meth c s₁ Bd hml0 hP hK
  obtain ⟨rfl, hZ, hh⟩ := hP
  have hx := Bd.exec
  have hby := Bd.bytes
  have hlk : meth.locks = false := Bd.notSynchronized
  have hml : c.maxLocals = 1 := hml0
  have hown : s.vm.findClass "com/example/tagweave/tagweave/asn1/CharacterSet" = some m.cls := findClass_of_methodNamed Bd.named
  have hnm := (name_of_methodNamed Bd.named Bd.method).1
  have X0 : Stand p l e ({ frames := 0, cells := 0, slots := 0, locals := 0 } : Room) s m #[(.ref a)] below meth c s₁ [] 0 0 := Stand.of_body Bd
  have e0 : s₁.heap = h0 := by rw [← hh, Bd.state]; rfl
  have N0 := Fr.nil n0
  show Goes p e below (EndQ s (Q_tn t h0 n0) ({ frames := 0, cells := 0, slots := 0, locals := 0 } : Room).cells ({ frames := 0, cells := 0, slots := 0, locals := 0 } : Room).slots) (s₁.setTop (entryFrame m #[(.ref a)] 1))
  refine Goes.pre (S' := (s₁.setTop (mkF m 0 #[.val (.ref a)] []))) (fun t k => castTop (ef_tn m a) k) ?_
  refine Goes.pre (S' := (s₁.setTop (mkF m 1 #[.val (.ref a)] [(.ref a)]))) (fun _ k => XS.aloadN X0.here hx rfl (hb hby dtn_0) rfl rfl k) ?_
  obtain ⟨T1, X1, e1, st1⟩ := getF X0 hx hZ hown (host := "") (Or.inl (hw _ (List.mem_of_getElem? (i := 13) rfl))) Via.refl e0 F (g := (mkF m 1 #[.val (.ref a)] [(.ref a)])) rfl rfl (hb hby dtn_1)
  refine Goes.pre (S' := (T1.setTop (mkF m 4 #[.val (.ref a)] [(.int t)]))) st1 ?_
  exact Goes.ret X1 hx hlk (t := .int) Bd.returns rfl (Or.inl ⟨rfl, Or.inl rfl, _, rfl⟩) (hb hby dtn_4) ⟨rfl, N0, e1⟩ (by first | decide | exact Nat.le_of_ble_eq_true rfl | assumption | (simp [Value.category]; done)) (by first | decide | exact Nat.le_of_ble_eq_true rfl | assumption | (simp [Value.category]; done))
theorem dit_0 : decode prog_15_method_10_code 0 = .ok (.aload_n 0, 1) := by decide +kernel
theorem dit_1 : decode prog_15_method_10_code 1 = .ok (.getstatic 22, 3) := by decide +kernel
theorem dit_4 : decode prog_15_method_10_code 4 = .ok (.if_acmp .eq 10, 3) := by decide +kernel
theorem dit_7 : decode prog_15_method_10_code 7 = .ok (.aload_n 0, 1) := by decide +kernel
theorem dit_8 : decode prog_15_method_10_code 8 = .ok (.getstatic 25, 3) := by decide +kernel
theorem dit_11 : decode prog_15_method_10_code 11 = .ok (.if_acmp .ne 7, 3) := by decide +kernel
theorem dit_14 : decode prog_15_method_10_code 14 = .ok (.iconst 1, 1) := by decide +kernel
theorem dit_15 : decode prog_15_method_10_code 15 = .ok (.goto 4, 3) := by decide +kernel
theorem dit_18 : decode prog_15_method_10_code 18 = .ok (.iconst 0, 1) := by decide +kernel
theorem dit_19 : decode prog_15_method_10_code 19 = .ok (.ireturn, 1) := by decide +kernel
theorem pd_it : parseMethodDescriptor "()Z" = some ⟨[], some .boolean⟩ := by decide +kernel
theorem pn_it : plainName "com/example/tagweave/tagweave/asn1/CharacterSet" = true := by first | (simp [plainName, overriddenIn]; done) | decide +kernel
def Q_it (a x6 x7 : Addr) (h0 : Heap) (n0 : Nat) (v : Option Value) (h : Heap) (L : List Loc) : Prop := ((v = some (.int 1) ∧ (a = x6 ∨ a = x7)) ∨ (v = some (.int 0) ∧ ¬ a = x6 ∧ ¬ a = x7)) ∧ Fr n0 L ∧ h = h0
theorem ef_it (m : MethodId) (a : Addr) : entryFrame m #[(.ref a)] 1 = mkF m 0 #[.val (.ref a)] [] := by first | (simp [entryFrame, mkF, argsToLocals, Value.category]; done) | rfl
set_option maxRecDepth 65536 in
set_option maxHeartbeats 40000000 in
theorem rm_it (l : Launch) (Z : State) (a0 : Array Value) (hw : ∀ d ∈ tables_1, d.before a0 Z = true) (ws : List Jvm.Cond) (a : Addr) (x6 x7 : Addr) (h0 : Heap) (n0 : Nat) (Z0 : n0 ≤ h0.size) (H6 : Sta Z h0 "com/example/tagweave/tagweave/asn1/CharacterSet" "UTC_TIME" "Lcom/example/tagweave/tagweave/asn1/CharacterSet;" (.ref x6)) (H7 : Sta Z h0 "com/example/tagweave/tagweave/asn1/CharacterSet" "GENERALIZED_TIME" "Lcom/example/tagweave/tagweave/asn1/CharacterSet;" (.ref x7)) :
    Ctr l Z (⟨"com/example/tagweave/tagweave/asn1/CharacterSet", "isTime", "()Z"⟩ : MethodName) prog_15_method_10_code 1 (some .boolean) ws ({ frames := 0, cells := 0, slots := 0, locals := 0 } : Room) #[(.ref a)] h0 (Q_it a x6 x7 h0 n0) := by
  refine MetFree.of_bodySF (plainFor_of_name pn_it) hisR ?_
  intro p e s m args below meth c s₁ Bd hml0 hP hK
  obtain ⟨rfl, hZ, hh⟩ := hP
  have hx := Bd.exec
  have hby := Bd.bytes
  have hlk : meth.locks = false := Bd.notSynchronized
  have hml : c.maxLocals = 1 := hml0
  have hown : s.vm.findClass "com/example/tagweave/tagweave/asn1/CharacterSet" = some m.cls := findClass_of_methodNamed Bd.named
  have hnm := (name_of_methodNamed Bd.named Bd.method).1
  have X0 : Stand p l e ({ frames := 0, cells := 0, slots := 0, locals := 0 } : Room) s m #[(.ref a)] below meth c s₁ [] 0 0 := Stand.of_body Bd
  have e0 : s₁.heap = h0 := by rw [← hh, Bd.state]; rfl
  have N0 := Fr.nil n0
  show Goes p e below (EndQ s (Q_it a x6 x7 h0 n0) ({ frames := 0, cells := 0, slots := 0, locals := 0 } : Room).cells ({ frames := 0, cells := 0, slots := 0, locals := 0 } : Room).slots) (s₁.setTop (entryFrame m #[(.ref a)] 1))
  refine Goes.pre (S' := (s₁.setTop (mkF m 0 #[.val (.ref a)] []))) (fun t k => castTop (ef_it m a) k) ?_
  refine Goes.pre (S' := (s₁.setTop (mkF m 1 #[.val (.ref a)] [(.ref a)]))) (fun _ k => XS.aloadN X0.here hx rfl (hb hby dit_0) rfl rfl k) ?_
  obtain ⟨T1, X1, e1, st1⟩ := getS (host := "") X0 hx hZ hown (hw _ (List.mem_of_getElem? (i := 20) rfl)) Via.refl e0 H6 (g := (mkF m 1 #[.val (.ref a)] [(.ref a)])) rfl (hb hby dit_1)
  refine Goes.pre (S' := (T1.setTop (mkF m 4 #[.val (.ref a)] [(.ref x6), (.ref a)]))) st1 ?_
  by_cases c4 : a = x6
  · skip
    refine Goes.pre (S' := (T1.setTop (mkF m 14 #[.val (.ref a)] []))) (fun _ k => XT.acmpYes X1.here hx rfl (pc0 := 4) (pc' := 14) rfl (hb hby dit_4) rfl rfl rfl (XT.aa_eq_t (congrArg Value.ref c4)) (by decide) (by decide) k) ?_
    refine Goes.pre (S' := (T1.setTop (mkF m 15 #[.val (.ref a)] [(.int (1 : Int32))]))) (fun _ k => XS.iconst X1.here hx rfl (hb hby dit_14) k) ?_
    refine Goes.pre (S' := (T1.setTop (mkF m 19 #[.val (.ref a)] [(.int (1 : Int32))]))) (fun _ k => XS.goto X1.here hx rfl (pc0 := 15) (pc' := 19) rfl (hb hby dit_15) (by decide) (by decide) k) ?_
    exact Goes.retN X1 hx hlk (t := .boolean) Bd.returns (by simp) (hb hby dit_19) ⟨Or.inl ⟨rfl, Or.inl c4⟩, N0, e1⟩ (by first | decide | exact Nat.le_of_ble_eq_true rfl | assumption | (simp [Value.category]; done)) (by first | decide | exact Nat.le_of_ble_eq_true rfl | assumption | (simp [Value.category]; done))
  · skip
    refine Goes.pre (S' := (T1.setTop (mkF m 7 #[.val (.ref a)] []))) (fun _ k => XT.acmpNo X1.here hx rfl (hb hby dit_4) rfl rfl rfl (XT.aa_eq_f (fun q => c4 (Value.ref.inj q))) k) ?_
    refine Goes.pre (S' := (T1.setTop (mkF m 8 #[.val (.ref a)] [(.ref a)]))) (fun _ k => XS.aloadN X1.here hx rfl (hb hby dit_7) rfl rfl k) ?_
    obtain ⟨T2, X2, e2, st2⟩ := getS (host := "") X1 hx hZ hown (hw _ (List.mem_of_getElem? (i := 22) rfl)) Via.refl e1 H7 (g := (mkF m 8 #[.val (.ref a)] [(.ref a)])) rfl (hb hby dit_8)
    refine Goes.pre (S' := (T2.setTop (mkF m 11 #[.val (.ref a)] [(.ref x7), (.ref a)]))) st2 ?_
    by_cases c11 : a = x7
    · skip
      refine Goes.pre (S' := (T2.setTop (mkF m 14 #[.val (.ref a)] []))) (fun _ k => XT.acmpNo X2.here hx rfl (hb hby dit_11) rfl rfl rfl (XT.aa_ne_f (congrArg Value.ref c11)) k) ?_
      refine Goes.pre (S' := (T2.setTop (mkF m 15 #[.val (.ref a)] [(.int (1 : Int32))]))) (fun _ k => XS.iconst X2.here hx rfl (hb hby dit_14) k) ?_
      refine Goes.pre (S' := (T2.setTop (mkF m 19 #[.val (.ref a)] [(.int (1 : Int32))]))) (fun _ k => XS.goto X2.here hx rfl (pc0 := 15) (pc' := 19) rfl (hb hby dit_15) (by decide) (by decide) k) ?_
      exact Goes.retN X2 hx hlk (t := .boolean) Bd.returns (by simp) (hb hby dit_19) ⟨Or.inl ⟨rfl, Or.inr c11⟩, N0, e2⟩ (by first | decide | exact Nat.le_of_ble_eq_true rfl | assumption | (simp [Value.category]; done)) (by first | decide | exact Nat.le_of_ble_eq_true rfl | assumption | (simp [Value.category]; done))
    · skip
      refine Goes.pre (S' := (T2.setTop (mkF m 18 #[.val (.ref a)] []))) (fun _ k => XT.acmpYes X2.here hx rfl (pc0 := 11) (pc' := 18) rfl (hb hby dit_11) rfl rfl rfl (XT.aa_ne_t (fun q => c11 (Value.ref.inj q))) (by decide) (by decide) k) ?_
      refine Goes.pre (S' := (T2.setTop (mkF m 19 #[.val (.ref a)] [(.int (0 : Int32))]))) (fun _ k => XS.iconst X2.here hx rfl (hb hby dit_18) k) ?_
      exact Goes.retN X2 hx hlk (t := .boolean) Bd.returns (by simp) (hb hby dit_19) ⟨Or.inr ⟨rfl, c4, c11⟩, N0, e2⟩ (by first | decide | exact Nat.le_of_ble_eq_true rfl | assumption | (simp [Value.category]; done)) (by first | decide | exact Nat.le_of_ble_eq_true rfl | assumption | (simp [Value.category]; done))
theorem pn_law : plainName "com/example/tagweave/tagweave/asn1/CharacterSetIsTimePinLaw" = true := by first | (simp [plainName, overriddenIn]; done) | decide +kernel
def Q_law (h0 : Heap) (n0 : Nat) (v : Option Value) (h : Heap) (L : List Loc) : Prop := v = some (.int 1) ∧ Fr n0 L
theorem ef_law (m : MethodId) (i0 : Int32) : entryFrame m #[(.int i0)] maxLocals = mkF m 0 #[.val (.int i0), .unset, .unset, .unset, .unset, .unset] [] := by first | (simp [entryFrame, mkF, argsToLocals, Value.category, maxLocals]; done) | rfl
set_option maxRecDepth 65536 in
set_option maxHeartbeats 40000000 in
theorem rm_law (l : Launch) (Z : State) (a0 : Array Value) (hw : ∀ d ∈ tables_1, d.before a0 Z = true) (ws : List Jvm.Cond) (i0 : Int32) (x0 x1 x2 x3 x4 x5 x6 x7 x8 x9 x10 x11 x12 : Addr) (h0 : Heap) (n0 : Nat) (Z0 : n0 ≤ h0.size) (H0 : own_En Z h0 "UTF8_STRING" x0 (12 : Int32)) (H1 : own_En Z h0 "NUMERIC_STRING" x1 (18 : Int32)) (H2 : own_En Z h0 "PRINTABLE_STRING" x2 (19 : Int32)) (H3 : own_En Z h0 "TELETEX_STRING" x3 (20 : Int32)) (H4 : own_En Z h0 "VIDEOTEX_STRING" x4 (21 : Int32)) (H5 : own_En Z h0 "IA5_STRING" x5 (22 : Int32)) (H6 : own_En Z h0 "UTC_TIME" x6 (23 : Int32)) (H7 : own_En Z h0 "GENERALIZED_TIME" x7 (24 : Int32)) (H8 : own_En Z h0 "GRAPHIC_STRING" x8 (25 : Int32)) (H9 : own_En Z h0 "VISIBLE_STRING" x9 (26 : Int32)) (H10 : own_En Z h0 "GENERAL_STRING" x10 (27 : Int32)) (H11 : own_En Z h0 "UNIVERSAL_STRING" x11 (28 : Int32)) (H12 : own_En Z h0 "BMP_STRING" x12 (30 : Int32)) :
    Ctr l Z x code maxLocals ret ws room_1 #[(.int i0)] h0 (Q_law h0 n0) := by
  refine MetFree.of_bodySF (plainFor_of_name pn_law) hisR ?_
  intro p e s m args below meth c s₁ Bd hml0 hP hK
  obtain ⟨rfl, hZ, hh⟩ := hP
  have hx := Bd.exec
  have hby := Bd.bytes
  have hlk : meth.locks = false := Bd.notSynchronized
  have hml : c.maxLocals = 6 := hml0
  have hown : s.vm.findClass "com/example/tagweave/tagweave/asn1/CharacterSetIsTimePinLaw" = some m.cls := findClass_of_methodNamed Bd.named
  have hnm := (name_of_methodNamed Bd.named Bd.method).1
  have X0 : Stand p l e room_1 s m #[(.int i0)] below meth c s₁ [] 0 0 := Stand.of_body Bd
  have e0 : s₁.heap = h0 := by rw [← hh, Bd.state]; rfl
  have N0 := Fr.nil n0
  show Goes p e below (EndQ s (Q_law h0 n0) room_1.cells room_1.slots) (s₁.setTop (entryFrame m #[(.int i0)] maxLocals))
  refine Goes.pre (S' := (s₁.setTop (mkF m 0 #[.val (.int i0), .unset, .unset, .unset, .unset, .unset] []))) (fun t k => castTop (ef_law m i0) k) ?_
  refine Goes.pre (S' := (s₁.setTop (mkF m 1 #[.val (.int i0), .unset, .unset, .unset, .unset, .unset] [(.int i0)]))) (fun _ k => XS.iloadN X0.here hx rfl (hb hby at_0) rfl k) ?_
  refine Goes.pre (S' := (s₁.setTop (mkF m 3 #[.val (.int i0), .unset, .unset, .unset, .unset, .unset] [(.int (2147483647 : Int32)), (.int i0)]))) (fun _ k => Jvm.Stand.ldcI X0 hx hown (mvT hZ (hw _ (List.mem_of_getElem? (i := 0) rfl))) rfl (hb hby at_1) k) ?_
  refine Goes.pre (S' := (s₁.setTop (mkF m 4 #[.val (.int i0), .unset, .unset, .unset, .unset, .unset] [(.int (i0 &&& (2147483647 : Int32)))]))) (fun _ k => XS.iand X0.here hx rfl (hb hby at_3) rfl k) ?_
  refine Goes.pre (S' := (s₁.setTop (mkF m 6 #[.val (.int i0), .unset, .unset, .unset, .unset, .unset] [(.int (13 : Int32)), (.int (i0 &&& (2147483647 : Int32)))]))) (fun _ k => XS.bipush X0.here hx rfl (hb hby at_4) k) ?_
  refine Goes.pre (S' := (s₁.setTop (mkF m 7 #[.val (.int i0), .unset, .unset, .unset, .unset, .unset] [(.int ((i0 &&& (2147483647 : Int32)) % (13 : Int32)))]))) (fun _ k => iremM X0 hx rfl (hb hby at_6) rfl (by decide) k) ?_
  refine Goes.pre (S' := (s₁.setTop (mkF m 8 #[.val (.int i0), .val (.int ((i0 &&& (2147483647 : Int32)) % (13 : Int32))), .unset, .unset, .unset, .unset] []))) (fun _ k => XS.istoreN X0.here hx rfl (hb hby at_7) rfl (l' := #[.val (.int i0), .val (.int ((i0 &&& (2147483647 : Int32)) % (13 : Int32))), .unset, .unset, .unset, .unset]) rfl k) ?_
  refine Goes.pre (S' := (s₁.setTop (mkF m 9 #[.val (.int i0), .val (.int ((i0 &&& (2147483647 : Int32)) % (13 : Int32))), .unset, .unset, .unset, .unset] [(.int ((i0 &&& (2147483647 : Int32)) % (13 : Int32)))]))) (fun _ k => XS.iloadN X0.here hx rfl (hb hby at_8) rfl k) ?_
  generalize hi : ((i0 &&& (2147483647 : Int32)) % (13 : Int32)) = i
  refine Goes.callS (y := (⟨"com/example/tagweave/tagweave/asn1/CharacterSetIsTimePinLaw", "pick", "(I)Lcom/example/tagweave/tagweave/asn1/CharacterSet;"⟩ : MethodName)) X0 hx hZ hown (hw _ (List.mem_of_getElem? (i := 1) rfl)) (hw _ (List.mem_of_getElem? (i := 2) rfl)) (hw _ (List.mem_of_getElem? (i := 3) rfl)) (hw _ (List.mem_of_getElem? (i := 4) rfl)) (by decide) e0 (rm_pk l Z a0 hw [] i x0 x1 x2 x3 x4 x5 x6 x7 x8 x9 x10 x11 x12 h0 n0 Z0 H0 H1 H2 H3 H4 H5 H6 H7 H8 H9 H10 H11 H12) (by rw [hml]; rfl) [(.int i)] [] pd_pk rfl rfl rfl (hb hby at_9) (by decide) (by first | decide | exact Nat.le_of_ble_eq_true rfl | assumption | (simp [Value.category]; done)) (by first | decide | exact Nat.le_of_ble_eq_true rfl | assumption | (simp [Value.category]; done)) (by first | decide | exact Nat.le_of_ble_eq_true rfl | assumption | (simp [Value.category]; done)) ?_
  intro T1 v1 L1 X1 q1
  obtain ⟨⟨a, t, rfl, Ea, Fa, tri⟩, N1a, e1⟩ := q1
  have N1 := Fr.app N0 N1a
  show Goes p e below _ (T1.setTop (mkF m 12 #[.val (.int i0), .val (.int i), .unset, .unset, .unset, .unset] [(.ref a)]))
  refine Goes.pre (S' := (T1.setTop (mkF m 13 #[.val (.int i0), .val (.int i), .val (.ref a), .unset, .unset, .unset] []))) (fun _ k => XS.astoreN X1.here hx rfl (hb hby at_12) rfl rfl (l' := #[.val (.int i0), .val (.int i), .val (.ref a), .unset, .unset, .unset]) rfl k) ?_
  refine Goes.pre (S' := (T1.setTop (mkF m 14 #[.val (.int i0), .val (.int i), .val (.ref a), .unset, .unset, .unset] [(.ref a)]))) (fun _ k => XS.aloadN X1.here hx rfl (hb hby at_13) rfl rfl k) ?_
  refine Goes.callV (y := (⟨"com/example/tagweave/tagweave/asn1/CharacterSet", "tagNumber", "()I"⟩ : MethodName)) (C := "com/example/tagweave/tagweave/asn1/CharacterSet") X1 hx hZ hown (hw _ (List.mem_of_getElem? (i := 8) rfl)) (hw _ (List.mem_of_getElem? (i := 9) rfl)) (hw _ (List.mem_of_getElem? (i := 11) rfl)) (hw _ (List.mem_of_getElem? (i := 10) rfl)) (hw _ (List.mem_of_getElem? (i := 6) rfl)) (hw _ (List.mem_of_getElem? (i := 12) rfl)) (by decide) e1 Ea (rm_tn l Z a0 hw [] a t h0 n0 Z0 Fa) (by rw [hml]; rfl) [] [] pd_tn rfl rfl rfl (hb hby at_14) (by decide) (by first | decide | exact Nat.le_of_ble_eq_true rfl | assumption | (simp [Value.category]; done)) (by first | decide | exact Nat.le_of_ble_eq_true rfl | assumption | (simp [Value.category]; done)) (by first | decide | exact Nat.le_of_ble_eq_true rfl | assumption | (simp [Value.category]; done)) ?_
  intro T2 v2 L2 X2 q2
  obtain ⟨rfl, N2a, e2⟩ := q2
  have N2 := Fr.app N1 N2a
  show Goes p e below _ (T2.setTop (mkF m 17 #[.val (.int i0), .val (.int i), .val (.ref a), .unset, .unset, .unset] [(.int t)]))
  rcases tri with ⟨rfl, rfl, hax⟩ | ⟨rfl, rfl, hax⟩ | ⟨n6, n7, n23, n24, m6, m7⟩
  · skip
    show Goes p e below _ (T2.setTop (mkF m 17 #[.val (.int i0), .val (.int (6 : Int32)), .val (.ref a), .unset, .unset, .unset] [(.int (23 : Int32))]))
    refine Goes.pre (S' := (T2.setTop (mkF m 18 #[.val (.int i0), .val (.int (6 : Int32)), .val (.ref a), .val (.int (23 : Int32)), .unset, .unset] []))) (fun _ k => XS.istoreN X2.here hx rfl (hb hby at_17) rfl (l' := #[.val (.int i0), .val (.int (6 : Int32)), .val (.ref a), .val (.int (23 : Int32)), .unset, .unset]) rfl k) ?_
    refine Goes.pre (S' := (T2.setTop (mkF m 19 #[.val (.int i0), .val (.int (6 : Int32)), .val (.ref a), .val (.int (23 : Int32)), .unset, .unset] [(.int (23 : Int32))]))) (fun _ k => XS.iloadN X2.here hx rfl (hb hby at_18) rfl k) ?_
    refine Goes.pre (S' := (T2.setTop (mkF m 21 #[.val (.int i0), .val (.int (6 : Int32)), .val (.ref a), .val (.int (23 : Int32)), .unset, .unset] [(.int (23 : Int32)), (.int (23 : Int32))]))) (fun _ k => XS.bipush X2.here hx rfl (hb hby at_19) k) ?_
    refine Goes.pre (S' := (T2.setTop (mkF m 30 #[.val (.int i0), .val (.int (6 : Int32)), .val (.ref a), .val (.int (23 : Int32)), .unset, .unset] []))) (fun _ k => XS.icmpYes X2.here hx rfl (pc0 := 21) (pc' := 30) rfl (hb hby at_21) rfl (XT.ii_eq_t rfl) (by decide) (by decide) k) ?_
    refine Goes.pre (S' := (T2.setTop (mkF m 31 #[.val (.int i0), .val (.int (6 : Int32)), .val (.ref a), .val (.int (23 : Int32)), .unset, .unset] [(.int (1 : Int32))]))) (fun _ k => XS.iconst X2.here hx rfl (hb hby at_30) k) ?_
    refine Goes.pre (S' := (T2.setTop (mkF m 35 #[.val (.int i0), .val (.int (6 : Int32)), .val (.ref a), .val (.int (23 : Int32)), .unset, .unset] [(.int (1 : Int32))]))) (fun _ k => XS.goto X2.here hx rfl (pc0 := 31) (pc' := 35) rfl (hb hby at_31) (by decide) (by decide) k) ?_
    refine Goes.pre (S' := (T2.setTop (mkF m 37 #[.val (.int i0), .val (.int (6 : Int32)), .val (.ref a), .val (.int (23 : Int32)), .val (.int (1 : Int32)), .unset] []))) (fun _ k => XS.istore X2.here hx rfl (hb hby at_35) rfl (l' := #[.val (.int i0), .val (.int (6 : Int32)), .val (.ref a), .val (.int (23 : Int32)), .val (.int (1 : Int32)), .unset]) rfl k) ?_
    refine Goes.pre (S' := (T2.setTop (mkF m 38 #[.val (.int i0), .val (.int (6 : Int32)), .val (.ref a), .val (.int (23 : Int32)), .val (.int (1 : Int32)), .unset] [(.int (6 : Int32))]))) (fun _ k => XS.iloadN X2.here hx rfl (hb hby at_37) rfl k) ?_
    refine Goes.pre (S' := (T2.setTop (mkF m 40 #[.val (.int i0), .val (.int (6 : Int32)), .val (.ref a), .val (.int (23 : Int32)), .val (.int (1 : Int32)), .unset] [(.int (6 : Int32)), (.int (6 : Int32))]))) (fun _ k => XS.bipush X2.here hx rfl (hb hby at_38) k) ?_
    refine Goes.pre (S' := (T2.setTop (mkF m 49 #[.val (.int i0), .val (.int (6 : Int32)), .val (.ref a), .val (.int (23 : Int32)), .val (.int (1 : Int32)), .unset] []))) (fun _ k => XS.icmpYes X2.here hx rfl (pc0 := 40) (pc' := 49) rfl (hb hby at_40) rfl (XT.ii_eq_t rfl) (by decide) (by decide) k) ?_
    refine Goes.pre (S' := (T2.setTop (mkF m 50 #[.val (.int i0), .val (.int (6 : Int32)), .val (.ref a), .val (.int (23 : Int32)), .val (.int (1 : Int32)), .unset] [(.int (1 : Int32))]))) (fun _ k => XS.iconst X2.here hx rfl (hb hby at_49) k) ?_
    refine Goes.pre (S' := (T2.setTop (mkF m 54 #[.val (.int i0), .val (.int (6 : Int32)), .val (.ref a), .val (.int (23 : Int32)), .val (.int (1 : Int32)), .unset] [(.int (1 : Int32))]))) (fun _ k => XS.goto X2.here hx rfl (pc0 := 50) (pc' := 54) rfl (hb hby at_50) (by decide) (by decide) k) ?_
    refine Goes.pre (S' := (T2.setTop (mkF m 56 #[.val (.int i0), .val (.int (6 : Int32)), .val (.ref a), .val (.int (23 : Int32)), .val (.int (1 : Int32)), .val (.int (1 : Int32))] []))) (fun _ k => XS.istore X2.here hx rfl (hb hby at_54) rfl (l' := #[.val (.int i0), .val (.int (6 : Int32)), .val (.ref a), .val (.int (23 : Int32)), .val (.int (1 : Int32)), .val (.int (1 : Int32))]) rfl k) ?_
    refine Goes.pre (S' := (T2.setTop (mkF m 57 #[.val (.int i0), .val (.int (6 : Int32)), .val (.ref a), .val (.int (23 : Int32)), .val (.int (1 : Int32)), .val (.int (1 : Int32))] [(.ref a)]))) (fun _ k => XS.aloadN X2.here hx rfl (hb hby at_56) rfl rfl k) ?_
    refine Goes.callV (y := (⟨"com/example/tagweave/tagweave/asn1/CharacterSet", "isTime", "()Z"⟩ : MethodName)) (C := "com/example/tagweave/tagweave/asn1/CharacterSet") X2 hx hZ hown (hw _ (List.mem_of_getElem? (i := 15) rfl)) (hw _ (List.mem_of_getElem? (i := 16) rfl)) (hw _ (List.mem_of_getElem? (i := 18) rfl)) (hw _ (List.mem_of_getElem? (i := 17) rfl)) (hw _ (List.mem_of_getElem? (i := 6) rfl)) (hw _ (List.mem_of_getElem? (i := 19) rfl)) (by decide) e2 Ea (rm_it l Z a0 hw [] a x6 x7 h0 n0 Z0 H6.1 H7.1) (by rw [hml]; rfl) [] [] pd_it rfl rfl rfl (hb hby at_57) (by decide) (by first | decide | exact Nat.le_of_ble_eq_true rfl | assumption | (simp [Value.category]; done)) (by first | decide | exact Nat.le_of_ble_eq_true rfl | assumption | (simp [Value.category]; done)) (by first | decide | exact Nat.le_of_ble_eq_true rfl | assumption | (simp [Value.category]; done)) ?_
    intro T3 v3 L3 X3 q3
    obtain ⟨d3, N3a, e3⟩ := q3
    have N3 := Fr.app N2 N3a
    obtain rfl : v3 = some (.int 1) := by rcases d3 with ⟨q, -⟩ | ⟨-, q, -⟩ <;> first | exact q | exact absurd hax q
    show Goes p e below _ (T3.setTop (mkF m 60 #[.val (.int i0), .val (.int (6 : Int32)), .val (.ref a), .val (.int (23 : Int32)), .val (.int (1 : Int32)), .val (.int (1 : Int32))] [(.int (1 : Int32))]))
    refine Goes.pre (S' := (T3.setTop (mkF m 62 #[.val (.int i0), .val (.int (6 : Int32)), .val (.ref a), .val (.int (23 : Int32)), .val (.int (1 : Int32)), .val (.int (1 : Int32))] [(.int (1 : Int32)), (.int (1 : Int32))]))) (fun _ k => XS.iload X3.here hx rfl (hb hby at_60) rfl k) ?_
    refine Goes.pre (S' := (T3.setTop (mkF m 65 #[.val (.int i0), .val (.int (6 : Int32)), .val (.ref a), .val (.int (23 : Int32)), .val (.int (1 : Int32)), .val (.int (1 : Int32))] []))) (fun _ k => XS.icmpNo X3.here hx rfl (hb hby at_62) rfl (XT.ii_ne_f rfl) k) ?_
    refine Goes.pre (S' := (T3.setTop (mkF m 67 #[.val (.int i0), .val (.int (6 : Int32)), .val (.ref a), .val (.int (23 : Int32)), .val (.int (1 : Int32)), .val (.int (1 : Int32))] [(.int (1 : Int32))]))) (fun _ k => XS.iload X3.here hx rfl (hb hby at_65) rfl k) ?_
    refine Goes.pre (S' := (T3.setTop (mkF m 69 #[.val (.int i0), .val (.int (6 : Int32)), .val (.ref a), .val (.int (23 : Int32)), .val (.int (1 : Int32)), .val (.int (1 : Int32))] [(.int (1 : Int32)), (.int (1 : Int32))]))) (fun _ k => XS.iload X3.here hx rfl (hb hby at_67) rfl k) ?_
    refine Goes.pre (S' := (T3.setTop (mkF m 72 #[.val (.int i0), .val (.int (6 : Int32)), .val (.ref a), .val (.int (23 : Int32)), .val (.int (1 : Int32)), .val (.int (1 : Int32))] []))) (fun _ k => XS.icmpNo X3.here hx rfl (hb hby at_69) rfl (XT.ii_ne_f rfl) k) ?_
    refine Goes.pre (S' := (T3.setTop (mkF m 73 #[.val (.int i0), .val (.int (6 : Int32)), .val (.ref a), .val (.int (23 : Int32)), .val (.int (1 : Int32)), .val (.int (1 : Int32))] [(.int (1 : Int32))]))) (fun _ k => XS.iconst X3.here hx rfl (hb hby at_72) k) ?_
    refine Goes.pre (S' := (T3.setTop (mkF m 77 #[.val (.int i0), .val (.int (6 : Int32)), .val (.ref a), .val (.int (23 : Int32)), .val (.int (1 : Int32)), .val (.int (1 : Int32))] [(.int (1 : Int32))]))) (fun _ k => XS.goto X3.here hx rfl (pc0 := 73) (pc' := 77) rfl (hb hby at_73) (by decide) (by decide) k) ?_
    exact Goes.retN X3 hx hlk (t := .boolean) Bd.returns (by simp) (hb hby at_77) ⟨rfl, N3⟩ (by first | decide | exact Nat.le_of_ble_eq_true rfl | assumption | (simp [Value.category]; done)) (by first | decide | exact Nat.le_of_ble_eq_true rfl | assumption | (simp [Value.category]; done))
  · skip
    show Goes p e below _ (T2.setTop (mkF m 17 #[.val (.int i0), .val (.int (7 : Int32)), .val (.ref a), .unset, .unset, .unset] [(.int (24 : Int32))]))
    refine Goes.pre (S' := (T2.setTop (mkF m 18 #[.val (.int i0), .val (.int (7 : Int32)), .val (.ref a), .val (.int (24 : Int32)), .unset, .unset] []))) (fun _ k => XS.istoreN X2.here hx rfl (hb hby at_17) rfl (l' := #[.val (.int i0), .val (.int (7 : Int32)), .val (.ref a), .val (.int (24 : Int32)), .unset, .unset]) rfl k) ?_
    refine Goes.pre (S' := (T2.setTop (mkF m 19 #[.val (.int i0), .val (.int (7 : Int32)), .val (.ref a), .val (.int (24 : Int32)), .unset, .unset] [(.int (24 : Int32))]))) (fun _ k => XS.iloadN X2.here hx rfl (hb hby at_18) rfl k) ?_
    refine Goes.pre (S' := (T2.setTop (mkF m 21 #[.val (.int i0), .val (.int (7 : Int32)), .val (.ref a), .val (.int (24 : Int32)), .unset, .unset] [(.int (23 : Int32)), (.int (24 : Int32))]))) (fun _ k => XS.bipush X2.here hx rfl (hb hby at_19) k) ?_
    refine Goes.pre (S' := (T2.setTop (mkF m 24 #[.val (.int i0), .val (.int (7 : Int32)), .val (.ref a), .val (.int (24 : Int32)), .unset, .unset] []))) (fun _ k => XS.icmpNo X2.here hx rfl (hb hby at_21) rfl (XT.ii_eq_f (by decide)) k) ?_
    refine Goes.pre (S' := (T2.setTop (mkF m 25 #[.val (.int i0), .val (.int (7 : Int32)), .val (.ref a), .val (.int (24 : Int32)), .unset, .unset] [(.int (24 : Int32))]))) (fun _ k => XS.iloadN X2.here hx rfl (hb hby at_24) rfl k) ?_
    refine Goes.pre (S' := (T2.setTop (mkF m 27 #[.val (.int i0), .val (.int (7 : Int32)), .val (.ref a), .val (.int (24 : Int32)), .unset, .unset] [(.int (24 : Int32)), (.int (24 : Int32))]))) (fun _ k => XS.bipush X2.here hx rfl (hb hby at_25) k) ?_
    refine Goes.pre (S' := (T2.setTop (mkF m 30 #[.val (.int i0), .val (.int (7 : Int32)), .val (.ref a), .val (.int (24 : Int32)), .unset, .unset] []))) (fun _ k => XS.icmpNo X2.here hx rfl (hb hby at_27) rfl (XT.ii_ne_f rfl) k) ?_
    refine Goes.pre (S' := (T2.setTop (mkF m 31 #[.val (.int i0), .val (.int (7 : Int32)), .val (.ref a), .val (.int (24 : Int32)), .unset, .unset] [(.int (1 : Int32))]))) (fun _ k => XS.iconst X2.here hx rfl (hb hby at_30) k) ?_
    refine Goes.pre (S' := (T2.setTop (mkF m 35 #[.val (.int i0), .val (.int (7 : Int32)), .val (.ref a), .val (.int (24 : Int32)), .unset, .unset] [(.int (1 : Int32))]))) (fun _ k => XS.goto X2.here hx rfl (pc0 := 31) (pc' := 35) rfl (hb hby at_31) (by decide) (by decide) k) ?_
    refine Goes.pre (S' := (T2.setTop (mkF m 37 #[.val (.int i0), .val (.int (7 : Int32)), .val (.ref a), .val (.int (24 : Int32)), .val (.int (1 : Int32)), .unset] []))) (fun _ k => XS.istore X2.here hx rfl (hb hby at_35) rfl (l' := #[.val (.int i0), .val (.int (7 : Int32)), .val (.ref a), .val (.int (24 : Int32)), .val (.int (1 : Int32)), .unset]) rfl k) ?_
    refine Goes.pre (S' := (T2.setTop (mkF m 38 #[.val (.int i0), .val (.int (7 : Int32)), .val (.ref a), .val (.int (24 : Int32)), .val (.int (1 : Int32)), .unset] [(.int (7 : Int32))]))) (fun _ k => XS.iloadN X2.here hx rfl (hb hby at_37) rfl k) ?_
    refine Goes.pre (S' := (T2.setTop (mkF m 40 #[.val (.int i0), .val (.int (7 : Int32)), .val (.ref a), .val (.int (24 : Int32)), .val (.int (1 : Int32)), .unset] [(.int (6 : Int32)), (.int (7 : Int32))]))) (fun _ k => XS.bipush X2.here hx rfl (hb hby at_38) k) ?_
    refine Goes.pre (S' := (T2.setTop (mkF m 43 #[.val (.int i0), .val (.int (7 : Int32)), .val (.ref a), .val (.int (24 : Int32)), .val (.int (1 : Int32)), .unset] []))) (fun _ k => XS.icmpNo X2.here hx rfl (hb hby at_40) rfl (XT.ii_eq_f (by decide)) k) ?_
    refine Goes.pre (S' := (T2.setTop (mkF m 44 #[.val (.int i0), .val (.int (7 : Int32)), .val (.ref a), .val (.int (24 : Int32)), .val (.int (1 : Int32)), .unset] [(.int (7 : Int32))]))) (fun _ k => XS.iloadN X2.here hx rfl (hb hby at_43) rfl k) ?_
    refine Goes.pre (S' := (T2.setTop (mkF m 46 #[.val (.int i0), .val (.int (7 : Int32)), .val (.ref a), .val (.int (24 : Int32)), .val (.int (1 : Int32)), .unset] [(.int (7 : Int32)), (.int (7 : Int32))]))) (fun _ k => XS.bipush X2.here hx rfl (hb hby at_44) k) ?_
    refine Goes.pre (S' := (T2.setTop (mkF m 49 #[.val (.int i0), .val (.int (7 : Int32)), .val (.ref a), .val (.int (24 : Int32)), .val (.int (1 : Int32)), .unset] []))) (fun _ k => XS.icmpNo X2.here hx rfl (hb hby at_46) rfl (XT.ii_ne_f rfl) k) ?_
    refine Goes.pre (S' := (T2.setTop (mkF m 50 #[.val (.int i0), .val (.int (7 : Int32)), .val (.ref a), .val (.int (24 : Int32)), .val (.int (1 : Int32)), .unset] [(.int (1 : Int32))]))) (fun _ k => XS.iconst X2.here hx rfl (hb hby at_49) k) ?_
    refine Goes.pre (S' := (T2.setTop (mkF m 54 #[.val (.int i0), .val (.int (7 : Int32)), .val (.ref a), .val (.int (24 : Int32)), .val (.int (1 : Int32)), .unset] [(.int (1 : Int32))]))) (fun _ k => XS.goto X2.here hx rfl (pc0 := 50) (pc' := 54) rfl (hb hby at_50) (by decide) (by decide) k) ?_
    refine Goes.pre (S' := (T2.setTop (mkF m 56 #[.val (.int i0), .val (.int (7 : Int32)), .val (.ref a), .val (.int (24 : Int32)), .val (.int (1 : Int32)), .val (.int (1 : Int32))] []))) (fun _ k => XS.istore X2.here hx rfl (hb hby at_54) rfl (l' := #[.val (.int i0), .val (.int (7 : Int32)), .val (.ref a), .val (.int (24 : Int32)), .val (.int (1 : Int32)), .val (.int (1 : Int32))]) rfl k) ?_
    refine Goes.pre (S' := (T2.setTop (mkF m 57 #[.val (.int i0), .val (.int (7 : Int32)), .val (.ref a), .val (.int (24 : Int32)), .val (.int (1 : Int32)), .val (.int (1 : Int32))] [(.ref a)]))) (fun _ k => XS.aloadN X2.here hx rfl (hb hby at_56) rfl rfl k) ?_
    refine Goes.callV (y := (⟨"com/example/tagweave/tagweave/asn1/CharacterSet", "isTime", "()Z"⟩ : MethodName)) (C := "com/example/tagweave/tagweave/asn1/CharacterSet") X2 hx hZ hown (hw _ (List.mem_of_getElem? (i := 15) rfl)) (hw _ (List.mem_of_getElem? (i := 16) rfl)) (hw _ (List.mem_of_getElem? (i := 18) rfl)) (hw _ (List.mem_of_getElem? (i := 17) rfl)) (hw _ (List.mem_of_getElem? (i := 6) rfl)) (hw _ (List.mem_of_getElem? (i := 19) rfl)) (by decide) e2 Ea (rm_it l Z a0 hw [] a x6 x7 h0 n0 Z0 H6.1 H7.1) (by rw [hml]; rfl) [] [] pd_it rfl rfl rfl (hb hby at_57) (by decide) (by first | decide | exact Nat.le_of_ble_eq_true rfl | assumption | (simp [Value.category]; done)) (by first | decide | exact Nat.le_of_ble_eq_true rfl | assumption | (simp [Value.category]; done)) (by first | decide | exact Nat.le_of_ble_eq_true rfl | assumption | (simp [Value.category]; done)) ?_
    intro T4 v4 L4 X4 q4
    obtain ⟨d4, N4a, e4⟩ := q4
    have N4 := Fr.app N2 N4a
    obtain rfl : v4 = some (.int 1) := by rcases d4 with ⟨q, -⟩ | ⟨-, -, q⟩ <;> first | exact q | exact absurd hax q
    show Goes p e below _ (T4.setTop (mkF m 60 #[.val (.int i0), .val (.int (7 : Int32)), .val (.ref a), .val (.int (24 : Int32)), .val (.int (1 : Int32)), .val (.int (1 : Int32))] [(.int (1 : Int32))]))
    refine Goes.pre (S' := (T4.setTop (mkF m 62 #[.val (.int i0), .val (.int (7 : Int32)), .val (.ref a), .val (.int (24 : Int32)), .val (.int (1 : Int32)), .val (.int (1 : Int32))] [(.int (1 : Int32)), (.int (1 : Int32))]))) (fun _ k => XS.iload X4.here hx rfl (hb hby at_60) rfl k) ?_
    refine Goes.pre (S' := (T4.setTop (mkF m 65 #[.val (.int i0), .val (.int (7 : Int32)), .val (.ref a), .val (.int (24 : Int32)), .val (.int (1 : Int32)), .val (.int (1 : Int32))] []))) (fun _ k => XS.icmpNo X4.here hx rfl (hb hby at_62) rfl (XT.ii_ne_f rfl) k) ?_
    refine Goes.pre (S' := (T4.setTop (mkF m 67 #[.val (.int i0), .val (.int (7 : Int32)), .val (.ref a), .val (.int (24 : Int32)), .val (.int (1 : Int32)), .val (.int (1 : Int32))] [(.int (1 : Int32))]))) (fun _ k => XS.iload X4.here hx rfl (hb hby at_65) rfl k) ?_
    refine Goes.pre (S' := (T4.setTop (mkF m 69 #[.val (.int i0), .val (.int (7 : Int32)), .val (.ref a), .val (.int (24 : Int32)), .val (.int (1 : Int32)), .val (.int (1 : Int32))] [(.int (1 : Int32)), (.int (1 : Int32))]))) (fun _ k => XS.iload X4.here hx rfl (hb hby at_67) rfl k) ?_
    refine Goes.pre (S' := (T4.setTop (mkF m 72 #[.val (.int i0), .val (.int (7 : Int32)), .val (.ref a), .val (.int (24 : Int32)), .val (.int (1 : Int32)), .val (.int (1 : Int32))] []))) (fun _ k => XS.icmpNo X4.here hx rfl (hb hby at_69) rfl (XT.ii_ne_f rfl) k) ?_
    refine Goes.pre (S' := (T4.setTop (mkF m 73 #[.val (.int i0), .val (.int (7 : Int32)), .val (.ref a), .val (.int (24 : Int32)), .val (.int (1 : Int32)), .val (.int (1 : Int32))] [(.int (1 : Int32))]))) (fun _ k => XS.iconst X4.here hx rfl (hb hby at_72) k) ?_
    refine Goes.pre (S' := (T4.setTop (mkF m 77 #[.val (.int i0), .val (.int (7 : Int32)), .val (.ref a), .val (.int (24 : Int32)), .val (.int (1 : Int32)), .val (.int (1 : Int32))] [(.int (1 : Int32))]))) (fun _ k => XS.goto X4.here hx rfl (pc0 := 73) (pc' := 77) rfl (hb hby at_73) (by decide) (by decide) k) ?_
    exact Goes.retN X4 hx hlk (t := .boolean) Bd.returns (by simp) (hb hby at_77) ⟨rfl, N4⟩ (by first | decide | exact Nat.le_of_ble_eq_true rfl | assumption | (simp [Value.category]; done)) (by first | decide | exact Nat.le_of_ble_eq_true rfl | assumption | (simp [Value.category]; done))
  · skip
    show Goes p e below _ (T2.setTop (mkF m 17 #[.val (.int i0), .val (.int i), .val (.ref a), .unset, .unset, .unset] [(.int t)]))
    refine Goes.pre (S' := (T2.setTop (mkF m 18 #[.val (.int i0), .val (.int i), .val (.ref a), .val (.int t), .unset, .unset] []))) (fun _ k => XS.istoreN X2.here hx rfl (hb hby at_17) rfl (l' := #[.val (.int i0), .val (.int i), .val (.ref a), .val (.int t), .unset, .unset]) rfl k) ?_
    refine Goes.pre (S' := (T2.setTop (mkF m 19 #[.val (.int i0), .val (.int i), .val (.ref a), .val (.int t), .unset, .unset] [(.int t)]))) (fun _ k => XS.iloadN X2.here hx rfl (hb hby at_18) rfl k) ?_
    refine Goes.pre (S' := (T2.setTop (mkF m 21 #[.val (.int i0), .val (.int i), .val (.ref a), .val (.int t), .unset, .unset] [(.int (23 : Int32)), (.int t)]))) (fun _ k => XS.bipush X2.here hx rfl (hb hby at_19) k) ?_
    refine Goes.pre (S' := (T2.setTop (mkF m 24 #[.val (.int i0), .val (.int i), .val (.ref a), .val (.int t), .unset, .unset] []))) (fun _ k => XS.icmpNo X2.here hx rfl (hb hby at_21) rfl (XT.ii_eq_f n23) k) ?_
    refine Goes.pre (S' := (T2.setTop (mkF m 25 #[.val (.int i0), .val (.int i), .val (.ref a), .val (.int t), .unset, .unset] [(.int t)]))) (fun _ k => XS.iloadN X2.here hx rfl (hb hby at_24) rfl k) ?_
    refine Goes.pre (S' := (T2.setTop (mkF m 27 #[.val (.int i0), .val (.int i), .val (.ref a), .val (.int t), .unset, .unset] [(.int (24 : Int32)), (.int t)]))) (fun _ k => XS.bipush X2.here hx rfl (hb hby at_25) k) ?_
    refine Goes.pre (S' := (T2.setTop (mkF m 34 #[.val (.int i0), .val (.int i), .val (.ref a), .val (.int t), .unset, .unset] []))) (fun _ k => XS.icmpYes X2.here hx rfl (pc0 := 27) (pc' := 34) rfl (hb hby at_27) rfl (XT.ii_ne_t n24) (by decide) (by decide) k) ?_
    refine Goes.pre (S' := (T2.setTop (mkF m 35 #[.val (.int i0), .val (.int i), .val (.ref a), .val (.int t), .unset, .unset] [(.int (0 : Int32))]))) (fun _ k => XS.iconst X2.here hx rfl (hb hby at_34) k) ?_
    refine Goes.pre (S' := (T2.setTop (mkF m 37 #[.val (.int i0), .val (.int i), .val (.ref a), .val (.int t), .val (.int (0 : Int32)), .unset] []))) (fun _ k => XS.istore X2.here hx rfl (hb hby at_35) rfl (l' := #[.val (.int i0), .val (.int i), .val (.ref a), .val (.int t), .val (.int (0 : Int32)), .unset]) rfl k) ?_
    refine Goes.pre (S' := (T2.setTop (mkF m 38 #[.val (.int i0), .val (.int i), .val (.ref a), .val (.int t), .val (.int (0 : Int32)), .unset] [(.int i)]))) (fun _ k => XS.iloadN X2.here hx rfl (hb hby at_37) rfl k) ?_
    refine Goes.pre (S' := (T2.setTop (mkF m 40 #[.val (.int i0), .val (.int i), .val (.ref a), .val (.int t), .val (.int (0 : Int32)), .unset] [(.int (6 : Int32)), (.int i)]))) (fun _ k => XS.bipush X2.here hx rfl (hb hby at_38) k) ?_
    refine Goes.pre (S' := (T2.setTop (mkF m 43 #[.val (.int i0), .val (.int i), .val (.ref a), .val (.int t), .val (.int (0 : Int32)), .unset] []))) (fun _ k => XS.icmpNo X2.here hx rfl (hb hby at_40) rfl (XT.ii_eq_f n6) k) ?_
    refine Goes.pre (S' := (T2.setTop (mkF m 44 #[.val (.int i0), .val (.int i), .val (.ref a), .val (.int t), .val (.int (0 : Int32)), .unset] [(.int i)]))) (fun _ k => XS.iloadN X2.here hx rfl (hb hby at_43) rfl k) ?_
    refine Goes.pre (S' := (T2.setTop (mkF m 46 #[.val (.int i0), .val (.int i), .val (.ref a), .val (.int t), .val (.int (0 : Int32)), .unset] [(.int (7 : Int32)), (.int i)]))) (fun _ k => XS.bipush X2.here hx rfl (hb hby at_44) k) ?_
    refine Goes.pre (S' := (T2.setTop (mkF m 53 #[.val (.int i0), .val (.int i), .val (.ref a), .val (.int t), .val (.int (0 : Int32)), .unset] []))) (fun _ k => XS.icmpYes X2.here hx rfl (pc0 := 46) (pc' := 53) rfl (hb hby at_46) rfl (XT.ii_ne_t n7) (by decide) (by decide) k) ?_
    refine Goes.pre (S' := (T2.setTop (mkF m 54 #[.val (.int i0), .val (.int i), .val (.ref a), .val (.int t), .val (.int (0 : Int32)), .unset] [(.int (0 : Int32))]))) (fun _ k => XS.iconst X2.here hx rfl (hb hby at_53) k) ?_
    refine Goes.pre (S' := (T2.setTop (mkF m 56 #[.val (.int i0), .val (.int i), .val (.ref a), .val (.int t), .val (.int (0 : Int32)), .val (.int (0 : Int32))] []))) (fun _ k => XS.istore X2.here hx rfl (hb hby at_54) rfl (l' := #[.val (.int i0), .val (.int i), .val (.ref a), .val (.int t), .val (.int (0 : Int32)), .val (.int (0 : Int32))]) rfl k) ?_
    refine Goes.pre (S' := (T2.setTop (mkF m 57 #[.val (.int i0), .val (.int i), .val (.ref a), .val (.int t), .val (.int (0 : Int32)), .val (.int (0 : Int32))] [(.ref a)]))) (fun _ k => XS.aloadN X2.here hx rfl (hb hby at_56) rfl rfl k) ?_
    refine Goes.callV (y := (⟨"com/example/tagweave/tagweave/asn1/CharacterSet", "isTime", "()Z"⟩ : MethodName)) (C := "com/example/tagweave/tagweave/asn1/CharacterSet") X2 hx hZ hown (hw _ (List.mem_of_getElem? (i := 15) rfl)) (hw _ (List.mem_of_getElem? (i := 16) rfl)) (hw _ (List.mem_of_getElem? (i := 18) rfl)) (hw _ (List.mem_of_getElem? (i := 17) rfl)) (hw _ (List.mem_of_getElem? (i := 6) rfl)) (hw _ (List.mem_of_getElem? (i := 19) rfl)) (by decide) e2 Ea (rm_it l Z a0 hw [] a x6 x7 h0 n0 Z0 H6.1 H7.1) (by rw [hml]; rfl) [] [] pd_it rfl rfl rfl (hb hby at_57) (by decide) (by first | decide | exact Nat.le_of_ble_eq_true rfl | assumption | (simp [Value.category]; done)) (by first | decide | exact Nat.le_of_ble_eq_true rfl | assumption | (simp [Value.category]; done)) (by first | decide | exact Nat.le_of_ble_eq_true rfl | assumption | (simp [Value.category]; done)) ?_
    intro T5 v5 L5 X5 q5
    obtain ⟨d5, N5a, e5⟩ := q5
    have N5 := Fr.app N2 N5a
    obtain rfl : v5 = some (.int 0) := by rcases d5 with ⟨-, q⟩ | ⟨q, -⟩ <;> first | exact q | exact absurd q (fun q => q.elim m6 m7)
    show Goes p e below _ (T5.setTop (mkF m 60 #[.val (.int i0), .val (.int i), .val (.ref a), .val (.int t), .val (.int (0 : Int32)), .val (.int (0 : Int32))] [(.int (0 : Int32))]))
    refine Goes.pre (S' := (T5.setTop (mkF m 62 #[.val (.int i0), .val (.int i), .val (.ref a), .val (.int t), .val (.int (0 : Int32)), .val (.int (0 : Int32))] [(.int (0 : Int32)), (.int (0 : Int32))]))) (fun _ k => XS.iload X5.here hx rfl (hb hby at_60) rfl k) ?_
    refine Goes.pre (S' := (T5.setTop (mkF m 65 #[.val (.int i0), .val (.int i), .val (.ref a), .val (.int t), .val (.int (0 : Int32)), .val (.int (0 : Int32))] []))) (fun _ k => XS.icmpNo X5.here hx rfl (hb hby at_62) rfl (XT.ii_ne_f rfl) k) ?_
    refine Goes.pre (S' := (T5.setTop (mkF m 67 #[.val (.int i0), .val (.int i), .val (.ref a), .val (.int t), .val (.int (0 : Int32)), .val (.int (0 : Int32))] [(.int (0 : Int32))]))) (fun _ k => XS.iload X5.here hx rfl (hb hby at_65) rfl k) ?_
    refine Goes.pre (S' := (T5.setTop (mkF m 69 #[.val (.int i0), .val (.int i), .val (.ref a), .val (.int t), .val (.int (0 : Int32)), .val (.int (0 : Int32))] [(.int (0 : Int32)), (.int (0 : Int32))]))) (fun _ k => XS.iload X5.here hx rfl (hb hby at_67) rfl k) ?_
    refine Goes.pre (S' := (T5.setTop (mkF m 72 #[.val (.int i0), .val (.int i), .val (.ref a), .val (.int t), .val (.int (0 : Int32)), .val (.int (0 : Int32))] []))) (fun _ k => XS.icmpNo X5.here hx rfl (hb hby at_69) rfl (XT.ii_ne_f rfl) k) ?_
    refine Goes.pre (S' := (T5.setTop (mkF m 73 #[.val (.int i0), .val (.int i), .val (.ref a), .val (.int t), .val (.int (0 : Int32)), .val (.int (0 : Int32))] [(.int (1 : Int32))]))) (fun _ k => XS.iconst X5.here hx rfl (hb hby at_72) k) ?_
    refine Goes.pre (S' := (T5.setTop (mkF m 77 #[.val (.int i0), .val (.int i), .val (.ref a), .val (.int t), .val (.int (0 : Int32)), .val (.int (0 : Int32))] [(.int (1 : Int32))]))) (fun _ k => XS.goto X5.here hx rfl (pc0 := 73) (pc' := 77) rfl (hb hby at_73) (by decide) (by decide) k) ?_
    exact Goes.retN X5 hx hlk (t := .boolean) Bd.returns (by simp) (hb hby at_77) ⟨rfl, N5⟩ (by first | decide | exact Nat.le_of_ble_eq_true rfl | assumption | (simp [Value.category]; done)) (by first | decide | exact Nat.le_of_ble_eq_true rfl | assumption | (simp [Value.category]; done))
set_option maxRecDepth 65536 in
set_option maxHeartbeats 40000000 in
theorem comes_1 {Post : Tables → Env → Array Value → State → Outcome → State → Prop} (hpost : ∀ tb e args s v u, (limb_1_1.after args s (.returned v) u = true ∧ limb_1_2.after args s (.returned v) u = true ∧ True) → FrameEnd s (.returned v) u (Jvm.fieldLocs frame_1_writes args s ++ Jvm.arrayLocs frame_1_arrays args s ++ Jvm.staticLocs frame_1_statics s) 0 0 → Post tb e args s (.returned v) u) :
    ArmFor flags0 classFile x code maxLocals ret World_1 tables_1 room_1 Calls_1 rest_1 Pre_1 Post := by
  intro l hfl _ _ p e ha hc hk s m args below hf hA hF happ hP
  obtain ⟨hcalls, hrest, hpre⟩ := hP
  obtain ⟨-, -, -, hnamed, -, -, -, hat⟩ := (Spec.applies_iff hf).mp happ
  obtain ⟨hg, hn⟩ := and_e (Cond.before_iff.mp (show (Jvm.Cond.and given_1 narrow_1).before args s = true from hpre))
  obtain ⟨gc, gr0⟩ := and_e hg
  obtain ⟨w0, rfl⟩ : ∃ w0 : Value, args = #[w0] := by
    have hs : args.size = 1 := by simpa [Cond.value, given_1] using gc
    obtain ⟨L⟩ := args
    match L, hs with
    | [w0], _ => exact ⟨w0, rfl⟩
  have hw := fun d (hd : d ∈ tables_1) => atoms_spec (ws := Jvm.Cond.code x code maxLocals ret :: tables_1) hat d (List.mem_cons_of_mem _ hd)
  have hfit : Fit s := fun {y c} hc i hi => by
    obtain ⟨ha, rfl⟩ := Array.getElem?_eq_some_iff.mp hc
    have q := List.all_eq_true.mp ((Array.all_eq_true_iff_forall_mem.mp hF) _ (Array.getElem_mem ha)) i (List.mem_range.mpr hi)
    simpa [Array.getElem?_eq_getElem hi] using q
  obtain ⟨i0, ei0⟩ := is_v gr0
  obtain rfl : w0 = (.int i0) := Option.some.inj ei0
  obtain ⟨nw0, nwr0⟩ := and_e hn
  obtain ⟨nw1, nwr1⟩ := and_e nwr0
  obtain ⟨nw2, nwr2⟩ := and_e nwr1
  obtain ⟨nw3, nwr3⟩ := and_e nwr2
  obtain ⟨nw4, nwr4⟩ := and_e nwr3
  obtain ⟨nw5, nwr5⟩ := and_e nwr4
  obtain ⟨nw6, nwr6⟩ := and_e nwr5
  obtain ⟨nw7, nwr7⟩ := and_e nwr6
  obtain ⟨nw8, nwr8⟩ := and_e nwr7
  obtain ⟨nw9, nwr9⟩ := and_e nwr8
  obtain ⟨nw10, nwr10⟩ := and_e nwr9
  obtain ⟨nw11, nwr11⟩ := and_e nwr10
  obtain ⟨nw12, nwr12⟩ := and_e nwr11
  obtain ⟨nw13, nwr13⟩ := and_e nwr12
  obtain ⟨nw14, nwr14⟩ := and_e nwr13
  obtain ⟨nw15, nwr15⟩ := and_e nwr14
  obtain ⟨nw16, nwr16⟩ := and_e nwr15
  obtain ⟨nw17, nwr17⟩ := and_e nwr16
  obtain ⟨nw18, nwr18⟩ := and_e nwr17
  obtain ⟨nw19, nwr19⟩ := and_e nwr18
  obtain ⟨nw20, nwr20⟩ := and_e nwr19
  obtain ⟨nw21, nwr21⟩ := and_e nwr20
  obtain ⟨nw22, nwr22⟩ := and_e nwr21
  obtain ⟨nw23, nwr23⟩ := and_e nwr22
  obtain ⟨nw24, nwr24⟩ := and_e nwr23
  obtain ⟨nw25, nwr25⟩ := and_e nwr24
  obtain ⟨nw26, nwr26⟩ := and_e nwr25
  obtain ⟨nw27, nwr27⟩ := and_e nwr26
  obtain ⟨nw28, nwr28⟩ := and_e nwr27
  obtain ⟨nw29, nwr29⟩ := and_e nwr28
  obtain ⟨nw30, nwr30⟩ := and_e nwr29
  obtain ⟨nw31, nwr31⟩ := and_e nwr30
  obtain ⟨nw32, nwr32⟩ := and_e nwr31
  obtain ⟨nw33, nwr33⟩ := and_e nwr32
  obtain ⟨nw34, nwr34⟩ := and_e nwr33
  obtain ⟨nw35, nwr35⟩ := and_e nwr34
  obtain ⟨nw36, nwr36⟩ := and_e nwr35
  obtain ⟨nw37, nwr37⟩ := and_e nwr36
  have nw38 := nwr37
  obtain ⟨x_UTF8_STRING, ev_UTF8_STRING⟩ := exa_v nw0
  have Ex_UTF8_STRING := Exa.start ev_UTF8_STRING nw0
  have Sta_UTF8_STRING : Sta s s.heap "com/example/tagweave/tagweave/asn1/CharacterSet" "UTF8_STRING" "Lcom/example/tagweave/tagweave/asn1/CharacterSet;" (.ref x_UTF8_STRING) := Sta.start ev_UTF8_STRING (Or.inr ⟨(hw _ (List.mem_of_getElem? (i := 6) rfl)), (hw _ (List.mem_of_getElem? (i := 7) rfl))⟩)
  obtain ⟨x_UTC_TIME, ev_UTC_TIME⟩ := exa_v nw2
  have Ex_UTC_TIME := Exa.start ev_UTC_TIME nw2
  have Sta_UTC_TIME : Sta s s.heap "com/example/tagweave/tagweave/asn1/CharacterSet" "UTC_TIME" "Lcom/example/tagweave/tagweave/asn1/CharacterSet;" (.ref x_UTC_TIME) := Sta.start ev_UTC_TIME (Or.inr ⟨(hw _ (List.mem_of_getElem? (i := 6) rfl)), (hw _ (List.mem_of_getElem? (i := 21) rfl))⟩)
  obtain ⟨x_GENERALIZED_TIME, ev_GENERALIZED_TIME⟩ := exa_v nw5
  have Ex_GENERALIZED_TIME := Exa.start ev_GENERALIZED_TIME nw5
  have Sta_GENERALIZED_TIME : Sta s s.heap "com/example/tagweave/tagweave/asn1/CharacterSet" "GENERALIZED_TIME" "Lcom/example/tagweave/tagweave/asn1/CharacterSet;" (.ref x_GENERALIZED_TIME) := Sta.start ev_GENERALIZED_TIME (Or.inr ⟨(hw _ (List.mem_of_getElem? (i := 6) rfl)), (hw _ (List.mem_of_getElem? (i := 23) rfl))⟩)
  obtain ⟨x_TELETEX_STRING, ev_TELETEX_STRING⟩ := exa_v nw7
  have Ex_TELETEX_STRING := Exa.start ev_TELETEX_STRING nw7
  have Sta_TELETEX_STRING : Sta s s.heap "com/example/tagweave/tagweave/asn1/CharacterSet" "TELETEX_STRING" "Lcom/example/tagweave/tagweave/asn1/CharacterSet;" (.ref x_TELETEX_STRING) := Sta.start ev_TELETEX_STRING (Or.inr ⟨(hw _ (List.mem_of_getElem? (i := 6) rfl)), (hw _ (List.mem_of_getElem? (i := 25) rfl))⟩)
  obtain ⟨x_IA5_STRING, ev_IA5_STRING⟩ := exa_v nw11
  have Ex_IA5_STRING := Exa.start ev_IA5_STRING nw11
  have Sta_IA5_STRING : Sta s s.heap "com/example/tagweave/tagweave/asn1/CharacterSet" "IA5_STRING" "Lcom/example/tagweave/tagweave/asn1/CharacterSet;" (.ref x_IA5_STRING) := Sta.start ev_IA5_STRING (Or.inr ⟨(hw _ (List.mem_of_getElem? (i := 6) rfl)), (hw _ (List.mem_of_getElem? (i := 28) rfl))⟩)
  obtain ⟨x_VISIBLE_STRING, ev_VISIBLE_STRING⟩ := exa_v nw15
  have Ex_VISIBLE_STRING := Exa.start ev_VISIBLE_STRING nw15
  have Sta_VISIBLE_STRING : Sta s s.heap "com/example/tagweave/tagweave/asn1/CharacterSet" "VISIBLE_STRING" "Lcom/example/tagweave/tagweave/asn1/CharacterSet;" (.ref x_VISIBLE_STRING) := Sta.start ev_VISIBLE_STRING (Or.inr ⟨(hw _ (List.mem_of_getElem? (i := 6) rfl)), (hw _ (List.mem_of_getElem? (i := 31) rfl))⟩)
  obtain ⟨x_PRINTABLE_STRING, ev_PRINTABLE_STRING⟩ := exa_v nw18
  have Ex_PRINTABLE_STRING := Exa.start ev_PRINTABLE_STRING nw18
  have Sta_PRINTABLE_STRING : Sta s s.heap "com/example/tagweave/tagweave/asn1/CharacterSet" "PRINTABLE_STRING" "Lcom/example/tagweave/tagweave/asn1/CharacterSet;" (.ref x_PRINTABLE_STRING) := Sta.start ev_PRINTABLE_STRING (Or.inr ⟨(hw _ (List.mem_of_getElem? (i := 6) rfl)), (hw _ (List.mem_of_getElem? (i := 33) rfl))⟩)
  obtain ⟨x_UNIVERSAL_STRING, ev_UNIVERSAL_STRING⟩ := exa_v nw21
  have Ex_UNIVERSAL_STRING := Exa.start ev_UNIVERSAL_STRING nw21
  have Sta_UNIVERSAL_STRING : Sta s s.heap "com/example/tagweave/tagweave/asn1/CharacterSet" "UNIVERSAL_STRING" "Lcom/example/tagweave/tagweave/asn1/CharacterSet;" (.ref x_UNIVERSAL_STRING) := Sta.start ev_UNIVERSAL_STRING (Or.inr ⟨(hw _ (List.mem_of_getElem? (i := 6) rfl)), (hw _ (List.mem_of_getElem? (i := 35) rfl))⟩)
  obtain ⟨x_NUMERIC_STRING, ev_NUMERIC_STRING⟩ := exa_v nw24
  have Ex_NUMERIC_STRING := Exa.start ev_NUMERIC_STRING nw24
  have Sta_NUMERIC_STRING : Sta s s.heap "com/example/tagweave/tagweave/asn1/CharacterSet" "NUMERIC_STRING" "Lcom/example/tagweave/tagweave/asn1/CharacterSet;" (.ref x_NUMERIC_STRING) := Sta.start ev_NUMERIC_STRING (Or.inr ⟨(hw _ (List.mem_of_getElem? (i := 6) rfl)), (hw _ (List.mem_of_getElem? (i := 37) rfl))⟩)
  obtain ⟨x_GRAPHIC_STRING, ev_GRAPHIC_STRING⟩ := exa_v nw27
  have Ex_GRAPHIC_STRING := Exa.start ev_GRAPHIC_STRING nw27
  have Sta_GRAPHIC_STRING : Sta s s.heap "com/example/tagweave/tagweave/asn1/CharacterSet" "GRAPHIC_STRING" "Lcom/example/tagweave/tagweave/asn1/CharacterSet;" (.ref x_GRAPHIC_STRING) := Sta.start ev_GRAPHIC_STRING (Or.inr ⟨(hw _ (List.mem_of_getElem? (i := 6) rfl)), (hw _ (List.mem_of_getElem? (i := 39) rfl))⟩)
  obtain ⟨x_GENERAL_STRING, ev_GENERAL_STRING⟩ := exa_v nw30
  have Ex_GENERAL_STRING := Exa.start ev_GENERAL_STRING nw30
  have Sta_GENERAL_STRING : Sta s s.heap "com/example/tagweave/tagweave/asn1/CharacterSet" "GENERAL_STRING" "Lcom/example/tagweave/tagweave/asn1/CharacterSet;" (.ref x_GENERAL_STRING) := Sta.start ev_GENERAL_STRING (Or.inr ⟨(hw _ (List.mem_of_getElem? (i := 6) rfl)), (hw _ (List.mem_of_getElem? (i := 41) rfl))⟩)
  obtain ⟨x_BMP_STRING, ev_BMP_STRING⟩ := exa_v nw33
  have Ex_BMP_STRING := Exa.start ev_BMP_STRING nw33
  have Sta_BMP_STRING : Sta s s.heap "com/example/tagweave/tagweave/asn1/CharacterSet" "BMP_STRING" "Lcom/example/tagweave/tagweave/asn1/CharacterSet;" (.ref x_BMP_STRING) := Sta.start ev_BMP_STRING (Or.inr ⟨(hw _ (List.mem_of_getElem? (i := 6) rfl)), (hw _ (List.mem_of_getElem? (i := 43) rfl))⟩)
  obtain ⟨x_VIDEOTEX_STRING, ev_VIDEOTEX_STRING⟩ := exa_v nw36
  have Ex_VIDEOTEX_STRING := Exa.start ev_VIDEOTEX_STRING nw36
  have Sta_VIDEOTEX_STRING : Sta s s.heap "com/example/tagweave/tagweave/asn1/CharacterSet" "VIDEOTEX_STRING" "Lcom/example/tagweave/tagweave/asn1/CharacterSet;" (.ref x_VIDEOTEX_STRING) := Sta.start ev_VIDEOTEX_STRING (Or.inr ⟨(hw _ (List.mem_of_getElem? (i := 6) rfl)), (hw _ (List.mem_of_getElem? (i := 45) rfl))⟩)
  have F_UTF8_STRING_tagNumber : Fld s s.heap x_UTF8_STRING "com/example/tagweave/tagweave/asn1/CharacterSet" "tagNumber" "I" (.int (12 : Int32)) := Fld.start ((fld_at ev_UTF8_STRING).symm.trans (eqv_i (Term.int_eval _) nw1))
  have F_UTF8_STRING_ordinal : Fld s s.heap x_UTF8_STRING "java/lang/Enum" "ordinal" "I" (.int (0 : Int32)) := Fld.start ((fld_at ev_UTF8_STRING).symm.trans (eqv_i (Term.int_eval _) nw3))
  have F_UTC_TIME_ordinal : Fld s s.heap x_UTC_TIME "java/lang/Enum" "ordinal" "I" (.int (6 : Int32)) := Fld.start ((fld_at ev_UTC_TIME).symm.trans (eqv_i (Term.int_eval _) nw4))
  have F_GENERALIZED_TIME_ordinal : Fld s s.heap x_GENERALIZED_TIME "java/lang/Enum" "ordinal" "I" (.int (7 : Int32)) := Fld.start ((fld_at ev_GENERALIZED_TIME).symm.trans (eqv_i (Term.int_eval _) nw6))
  have F_TELETEX_STRING_tagNumber : Fld s s.heap x_TELETEX_STRING "com/example/tagweave/tagweave/asn1/CharacterSet" "tagNumber" "I" (.int (20 : Int32)) := Fld.start ((fld_at ev_TELETEX_STRING).symm.trans (eqv_i (Term.int_eval _) nw8))
  have F_TELETEX_STRING_ordinal : Fld s s.heap x_TELETEX_STRING "java/lang/Enum" "ordinal" "I" (.int (3 : Int32)) := Fld.start ((fld_at ev_TELETEX_STRING).symm.trans (eqv_i (Term.int_eval _) nw9))
  have F_UTC_TIME_tagNumber : Fld s s.heap x_UTC_TIME "com/example/tagweave/tagweave/asn1/CharacterSet" "tagNumber" "I" (.int (23 : Int32)) := Fld.start ((fld_at ev_UTC_TIME).symm.trans (eqv_i (Term.int_eval _) nw10))
  have F_IA5_STRING_tagNumber : Fld s s.heap x_IA5_STRING "com/example/tagweave/tagweave/asn1/CharacterSet" "tagNumber" "I" (.int (22 : Int32)) := Fld.start ((fld_at ev_IA5_STRING).symm.trans (eqv_i (Term.int_eval _) nw12))
  have F_IA5_STRING_ordinal : Fld s s.heap x_IA5_STRING "java/lang/Enum" "ordinal" "I" (.int (5 : Int32)) := Fld.start ((fld_at ev_IA5_STRING).symm.trans (eqv_i (Term.int_eval _) nw13))
  have F_GENERALIZED_TIME_tagNumber : Fld s s.heap x_GENERALIZED_TIME "com/example/tagweave/tagweave/asn1/CharacterSet" "tagNumber" "I" (.int (24 : Int32)) := Fld.start ((fld_at ev_GENERALIZED_TIME).symm.trans (eqv_i (Term.int_eval _) nw14))
  have F_VISIBLE_STRING_tagNumber : Fld s s.heap x_VISIBLE_STRING "com/example/tagweave/tagweave/asn1/CharacterSet" "tagNumber" "I" (.int (26 : Int32)) := Fld.start ((fld_at ev_VISIBLE_STRING).symm.trans (eqv_i (Term.int_eval _) nw16))
  have F_VISIBLE_STRING_ordinal : Fld s s.heap x_VISIBLE_STRING "java/lang/Enum" "ordinal" "I" (.int (9 : Int32)) := Fld.start ((fld_at ev_VISIBLE_STRING).symm.trans (eqv_i (Term.int_eval _) nw17))
  have F_PRINTABLE_STRING_tagNumber : Fld s s.heap x_PRINTABLE_STRING "com/example/tagweave/tagweave/asn1/CharacterSet" "tagNumber" "I" (.int (19 : Int32)) := Fld.start ((fld_at ev_PRINTABLE_STRING).symm.trans (eqv_i (Term.int_eval _) nw19))
  have F_PRINTABLE_STRING_ordinal : Fld s s.heap x_PRINTABLE_STRING "java/lang/Enum" "ordinal" "I" (.int (2 : Int32)) := Fld.start ((fld_at ev_PRINTABLE_STRING).symm.trans (eqv_i (Term.int_eval _) nw20))
  have F_UNIVERSAL_STRING_tagNumber : Fld s s.heap x_UNIVERSAL_STRING "com/example/tagweave/tagweave/asn1/CharacterSet" "tagNumber" "I" (.int (28 : Int32)) := Fld.start ((fld_at ev_UNIVERSAL_STRING).symm.trans (eqv_i (Term.int_eval _) nw22))
  have F_UNIVERSAL_STRING_ordinal : Fld s s.heap x_UNIVERSAL_STRING "java/lang/Enum" "ordinal" "I" (.int (11 : Int32)) := Fld.start ((fld_at ev_UNIVERSAL_STRING).symm.trans (eqv_i (Term.int_eval _) nw23))
  have F_NUMERIC_STRING_tagNumber : Fld s s.heap x_NUMERIC_STRING "com/example/tagweave/tagweave/asn1/CharacterSet" "tagNumber" "I" (.int (18 : Int32)) := Fld.start ((fld_at ev_NUMERIC_STRING).symm.trans (eqv_i (Term.int_eval _) nw25))
  have F_NUMERIC_STRING_ordinal : Fld s s.heap x_NUMERIC_STRING "java/lang/Enum" "ordinal" "I" (.int (1 : Int32)) := Fld.start ((fld_at ev_NUMERIC_STRING).symm.trans (eqv_i (Term.int_eval _) nw26))
  have F_GRAPHIC_STRING_tagNumber : Fld s s.heap x_GRAPHIC_STRING "com/example/tagweave/tagweave/asn1/CharacterSet" "tagNumber" "I" (.int (25 : Int32)) := Fld.start ((fld_at ev_GRAPHIC_STRING).symm.trans (eqv_i (Term.int_eval _) nw28))
  have F_GRAPHIC_STRING_ordinal : Fld s s.heap x_GRAPHIC_STRING "java/lang/Enum" "ordinal" "I" (.int (8 : Int32)) := Fld.start ((fld_at ev_GRAPHIC_STRING).symm.trans (eqv_i (Term.int_eval _) nw29))
  have F_GENERAL_STRING_tagNumber : Fld s s.heap x_GENERAL_STRING "com/example/tagweave/tagweave/asn1/CharacterSet" "tagNumber" "I" (.int (27 : Int32)) := Fld.start ((fld_at ev_GENERAL_STRING).symm.trans (eqv_i (Term.int_eval _) nw31))
  have F_GENERAL_STRING_ordinal : Fld s s.heap x_GENERAL_STRING "java/lang/Enum" "ordinal" "I" (.int (10 : Int32)) := Fld.start ((fld_at ev_GENERAL_STRING).symm.trans (eqv_i (Term.int_eval _) nw32))
  have F_BMP_STRING_tagNumber : Fld s s.heap x_BMP_STRING "com/example/tagweave/tagweave/asn1/CharacterSet" "tagNumber" "I" (.int (30 : Int32)) := Fld.start ((fld_at ev_BMP_STRING).symm.trans (eqv_i (Term.int_eval _) nw34))
  have F_BMP_STRING_ordinal : Fld s s.heap x_BMP_STRING "java/lang/Enum" "ordinal" "I" (.int (12 : Int32)) := Fld.start ((fld_at ev_BMP_STRING).symm.trans (eqv_i (Term.int_eval _) nw35))
  have F_VIDEOTEX_STRING_tagNumber : Fld s s.heap x_VIDEOTEX_STRING "com/example/tagweave/tagweave/asn1/CharacterSet" "tagNumber" "I" (.int (21 : Int32)) := Fld.start ((fld_at ev_VIDEOTEX_STRING).symm.trans (eqv_i (Term.int_eval _) nw37))
  have F_VIDEOTEX_STRING_ordinal : Fld s s.heap x_VIDEOTEX_STRING "java/lang/Enum" "ordinal" "I" (.int (4 : Int32)) := Fld.start ((fld_at ev_VIDEOTEX_STRING).symm.trans (eqv_i (Term.int_eval _) nw38))
  obtain ⟨n, o, h1, h2, h3, _, L, rfl, ⟨rfl, N⟩, hq⟩ := rm_law l s _ hw tables_1 i0 x_UTF8_STRING x_NUMERIC_STRING x_PRINTABLE_STRING x_TELETEX_STRING x_VIDEOTEX_STRING x_IA5_STRING x_UTC_TIME x_GENERALIZED_TIME x_GRAPHIC_STRING x_VISIBLE_STRING x_GENERAL_STRING x_UNIVERSAL_STRING x_BMP_STRING s.heap s.heap.size (Nat.le_refl _) ⟨Sta_UTF8_STRING, Ex_UTF8_STRING, F_UTF8_STRING_tagNumber⟩ ⟨Sta_NUMERIC_STRING, Ex_NUMERIC_STRING, F_NUMERIC_STRING_tagNumber⟩ ⟨Sta_PRINTABLE_STRING, Ex_PRINTABLE_STRING, F_PRINTABLE_STRING_tagNumber⟩ ⟨Sta_TELETEX_STRING, Ex_TELETEX_STRING, F_TELETEX_STRING_tagNumber⟩ ⟨Sta_VIDEOTEX_STRING, Ex_VIDEOTEX_STRING, F_VIDEOTEX_STRING_tagNumber⟩ ⟨Sta_IA5_STRING, Ex_IA5_STRING, F_IA5_STRING_tagNumber⟩ ⟨Sta_UTC_TIME, Ex_UTC_TIME, F_UTC_TIME_tagNumber⟩ ⟨Sta_GENERALIZED_TIME, Ex_GENERALIZED_TIME, F_GENERALIZED_TIME_tagNumber⟩ ⟨Sta_GRAPHIC_STRING, Ex_GRAPHIC_STRING, F_GRAPHIC_STRING_tagNumber⟩ ⟨Sta_VISIBLE_STRING, Ex_VISIBLE_STRING, F_VISIBLE_STRING_tagNumber⟩ ⟨Sta_GENERAL_STRING, Ex_GENERAL_STRING, F_GENERAL_STRING_tagNumber⟩ ⟨Sta_UNIVERSAL_STRING, Ex_UNIVERSAL_STRING, F_UNIVERSAL_STRING_tagNumber⟩ ⟨Sta_BMP_STRING, Ex_BMP_STRING, F_BMP_STRING_tagNumber⟩ p e ha hc hk s m _ below hf ((Spec.applies_iff_loose hf).mp happ).1 ⟨rfl, State.Warmed39.refl s, rfl⟩ trivial
  refine ⟨n, _, h1, h2, h3, hpost _ _ _ _ _ _ ⟨Cond.after_iff.mpr rfl, Cond.after_iff.mpr (eq_i res_at (Term.int_eval (1)) rfl), trivial⟩ ⟨hq.1, hq.2.1, (hq.2.2.sift fun y hy => Or.inr (N y hy)).mono (by decide) (by decide)⟩⟩
theorem main_1_1 : Claimed_1_1 := comes_1 fun _ _ _ _ _ _ h hF => ⟨h.1, hF⟩
theorem main_1_2 : Claimed_1_2 := comes_1 fun _ _ _ _ _ _ h hF => ⟨h.2.1, hF⟩
end Jvm.Pilot.@@N@@
namespace Jvm.Pilot.@@N@@
open Jvm Jvm.ClassFile Sem Op Lib Jvm.Free Jvm.Stand Jvm.Pilot.@@N@@.Jvm.D
/-! MADE BY PROGRAM (witnessworld.py) out of the Statement's table words and the real class files: 12 classes; the members and pool entries that the words name. The judged class is class 1, her method 2. -/
namespace start1
open Jvm.ClassFile
def u (s : String) : CpInfo := .utf8 (stringToUtf16 s)
/-- a pool by its gaps: so many unusable entries, then the entry; so many at the end -/
def gap : Nat → List CpInfo → List CpInfo
  | 0, r => r
  | n + 1, r => .unusable :: gap n r
def poolList (es : List (Nat × CpInfo)) (last : Nat) : List CpInfo := es.foldr (fun e r => gap e.1 (e.2 :: r)) (gap last [])
def pool (es : List (Nat × CpInfo)) (last : Nat) : Array CpInfo := ⟨poolList es last⟩
def fileOf (pool : Array CpInfo) (this : Nat) (attrs : Array Attribute := #[]) (ms : Array MethodInfo := #[]) (fl : Nat := 33) (sup : Nat := 0) (ifs : Array Nat := #[]) (fds : Array FieldInfo := #[]) : ClassFile where
  minorVersion := 0
  majorVersion := 65
  constantPool := pool
  accessFlags := fl
  thisClass := this
  superClass := sup
  interfaces := ifs
  fields := fds
  methods := ms
  attributes := attrs
def plain (name : String) (sup : Option ClassId) : Class where
  name := name
  kind := .ordinary
  loader := none
  accessFlags := 33
  super := sup
  interfaces := #[]
  cf := none
  fields := #[]
  methods := #[]
  instanceTypes := #[]
  staticTypes := #[]
  resolved := #[]
  callSites := []
  init := .initialized
  statics := none
  mirror := none

def pool0 : Array CpInfo := pool [(5, u "<init>"), (0, u "()V"), (1, .class_ 10), (1, u "java/lang/Object")] 113

def k0m0 : Method := { name := "<init>", desc := "()V", sig := { parameters := [], returnType := none }, accessFlags := 1, code := none }
/-- java/lang/Object -/
def k0 : Class := { plain "java/lang/Object" none with
  accessFlags := 33
  interfaces := #[]
  cf := some (fileOf pool0 8 #[] #[{ accessFlags := 1, nameIndex := 5, descriptorIndex := 6, attributes := #[] }] 33 0 #[] #[])
  fields := #[]
  methods := #[k0m0]
  instanceTypes := #[]
  staticTypes := #[]
  resolved := Array.replicate 124 none
  statics := none }

def pool1 : Array CpInfo := pool [(2, .class_ 4), (1, u "java/lang/Object"), (0, u "<init>"), (0, u "()V"), (0, .fieldref 8 9), (0, .class_ 10), (0, .nameAndType 11 12), (0, u "com/example/tagweave/tagweave/asn1/CharacterSet"), (0, u "UTF8_STRING"), (0, u "Lcom/example/tagweave/tagweave/asn1/CharacterSet;"), (0, .fieldref 8 14), (0, .nameAndType 15 12), (0, u "NUMERIC_STRING"), (0, .fieldref 8 17), (0, .nameAndType 18 12), (0, u "PRINTABLE_STRING"), (0, .fieldref 8 20), (0, .nameAndType 21 12), (0, u "TELETEX_STRING"), (0, .fieldref 8 23), (0, .nameAndType 24 12), (0, u "VIDEOTEX_STRING"), (0, .fieldref 8 26), (0, .nameAndType 27 12), (0, u "IA5_STRING"), (0, .fieldref 8 29), (0, .nameAndType 30 12), (0, u "UTC_TIME"), (0, .fieldref 8 32), (0, .nameAndType 33 12), (0, u "GENERALIZED_TIME"), (0, .fieldref 8 35), (0, .nameAndType 36 12), (0, u "GRAPHIC_STRING"), (0, .fieldref 8 38), (0, .nameAndType 39 12), (0, u "VISIBLE_STRING"), (0, .fieldref 8 41), (0, .nameAndType 42 12), (0, u "GENERAL_STRING"), (0, .fieldref 8 44), (0, .nameAndType 45 12), (0, u "UNIVERSAL_STRING"), (0, .fieldref 8 47), (0, .nameAndType 48 12), (0, u "BMP_STRING"), (0, .integer 2147483647), (0, .methodref 51 52), (0, .class_ 53), (0, .nameAndType 54 55), (0, u "com/example/tagweave/tagweave/asn1/CharacterSetIsTimePinLaw"), (0, u "pick"), (0, u "(I)Lcom/example/tagweave/tagweave/asn1/CharacterSet;"), (0, .methodref 8 57), (0, .nameAndType 58 59), (0, u "tagNumber"), (0, u "()I"), (0, .methodref 8 61), (0, .nameAndType 62 63), (0, u "isTime"), (0, u "()Z"), (3, u "law"), (0, u "(I)Z")] 2

def k1m0 : Method := { name := "<init>", desc := "()V", sig := { parameters := [], returnType := none }, accessFlags := 2, code := none }
def k1c1 : Code := { maxStack := 2, maxLocals := 1, code := method_2_code, exceptionTable := #[], attributes := #[] }
def k1m1 : Method := { name := "pick", desc := "(I)Lcom/example/tagweave/tagweave/asn1/CharacterSet;", sig := { parameters := [.int], returnType := some (.object "com/example/tagweave/tagweave/asn1/CharacterSet") }, accessFlags := 10, code := some k1c1 }
def k1c2 : Code := { maxStack := 2, maxLocals := 6, code := code, exceptionTable := #[], attributes := #[] }
def k1m2 : Method := { name := "law", desc := "(I)Z", sig := { parameters := [.int], returnType := some .boolean }, accessFlags := 9, code := some k1c2 }
/-- com/example/tagweave/tagweave/asn1/CharacterSetIsTimePinLaw -/
def k1 : Class := { plain "com/example/tagweave/tagweave/asn1/CharacterSetIsTimePinLaw" (some 0) with
  accessFlags := 49
  interfaces := #[]
  cf := some (fileOf pool1 51 #[] #[{ accessFlags := 2, nameIndex := 5, descriptorIndex := 6, attributes := #[] }, { accessFlags := 10, nameIndex := 54, descriptorIndex := 55, attributes := #[] }, { accessFlags := 9, nameIndex := 67, descriptorIndex := 68, attributes := #[] }] 49 2 #[] #[])
  fields := #[]
  methods := #[k1m0, k1m1, k1m2]
  instanceTypes := #[]
  staticTypes := #[]
  resolved := Array.replicate 71 none
  statics := none }

def pool2 : Array CpInfo := pool [(1, .class_ 2), (0, u "java/lang/constant/Constable"), (0, .class_ 4), (0, u "java/lang/Object")] 6

/-- java/lang/constant/Constable -/
def k2 : Class := { plain "java/lang/constant/Constable" (some 0) with
  accessFlags := 1537
  interfaces := #[]
  cf := some (fileOf pool2 1 #[] #[] 1537 3 #[] #[])
  fields := #[]
  methods := #[]
  instanceTypes := #[]
  staticTypes := #[]
  resolved := Array.replicate 11 none
  statics := none }

def pool3 : Array CpInfo := pool [(1, .class_ 2), (0, u "java/lang/Comparable"), (0, .class_ 4), (0, u "java/lang/Object")] 7

/-- java/lang/Comparable -/
def k3 : Class := { plain "java/lang/Comparable" (some 0) with
  accessFlags := 1537
  interfaces := #[]
  cf := some (fileOf pool3 1 #[] #[] 1537 3 #[] #[])
  fields := #[]
  methods := #[]
  instanceTypes := #[]
  staticTypes := #[]
  resolved := Array.replicate 12 none
  statics := none }

def pool4 : Array CpInfo := pool [(1, .class_ 2), (0, u "java/io/Serializable"), (0, .class_ 4), (0, u "java/lang/Object")] 2

/-- java/io/Serializable -/
def k4 : Class := { plain "java/io/Serializable" (some 0) with
  accessFlags := 1537
  interfaces := #[]
  cf := some (fileOf pool4 1 #[] #[] 1537 3 #[] #[])
  fields := #[]
  methods := #[]
  instanceTypes := #[]
  staticTypes := #[]
  resolved := Array.replicate 7 none
  statics := none }

def pool5 : Array CpInfo := pool [(2, .class_ 4), (1, u "java/lang/Enum"), (0, u "name"), (0, u "Ljava/lang/String;"), (2, u "ordinal"), (0, u "I"), (1, .class_ 14), (1, u "java/lang/Object"), (4, u "hash"), (86, .class_ 108), (1, u "java/lang/Enum$EnumDesc"), (2, .class_ 112), (0, u "java/lang/constant/Constable"), (0, .class_ 114), (0, u "java/lang/Comparable"), (0, .class_ 116), (0, u "java/io/Serializable")] 87

/-- java/lang/Enum -/
def k5 : Class := { plain "java/lang/Enum" (some 0) with
  accessFlags := 1057
  interfaces := #[2, 3, 4]
  cf := some (fileOf pool5 2 #[.nestMembers #[106]] #[] 1057 12 #[111, 113, 115] #[{ accessFlags := 18, nameIndex := 5, descriptorIndex := 6, attributes := #[] }, { accessFlags := 18, nameIndex := 9, descriptorIndex := 10, attributes := #[] }, { accessFlags := 2, nameIndex := 19, descriptorIndex := 10, attributes := #[] }])
  fields := #[{ name := "name", type := (.object "java/lang/String"), accessFlags := 18, slot := 0, constantValue := 0 }, { name := "ordinal", type := .int, accessFlags := 18, slot := 1, constantValue := 0 }, { name := "hash", type := .int, accessFlags := 2, slot := 2, constantValue := 0 }]
  methods := #[]
  instanceTypes := #[(.object "java/lang/String"), .int, .int]
  staticTypes := #[]
  resolved := Array.replicate 204 none
  statics := none }

def pool6 : Array CpInfo := pool [(1, .class_ 2), (0, u "com/example/tagweave/tagweave/asn1/CharacterSet"), (2, u "UTF8_STRING"), (0, u "Lcom/example/tagweave/tagweave/asn1/CharacterSet;"), (2, u "NUMERIC_STRING"), (2, u "PRINTABLE_STRING"), (2, u "TELETEX_STRING"), (2, u "VIDEOTEX_STRING"), (2, u "IA5_STRING"), (0, .fieldref 1 23), (0, .nameAndType 24 6), (0, u "UTC_TIME"), (0, .fieldref 1 26), (0, .nameAndType 27 6), (0, u "GENERALIZED_TIME"), (2, u "GRAPHIC_STRING"), (2, u "VISIBLE_STRING"), (2, u "GENERAL_STRING"), (2, u "UNIVERSAL_STRING"), (2, u "BMP_STRING"), (2, u "$VALUES"), (0, u "[Lcom/example/tagweave/tagweave/asn1/CharacterSet;"), (6, .class_ 55), (1, u "java/lang/Enum"), (8, u "names"), (0, u "Ljava/util/List;"), (0, .fieldref 1 67), (0, .nameAndType 68 69), (0, u "tagNumber"), (0, u "I"), (2, u "characters"), (0, u "Lcom/example/tagweave/tagweave/asn1/PermittedAlphabet;"), (2, u "octetForm"), (0, u "Lcom/example/tagweave/tagweave/asn1/CharacterSet$OctetForm;"), (2, u "cells"), (0, u "Lcom/example/tagweave/tagweave/asn1/CharacterSet$CellNotation;"), (33, .class_ 117), (1, u "com/example/tagweave/tagweave/asn1/CharacterSet$Alphabets"), (2, .class_ 122), (1, u "com/example/tagweave/tagweave/asn1/CharacterSet$OctetForm"), (2, .class_ 127), (1, u "com/example/tagweave/tagweave/asn1/CharacterSet$CellNotation"), (97, u "()I"), (3, u "isTime"), (0, u "()Z")] 10

def k6c0 : Code := { maxStack := 1, maxLocals := 1, code := prog_15_method_6_code, exceptionTable := #[], attributes := #[] }
def k6m0 : Method := { name := "tagNumber", desc := "()I", sig := { parameters := [], returnType := some .int }, accessFlags := 0, code := some k6c0 }
def k6c1 : Code := { maxStack := 2, maxLocals := 1, code := prog_15_method_10_code, exceptionTable := #[], attributes := #[] }
def k6m1 : Method := { name := "isTime", desc := "()Z", sig := { parameters := [], returnType := some .boolean }, accessFlags := 1, code := some k6c1 }
/-- com/example/tagweave/tagweave/asn1/CharacterSet -/
def k6 : Class := { plain "com/example/tagweave/tagweave/asn1/CharacterSet" (some 5) with
  accessFlags := 16433
  interfaces := #[]
  cf := some (fileOf pool6 1 #[.nestMembers #[115, 120, 125]] #[{ accessFlags := 0, nameIndex := 68, descriptorIndex := 225, attributes := #[] }, { accessFlags := 1, nameIndex := 229, descriptorIndex := 230, attributes := #[] }] 16433 53 #[] #[{ accessFlags := 16409, nameIndex := 5, descriptorIndex := 6, attributes := #[] }, { accessFlags := 16409, nameIndex := 9, descriptorIndex := 6, attributes := #[] }, { accessFlags := 16409, nameIndex := 12, descriptorIndex := 6, attributes := #[] }, { accessFlags := 16409, nameIndex := 15, descriptorIndex := 6, attributes := #[] }, { accessFlags := 16409, nameIndex := 18, descriptorIndex := 6, attributes := #[] }, { accessFlags := 16409, nameIndex := 21, descriptorIndex := 6, attributes := #[] }, { accessFlags := 16409, nameIndex := 24, descriptorIndex := 6, attributes := #[] }, { accessFlags := 16409, nameIndex := 27, descriptorIndex := 6, attributes := #[] }, { accessFlags := 16409, nameIndex := 30, descriptorIndex := 6, attributes := #[] }, { accessFlags := 16409, nameIndex := 33, descriptorIndex := 6, attributes := #[] }, { accessFlags := 16409, nameIndex := 36, descriptorIndex := 6, attributes := #[] }, { accessFlags := 16409, nameIndex := 39, descriptorIndex := 6, attributes := #[] }, { accessFlags := 16409, nameIndex := 42, descriptorIndex := 6, attributes := #[] }, { accessFlags := 18, nameIndex := 64, descriptorIndex := 65, attributes := #[] }, { accessFlags := 18, nameIndex := 68, descriptorIndex := 69, attributes := #[] }, { accessFlags := 18, nameIndex := 72, descriptorIndex := 73, attributes := #[] }, { accessFlags := 18, nameIndex := 76, descriptorIndex := 77, attributes := #[] }, { accessFlags := 18, nameIndex := 80, descriptorIndex := 81, attributes := #[] }, { accessFlags := 4122, nameIndex := 45, descriptorIndex := 46, attributes := #[] }])
  fields := #[{ name := "UTF8_STRING", type := (.object "com/example/tagweave/tagweave/asn1/CharacterSet"), accessFlags := 16409, slot := 0, constantValue := 0 }, { name := "NUMERIC_STRING", type := (.object "com/example/tagweave/tagweave/asn1/CharacterSet"), accessFlags := 16409, slot := 1, constantValue := 0 }, { name := "PRINTABLE_STRING", type := (.object "com/example/tagweave/tagweave/asn1/CharacterSet"), accessFlags := 16409, slot := 2, constantValue := 0 }, { name := "TELETEX_STRING", type := (.object "com/example/tagweave/tagweave/asn1/CharacterSet"), accessFlags := 16409, slot := 3, constantValue := 0 }, { name := "VIDEOTEX_STRING", type := (.object "com/example/tagweave/tagweave/asn1/CharacterSet"), accessFlags := 16409, slot := 4, constantValue := 0 }, { name := "IA5_STRING", type := (.object "com/example/tagweave/tagweave/asn1/CharacterSet"), accessFlags := 16409, slot := 5, constantValue := 0 }, { name := "UTC_TIME", type := (.object "com/example/tagweave/tagweave/asn1/CharacterSet"), accessFlags := 16409, slot := 6, constantValue := 0 }, { name := "GENERALIZED_TIME", type := (.object "com/example/tagweave/tagweave/asn1/CharacterSet"), accessFlags := 16409, slot := 7, constantValue := 0 }, { name := "GRAPHIC_STRING", type := (.object "com/example/tagweave/tagweave/asn1/CharacterSet"), accessFlags := 16409, slot := 8, constantValue := 0 }, { name := "VISIBLE_STRING", type := (.object "com/example/tagweave/tagweave/asn1/CharacterSet"), accessFlags := 16409, slot := 9, constantValue := 0 }, { name := "GENERAL_STRING", type := (.object "com/example/tagweave/tagweave/asn1/CharacterSet"), accessFlags := 16409, slot := 10, constantValue := 0 }, { name := "UNIVERSAL_STRING", type := (.object "com/example/tagweave/tagweave/asn1/CharacterSet"), accessFlags := 16409, slot := 11, constantValue := 0 }, { name := "BMP_STRING", type := (.object "com/example/tagweave/tagweave/asn1/CharacterSet"), accessFlags := 16409, slot := 12, constantValue := 0 }, { name := "names", type := (.object "java/util/List"), accessFlags := 18, slot := 3, constantValue := 0 }, { name := "tagNumber", type := .int, accessFlags := 18, slot := 4, constantValue := 0 }, { name := "characters", type := (.object "com/example/tagweave/tagweave/asn1/PermittedAlphabet"), accessFlags := 18, slot := 5, constantValue := 0 }, { name := "octetForm", type := (.object "com/example/tagweave/tagweave/asn1/CharacterSet$OctetForm"), accessFlags := 18, slot := 6, constantValue := 0 }, { name := "cells", type := (.object "com/example/tagweave/tagweave/asn1/CharacterSet$CellNotation"), accessFlags := 18, slot := 7, constantValue := 0 }, { name := "$VALUES", type := (.array (.object "com/example/tagweave/tagweave/asn1/CharacterSet")), accessFlags := 4122, slot := 13, constantValue := 0 }]
  methods := #[k6m0, k6m1]
  instanceTypes := #[(.object "java/lang/String"), .int, .int, (.object "java/util/List"), .int, (.object "com/example/tagweave/tagweave/asn1/PermittedAlphabet"), (.object "com/example/tagweave/tagweave/asn1/CharacterSet$OctetForm"), (.object "com/example/tagweave/tagweave/asn1/CharacterSet$CellNotation")]
  staticTypes := #[(.object "com/example/tagweave/tagweave/asn1/CharacterSet"), (.object "com/example/tagweave/tagweave/asn1/CharacterSet"), (.object "com/example/tagweave/tagweave/asn1/CharacterSet"), (.object "com/example/tagweave/tagweave/asn1/CharacterSet"), (.object "com/example/tagweave/tagweave/asn1/CharacterSet"), (.object "com/example/tagweave/tagweave/asn1/CharacterSet"), (.object "com/example/tagweave/tagweave/asn1/CharacterSet"), (.object "com/example/tagweave/tagweave/asn1/CharacterSet"), (.object "com/example/tagweave/tagweave/asn1/CharacterSet"), (.object "com/example/tagweave/tagweave/asn1/CharacterSet"), (.object "com/example/tagweave/tagweave/asn1/CharacterSet"), (.object "com/example/tagweave/tagweave/asn1/CharacterSet"), (.object "com/example/tagweave/tagweave/asn1/CharacterSet"), (.array (.object "com/example/tagweave/tagweave/asn1/CharacterSet"))]
  resolved := Array.replicate 241 none
  statics := some 0 }

def pool7 : Array CpInfo := pool [(1, u "java/lang/Cloneable"), (0, .class_ 1), (0, u "java/lang/Object"), (0, .class_ 3)] 3

/-- java/lang/Cloneable -/
def k7 : Class := { plain "java/lang/Cloneable" (some 0) with
  accessFlags := 1537
  interfaces := #[]
  cf := some (fileOf pool7 2 #[] #[] 1537 4 #[] #[])
  fields := #[]
  methods := #[]
  instanceTypes := #[]
  staticTypes := #[]
  resolved := Array.replicate 8 none
  statics := none }

/-- the primitive byte -/
def k8 : Class := { plain "byte" none with kind := .primitive 'B', accessFlags := 0x411 }
/-- [B -/
def k9 : Class := { plain "[B" (some 0) with kind := .array 8 .byte, interfaces := #[7, 4], accessFlags := 1041 }

/-- the primitive int -/
def k10 : Class := { plain "int" none with kind := .primitive 'I', accessFlags := 0x411 }
/-- [I -/
def k11 : Class := { plain "[I" (some 0) with kind := .array 10 .int, interfaces := #[7, 4], accessFlags := 1041 }

def heap : Heap := #[{ cls := 6, slots := #[.ref 1, .ref 9, .ref 7, .ref 4, .ref 13, .ref 5, .ref 2, .ref 3, .ref 10, .ref 6, .ref 11, .ref 8, .ref 12, .null], vm := .statics 6 },
  { cls := 6, slots := #[.null, .int 0, .int 0, .null, .int 12, .null, .null, .null], vm := .none },
  { cls := 6, slots := #[.null, .int 6, .int 0, .null, .int 23, .null, .null, .null], vm := .none },
  { cls := 6, slots := #[.null, .int 7, .int 0, .null, .int 24, .null, .null, .null], vm := .none },
  { cls := 6, slots := #[.null, .int 3, .int 0, .null, .int 20, .null, .null, .null], vm := .none },
  { cls := 6, slots := #[.null, .int 5, .int 0, .null, .int 22, .null, .null, .null], vm := .none },
  { cls := 6, slots := #[.null, .int 9, .int 0, .null, .int 26, .null, .null, .null], vm := .none },
  { cls := 6, slots := #[.null, .int 2, .int 0, .null, .int 19, .null, .null, .null], vm := .none },
  { cls := 6, slots := #[.null, .int 11, .int 0, .null, .int 28, .null, .null, .null], vm := .none },
  { cls := 6, slots := #[.null, .int 1, .int 0, .null, .int 18, .null, .null, .null], vm := .none },
  { cls := 6, slots := #[.null, .int 8, .int 0, .null, .int 25, .null, .null, .null], vm := .none },
  { cls := 6, slots := #[.null, .int 10, .int 0, .null, .int 27, .null, .null, .null], vm := .none },
  { cls := 6, slots := #[.null, .int 12, .int 0, .null, .int 30, .null, .null, .null], vm := .none },
  { cls := 6, slots := #[.null, .int 4, .int 0, .null, .int 21, .null, .null, .null], vm := .none }]
def classes : Array Class := #[k0, k1, k2, k3, k4, k5, k6, k7, k8, k9, k10, k11]
def interned : List (Array UInt16 × Addr) := []
def slotsUsed : Nat := 118
def theMethod : MethodId := ⟨1, 2⟩
def args0 : Array Value := #[.int 5]
def aboutOver (below : List Frame) : State where
  vm := { classes := classes, interned := interned.toArray }
  heap := heap
  slotsUsed := slotsUsed
  threads := #[{ frames := .invoking theMethod args0 :: below }]
def below0 : List Frame := [.native { method := ⟨0, 0⟩, args := #[] }]
def about1 : State := aboutOver below0
def p0 : Program := .bare "" "" ""
def e0 : Env := launch0.env 0 0 0
theorem w_frames : about1.frames = Frame.invoking theMethod args0 :: below0 := rfl
set_option maxRecDepth 65536 in
theorem w_args : argsFit about1.vm theMethod args0 = true := by decide +kernel
set_option maxRecDepth 65536 in
theorem w_heap : heapFits about1 = true := by decide +kernel
set_option maxRecDepth 65536 in
theorem w_runnable : about1.curStatus? = some .runnable := by decide +kernel
set_option maxRecDepth 65536 in
theorem w_alone : about1.alone = true := by decide +kernel
set_option maxRecDepth 65536 in
theorem w_named : about1.methodNamed? x = some theMethod := by decide +kernel
set_option maxRecDepth 65536 in
theorem w_hears : about1.hears theMethod below0 = true := by decide +kernel
set_option maxRecDepth 65536 in
theorem w_ripe : about1.ripe theMethod args0 below0 = true := by decide +kernel
theorem w_running : about1.status = .running := rfl
set_option maxRecDepth 65536 in
theorem w_room : about1.hasRoom e0.platform room_1 = true :=
  launch0.hasRoom_least _ room_1 (by decide +kernel) (by decide +kernel) (by decide +kernel) (by decide +kernel) (by decide +kernel) (by decide +kernel)
theorem allAtoms_all (ts : List Jvm.Cond) (a : Array Jvm.Value) (st : Jvm.State) : (allAtoms ts).before a st = ts.all (fun c => c.before a st) := by
  induction ts with
  | nil => rfl
  | cons c t ih =>
    show (Jvm.Cond.and c (allAtoms t)).before a st = _
    rw [Jvm.Cond.before_and, ih, List.all_cons]
def words1 : List Jvm.Cond := Jvm.Cond.code x code maxLocals ret :: tables_1
/-- a 'code' word, met by the world's own term for the bytes: nothing is compared byte by byte -/
theorem code_word {y : MethodName} {bytes : ByteArray} {mx : Nat} {rt : Option FieldType} {a : Array Value} {s : State} {m : MethodId} {meth : Method} {c : Code} (h1 : s.methodNamed? y = some m) (h2 : s.vm.method? m = some meth) (h3 : meth.code = some c) (h4 : c.code = bytes)
    (h5 : (c.maxLocals == mx && c.exceptionTable.isEmpty && decide (c.maxStack ≤ mostOperands) && decide (meth.sig.returnType = rt) && !meth.locks && decide (parseMethodDescriptor y.desc = some meth.sig)) = true) : (Jvm.Cond.code y bytes mx rt).before a s = true := by
  simp only [Bool.and_eq_true, beq_iff_eq, Bool.not_eq_true', decide_eq_true_eq] at h5
  obtain ⟨⟨⟨⟨⟨g1, g2⟩, g3⟩, g4⟩, g5⟩, g6⟩ := h5
  simp [Cond.before, Cond.holds, Cond.value, h1, h2, h3, h4, g1, g2, g3, g4, g5, g6]
def isCode : Jvm.Cond → Bool
  | .code _ _ _ _ => true
  | _ => false
theorem all_split {L : List Jvm.Cond} {P : Jvm.Cond → Bool} (h1 : L.all (fun c => isCode c || P c) = true) (h2 : ∀ c ∈ L.filter isCode, P c = true) : L.all P = true := by
  refine List.all_eq_true.mpr fun c hc => ?_
  have h := List.all_eq_true.mp h1 c hc
  rcases Bool.eq_false_or_eq_true (isCode c) with hi | hi
  · exact h2 c (List.mem_filter.mpr ⟨hc, hi⟩)
  · simpa [hi] using h
set_option maxRecDepth 65536 in
theorem w_c0 : (Jvm.Cond.code x code maxLocals ret).before args0 about1 = true := code_word (m := ⟨1, 2⟩) (meth := k1m2) (c := k1c2) (by decide +kernel) rfl rfl rfl (by decide +kernel)
set_option maxRecDepth 65536 in
theorem w_c1 : (Jvm.Cond.code ({ cls := "com/example/tagweave/tagweave/asn1/CharacterSetIsTimePinLaw", name := "pick", desc := "(I)Lcom/example/tagweave/tagweave/asn1/CharacterSet;" } : Jvm.MethodName) method_2_code (1 : Nat) (Option.some (Jvm.ClassFile.FieldType.object "com/example/tagweave/tagweave/asn1/CharacterSet"))).before args0 about1 = true := code_word (m := ⟨1, 1⟩) (meth := k1m1) (c := k1c1) (by decide +kernel) rfl rfl rfl (by decide +kernel)
set_option maxRecDepth 65536 in
theorem w_c2 : (Jvm.Cond.code ({ cls := "com/example/tagweave/tagweave/asn1/CharacterSet", name := "tagNumber", desc := "()I" } : Jvm.MethodName) prog_15_method_6_code (1 : Nat) (Option.some Jvm.ClassFile.FieldType.int)).before args0 about1 = true := code_word (m := ⟨6, 0⟩) (meth := k6m0) (c := k6c0) (by decide +kernel) rfl rfl rfl (by decide +kernel)
set_option maxRecDepth 65536 in
theorem w_c3 : (Jvm.Cond.code ({ cls := "com/example/tagweave/tagweave/asn1/CharacterSet", name := "isTime", desc := "()Z" } : Jvm.MethodName) prog_15_method_10_code (1 : Nat) (Option.some Jvm.ClassFile.FieldType.boolean)).before args0 about1 = true := code_word (m := ⟨6, 1⟩) (meth := k6m1) (c := k6c1) (by decide +kernel) rfl rfl rfl (by decide +kernel)
def codes1 : List Jvm.Cond := [Jvm.Cond.code x code maxLocals ret, Jvm.Cond.code ({ cls := "com/example/tagweave/tagweave/asn1/CharacterSetIsTimePinLaw", name := "pick", desc := "(I)Lcom/example/tagweave/tagweave/asn1/CharacterSet;" } : Jvm.MethodName) method_2_code (1 : Nat) (Option.some (Jvm.ClassFile.FieldType.object "com/example/tagweave/tagweave/asn1/CharacterSet")), Jvm.Cond.code ({ cls := "com/example/tagweave/tagweave/asn1/CharacterSet", name := "tagNumber", desc := "()I" } : Jvm.MethodName) prog_15_method_6_code (1 : Nat) (Option.some Jvm.ClassFile.FieldType.int), Jvm.Cond.code ({ cls := "com/example/tagweave/tagweave/asn1/CharacterSet", name := "isTime", desc := "()Z" } : Jvm.MethodName) prog_15_method_10_code (1 : Nat) (Option.some Jvm.ClassFile.FieldType.boolean)]
set_option maxRecDepth 65536 in
theorem codes_eq : words1.filter isCode = codes1 := rfl
theorem w_codes : ∀ c ∈ words1.filter isCode, c.before args0 about1 = true := by
  rw [codes_eq]
  intro c hc
  simp only [codes1, List.mem_cons, List.not_mem_nil, or_false] at hc
  rcases hc with rfl | rfl | rfl | rfl
  · exact w_c0
  · exact w_c1
  · exact w_c2
  · exact w_c3
set_option maxRecDepth 65536 in
theorem w_t1 : (words1.take 24).all (fun c => isCode c || c.before args0 about1) = true := by decide +kernel
set_option maxRecDepth 65536 in
theorem w_t2 : (words1.drop 24).all (fun c => isCode c || c.before args0 about1) = true := by decide +kernel
theorem w_tables : (allAtoms (Jvm.Cond.code x code maxLocals ret :: tables_1)).before args0 about1 = true := by
  rw [allAtoms_all]
  show words1.all (fun c => c.before args0 about1) = true
  refine all_split ?_ w_codes
  rw [← List.take_append_drop 24 words1, List.all_append, w_t1, w_t2]
  rfl
set_option maxRecDepth 65536 in
theorem w_case : (Jvm.Cond.and given_1 narrow_1).before args0 about1 = true := by decide +kernel
theorem w_applies : (headSpec (Jvm.Cond.code x code maxLocals ret :: tables_1) room_1).applies x e0.platform about1 = true :=
  (Spec.applies_iff w_frames).mpr ⟨w_running, w_runnable, w_alone, w_named, w_hears, w_ripe, w_room, w_tables⟩
theorem atStart : AtStart classFile x code maxLocals ret World_1 tables_1 room_1 Calls_1 rest_1 Pre_1 launch0 p0 e0 about1 theMethod args0 below0 :=
  ⟨lists_1, trivial, launch0.admits_env _ _ _, launch0.least_env, fairChoices_fair.cas, fairChoices_fair.clock, w_frames, w_args, w_heap, w_applies, trivial, trivial, w_case⟩
end start1
theorem witness_1 : WitnessClaimed_1 := ⟨start1.p0, start1.e0, start1.about1, start1.theMethod, start1.args0, start1.below0, start1.atStart⟩
end Jvm.Pilot.@@N@@
