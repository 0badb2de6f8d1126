import JvmDerived
import JvmDerived.Pilot.@@N@@Statement
import JvmDerived.Pilot.@@N@@Code
set_option linter.unusedVariables false
set_option linter.unusedSimpArgs false
@@BLOCK:NumsL.lean.txt@@
namespace Jvm.Pilot.@@N@@
open Jvm Jvm.ClassFile Sem Op Lib Jvm.Free Jvm.Stand Jvm.LawKit Jvm.RoadKit Bundle Jvm.Pilot.@@N@@.Jvm.D
/-! own layer: the run from here ends, and Q holds of what it returned, of the heap and of the places written -/
def own_End (p : Program) (e : Env) (below : List Frame) (P : State → Outcome → Prop) (T : State) (f : JFrame) : Prop := ∃ s₂ o, Steps p.tables e below (T.setTop f) s₂ ∧ P s₂ o
def own_P (below : List Frame) (s : State) (Q : Option Value → Heap → List Loc → Prop) (kc ns : Nat) : State → Outcome → Prop := fun s₂ o => s₂.status = .running ∧ Ended s₂ below o ∧ ∃ v L, o = .returned v ∧ Q v s₂.heap L ∧ FrameEnd s o s₂ L kc ns
def own_Met (l : Launch) (Z : State) (y : MethodName) (bytes : ByteArray) (maxL : Nat) (ret : Option FieldType) (ws : List Jvm.Cond) (rm : Room) (as' : Array Value) (h : Heap) (Q : Option Value → Heap → List Loc → Prop) : Prop :=
  MetFree l y (head1 (Jvm.Cond.code y bytes maxL ret :: ws) rm) (fun a U => a = as' ∧ Z.Warmed39 U.vm ∧ U.heap = h) (fun _ _ _ _ _ => True) (fun _ U o U' => ∃ v L, o = .returned v ∧ Q v U'.heap L ∧ FrameEnd U o U' L rm.cells rm.slots)
section OwnSteps
variable {p : Program} {l : Launch} {e : Env} {R : Room} {s : State} {m : MethodId} {args : Array Value} {below : List Frame} {meth : Method} {c : Code} {T : State} {locs : List Loc} {cells slots : Nat} {P : State → Outcome → Prop} {Q : Option Value → Heap → List Loc → Prop} {kc ns : Nat} {Z : State} {a0 : Array Value} {h : Heap} {f : JFrame}
theorem own_go {T' : State} {f' : JFrame} (st : ∀ t, Steps p.tables e below (T'.setTop f') t → Steps p.tables e below (T.setTop f) t) (k : own_End p e below P T' f') : own_End p e below P T f := by
  obtain ⟨s₂, o, h1, h2⟩ := k
  exact ⟨s₂, o, st _ h1, h2⟩
theorem own_via {T' : State} {f' : JFrame} (st : Steps p.tables e below (T.setTop f) (T'.setTop f')) (k : own_End p e below P T' f') : own_End p e below P T f := own_go (fun _ h => st.trans h) k
theorem own_exf (h : False) : own_End p e below P T f := h.elim
theorem own_body {y : MethodName} {bytes : ByteArray} {maxL : Nat} {ret : Option FieldType} {ws : List Jvm.Cond} {rm : Room} {as' : Array Value} (hpl : plainFor y = true)
    (body : ∀ (p : Program) (e : Env) (s : State) (m : MethodId) (below : List Frame) (meth : Method) (c : Code) (s₁ : State), p.tables.exec = Jvm.exec → Z.Warmed39 s.vm → c.code = bytes → c.maxLocals = maxL → s.vm.findClass y.cls = some m.cls → meth.name = y.name → meth.sig.returnType = ret → meth.locks = false →
      Stand p l e rm s m as' below meth c s₁ [] 0 0 → s₁.heap = h → own_End p e below (own_P below s Q rm.cells rm.slots) s₁ (entryFrame m as' maxL)) : own_Met l Z y bytes maxL ret ws rm as' h Q := by
  refine MetFree.of_bodySF hpl hisR ?_
  intro p e s m args below meth c s₁ Bd hml0 hP hK
  obtain ⟨rfl, hZ, hh⟩ := hP
  exact body p e s m below meth c s₁ Bd.exec hZ Bd.bytes hml0 (findClass_of_methodNamed Bd.named) (name_of_methodNamed Bd.named Bd.method).1 Bd.returns Bd.notSynchronized (Stand.of_body Bd) (by rw [← hh, Bd.state]; rfl)
theorem own_cast {g g' : JFrame} (q : g = g') (k : own_End p e below P T g') : own_End p e below P T g := q ▸ k
theorem own_ret (X : Stand p l e R s m args below meth c T locs cells slots) (hP : P = own_P below s Q kc ns) (hlk : meth.locks = false) (eT : T.heap = h) {v : Option Value} (hv : meth.sig.returnType = none → v = none) (hk : cells ≤ kc) (hn : slots ≤ ns) (hQ : Q v h locs)
    (st : ∀ fs, (∀ (f : JFrame) (acts : List Action), f.method = m → f.locked = none → f.entered = [] → (doReturn e (T.setTop f) acts v).1 = T.setFrames fs) → Steps p.tables e below (T.setTop f) (T.setFrames fs)) : own_End p e below P T f := by
  obtain ⟨fs, hr, hrun, hended, hW, hsame⟩ := X.leave hv hlk
  subst hP
  exact ⟨_, _, st fs hr, hrun, hended, _, _, rfl, (eT ▸ hQ : Q v T.heap locs), ⟨_, rfl⟩, hW, hsame.mono hk hn⟩
theorem own_retV (X : Stand p l e R s m args below meth c T locs cells slots) (hP : P = own_P below s Q kc ns) (hx : p.tables.exec = Jvm.exec) (hlk : meth.locks = false) (eT : T.heap = h) {pc : Nat} {Ls : Array Slot} (hret : meth.sig.returnType = none) (hd : decode c.code pc = .ok (.return_, 1)) (hk : cells ≤ kc) (hn : slots ≤ ns) (hQ : Q none h locs) :
    own_End p e below P T (mkF m pc Ls []) := own_ret X hP hlk eT (fun _ => rfl) hk hn hQ fun _ hr => X.returnOut hx hret hd hr
theorem own_retI (X : Stand p l e R s m args below meth c T locs cells slots) (hP : P = own_P below s Q kc ns) (hx : p.tables.exec = Jvm.exec) (hlk : meth.locks = false) (eT : T.heap = h) {pc : Nat} {Ls : Array Slot} {z : Int32} {rest : List Value} (hret : meth.sig.returnType = some .int) (hd : decode c.code pc = .ok (.ireturn, 1)) (hk : cells ≤ kc) (hn : slots ≤ ns) (hQ : Q (some (.int z)) h locs) :
    own_End p e below P T (mkF m pc Ls (.int z :: rest)) := own_ret X hP hlk eT (fun h => by rw [hret] at h; cases h) hk hn hQ fun fs hr => retOut X hx hret rfl (Or.inl ⟨rfl, Or.inl rfl, z, rfl⟩) hd hr
theorem own_retN (X : Stand p l e R s m args below meth c T locs cells slots) (hP : P = own_P below s Q kc ns) (hx : p.tables.exec = Jvm.exec) (hlk : meth.locks = false) (eT : T.heap = h) {pc : Nat} {Ls : Array Slot} {z : Int32} {rest : List Value} {t : FieldType} (hret : meth.sig.returnType = some t) (ht : t = .boolean ∨ t = .byte ∨ t = .char ∨ t = .short) (hd : decode c.code pc = .ok (.ireturn, 1)) (hk : cells ≤ kc) (hn : slots ≤ ns) {z' : Int32} (hz : nar t z = z') (hQ : Q (some (.int z')) h locs) :
    own_End p e below P T (mkF m pc Ls (.int z :: rest)) := by
  subst hz
  exact own_ret X hP hlk eT (fun h => by rw [hret] at h; cases h) hk hn hQ fun fs hr => retN X hx hret ht hd hr
theorem own_retJ (X : Stand p l e R s m args below meth c T locs cells slots) (hP : P = own_P below s Q kc ns) (hx : p.tables.exec = Jvm.exec) (hlk : meth.locks = false) (eT : T.heap = h) {pc : Nat} {Ls : Array Slot} {z : Int64} {rest : List Value} (hret : meth.sig.returnType = some .long) (hd : decode c.code pc = .ok (.lreturn, 1)) (hk : cells ≤ kc) (hn : slots ≤ ns) (hQ : Q (some (.long z)) h locs) :
    own_End p e below P T (mkF m pc Ls (.long z :: rest)) := own_ret X hP hlk eT (fun h => by rw [hret] at h; cases h) hk hn hQ fun fs hr => retOut X hx hret rfl (Or.inr (Or.inl ⟨rfl, rfl, z, rfl⟩)) hd hr
theorem own_retA (X : Stand p l e R s m args below meth c T locs cells slots) (hP : P = own_P below s Q kc ns) (hx : p.tables.exec = Jvm.exec) (hlk : meth.locks = false) (eT : T.heap = h) {pc : Nat} {Ls : Array Slot} {w : Value} {rest : List Value} {t : FieldType} (hret : meth.sig.returnType = some t) (ht : t.isReference = true) (hw : w.isRef = true) (hnr : narrow t w = w) (hd : decode c.code pc = .ok (.areturn, 1)) (hk : cells ≤ kc) (hn : slots ≤ ns) (hQ : Q (some w) h locs) :
    own_End p e below P T (mkF m pc Ls (w :: rest)) := own_ret X hP hlk eT (fun h => by rw [hret] at h; cases h) hk hn hQ fun fs hr => retOut X hx hret hnr (Or.inr (Or.inr (Or.inr (Or.inr ⟨rfl, ht, hw⟩)))) hd hr
theorem own_callS (X : Stand p l e R s m args below meth c T locs cells slots) (hx : p.tables.exec = Jvm.exec) (hZ : Z.Warmed39 s.vm) {own : String} (hown : s.vm.findClass own = some m.cls) (eT : T.heap = h) {index : Nat} {y : MethodName} {bytes : ByteArray} {maxL : Nat} {ret : Option FieldType} {rm : Room} {as' : Array Value} {Q' : Option Value → Heap → List Loc → Prop}
    (w1 : (Cond.methodLink own index y).before a0 Z = true) (w2 : (Cond.static y).before a0 Z = true) (w3 : (Cond.initialized y.cls).before a0 Z = true) (w4 : (Cond.code y bytes maxL ret).before a0 Z = true) (hy : y.cls ≠ "java/lang/invoke/MethodHandle" ∧ y.cls ≠ "java/lang/invoke/VarHandle")
    (hM : own_Met l Z y bytes maxL ret [] rm as' h Q') {g : JFrame} (hg : g.method = m) (hsize : g.locals.size = c.maxLocals) {argsL rest : List Value} (hlen : ∀ sig, parseMethodDescriptor y.desc = some sig → argsL.length = sig.parameters.length) (hstack : g.stack = argsL.reverse ++ rest) (has : argsL.toArray = as') {W : Nat} (hW : 2 * g.monitorRoom + (rest.map fun v => v.category).sum ≤ W) (hdg : decode c.code g.pc = .ok (.invokestatic index, 3))
    (hf : rm.frames + 1 ≤ R.frames) (hl : W + (maxL + 11) + rm.locals ≤ R.locals) (hc : cells + rm.cells ≤ R.cells) (hs : slots + rm.slots ≤ R.slots)
    (k : ∀ v T' L, Stand p l e R s m args below meth c T' (locs ++ L) (cells + rm.cells) (slots + rm.slots) → Q' v T'.heap L → own_End p e below P T' { g with pc := g.pc + 3, stack := v.toList ++ rest }) : own_End p e below P T g := by
  obtain ⟨v, vm1, ⟨T', L1, k1, n1⟩, -, X', ⟨L, hQ, l1, y1, z1⟩, st⟩ := Jvm.LawKit.callS X hx (y := y) hown (mvT hZ w1) (mvT hZ w2) (mvT hZ w3) (mvT hZ w4) hy (backOf (W := W) hM hZ w4 w3 hf hl) hg hsize hlen hstack hW hdg (fun _ _ => ⟨has, eT, hc, hs⟩)
  dsimp only [Pt.U, Pt.locs, Pt.cells, Pt.slots] at X' l1 y1 z1 st hQ
  subst l1 y1 z1
  exact own_go st (k v T' L X' hQ)
theorem own_callC (X : Stand p l e R s m args below meth c T locs cells slots) (hx : p.tables.exec = Jvm.exec) (hZ : Z.Warmed39 s.vm) {own : String} (hown : s.vm.findClass own = some m.cls) (eT : T.heap = h) {index : Nat} {y : MethodName} {bytes : ByteArray} {maxL : Nat} {rm : Room} {as' : Array Value} {Q' : Option Value → Heap → List Loc → Prop}
    (hyi : y.name = "<init>") (w1 : (Cond.methodLink own index y).before a0 Z = true) (w2 : (Cond.instanceMethod y).before a0 Z = true) (w3 : (Cond.initialized y.cls).before a0 Z = true) (w4 : (Cond.code y bytes maxL none).before a0 Z = true) (hy : y.cls ≠ "java/lang/invoke/MethodHandle" ∧ y.cls ≠ "java/lang/invoke/VarHandle")
    (hM : own_Met l Z y bytes maxL none [] rm as' h Q') {g : JFrame} (hg : g.method = m) (hsize : g.locals.size = c.maxLocals) {a : Addr} {argsL rest : List Value} (hlen : ∀ sig, parseMethodDescriptor y.desc = some sig → argsL.length = sig.parameters.length) (hstack : g.stack = argsL.reverse ++ .ref a :: rest) (has : (.ref a :: argsL).toArray = as') {W : Nat} (hW : 2 * g.monitorRoom + (rest.map fun v => v.category).sum ≤ W) (hdg : decode c.code g.pc = .ok (.invokespecial index, 3))
    (hf : rm.frames + 1 ≤ R.frames) (hl : W + (maxL + 11) + rm.locals ≤ R.locals) (hc : cells + rm.cells ≤ R.cells) (hs : slots + rm.slots ≤ R.slots)
    (k : ∀ v T' L, Stand p l e R s m args below meth c T' (locs ++ L) (cells + rm.cells) (slots + rm.slots) → Q' v T'.heap L → own_End p e below P T' { g with pc := g.pc + 3, stack := v.toList ++ rest }) : own_End p e below P T g := by
  obtain ⟨v, vm1, ⟨T', L1, k1, n1⟩, -, X', ⟨L, hQ, l1, y1, z1⟩, st⟩ := X.specialBack hx (y := y) hyi hown (mvT hZ w1) (mvT hZ w2) (mvT hZ w4) hy (backOf (W := W) hM hZ w4 w3 hf hl) hg hsize (Steps.refl _) (a := a) hlen hstack hW hdg (fun _ _ => ⟨has, eT, hc, hs⟩)
  dsimp only [Pt.U, Pt.locs, Pt.cells, Pt.slots] at X' l1 y1 z1 st hQ
  subst l1 y1 z1
  exact own_via st (k v T' L X' hQ)
theorem own_callV (X : Stand p l e R s m args below meth c T locs cells slots) (hx : p.tables.exec = Jvm.exec) (hZ : Z.Warmed39 s.vm) {own : String} (hown : s.vm.findClass own = some m.cls) (eT : T.heap = h) {index : Nat} {C : String} {y z : MethodName} {bytes : ByteArray} {maxL : Nat} {ret : Option FieldType} {rm : Room} {as' : Array Value} {Q' : Option Value → Heap → List Loc → Prop}
    (w1 : (Cond.methodLink own index y).before a0 Z = true) (wd : (Cond.declares y).before a0 Z = true) (hnf : NotFace s y) (wsel : (Cond.selects C y z).before a0 Z = true) (w2 : (Cond.instanceMethod z).before a0 Z = true) (w3 : (Cond.initialized z.cls).before a0 Z = true) (w4 : (Cond.code z bytes maxL ret).before a0 Z = true) (hy : y.cls ≠ "java/lang/invoke/MethodHandle" ∧ y.cls ≠ "java/lang/invoke/VarHandle")
    (hM : own_Met l Z z bytes maxL ret [] rm as' h Q') {a : Addr} (E : Exa Z h a C) {g : JFrame} (hg : g.method = m) (hsize : g.locals.size = c.maxLocals) {argsL rest : List Value} (hlen : ∀ sig, parseMethodDescriptor y.desc = some sig → argsL.length = sig.parameters.length) (hstack : g.stack = argsL.reverse ++ .ref a :: rest) (has : (.ref a :: argsL).toArray = as') {W : Nat} (hW : 2 * g.monitorRoom + (rest.map fun v => v.category).sum ≤ W) (hdg : decode c.code g.pc = .ok (.invokevirtual index, 3))
    (hf : rm.frames + 1 ≤ R.frames) (hl : W + (maxL + 11) + rm.locals ≤ R.locals) (hc : cells + rm.cells ≤ R.cells) (hs : slots + rm.slots ≤ R.slots)
    (k : ∀ v T' L, Stand p l e R s m args below meth c T' (locs ++ L) (cells + rm.cells) (slots + rm.slots) → Q' v T'.heap L → own_End p e below P T' { g with pc := g.pc + 3, stack := v.toList ++ rest }) : own_End p e below P T g := by
  obtain ⟨cB, kB, q1, q2, q3⟩ := isOf (T := T) hZ eT E
  obtain ⟨v, vm1, ⟨T', L1, k1, n1⟩, -, X', ⟨L, hQ, l1, y1, z1⟩, st⟩ := X.virtualBack hx (y := y) (z := z) hown (mvT hZ w1) (mvT hZ wd) hnf (mvT hZ wsel) (mvT hZ w2) hy (backOf (W := W) hM hZ w4 w3 hf hl) q1 q3 hg hsize (Steps.refl _) hlen hstack hW hdg (fun _ _ => ⟨has, eT, hc, hs⟩)
  dsimp only [Pt.U, Pt.locs, Pt.cells, Pt.slots] at X' l1 y1 z1 st hQ
  subst l1 y1 z1
  exact own_via st (k v T' L X' hQ)
theorem own_selP {C : String} {x' y y' : MethodName} (wz : (Cond.selects C x' y').before args s = true) (hc : y'.cls = y.cls) (hpriv : s.PrivateAt y) (hinst : (Cond.instanceMethod y).before args s = true) (hy : y.cls ≠ "java/lang/invoke/MethodHandle" ∧ y.cls ≠ "java/lang/invoke/VarHandle") : (Cond.selects y.cls y y).before args s = true := by
  obtain ⟨_, _, m2, -, -, q3, -, kP, hkP, hkPi⟩ := Cond.selects_spec wz
  exact selects_self_of_private (by rw [← hc]; exact findClass_of_methodNamed q3) hkP hkPi hpriv hinst hy
theorem own_callP (X : Stand p l e R s m args below meth c T locs cells slots) (hx : p.tables.exec = Jvm.exec) (hZ : Z.Warmed39 s.vm) {own : String} (hown : s.vm.findClass own = some m.cls) (eT : T.heap = h) {index : Nat} {y : MethodName} {bytes : ByteArray} {maxL : Nat} {ret : Option FieldType} {rm : Room} {as' : Array Value} {Q' : Option Value → Heap → List Loc → Prop}
    (w1 : (Cond.methodLink own index y).before a0 Z = true) (w2 : (Cond.instanceMethod y).before a0 Z = true) (wsel : (Cond.selects y.cls y y).before args s = true) (wp : (Cond.privateMethod y).before a0 Z = true) (w3 : (Cond.initialized y.cls).before a0 Z = true) (w4 : (Cond.code y bytes maxL ret).before a0 Z = true) (hy : y.cls ≠ "java/lang/invoke/MethodHandle" ∧ y.cls ≠ "java/lang/invoke/VarHandle")
    (hM : own_Met l Z y bytes maxL ret [] rm as' h Q') {C : String} {a : Addr} (E : Exa Z h a C) {g : JFrame} (hg : g.method = m) (hsize : g.locals.size = c.maxLocals) {argsL rest : List Value} (hlen : ∀ sig, parseMethodDescriptor y.desc = some sig → argsL.length = sig.parameters.length) (hstack : g.stack = argsL.reverse ++ .ref a :: rest) (has : (.ref a :: argsL).toArray = as') {W : Nat} (hW : 2 * g.monitorRoom + (rest.map fun v => v.category).sum ≤ W) (hdg : decode c.code g.pc = .ok (.invokevirtual index, 3))
    (hf : rm.frames + 1 ≤ R.frames) (hl : W + (maxL + 11) + rm.locals ≤ R.locals) (hc : cells + rm.cells ≤ R.cells) (hs : slots + rm.slots ≤ R.slots)
    (k : ∀ v T' L, Stand p l e R s m args below meth c T' (locs ++ L) (cells + rm.cells) (slots + rm.slots) → Q' v T'.heap L → own_End p e below P T' { g with pc := g.pc + 3, stack := v.toList ++ rest }) : own_End p e below P T g := by
  obtain ⟨cq, q1, q2⟩ := E.cell
  obtain ⟨v, vm1, ⟨T', L1, k1, n1⟩, -, X', ⟨L, hQ, l1, y1, z1⟩, st⟩ := X.privateBack hx (y := y) hown (mvT hZ w1) (mvT hZ w2) wsel (Cond.privateMethod_at (mvP hZ wp (args := #[]))) (mvT hZ w4) hy (backOf (W := W) hM hZ w4 w3 hf hl) hg hsize (Steps.refl _) (a := a) (by rw [eT]; exact q1) q2 hlen hstack hW hdg (fun _ _ => ⟨has, eT, hc, hs⟩)
  dsimp only [Pt.U, Pt.locs, Pt.cells, Pt.slots] at X' l1 y1 z1 st hQ
  subst l1 y1 z1
  exact own_via st (k v T' L X' hQ)
end OwnSteps
/-! own: a truth as an int; comparisons of longs -/
def own_z (P : Prop) [Decidable P] : Int32 := if P then 1 else 0
section OwnTruth
variable {P : Prop} [Decidable P] {x y : Int64}
theorem own_z_t (h : P) : own_z P = 1 := if_pos h
theorem own_z_f (h : ¬ P) : own_z P = 0 := if_neg h
theorem own_z_nar : nar .boolean (own_z P) = own_z P := by unfold own_z; split <;> decide
theorem own_z_congr {P' : Prop} [Decidable P'] (h : P ↔ P') : own_z P = own_z P' := by unfold own_z; by_cases q : P <;> simp [q, h.symm, h.mp] <;> simp_all
theorem own_z_inj {P' : Prop} [Decidable P'] (h : own_z P = own_z P') : P ↔ P' := by
  unfold own_z at h; by_cases q : P <;> by_cases q' : P' <;> simp_all
theorem own_zY_eq (h : ¬ P) : ifCond.holds .eq (own_z P) = true := by rw [own_z_f h]; rfl
theorem own_zN_eq (h : P) : ifCond.holds .eq (own_z P) = false := by rw [own_z_t h]; rfl
theorem own_zY_ne (h : P) : ifCond.holds .ne (own_z P) = true := by rw [own_z_t h]; rfl
theorem own_zN_ne (h : ¬ P) : ifCond.holds .ne (own_z P) = false := by rw [own_z_f h]; rfl
theorem own_lY_lt (h : x < y) : ifCond.holds .lt (lcmpW x y) = true := (if0 _ _).trans (tlt ((lw_lt x y).mpr h)).1
theorem own_lN_lt (h : ¬ x < y) : ifCond.holds .lt (lcmpW x y) = false := (if0 _ _).trans (flt (mt (lw_lt x y).mp h)).1
theorem own_lY_ge (h : ¬ x < y) : ifCond.holds .ge (lcmpW x y) = true := (if0 _ _).trans (flt (mt (lw_lt x y).mp h)).2.1
theorem own_lN_ge (h : x < y) : ifCond.holds .ge (lcmpW x y) = false := (if0 _ _).trans (tlt ((lw_lt x y).mpr h)).2.1
theorem own_lY_gt (h : y < x) : ifCond.holds .gt (lcmpW x y) = true := (if0 _ _).trans (tlt ((lw_gt x y).mpr h)).2.2.1
theorem own_lN_gt (h : ¬ y < x) : ifCond.holds .gt (lcmpW x y) = false := (if0 _ _).trans (flt (mt (lw_gt x y).mp h)).2.2.1
theorem own_lY_le (h : ¬ y < x) : ifCond.holds .le (lcmpW x y) = true := (if0 _ _).trans (flt (mt (lw_gt x y).mp h)).2.2.2
theorem own_lN_le (h : y < x) : ifCond.holds .le (lcmpW x y) = false := (if0 _ _).trans (tlt ((lw_gt x y).mpr h)).2.2.2
theorem own_lY_eq (h : x = y) : ifCond.holds .eq (lcmpW x y) = true := (if0 _ _).trans (teq ((lw_eq x y).mpr h)).1
theorem own_lN_eq (h : ¬ x = y) : ifCond.holds .eq (lcmpW x y) = false := (if0 _ _).trans (feq (mt (lw_eq x y).mp h)).1
theorem own_lY_ne (h : ¬ x = y) : ifCond.holds .ne (lcmpW x y) = true := (if0 _ _).trans (feq (mt (lw_eq x y).mp h)).2
theorem own_lN_ne (h : x = y) : ifCond.holds .ne (lcmpW x y) = false := (if0 _ _).trans (teq ((lw_eq x y).mpr h)).2
end OwnTruth
/-! own: a callee that writes nothing -/
def own_Pq (val : Option Value) (h : Heap) : Option Value → Heap → List Loc → Prop := fun v h' L => v = val ∧ L = [] ∧ h' = h
section OwnPure
variable {p : Program} {l : Launch} {e : Env} {R : Room} {s : State} {m : MethodId} {args : Array Value} {below : List Frame} {meth : Method} {c : Code} {T : State} {locs : List Loc} {cells slots : Nat} {P : State → Outcome → Prop} {Q : Option Value → Heap → List Loc → Prop} {kc ns : Nat} {Z : State} {a0 : Array Value} {h : Heap} {f : JFrame}
theorem own_callSp (X : Stand p l e R s m args below meth c T locs cells slots) (hx : p.tables.exec = Jvm.exec) (hZ : Z.Warmed39 s.vm) {own : String} (hown : s.vm.findClass own = some m.cls) (eT : T.heap = h) {index : Nat} {y : MethodName} {bytes : ByteArray} {maxL : Nat} {ret : Option FieldType} {fr lo : Nat} {as' : Array Value} {val : Option Value}
    (w1 : (Cond.methodLink own index y).before a0 Z = true) (w2 : (Cond.static y).before a0 Z = true) (w3 : (Cond.initialized y.cls).before a0 Z = true) (w4 : (Cond.code y bytes maxL ret).before a0 Z = true) (hy : y.cls ≠ "java/lang/invoke/MethodHandle" ∧ y.cls ≠ "java/lang/invoke/VarHandle")
    (hM : own_Met l Z y bytes maxL ret [] { frames := fr, cells := 0, slots := 0, locals := lo } as' h (own_Pq val h)) {g : JFrame} (hg : g.method = m) (hsize : g.locals.size = c.maxLocals) {argsL rest : List Value} (hlen : ∀ sig, parseMethodDescriptor y.desc = some sig → argsL.length = sig.parameters.length) (hstack : g.stack = argsL.reverse ++ rest) (has : argsL.toArray = as') {W : Nat} (hW : 2 * g.monitorRoom + (rest.map fun v => v.category).sum ≤ W) (hdg : decode c.code g.pc = .ok (.invokestatic index, 3))
    (hf : fr + 1 ≤ R.frames) (hl : W + (maxL + 11) + lo ≤ R.locals) (hc : cells ≤ R.cells) (hs : slots ≤ R.slots)
    (k : ∀ T', Stand p l e R s m args below meth c T' locs cells slots → T'.heap = h → own_End p e below P T' { g with pc := g.pc + 3, stack := val.toList ++ rest }) : own_End p e below P T g :=
  own_callS X hx hZ hown eT w1 w2 w3 w4 hy hM hg hsize hlen hstack has hW hdg hf hl hc hs fun v T' L X' ⟨q1, q2, q3⟩ => by
    subst q1 q2
    rw [List.append_nil] at X'
    exact k T' X' q3
theorem own_callCp (X : Stand p l e R s m args below meth c T locs cells slots) (hx : p.tables.exec = Jvm.exec) (hZ : Z.Warmed39 s.vm) {own : String} (hown : s.vm.findClass own = some m.cls) (eT : T.heap = h) {index : Nat} {y : MethodName} {bytes : ByteArray} {maxL : Nat} {fr lo : Nat} {as' : Array Value} {val : Option Value}
    (hyi : y.name = "<init>") (w1 : (Cond.methodLink own index y).before a0 Z = true) (w2 : (Cond.instanceMethod y).before a0 Z = true) (w3 : (Cond.initialized y.cls).before a0 Z = true) (w4 : (Cond.code y bytes maxL none).before a0 Z = true) (hy : y.cls ≠ "java/lang/invoke/MethodHandle" ∧ y.cls ≠ "java/lang/invoke/VarHandle")
    (hM : own_Met l Z y bytes maxL none [] { frames := fr, cells := 0, slots := 0, locals := lo } as' h (own_Pq val h)) {g : JFrame} (hg : g.method = m) (hsize : g.locals.size = c.maxLocals) {a : Addr} {argsL rest : List Value} (hlen : ∀ sig, parseMethodDescriptor y.desc = some sig → argsL.length = sig.parameters.length) (hstack : g.stack = argsL.reverse ++ .ref a :: rest) (has : (.ref a :: argsL).toArray = as') {W : Nat} (hW : 2 * g.monitorRoom + (rest.map fun v => v.category).sum ≤ W) (hdg : decode c.code g.pc = .ok (.invokespecial index, 3))
    (hf : fr + 1 ≤ R.frames) (hl : W + (maxL + 11) + lo ≤ R.locals) (hc : cells ≤ R.cells) (hs : slots ≤ R.slots)
    (k : ∀ T', Stand p l e R s m args below meth c T' locs cells slots → T'.heap = h → own_End p e below P T' { g with pc := g.pc + 3, stack := val.toList ++ rest }) : own_End p e below P T g :=
  own_callC X hx hZ hown eT hyi w1 w2 w3 w4 hy hM hg hsize hlen hstack has hW hdg hf hl hc hs fun v T' L X' ⟨q1, q2, q3⟩ => by
    subst q1 q2
    rw [List.append_nil] at X'
    exact k T' X' q3
theorem own_callVp (X : Stand p l e R s m args below meth c T locs cells slots) (hx : p.tables.exec = Jvm.exec) (hZ : Z.Warmed39 s.vm) {own : String} (hown : s.vm.findClass own = some m.cls) (eT : T.heap = h) {index : Nat} {C : String} {y z : MethodName} {bytes : ByteArray} {maxL : Nat} {ret : Option FieldType} {fr lo : Nat} {as' : Array Value} {val : Option Value}
    (w1 : (Cond.methodLink own index y).before a0 Z = true) (wd : (Cond.declares y).before a0 Z = true) (hnf : NotFace s y) (wsel : (Cond.selects C y z).before a0 Z = true) (w2 : (Cond.instanceMethod z).before a0 Z = true) (w3 : (Cond.initialized z.cls).before a0 Z = true) (w4 : (Cond.code z bytes maxL ret).before a0 Z = true) (hy : y.cls ≠ "java/lang/invoke/MethodHandle" ∧ y.cls ≠ "java/lang/invoke/VarHandle")
    (hM : own_Met l Z z bytes maxL ret [] { frames := fr, cells := 0, slots := 0, locals := lo } as' h (own_Pq val h)) {a : Addr} (E : Exa Z h a C) {g : JFrame} (hg : g.method = m) (hsize : g.locals.size = c.maxLocals) {argsL rest : List Value} (hlen : ∀ sig, parseMethodDescriptor y.desc = some sig → argsL.length = sig.parameters.length) (hstack : g.stack = argsL.reverse ++ .ref a :: rest) (has : (.ref a :: argsL).toArray = as') {W : Nat} (hW : 2 * g.monitorRoom + (rest.map fun v => v.category).sum ≤ W) (hdg : decode c.code g.pc = .ok (.invokevirtual index, 3))
    (hf : fr + 1 ≤ R.frames) (hl : W + (maxL + 11) + lo ≤ R.locals) (hc : cells ≤ R.cells) (hs : slots ≤ R.slots)
    (k : ∀ T', Stand p l e R s m args below meth c T' locs cells slots → T'.heap = h → own_End p e below P T' { g with pc := g.pc + 3, stack := val.toList ++ rest }) : own_End p e below P T g :=
  own_callV X hx hZ hown eT w1 wd hnf wsel w2 w3 w4 hy hM E hg hsize hlen hstack has hW hdg hf hl hc hs fun v T' L X' ⟨q1, q2, q3⟩ => by
    subst q1 q2
    rw [List.append_nil] at X'
    exact k T' X' q3
theorem own_callPp (X : Stand p l e R s m args below meth c T locs cells slots) (hx : p.tables.exec = Jvm.exec) (hZ : Z.Warmed39 s.vm) {own : String} (hown : s.vm.findClass own = some m.cls) (eT : T.heap = h) {index : Nat} {y : MethodName} {bytes : ByteArray} {maxL : Nat} {ret : Option FieldType} {fr lo : Nat} {as' : Array Value} {val : Option Value}
    (w1 : (Cond.methodLink own index y).before a0 Z = true) (w2 : (Cond.instanceMethod y).before a0 Z = true) (wsel : (Cond.selects y.cls y y).before args s = true) (wp : (Cond.privateMethod y).before a0 Z = true) (w3 : (Cond.initialized y.cls).before a0 Z = true) (w4 : (Cond.code y bytes maxL ret).before a0 Z = true) (hy : y.cls ≠ "java/lang/invoke/MethodHandle" ∧ y.cls ≠ "java/lang/invoke/VarHandle")
    (hM : own_Met l Z y bytes maxL ret [] { frames := fr, cells := 0, slots := 0, locals := lo } as' h (own_Pq val h)) {C : String} {a : Addr} (E : Exa Z h a C) {g : JFrame} (hg : g.method = m) (hsize : g.locals.size = c.maxLocals) {argsL rest : List Value} (hlen : ∀ sig, parseMethodDescriptor y.desc = some sig → argsL.length = sig.parameters.length) (hstack : g.stack = argsL.reverse ++ .ref a :: rest) (has : (.ref a :: argsL).toArray = as') {W : Nat} (hW : 2 * g.monitorRoom + (rest.map fun v => v.category).sum ≤ W) (hdg : decode c.code g.pc = .ok (.invokevirtual index, 3))
    (hf : fr + 1 ≤ R.frames) (hl : W + (maxL + 11) + lo ≤ R.locals) (hc : cells ≤ R.cells) (hs : slots ≤ R.slots)
    (k : ∀ T', Stand p l e R s m args below meth c T' locs cells slots → T'.heap = h → own_End p e below P T' { g with pc := g.pc + 3, stack := val.toList ++ rest }) : own_End p e below P T g :=
  own_callP X hx hZ hown eT w1 w2 wsel wp w3 w4 hy hM E hg hsize hlen hstack has hW hdg hf hl hc hs fun v T' L X' ⟨q1, q2, q3⟩ => by
    subst q1 q2
    rw [List.append_nil] at X'
    exact k T' X' q3
end OwnPure
/-! own: a cell that is known -/
def own_K (h : Heap) (a : Addr) : Prop := ∃ cell : Cell, h[a]? = some cell ∧ cell.vm ≠ .unknown
theorem own_K_ext {h h' : Heap} {a : Addr} (K : own_K h a) (E : Ext h h') : own_K h' a := by obtain ⟨c, h1, h2⟩ := K; exact ⟨c, E.2 _ _ h1, h2⟩
theorem own_K_wr {h h' : Heap} {a b : Addr} {sl : Nat} {v : Value} (K : own_K h b) (W : Wr h h' a sl v) : own_K h' b := by
  obtain ⟨c, h1, h2⟩ := K
  obtain ⟨c', e1, -, e3, -⟩ := wr_at W h1
  exact ⟨c', e1, by rw [e3]; exact h2⟩
theorem own_K_keep {h h' : Heap} {a : Addr} {ws : List Addr} (K : own_K h a) (E : Keep h h' ws) : own_K h' a := by
  obtain ⟨c, h1, h2⟩ := K
  obtain ⟨c', e1, -, e3, -⟩ := E.2.2 _ _ h1
  exact ⟨c', e1, by rw [e3]; exact h2⟩
theorem own_K_new {h : Heap} {a : Addr} (U : ∃ cell : Cell, h[a]? = some cell ∧ cell.vm = .none ∧ cell.monitor = {}) : own_K h a := by
  obtain ⟨c, h1, h2, -⟩ := U
  exact ⟨c, h1, by rw [h2]; simp⟩

def own_hi (x s : Int64) : Int64 := ((x.toUInt64 >>> ((32 : Int32) &&& 0x3f).toInt64.toUInt64).toInt64) * s + ((((x &&& (4294967295 : Int64)) * s).toUInt64 >>> ((32 : Int32) &&& 0x3f).toInt64.toUInt64).toInt64)
def own_lo (x s : Int64) : Int64 := ((x &&& (4294967295 : Int64)) * s) &&& (4294967295 : Int64)
theorem own_hilo {x s : Int64} (hx : 0 ≤ x.toInt) (h0 : 0 ≤ s.toInt) (h1 : s.toInt ≤ 100) : (own_hi x s).toInt = x.toInt * s.toInt / 4294967296 ∧ (own_lo x s).toInt = x.toInt * s.toInt % 4294967296 := by
  have xr := x.toInt_lt
  have e1 : (x &&& (4294967295 : Int64)).toInt = x.toInt % 2 ^ 32 := Jvm.Kit.i64_mask x _ (k := 32) (by decide) (by decide)
  have e2 : ((x.toUInt64 >>> ((32 : Int32) &&& 0x3f).toInt64.toUInt64).toInt64).toInt = x.toInt / 2 ^ 32 := Jvm.Kit.i64_lushr (by rw [Int64.le_iff_toInt_le]; simpa using hx) (by decide) (by decide)
  have q : x.toInt = 2 ^ 32 * (x.toInt / 2 ^ 32) + x.toInt % 2 ^ 32 := (Int.mul_ediv_add_emod _ _).symm
  obtain ⟨H, hH⟩ : ∃ H, H = x.toInt / 2 ^ 32 := ⟨_, rfl⟩
  obtain ⟨L, hL⟩ : ∃ L, L = x.toInt % 2 ^ 32 := ⟨_, rfl⟩
  obtain ⟨S, hS⟩ : ∃ S, S = s.toInt := ⟨_, rfl⟩
  rw [← hH, ← hL] at q
  rw [← hL] at e1
  rw [← hH] at e2
  rw [← hS] at h0 h1
  have bL : 0 ≤ L ∧ L < 4294967296 := by omega
  have bH : 0 ≤ H ∧ H < 2147483648 := by omega
  have mL : 0 ≤ L * S ∧ L * S ≤ L * 100 := ⟨Int.mul_nonneg bL.1 h0, Int.mul_le_mul_of_nonneg_left h1 bL.1⟩
  have mH : 0 ≤ H * S ∧ H * S ≤ H * 100 := ⟨Int.mul_nonneg bH.1 h0, Int.mul_le_mul_of_nonneg_left h1 bH.1⟩
  have e3 : ((x &&& (4294967295 : Int64)) * s).toInt = L * S := by
    rw [Jvm.Kit.i64_mul, e1, hS] <;> rw [e1, ← hS] <;> omega
  have e4 : ((x.toUInt64 >>> ((32 : Int32) &&& 0x3f).toInt64.toUInt64).toInt64 * s).toInt = H * S := by
    rw [Jvm.Kit.i64_mul, e2, hS] <;> rw [e2, ← hS] <;> omega
  have e5 : ((((x &&& (4294967295 : Int64)) * s).toUInt64 >>> ((32 : Int32) &&& 0x3f).toInt64.toUInt64).toInt64).toInt = L * S / 2 ^ 32 := by
    rw [← e3]; exact Jvm.Kit.i64_lushr (by rw [Int64.le_iff_toInt_le, e3]; simpa using mL.1) (by decide) (by decide)
  have q2 : x.toInt * S = 4294967296 * (H * S) + L * S := by
    rw [q, Int.add_mul, Int.mul_assoc]; rfl
  constructor
  · unfold own_hi
    have q5 : 0 ≤ L * S / 2 ^ 32 ∧ L * S / 2 ^ 32 ≤ L * S := by omega
    rw [Jvm.Kit.i64_add (by rw [e4, e5]; omega) (by rw [e4, e5]; omega), e4, e5, ← hS, q2]; omega
  · unfold own_lo
    rw [Jvm.Kit.i64_mask _ _ (k := 32) (by decide) (by decide), e3, ← hS, q2]; omega
theorem own_le {x s y t : Int64} (hx : 0 ≤ x.toInt) (h0 : 0 ≤ s.toInt) (h1 : s.toInt ≤ 100) (hy : 0 ≤ y.toInt) (g0 : 0 ≤ t.toInt) (g1 : t.toInt ≤ 100) :
    (own_hi x s < own_hi y t → x.toInt * s.toInt ≤ y.toInt * t.toInt) ∧ (¬ own_hi x s < own_hi y t → ¬ own_hi x s = own_hi y t → ¬ x.toInt * s.toInt ≤ y.toInt * t.toInt) ∧
    (own_hi x s = own_hi y t → own_lo y t < own_lo x s → ¬ x.toInt * s.toInt ≤ y.toInt * t.toInt) ∧ (own_hi x s = own_hi y t → ¬ own_lo y t < own_lo x s → x.toInt * s.toInt ≤ y.toInt * t.toInt) := by
  obtain ⟨a1, a2⟩ := own_hilo hx h0 h1
  obtain ⟨b1, b2⟩ := own_hilo hy g0 g1
  simp only [Int64.lt_iff_toInt_lt, ← Int64.toInt_inj, a1, a2, b1, b2]
  generalize x.toInt * s.toInt = A
  generalize y.toInt * t.toInt = B
  omega
/-- what taskTimeNanos computes, r from 1 to 99 -/
theorem own_tt {mx io r s w u : Int64} (hmx : mx.toInt = 9223372036854775807) (hio : 0 ≤ io.toInt) (hr : 1 ≤ r.toInt) (hr2 : r.toInt ≤ 99) (hs : s.toInt = 100 - r.toInt) (hw : w = io / r) (hu : u = (io - (io / r) * r) * s / r) :
    ((mx - u) / s < w → 9223372036854775807 * r.toInt ≤ io.toInt * s.toInt) ∧
    (¬ (mx - u) / s < w → 0 ≤ (w * s + u).toInt ∧ (w * s + u).toInt * r.toInt ≤ io.toInt * s.toInt ∧ ¬ ((w * s + u).toInt + 1) * r.toInt ≤ io.toInt * s.toInt) := by
  have ior := io.toInt_lt
  obtain ⟨IO, hIO⟩ : ∃ z, z = io.toInt := ⟨_, rfl⟩
  obtain ⟨R, hR⟩ : ∃ z, z = r.toInt := ⟨_, rfl⟩
  obtain ⟨S, hS⟩ : ∃ z, z = s.toInt := ⟨_, rfl⟩
  rw [← hR] at hr hr2 hs
  rw [← hS] at hs
  rw [← hIO] at hio ior
  have ew : w.toInt = IO / R := by
    rw [hw, Jvm.Kit.i64_div (by omega), ← hIO, ← hR, Int.tdiv_eq_ediv_of_nonneg hio]
  have em : (io - (io / r) * r).toInt = IO % R := by
    rw [Jvm.Kit.i64_rem_nonneg (by omega), ← hIO, ← hR]
  have bm : 0 ≤ IO % R ∧ IO % R < R := ⟨Int.emod_nonneg _ (by omega), Int.emod_lt_of_pos _ (by omega)⟩
  have pm : 0 ≤ IO % R * S ∧ IO % R * S ≤ 99 * 99 := by
    refine ⟨Int.mul_nonneg bm.1 (by omega), ?_⟩
    exact Int.mul_le_mul (by omega) (by omega) (by omega) (by omega)
  have eu1 : ((io - (io / r) * r) * s).toInt = IO % R * S := by
    rw [Jvm.Kit.i64_mul, em, hS] <;> rw [em, ← hS] <;> omega
  have eu : u.toInt = IO % R * S / R := by
    rw [hu, Jvm.Kit.i64_div (by omega), eu1, ← hR, Int.tdiv_eq_ediv_of_nonneg pm.1]
  have bu : 0 ≤ IO % R * S / R ∧ IO % R * S / R ≤ 99 * 99 := by
    refine ⟨Int.ediv_nonneg pm.1 (by omega), ?_⟩
    exact Int.le_trans (Int.ediv_le_self _ pm.1) pm.2
  have e3 : (mx - u).toInt = 9223372036854775807 - IO % R * S / R := by
    rw [Jvm.Kit.i64_sub, eu, hmx] <;> rw [eu, hmx] <;> omega
  have e4 : ((mx - u) / s).toInt = (9223372036854775807 - IO % R * S / R) / S := by
    rw [Jvm.Kit.i64_div (by rw [e3]; omega), e3, ← hS, Int.tdiv_eq_ediv_of_nonneg (by omega)]
  obtain ⟨Wh, hWh⟩ : ∃ z, z = IO / R := ⟨_, rfl⟩
  obtain ⟨M, hM⟩ : ∃ z, z = IO % R := ⟨_, rfl⟩
  obtain ⟨U, hU⟩ : ∃ z, z = M * S / R := ⟨_, rfl⟩
  rw [← hM, ← hU] at e4 eu bu
  rw [← hM] at bm pm
  rw [← hWh] at ew
  have q1 : IO = R * Wh + M := by rw [hWh, hM]; exact (Int.mul_ediv_add_emod _ _).symm
  have q2 : M * S = R * U + M * S % R := by rw [hU]; exact (Int.mul_ediv_add_emod _ _).symm
  have q3 : 0 ≤ M * S % R ∧ M * S % R < R := ⟨Int.emod_nonneg _ (by omega), Int.emod_lt_of_pos _ (by omega)⟩
  have q4 : IO * S = R * (Wh * S + U) + M * S % R := by
    rw [q1, Int.add_mul, Int.mul_add, ← Int.mul_assoc R Wh S]; omega
  have bW : 0 ≤ Wh := by rw [hWh]; exact Int.ediv_nonneg hio (by omega)
  rw [Int64.lt_iff_toInt_lt, e4, ew, ← hIO, ← hS, ← hR]
  have hS1 : 0 < S := by omega
  constructor
  · intro h
    have h2 : 9223372036854775807 - U < Wh * S := (Int.ediv_lt_iff_lt_mul hS1).mp h
    have h3 : R * 9223372036854775807 ≤ R * (Wh * S + U) := Int.mul_le_mul_of_nonneg_left (by omega) (by omega)
    omega
  · intro h
    have h2 : Wh * S ≤ 9223372036854775807 - U := (Int.le_ediv_iff_mul_le hS1).mp (by omega)
    have h5 : 0 ≤ Wh * S := Int.mul_nonneg bW (by omega)
    have e5 : (w * s).toInt = Wh * S := by rw [Jvm.Kit.i64_mul, ew, hS] <;> rw [ew, ← hS] <;> omega
    have e6 : (w * s + u).toInt = Wh * S + U := by rw [Jvm.Kit.i64_add, e5, eu] <;> rw [e5, eu] <;> omega
    rw [e6]
    refine ⟨by omega, ?_, ?_⟩
    · rw [q4, Int.mul_comm R]; omega
    · rw [q4, Int.mul_comm R, Int.add_mul (Wh * S + U)]; omega
def own_T (io : Int64) (r : Int32) : Int64 :=
  if r = (100 : Int32) then (9223372036854775807 : Int64)
  else if (((9223372036854775807 : Int64) - (((io - (io / (r.toInt64)) * (r.toInt64)) * (((100 : Int32) - r).toInt64)) / (r.toInt64))) / (((100 : Int32) - r).toInt64)) < (io / (r.toInt64)) then (9223372036854775807 : Int64)
  else (((io / (r.toInt64)) * (((100 : Int32) - r).toInt64)) + (((io - (io / (r.toInt64)) * (r.toInt64)) * (((100 : Int32) - r).toInt64)) / (r.toInt64)))
theorem own_r {x rr : Int32} (h : rr = ((x &&& (2147483647 : Int32)) % (100 : Int32)) + (1 : Int32)) : ¬ (rr < (1 : Int32)) ∧ ¬ ((100 : Int32) < rr) := by
  have e := Jvm.Kit.i32_mask x 2147483647 (k := 31) (by decide) (by decide)
  have e2 : ((x &&& 2147483647) % 100).toInt = (x &&& 2147483647).toInt % 100 := Jvm.Kit.i32_rem_nonneg (by omega)
  have e3 : (((x &&& 2147483647) % 100) + 1).toInt = ((x &&& 2147483647) % 100).toInt + 1 := Jvm.Kit.i32_add (q := 1) (by rw [e2, show (1 : Int32).toInt = 1 from rfl]; omega) (by rw [e2, show (1 : Int32).toInt = 1 from rfl]; omega)
  rw [← h] at e3
  rw [Int32.lt_iff_toInt_lt, Int32.lt_iff_toInt_lt, show (1 : Int32).toInt = 1 from rfl, show (100 : Int32).toInt = 100 from rfl]
  omega
theorem own_io {a io : Int64} (h : io = (a &&& (9223372036854775807 : Int64))) : 0 ≤ io.toInt := by
  have e := Jvm.Kit.i64_mask a 9223372036854775807 (k := 63) (by decide) (by decide)
  rw [← h] at e
  omega
theorem own_ri {r : Int32} (h1 : ¬ (r < (1 : Int32))) (h2 : ¬ ((100 : Int32) < r)) : 1 ≤ r.toInt64.toInt ∧ r.toInt64.toInt ≤ 100 ∧ r.toInt64.toInt = r.toInt := by
  rw [Int32.lt_iff_toInt_lt, show (1 : Int32).toInt = 1 from rfl] at h1
  rw [Int32.lt_iff_toInt_lt, show (100 : Int32).toInt = 100 from rfl] at h2
  have := Jvm.Kit.i64_of_i32 r
  omega
theorem own_nz {r : Int32} (h1 : ¬ (r < (1 : Int32))) : ¬ r.toInt64 = 0 := fun q => by
  rw [Int32.lt_iff_toInt_lt, show (1 : Int32).toInt = 1 from rfl] at h1
  have := Jvm.Kit.i64_of_i32 r
  rw [q] at this
  have z : (0 : Int64).toInt = 0 := rfl
  omega
theorem own_si {r : Int32} (h1 : ¬ (r < (1 : Int32))) (h2 : ¬ ((100 : Int32) < r)) : (((100 : Int32) - r).toInt64).toInt = 100 - r.toInt := by
  rw [Int32.lt_iff_toInt_lt, show (1 : Int32).toInt = 1 from rfl] at h1
  rw [Int32.lt_iff_toInt_lt, show (100 : Int32).toInt = 100 from rfl] at h2
  rw [Jvm.Kit.i64_of_i32, Jvm.Kit.i32_sub] <;> rw [show (100 : Int32).toInt = 100 from rfl] <;> omega
theorem own_ne {r : Int32} (h : ¬ r = (100 : Int32)) : r.toInt ≠ 100 := fun q => h (Int32.toInt_inj.mp q)
theorem own_sz {r : Int32} (h1 : ¬ (r < (1 : Int32))) (h2 : ¬ ((100 : Int32) < r)) (h3 : ¬ r = (100 : Int32)) : ¬ ((100 : Int32) - r).toInt64 = 0 := fun q => by
  have e := own_si h1 h2
  have n := own_ne h3
  have b := own_ri h1 h2
  rw [q, show (0 : Int64).toInt = 0 from rfl] at e
  omega
theorem own_all {io : Int64} {r : Int32} {s tt : Int64} (hio : 0 ≤ io.toInt) (h1 : ¬ (r < (1 : Int32))) (h2 : ¬ ((100 : Int32) < r)) (h3 : ¬ r = (100 : Int32)) (hs : s = ((100 : Int32) - r).toInt64) (ht : tt = own_T io r) :
    (0 ≤ s.toInt ∧ s.toInt ≤ 100) ∧ (tt = (9223372036854775807 : Int64) → (9223372036854775807 : Int64).toInt * r.toInt64.toInt ≤ io.toInt * s.toInt) ∧ (¬ tt = (9223372036854775807 : Int64) → 0 ≤ tt.toInt ∧ tt.toInt * r.toInt64.toInt ≤ io.toInt * s.toInt ∧ 0 ≤ (tt + 1).toInt ∧ ¬ (tt + 1).toInt * r.toInt64.toInt ≤ io.toInt * s.toInt) := by
  have n := own_ne h3
  have b := own_ri h1 h2
  have e := own_si h1 h2
  rw [← hs] at e
  obtain ⟨w, hw⟩ : ∃ w, w = io / r.toInt64 := ⟨_, rfl⟩
  obtain ⟨u, hu⟩ : ∃ u, u = (io - (io / r.toInt64) * r.toInt64) * s / r.toInt64 := ⟨_, rfl⟩
  obtain ⟨mx, hm⟩ : ∃ mx, mx = (9223372036854775807 : Int64) := ⟨_, rfl⟩
  have hmx : mx.toInt = 9223372036854775807 := by rw [hm]; decide
  have q := own_tt (mx := mx) (io := io) (r := r.toInt64) (s := s) hmx hio b.1 (by omega) (by omega) hw hu
  rw [own_T, if_neg h3, ← hs, ← hu, ← hw, ← hm] at ht
  rw [← hm, hmx]
  refine ⟨by omega, fun h => ?_, fun h => ?_⟩
  · by_cases hc : (mx - u) / s < w
    · exact q.1 hc
    · rw [if_neg hc] at ht
      have q2 := (q.2 hc).2.1
      rw [← ht, h, hmx] at q2
      exact q2
  · by_cases hc : (mx - u) / s < w
    · rw [if_pos hc] at ht; exact absurd ht h
    · rw [if_neg hc] at ht
      have q2 := q.2 hc
      rw [← ht] at q2
      have h4 : tt.toInt ≠ 9223372036854775807 := fun q => h (Int64.toInt_inj.mp (q.trans hmx.symm))
      have h5 := tt.toInt_lt
      have e2 : (tt + 1).toInt = tt.toInt + 1 := Jvm.Kit.i64_add (y := 1) (by rw [show (1 : Int64).toInt = 1 from rfl]; omega) (by rw [show (1 : Int64).toInt = 1 from rfl]; omega)
      rw [e2]
      exact ⟨q2.1, q2.2.1, by omega, q2.2.2⟩
theorem own_nn {x : Int64} (h : 0 ≤ x.toInt) : ¬ x < (0 : Int64) := by
  rw [Int64.lt_iff_toInt_lt, show (0 : Int64).toInt = 0 from rfl]; omega

theorem pn_0 : plainName "com/example/libloop/libloop/internal/IoRatio" = true := by first | (simp [plainName, overriddenIn]; done) | decide +kernel
theorem d2_0 : decode prog_9_method_2_code 0 = .ok (.iload_n 0, 1) := by decide +kernel
theorem d2_1 : decode prog_9_method_2_code 1 = .ok (.iconst 1, 1) := by decide +kernel
theorem d2_2 : decode prog_9_method_2_code 2 = .ok (.if_icmp .lt 9, 3) := by decide +kernel
theorem d2_5 : decode prog_9_method_2_code 5 = .ok (.iload_n 0, 1) := by decide +kernel
theorem d2_6 : decode prog_9_method_2_code 6 = .ok (.bipush 100, 2) := by decide +kernel
theorem d2_8 : decode prog_9_method_2_code 8 = .ok (.if_icmp .le 17, 3) := by decide +kernel
theorem d2_25 : decode prog_9_method_2_code 25 = .ok (.iload_n 0, 1) := by decide +kernel
theorem d2_26 : decode prog_9_method_2_code 26 = .ok (.ireturn, 1) := by decide +kernel
set_option maxRecDepth 65536 in
set_option maxHeartbeats 4000000 in
theorem ef_2 (m : MethodId) (p0 : Int32) : entryFrame m #[(.int p0)] 1 = mkF m 0 #[.val (.int p0)] [] := by first | (simp [entryFrame, mkF, argsToLocals, Value.category]; done) | rfl
set_option maxRecDepth 65536 in
set_option maxHeartbeats 40000000 in
theorem rm2 (l : Launch) (Z : State) (aw : Array Value) (hw : ∀ d ∈ tables_1, d.before aw Z = true) {ws : List Jvm.Cond} (p0 : Int32)  (h0 : Heap) (n0 : Nat) (Z0 : n0 ≤ h0.size) (h1 : ¬ (p0 < (1 : Int32))) (h2 : ¬ ((100 : Int32) < p0)) :
    own_Met l Z (⟨"com/example/libloop/libloop/internal/IoRatio", "check", "(I)I"⟩ : MethodName) prog_9_method_2_code 1 (some .int) ws ({ frames := 0, cells := 0, slots := 0, locals := 0 } : Room) #[(.int p0)] h0 (own_Pq (some (.int p0)) h0) := by
  refine own_body (plainFor_of_name pn_0) ?_
  intro p e s m below meth c s₁ hx hZ hby hml hown hnm hret hlk X0 e0
  replace hown : s.vm.findClass "com/example/libloop/libloop/internal/IoRatio" = some m.cls := hown
  replace hml : c.maxLocals = 1 := hml
  obtain ⟨P, hP⟩ : ∃ P, P = own_P below s (own_Pq (some (.int p0)) h0) ({ frames := 0, cells := 0, slots := 0, locals := 0 } : Room).cells ({ frames := 0, cells := 0, slots := 0, locals := 0 } : Room).slots := ⟨_, rfl⟩
  rw [← hP]
  refine own_cast (ef_2 m p0) ?_
  refine own_go (T' := s₁) (f' := (mkF m 26 #[.val (.int p0)] [(.int p0)])) (fun t kt => ?_) ?_
  · show Steps p.tables e below (s₁.setTop (mkF m 0 #[.val (.int p0)] [])) t
    refine XS.iloadN X0.here hx rfl (hb hby d2_0) rfl ?_
    show Steps p.tables e below (s₁.setTop (mkF m 1 #[.val (.int p0)] [(.int p0)])) t
    refine XS.iconst X0.here hx rfl (hb hby d2_1) ?_
    show Steps p.tables e below (s₁.setTop (mkF m 2 #[.val (.int p0)] [(.int (1 : Int32)), (.int p0)])) t
    refine XS.icmpNo X0.here hx rfl (hb hby d2_2) rfl (flt (show ¬ (p0 < (1 : Int32)) from h1)).1 ?_
    show Steps p.tables e below (s₁.setTop (mkF m 5 #[.val (.int p0)] [])) t
    refine XS.iloadN X0.here hx rfl (hb hby d2_5) rfl ?_
    show Steps p.tables e below (s₁.setTop (mkF m 6 #[.val (.int p0)] [(.int p0)])) t
    refine XS.bipush X0.here hx rfl (hb hby d2_6) ?_
    show Steps p.tables e below (s₁.setTop (mkF m 8 #[.val (.int p0)] [(.int (100 : Int32)), (.int p0)])) t
    refine XS.icmpYes X0.here hx rfl (pc0 := 8) (pc' := 25) rfl (hb hby d2_8) rfl (flt (show ¬ ((100 : Int32) < p0) from h2)).2.2.2 (by decide) (by decide) ?_
    show Steps p.tables e below (s₁.setTop (mkF m 25 #[.val (.int p0)] [])) t
    refine XS.iloadN X0.here hx rfl (hb hby d2_25) rfl ?_
    show Steps p.tables e below (s₁.setTop (mkF m 26 #[.val (.int p0)] [(.int p0)])) t
    exact kt
  exact own_retI X0 hP hx hlk e0 hret (hb hby d2_26) (by decide) (by decide) ⟨rfl, rfl, rfl⟩
theorem pd_0 : parseMethodDescriptor "(I)I" = some ⟨[.int], some .int⟩ := by decide +kernel
theorem d1_0 : decode prog_9_method_3_code 0 = .ok (.iload_n 2, 1) := by decide +kernel
theorem d1_1 : decode prog_9_method_3_code 1 = .ok (.invokestatic 18, 3) := by decide +kernel
theorem d1_4 : decode prog_9_method_3_code 4 = .ok (.pop, 1) := by decide +kernel
theorem d1_5 : decode prog_9_method_3_code 5 = .ok (.lload_n 0, 1) := by decide +kernel
theorem d1_6 : decode prog_9_method_3_code 6 = .ok (.lconst 0, 1) := by decide +kernel
theorem d1_7 : decode prog_9_method_3_code 7 = .ok (.lcmp, 1) := by decide +kernel
theorem d1_8 : decode prog_9_method_3_code 8 = .ok (.ifCond .ge 17, 3) := by decide +kernel
theorem d1_25 : decode prog_9_method_3_code 25 = .ok (.iload_n 2, 1) := by decide +kernel
theorem d1_26 : decode prog_9_method_3_code 26 = .ok (.bipush 100, 2) := by decide +kernel
theorem d1_28 : decode prog_9_method_3_code 28 = .ok (.if_icmp .ne 10, 3) := by decide +kernel
theorem d1_31 : decode prog_9_method_3_code 31 = .ok (.ldc2_w 27, 3) := by decide +kernel
theorem d1_34 : decode prog_9_method_3_code 34 = .ok (.lstore_n 3, 1) := by decide +kernel
theorem d1_35 : decode prog_9_method_3_code 35 = .ok (.goto 58, 3) := by decide +kernel
theorem d1_38 : decode prog_9_method_3_code 38 = .ok (.bipush 100, 2) := by decide +kernel
theorem d1_40 : decode prog_9_method_3_code 40 = .ok (.iload_n 2, 1) := by decide +kernel
theorem d1_41 : decode prog_9_method_3_code 41 = .ok (.isub, 1) := by decide +kernel
theorem d1_42 : decode prog_9_method_3_code 42 = .ok (.i2l, 1) := by decide +kernel
theorem d1_43 : decode prog_9_method_3_code 43 = .ok (.lstore 5, 2) := by decide +kernel
theorem d1_45 : decode prog_9_method_3_code 45 = .ok (.lload_n 0, 1) := by decide +kernel
theorem d1_46 : decode prog_9_method_3_code 46 = .ok (.iload_n 2, 1) := by decide +kernel
theorem d1_47 : decode prog_9_method_3_code 47 = .ok (.i2l, 1) := by decide +kernel
theorem d1_48 : decode prog_9_method_3_code 48 = .ok (.ldiv, 1) := by decide +kernel
theorem d1_49 : decode prog_9_method_3_code 49 = .ok (.lstore 7, 2) := by decide +kernel
theorem d1_51 : decode prog_9_method_3_code 51 = .ok (.lload_n 0, 1) := by decide +kernel
theorem d1_52 : decode prog_9_method_3_code 52 = .ok (.iload_n 2, 1) := by decide +kernel
theorem d1_53 : decode prog_9_method_3_code 53 = .ok (.i2l, 1) := by decide +kernel
theorem d1_54 : decode prog_9_method_3_code 54 = .ok (.lrem, 1) := by decide +kernel
theorem d1_55 : decode prog_9_method_3_code 55 = .ok (.lload 5, 2) := by decide +kernel
theorem d1_57 : decode prog_9_method_3_code 57 = .ok (.lmul, 1) := by decide +kernel
theorem d1_58 : decode prog_9_method_3_code 58 = .ok (.iload_n 2, 1) := by decide +kernel
theorem d1_59 : decode prog_9_method_3_code 59 = .ok (.i2l, 1) := by decide +kernel
theorem d1_60 : decode prog_9_method_3_code 60 = .ok (.ldiv, 1) := by decide +kernel
theorem d1_61 : decode prog_9_method_3_code 61 = .ok (.lstore 9, 2) := by decide +kernel
theorem d1_63 : decode prog_9_method_3_code 63 = .ok (.lload 7, 2) := by decide +kernel
theorem d1_65 : decode prog_9_method_3_code 65 = .ok (.ldc2_w 27, 3) := by decide +kernel
theorem d1_68 : decode prog_9_method_3_code 68 = .ok (.lload 9, 2) := by decide +kernel
theorem d1_70 : decode prog_9_method_3_code 70 = .ok (.lsub, 1) := by decide +kernel
theorem d1_71 : decode prog_9_method_3_code 71 = .ok (.lload 5, 2) := by decide +kernel
theorem d1_73 : decode prog_9_method_3_code 73 = .ok (.ldiv, 1) := by decide +kernel
theorem d1_74 : decode prog_9_method_3_code 74 = .ok (.lcmp, 1) := by decide +kernel
theorem d1_75 : decode prog_9_method_3_code 75 = .ok (.ifCond .gt 14, 3) := by decide +kernel
theorem d1_78 : decode prog_9_method_3_code 78 = .ok (.lload 7, 2) := by decide +kernel
theorem d1_80 : decode prog_9_method_3_code 80 = .ok (.lload 5, 2) := by decide +kernel
theorem d1_82 : decode prog_9_method_3_code 82 = .ok (.lmul, 1) := by decide +kernel
theorem d1_83 : decode prog_9_method_3_code 83 = .ok (.lload 9, 2) := by decide +kernel
theorem d1_85 : decode prog_9_method_3_code 85 = .ok (.ladd, 1) := by decide +kernel
theorem d1_86 : decode prog_9_method_3_code 86 = .ok (.goto 6, 3) := by decide +kernel
theorem d1_89 : decode prog_9_method_3_code 89 = .ok (.ldc2_w 27, 3) := by decide +kernel
theorem d1_92 : decode prog_9_method_3_code 92 = .ok (.lstore_n 3, 1) := by decide +kernel
theorem d1_93 : decode prog_9_method_3_code 93 = .ok (.lload_n 3, 1) := by decide +kernel
theorem d1_94 : decode prog_9_method_3_code 94 = .ok (.lreturn, 1) := by decide +kernel
set_option maxRecDepth 65536 in
set_option maxHeartbeats 4000000 in
theorem ef_1 (m : MethodId) (q0 : Int64) (p1 : Int32) : entryFrame m #[(.long q0), (.int p1)] 11 = mkF m 0 #[.val (.long q0), .second, .val (.int p1), .unset, .unset, .unset, .unset, .unset, .unset, .unset, .unset] [] := by first | (simp [entryFrame, mkF, argsToLocals, Value.category]; done) | rfl
set_option maxRecDepth 65536 in
set_option maxHeartbeats 40000000 in
theorem rm1 (l : Launch) (Z : State) (aw : Array Value) (hw : ∀ d ∈ tables_1, d.before aw Z = true) {ws : List Jvm.Cond} (q0 : Int64) (p1 : Int32)  (h0 : Heap) (n0 : Nat) (Z0 : n0 ≤ h0.size) (hq0 : ¬ (q0 < (0 : Int64))) (h1 : ¬ (p1 < (1 : Int32))) (h2 : ¬ ((100 : Int32) < p1)) :
    own_Met l Z (⟨"com/example/libloop/libloop/internal/IoRatio", "taskTimeNanos", "(JI)J"⟩ : MethodName) prog_9_method_3_code 11 (some .long) ws ({ frames := 1, cells := 0, slots := 0, locals := 12 } : Room) #[(.long q0), (.int p1)] h0 (own_Pq (some (.long (own_T q0 p1))) h0) := by
  refine own_body (plainFor_of_name pn_0) ?_
  intro p e s m below meth c s₁ hx hZ hby hml hown hnm hret hlk X0 e0
  replace hown : s.vm.findClass "com/example/libloop/libloop/internal/IoRatio" = some m.cls := hown
  replace hml : c.maxLocals = 11 := hml
  obtain ⟨P, hP⟩ : ∃ P, P = own_P below s (own_Pq (some (.long (own_T q0 p1))) h0) ({ frames := 1, cells := 0, slots := 0, locals := 12 } : Room).cells ({ frames := 1, cells := 0, slots := 0, locals := 12 } : Room).slots := ⟨_, rfl⟩
  rw [← hP]
  refine own_cast (ef_1 m q0 p1) ?_
  refine own_go (T' := s₁) (f' := (mkF m 1 #[.val (.long q0), .second, .val (.int p1), .unset, .unset, .unset, .unset, .unset, .unset, .unset, .unset] [(.int p1)])) (fun t kt => ?_) ?_
  · show Steps p.tables e below (s₁.setTop (mkF m 0 #[.val (.long q0), .second, .val (.int p1), .unset, .unset, .unset, .unset, .unset, .unset, .unset, .unset] [])) t
    refine XS.iloadN X0.here hx rfl (hb hby d1_0) rfl ?_
    show Steps p.tables e below (s₁.setTop (mkF m 1 #[.val (.long q0), .second, .val (.int p1), .unset, .unset, .unset, .unset, .unset, .unset, .unset, .unset] [(.int p1)])) t
    exact kt
  refine own_callSp X0 hx hZ hown e0 (hw _ (List.mem_of_getElem? (i := 6) rfl)) (hw _ (List.mem_of_getElem? (i := 7) rfl)) (hw _ (List.mem_of_getElem? (i := 4) rfl)) (hw _ (List.mem_of_getElem? (i := 8) rfl)) (by decide) (rm2 l Z aw hw p1 h0 n0 Z0 h1 h2) (g := (mkF m 1 #[.val (.long q0), .second, .val (.int p1), .unset, .unset, .unset, .unset, .unset, .unset, .unset, .unset] [(.int p1)])) rfl (by rw [hml]; rfl) (argsL := [(.int p1)]) (rest := []) (lenOf pd_0 rfl) rfl rfl (W := 0) (by show 2 * 0 + _ ≤ _; exact Nat.le_of_eq rfl) (hb hby d1_1) (by decide) (by decide) (by decide) (by decide) ?_
  intro T1 X1 e1
  refine own_go (T' := T1) (f' := (mkF m 28 #[.val (.long q0), .second, .val (.int p1), .unset, .unset, .unset, .unset, .unset, .unset, .unset, .unset] [(.int (100 : Int32)), (.int p1)])) (fun t kt => ?_) ?_
  · show Steps p.tables e below (T1.setTop (mkF m 4 #[.val (.long q0), .second, .val (.int p1), .unset, .unset, .unset, .unset, .unset, .unset, .unset, .unset] [(.int p1)])) t
    refine XS.pop X1.here hx rfl (hb hby d1_4) rfl rfl ?_
    show Steps p.tables e below (T1.setTop (mkF m 5 #[.val (.long q0), .second, .val (.int p1), .unset, .unset, .unset, .unset, .unset, .unset, .unset, .unset] [])) t
    refine XS.lloadN X1.here hx rfl (hb hby d1_5) rfl ?_
    show Steps p.tables e below (T1.setTop (mkF m 6 #[.val (.long q0), .second, .val (.int p1), .unset, .unset, .unset, .unset, .unset, .unset, .unset, .unset] [(.long q0)])) t
    refine XS.lconst X1.here hx rfl (hb hby d1_6) ?_
    show Steps p.tables e below (T1.setTop (mkF m 7 #[.val (.long q0), .second, .val (.int p1), .unset, .unset, .unset, .unset, .unset, .unset, .unset, .unset] [(.long (0 : Int64)), (.long q0)])) t
    refine XS.lcmp X1.here hx rfl (hb hby d1_7) rfl ?_
    show Steps p.tables e below (T1.setTop (mkF m 8 #[.val (.long q0), .second, .val (.int p1), .unset, .unset, .unset, .unset, .unset, .unset, .unset, .unset] [(.int (lcmpW q0 (0 : Int64)))])) t
    refine XS.ifYes X1.here hx rfl (pc0 := 8) (pc' := 25) rfl (hb hby d1_8) rfl (own_lY_ge (show ¬ (q0 < (0 : Int64)) from hq0)) (by decide) (by decide) ?_
    show Steps p.tables e below (T1.setTop (mkF m 25 #[.val (.long q0), .second, .val (.int p1), .unset, .unset, .unset, .unset, .unset, .unset, .unset, .unset] [])) t
    refine XS.iloadN X1.here hx rfl (hb hby d1_25) rfl ?_
    show Steps p.tables e below (T1.setTop (mkF m 26 #[.val (.long q0), .second, .val (.int p1), .unset, .unset, .unset, .unset, .unset, .unset, .unset, .unset] [(.int p1)])) t
    refine XS.bipush X1.here hx rfl (hb hby d1_26) ?_
    show Steps p.tables e below (T1.setTop (mkF m 28 #[.val (.long q0), .second, .val (.int p1), .unset, .unset, .unset, .unset, .unset, .unset, .unset, .unset] [(.int (100 : Int32)), (.int p1)])) t
    exact kt
  by_cases hc28_2 : p1 = (100 : Int32)
  · refine own_go (T' := T1) (f' := (mkF m 94 #[.val (.long q0), .second, .val (.int p1), .val (.long (9223372036854775807 : Int64)), .second, .unset, .unset, .unset, .unset, .unset, .unset] [(.long (9223372036854775807 : Int64))])) (fun t kt => ?_) ?_
    · show Steps p.tables e below (T1.setTop (mkF m 28 #[.val (.long q0), .second, .val (.int p1), .unset, .unset, .unset, .unset, .unset, .unset, .unset, .unset] [(.int (100 : Int32)), (.int p1)])) t
      refine XS.icmpNo X1.here hx rfl (hb hby d1_28) rfl (teq hc28_2).2 ?_
      show Steps p.tables e below (T1.setTop (mkF m 31 #[.val (.long q0), .second, .val (.int p1), .unset, .unset, .unset, .unset, .unset, .unset, .unset, .unset] [])) t
      refine X1.ldc2Long hx hown (mvT hZ (hw _ (List.mem_of_getElem? (i := 9) rfl))) (g := (mkF m 31 #[.val (.long q0), .second, .val (.int p1), .unset, .unset, .unset, .unset, .unset, .unset, .unset, .unset] [])) rfl (hb hby d1_31) _ ?_
      show Steps p.tables e below (T1.setTop (mkF m 34 #[.val (.long q0), .second, .val (.int p1), .unset, .unset, .unset, .unset, .unset, .unset, .unset, .unset] [(.long (9223372036854775807 : Int64))])) t
      refine XS.lstoreN X1.here hx rfl (hb hby d1_34) rfl (l' := #[.val (.long q0), .second, .val (.int p1), .val (.long (9223372036854775807 : Int64)), .second, .unset, .unset, .unset, .unset, .unset, .unset]) rfl ?_
      show Steps p.tables e below (T1.setTop (mkF m 35 #[.val (.long q0), .second, .val (.int p1), .val (.long (9223372036854775807 : Int64)), .second, .unset, .unset, .unset, .unset, .unset, .unset] [])) t
      refine XS.goto X1.here hx rfl (pc0 := 35) (pc' := 93) rfl (hb hby d1_35) (by decide) (by decide) ?_
      show Steps p.tables e below (T1.setTop (mkF m 93 #[.val (.long q0), .second, .val (.int p1), .val (.long (9223372036854775807 : Int64)), .second, .unset, .unset, .unset, .unset, .unset, .unset] [])) t
      refine XS.lloadN X1.here hx rfl (hb hby d1_93) rfl ?_
      show Steps p.tables e below (T1.setTop (mkF m 94 #[.val (.long q0), .second, .val (.int p1), .val (.long (9223372036854775807 : Int64)), .second, .unset, .unset, .unset, .unset, .unset, .unset] [(.long (9223372036854775807 : Int64))])) t
      exact kt
    exact own_retJ X1 hP hx hlk e1 hret (hb hby d1_94) (by decide) (by decide) ⟨(by simp only [own_T, if_pos hc28_2]), rfl, rfl⟩
  · refine own_go (T' := T1) (f' := (mkF m 43 #[.val (.long q0), .second, .val (.int p1), .unset, .unset, .unset, .unset, .unset, .unset, .unset, .unset] [(.long (((100 : Int32) - p1).toInt64))])) (fun t kt => ?_) ?_
    · show Steps p.tables e below (T1.setTop (mkF m 28 #[.val (.long q0), .second, .val (.int p1), .unset, .unset, .unset, .unset, .unset, .unset, .unset, .unset] [(.int (100 : Int32)), (.int p1)])) t
      refine XS.icmpYes X1.here hx rfl (pc0 := 28) (pc' := 38) rfl (hb hby d1_28) rfl (feq hc28_2).2 (by decide) (by decide) ?_
      show Steps p.tables e below (T1.setTop (mkF m 38 #[.val (.long q0), .second, .val (.int p1), .unset, .unset, .unset, .unset, .unset, .unset, .unset, .unset] [])) t
      refine XS.bipush X1.here hx rfl (hb hby d1_38) ?_
      show Steps p.tables e below (T1.setTop (mkF m 40 #[.val (.long q0), .second, .val (.int p1), .unset, .unset, .unset, .unset, .unset, .unset, .unset, .unset] [(.int (100 : Int32))])) t
      refine XS.iloadN X1.here hx rfl (hb hby d1_40) rfl ?_
      show Steps p.tables e below (T1.setTop (mkF m 41 #[.val (.long q0), .second, .val (.int p1), .unset, .unset, .unset, .unset, .unset, .unset, .unset, .unset] [(.int p1), (.int (100 : Int32))])) t
      refine XS.isub X1.here hx rfl (hb hby d1_41) rfl ?_
      show Steps p.tables e below (T1.setTop (mkF m 42 #[.val (.long q0), .second, .val (.int p1), .unset, .unset, .unset, .unset, .unset, .unset, .unset, .unset] [(.int ((100 : Int32) - p1))])) t
      refine XS.i2l X1.here hx rfl (hb hby d1_42) rfl ?_
      show Steps p.tables e below (T1.setTop (mkF m 43 #[.val (.long q0), .second, .val (.int p1), .unset, .unset, .unset, .unset, .unset, .unset, .unset, .unset] [(.long (((100 : Int32) - p1).toInt64))])) t
      exact kt
    obtain ⟨ss, hss⟩ : ∃ z, z = (((100 : Int32) - p1).toInt64) := ⟨_, rfl⟩
    rw [← hss]
    refine own_go (T' := T1) (f' := (mkF m 49 #[.val (.long q0), .second, .val (.int p1), .unset, .unset, .val (.long ss), .second, .unset, .unset, .unset, .unset] [(.long (q0 / (p1.toInt64)))])) (fun t kt => ?_) ?_
    · show Steps p.tables e below (T1.setTop (mkF m 43 #[.val (.long q0), .second, .val (.int p1), .unset, .unset, .unset, .unset, .unset, .unset, .unset, .unset] [(.long ss)])) t
      refine XS.lstore X1.here hx rfl (hb hby d1_43) rfl (l' := #[.val (.long q0), .second, .val (.int p1), .unset, .unset, .val (.long ss), .second, .unset, .unset, .unset, .unset]) rfl ?_
      show Steps p.tables e below (T1.setTop (mkF m 45 #[.val (.long q0), .second, .val (.int p1), .unset, .unset, .val (.long ss), .second, .unset, .unset, .unset, .unset] [])) t
      refine XS.lloadN X1.here hx rfl (hb hby d1_45) rfl ?_
      show Steps p.tables e below (T1.setTop (mkF m 46 #[.val (.long q0), .second, .val (.int p1), .unset, .unset, .val (.long ss), .second, .unset, .unset, .unset, .unset] [(.long q0)])) t
      refine XS.iloadN X1.here hx rfl (hb hby d1_46) rfl ?_
      show Steps p.tables e below (T1.setTop (mkF m 47 #[.val (.long q0), .second, .val (.int p1), .unset, .unset, .val (.long ss), .second, .unset, .unset, .unset, .unset] [(.int p1), (.long q0)])) t
      refine XS.i2l X1.here hx rfl (hb hby d1_47) rfl ?_
      show Steps p.tables e below (T1.setTop (mkF m 48 #[.val (.long q0), .second, .val (.int p1), .unset, .unset, .val (.long ss), .second, .unset, .unset, .unset, .unset] [(.long (p1.toInt64)), (.long q0)])) t
      refine XS.ldiv X1.here hx rfl (hb hby d1_48) rfl (own_nz h1) ?_
      show Steps p.tables e below (T1.setTop (mkF m 49 #[.val (.long q0), .second, .val (.int p1), .unset, .unset, .val (.long ss), .second, .unset, .unset, .unset, .unset] [(.long (q0 / (p1.toInt64)))])) t
      exact kt
    obtain ⟨ww, hww⟩ : ∃ z, z = (q0 / (p1.toInt64)) := ⟨_, rfl⟩
    rw [← hww]
    refine own_go (T' := T1) (f' := (mkF m 61 #[.val (.long q0), .second, .val (.int p1), .unset, .unset, .val (.long ss), .second, .val (.long ww), .second, .unset, .unset] [(.long (((q0 - (q0 / (p1.toInt64)) * (p1.toInt64)) * ss) / (p1.toInt64)))])) (fun t kt => ?_) ?_
    · show Steps p.tables e below (T1.setTop (mkF m 49 #[.val (.long q0), .second, .val (.int p1), .unset, .unset, .val (.long ss), .second, .unset, .unset, .unset, .unset] [(.long ww)])) t
      refine XS.lstore X1.here hx rfl (hb hby d1_49) rfl (l' := #[.val (.long q0), .second, .val (.int p1), .unset, .unset, .val (.long ss), .second, .val (.long ww), .second, .unset, .unset]) rfl ?_
      show Steps p.tables e below (T1.setTop (mkF m 51 #[.val (.long q0), .second, .val (.int p1), .unset, .unset, .val (.long ss), .second, .val (.long ww), .second, .unset, .unset] [])) t
      refine XS.lloadN X1.here hx rfl (hb hby d1_51) rfl ?_
      show Steps p.tables e below (T1.setTop (mkF m 52 #[.val (.long q0), .second, .val (.int p1), .unset, .unset, .val (.long ss), .second, .val (.long ww), .second, .unset, .unset] [(.long q0)])) t
      refine XS.iloadN X1.here hx rfl (hb hby d1_52) rfl ?_
      show Steps p.tables e below (T1.setTop (mkF m 53 #[.val (.long q0), .second, .val (.int p1), .unset, .unset, .val (.long ss), .second, .val (.long ww), .second, .unset, .unset] [(.int p1), (.long q0)])) t
      refine XS.i2l X1.here hx rfl (hb hby d1_53) rfl ?_
      show Steps p.tables e below (T1.setTop (mkF m 54 #[.val (.long q0), .second, .val (.int p1), .unset, .unset, .val (.long ss), .second, .val (.long ww), .second, .unset, .unset] [(.long (p1.toInt64)), (.long q0)])) t
      refine XS.lrem X1.here hx rfl (hb hby d1_54) rfl (own_nz h1) ?_
      show Steps p.tables e below (T1.setTop (mkF m 55 #[.val (.long q0), .second, .val (.int p1), .unset, .unset, .val (.long ss), .second, .val (.long ww), .second, .unset, .unset] [(.long (q0 - (q0 / (p1.toInt64)) * (p1.toInt64)))])) t
      refine XS.lload X1.here hx rfl (hb hby d1_55) rfl ?_
      show Steps p.tables e below (T1.setTop (mkF m 57 #[.val (.long q0), .second, .val (.int p1), .unset, .unset, .val (.long ss), .second, .val (.long ww), .second, .unset, .unset] [(.long ss), (.long (q0 - (q0 / (p1.toInt64)) * (p1.toInt64)))])) t
      refine XS.lmul X1.here hx rfl (hb hby d1_57) rfl ?_
      show Steps p.tables e below (T1.setTop (mkF m 58 #[.val (.long q0), .second, .val (.int p1), .unset, .unset, .val (.long ss), .second, .val (.long ww), .second, .unset, .unset] [(.long ((q0 - (q0 / (p1.toInt64)) * (p1.toInt64)) * ss))])) t
      refine XS.iloadN X1.here hx rfl (hb hby d1_58) rfl ?_
      show Steps p.tables e below (T1.setTop (mkF m 59 #[.val (.long q0), .second, .val (.int p1), .unset, .unset, .val (.long ss), .second, .val (.long ww), .second, .unset, .unset] [(.int p1), (.long ((q0 - (q0 / (p1.toInt64)) * (p1.toInt64)) * ss))])) t
      refine XS.i2l X1.here hx rfl (hb hby d1_59) rfl ?_
      show Steps p.tables e below (T1.setTop (mkF m 60 #[.val (.long q0), .second, .val (.int p1), .unset, .unset, .val (.long ss), .second, .val (.long ww), .second, .unset, .unset] [(.long (p1.toInt64)), (.long ((q0 - (q0 / (p1.toInt64)) * (p1.toInt64)) * ss))])) t
      refine XS.ldiv X1.here hx rfl (hb hby d1_60) rfl (own_nz h1) ?_
      show Steps p.tables e below (T1.setTop (mkF m 61 #[.val (.long q0), .second, .val (.int p1), .unset, .unset, .val (.long ss), .second, .val (.long ww), .second, .unset, .unset] [(.long (((q0 - (q0 / (p1.toInt64)) * (p1.toInt64)) * ss) / (p1.toInt64)))])) t
      exact kt
    obtain ⟨uu, huu⟩ : ∃ z, z = (((q0 - (q0 / (p1.toInt64)) * (p1.toInt64)) * ss) / (p1.toInt64)) := ⟨_, rfl⟩
    rw [← huu]
    refine own_go (T' := T1) (f' := (mkF m 75 #[.val (.long q0), .second, .val (.int p1), .unset, .unset, .val (.long ss), .second, .val (.long ww), .second, .val (.long uu), .second] [(.int (lcmpW ww (((9223372036854775807 : Int64) - uu) / ss)))])) (fun t kt => ?_) ?_
    · show Steps p.tables e below (T1.setTop (mkF m 61 #[.val (.long q0), .second, .val (.int p1), .unset, .unset, .val (.long ss), .second, .val (.long ww), .second, .unset, .unset] [(.long uu)])) t
      refine XS.lstore X1.here hx rfl (hb hby d1_61) rfl (l' := #[.val (.long q0), .second, .val (.int p1), .unset, .unset, .val (.long ss), .second, .val (.long ww), .second, .val (.long uu), .second]) rfl ?_
      show Steps p.tables e below (T1.setTop (mkF m 63 #[.val (.long q0), .second, .val (.int p1), .unset, .unset, .val (.long ss), .second, .val (.long ww), .second, .val (.long uu), .second] [])) t
      refine XS.lload X1.here hx rfl (hb hby d1_63) rfl ?_
      show Steps p.tables e below (T1.setTop (mkF m 65 #[.val (.long q0), .second, .val (.int p1), .unset, .unset, .val (.long ss), .second, .val (.long ww), .second, .val (.long uu), .second] [(.long ww)])) t
      refine X1.ldc2Long hx hown (mvT hZ (hw _ (List.mem_of_getElem? (i := 9) rfl))) (g := (mkF m 65 #[.val (.long q0), .second, .val (.int p1), .unset, .unset, .val (.long ss), .second, .val (.long ww), .second, .val (.long uu), .second] [(.long ww)])) rfl (hb hby d1_65) _ ?_
      show Steps p.tables e below (T1.setTop (mkF m 68 #[.val (.long q0), .second, .val (.int p1), .unset, .unset, .val (.long ss), .second, .val (.long ww), .second, .val (.long uu), .second] [(.long (9223372036854775807 : Int64)), (.long ww)])) t
      refine XS.lload X1.here hx rfl (hb hby d1_68) rfl ?_
      show Steps p.tables e below (T1.setTop (mkF m 70 #[.val (.long q0), .second, .val (.int p1), .unset, .unset, .val (.long ss), .second, .val (.long ww), .second, .val (.long uu), .second] [(.long uu), (.long (9223372036854775807 : Int64)), (.long ww)])) t
      refine XS.lsub X1.here hx rfl (hb hby d1_70) rfl ?_
      show Steps p.tables e below (T1.setTop (mkF m 71 #[.val (.long q0), .second, .val (.int p1), .unset, .unset, .val (.long ss), .second, .val (.long ww), .second, .val (.long uu), .second] [(.long ((9223372036854775807 : Int64) - uu)), (.long ww)])) t
      refine XS.lload X1.here hx rfl (hb hby d1_71) rfl ?_
      show Steps p.tables e below (T1.setTop (mkF m 73 #[.val (.long q0), .second, .val (.int p1), .unset, .unset, .val (.long ss), .second, .val (.long ww), .second, .val (.long uu), .second] [(.long ss), (.long ((9223372036854775807 : Int64) - uu)), (.long ww)])) t
      refine XS.ldiv X1.here hx rfl (hb hby d1_73) rfl (hss ▸ own_sz h1 h2 hc28_2) ?_
      show Steps p.tables e below (T1.setTop (mkF m 74 #[.val (.long q0), .second, .val (.int p1), .unset, .unset, .val (.long ss), .second, .val (.long ww), .second, .val (.long uu), .second] [(.long (((9223372036854775807 : Int64) - uu) / ss)), (.long ww)])) t
      refine XS.lcmp X1.here hx rfl (hb hby d1_74) rfl ?_
      show Steps p.tables e below (T1.setTop (mkF m 75 #[.val (.long q0), .second, .val (.int p1), .unset, .unset, .val (.long ss), .second, .val (.long ww), .second, .val (.long uu), .second] [(.int (lcmpW ww (((9223372036854775807 : Int64) - uu) / ss)))])) t
      exact kt
    by_cases hc75_3 : (((9223372036854775807 : Int64) - uu) / ss) < ww
    · refine own_go (T' := T1) (f' := (mkF m 94 #[.val (.long q0), .second, .val (.int p1), .val (.long (9223372036854775807 : Int64)), .second, .val (.long ss), .second, .val (.long ww), .second, .val (.long uu), .second] [(.long (9223372036854775807 : Int64))])) (fun t kt => ?_) ?_
      · show Steps p.tables e below (T1.setTop (mkF m 75 #[.val (.long q0), .second, .val (.int p1), .unset, .unset, .val (.long ss), .second, .val (.long ww), .second, .val (.long uu), .second] [(.int (lcmpW ww (((9223372036854775807 : Int64) - uu) / ss)))])) t
        refine XS.ifYes X1.here hx rfl (pc0 := 75) (pc' := 89) rfl (hb hby d1_75) rfl (own_lY_gt hc75_3) (by decide) (by decide) ?_
        show Steps p.tables e below (T1.setTop (mkF m 89 #[.val (.long q0), .second, .val (.int p1), .unset, .unset, .val (.long ss), .second, .val (.long ww), .second, .val (.long uu), .second] [])) t
        refine X1.ldc2Long hx hown (mvT hZ (hw _ (List.mem_of_getElem? (i := 9) rfl))) (g := (mkF m 89 #[.val (.long q0), .second, .val (.int p1), .unset, .unset, .val (.long ss), .second, .val (.long ww), .second, .val (.long uu), .second] [])) rfl (hb hby d1_89) _ ?_
        show Steps p.tables e below (T1.setTop (mkF m 92 #[.val (.long q0), .second, .val (.int p1), .unset, .unset, .val (.long ss), .second, .val (.long ww), .second, .val (.long uu), .second] [(.long (9223372036854775807 : Int64))])) t
        refine XS.lstoreN X1.here hx rfl (hb hby d1_92) rfl (l' := #[.val (.long q0), .second, .val (.int p1), .val (.long (9223372036854775807 : Int64)), .second, .val (.long ss), .second, .val (.long ww), .second, .val (.long uu), .second]) rfl ?_
        show Steps p.tables e below (T1.setTop (mkF m 93 #[.val (.long q0), .second, .val (.int p1), .val (.long (9223372036854775807 : Int64)), .second, .val (.long ss), .second, .val (.long ww), .second, .val (.long uu), .second] [])) t
        refine XS.lloadN X1.here hx rfl (hb hby d1_93) rfl ?_
        show Steps p.tables e below (T1.setTop (mkF m 94 #[.val (.long q0), .second, .val (.int p1), .val (.long (9223372036854775807 : Int64)), .second, .val (.long ss), .second, .val (.long ww), .second, .val (.long uu), .second] [(.long (9223372036854775807 : Int64))])) t
        exact kt
      exact own_retJ X1 hP hx hlk e1 hret (hb hby d1_94) (by decide) (by decide) ⟨(by subst huu hww hss; simp only [own_T, if_neg hc28_2, if_pos hc75_3]), rfl, rfl⟩
    · refine own_go (T' := T1) (f' := (mkF m 94 #[.val (.long q0), .second, .val (.int p1), .val (.long ((ww * ss) + uu)), .second, .val (.long ss), .second, .val (.long ww), .second, .val (.long uu), .second] [(.long ((ww * ss) + uu))])) (fun t kt => ?_) ?_
      · show Steps p.tables e below (T1.setTop (mkF m 75 #[.val (.long q0), .second, .val (.int p1), .unset, .unset, .val (.long ss), .second, .val (.long ww), .second, .val (.long uu), .second] [(.int (lcmpW ww (((9223372036854775807 : Int64) - uu) / ss)))])) t
        refine XS.ifNo X1.here hx rfl (hb hby d1_75) rfl (own_lN_gt hc75_3) ?_
        show Steps p.tables e below (T1.setTop (mkF m 78 #[.val (.long q0), .second, .val (.int p1), .unset, .unset, .val (.long ss), .second, .val (.long ww), .second, .val (.long uu), .second] [])) t
        refine XS.lload X1.here hx rfl (hb hby d1_78) rfl ?_
        show Steps p.tables e below (T1.setTop (mkF m 80 #[.val (.long q0), .second, .val (.int p1), .unset, .unset, .val (.long ss), .second, .val (.long ww), .second, .val (.long uu), .second] [(.long ww)])) t
        refine XS.lload X1.here hx rfl (hb hby d1_80) rfl ?_
        show Steps p.tables e below (T1.setTop (mkF m 82 #[.val (.long q0), .second, .val (.int p1), .unset, .unset, .val (.long ss), .second, .val (.long ww), .second, .val (.long uu), .second] [(.long ss), (.long ww)])) t
        refine XS.lmul X1.here hx rfl (hb hby d1_82) rfl ?_
        show Steps p.tables e below (T1.setTop (mkF m 83 #[.val (.long q0), .second, .val (.int p1), .unset, .unset, .val (.long ss), .second, .val (.long ww), .second, .val (.long uu), .second] [(.long (ww * ss))])) t
        refine XS.lload X1.here hx rfl (hb hby d1_83) rfl ?_
        show Steps p.tables e below (T1.setTop (mkF m 85 #[.val (.long q0), .second, .val (.int p1), .unset, .unset, .val (.long ss), .second, .val (.long ww), .second, .val (.long uu), .second] [(.long uu), (.long (ww * ss))])) t
        refine XS.ladd X1.here hx rfl (hb hby d1_85) rfl ?_
        show Steps p.tables e below (T1.setTop (mkF m 86 #[.val (.long q0), .second, .val (.int p1), .unset, .unset, .val (.long ss), .second, .val (.long ww), .second, .val (.long uu), .second] [(.long ((ww * ss) + uu))])) t
        refine XS.goto X1.here hx rfl (pc0 := 86) (pc' := 92) rfl (hb hby d1_86) (by decide) (by decide) ?_
        show Steps p.tables e below (T1.setTop (mkF m 92 #[.val (.long q0), .second, .val (.int p1), .unset, .unset, .val (.long ss), .second, .val (.long ww), .second, .val (.long uu), .second] [(.long ((ww * ss) + uu))])) t
        refine XS.lstoreN X1.here hx rfl (hb hby d1_92) rfl (l' := #[.val (.long q0), .second, .val (.int p1), .val (.long ((ww * ss) + uu)), .second, .val (.long ss), .second, .val (.long ww), .second, .val (.long uu), .second]) rfl ?_
        show Steps p.tables e below (T1.setTop (mkF m 93 #[.val (.long q0), .second, .val (.int p1), .val (.long ((ww * ss) + uu)), .second, .val (.long ss), .second, .val (.long ww), .second, .val (.long uu), .second] [])) t
        refine XS.lloadN X1.here hx rfl (hb hby d1_93) rfl ?_
        show Steps p.tables e below (T1.setTop (mkF m 94 #[.val (.long q0), .second, .val (.int p1), .val (.long ((ww * ss) + uu)), .second, .val (.long ss), .second, .val (.long ww), .second, .val (.long uu), .second] [(.long ((ww * ss) + uu))])) t
        exact kt
      exact own_retJ X1 hP hx hlk e1 hret (hb hby d1_94) (by decide) (by decide) ⟨(by subst huu hww hss; simp only [own_T, if_neg hc28_2, if_neg hc75_3]), rfl, rfl⟩
theorem pn_1 : plainName "com/example/libloop/libloop/internal/IoRatioTaskTimeNanosPinLaw" = true := by first | (simp [plainName, overriddenIn]; done) | decide +kernel
theorem d4_0 : decode method_2_code 0 = .ok (.lload_n 0, 1) := by decide +kernel
theorem d4_1 : decode method_2_code 1 = .ok (.bipush 32, 2) := by decide +kernel
theorem d4_3 : decode method_2_code 3 = .ok (.lushr, 1) := by decide +kernel
theorem d4_4 : decode method_2_code 4 = .ok (.lload_n 2, 1) := by decide +kernel
theorem d4_5 : decode method_2_code 5 = .ok (.lmul, 1) := by decide +kernel
theorem d4_6 : decode method_2_code 6 = .ok (.lload_n 0, 1) := by decide +kernel
theorem d4_7 : decode method_2_code 7 = .ok (.ldc2_w 7, 3) := by decide +kernel
theorem d4_10 : decode method_2_code 10 = .ok (.land, 1) := by decide +kernel
theorem d4_11 : decode method_2_code 11 = .ok (.lload_n 2, 1) := by decide +kernel
theorem d4_12 : decode method_2_code 12 = .ok (.lmul, 1) := by decide +kernel
theorem d4_13 : decode method_2_code 13 = .ok (.bipush 32, 2) := by decide +kernel
theorem d4_15 : decode method_2_code 15 = .ok (.lushr, 1) := by decide +kernel
theorem d4_16 : decode method_2_code 16 = .ok (.ladd, 1) := by decide +kernel
theorem d4_17 : decode method_2_code 17 = .ok (.lreturn, 1) := by decide +kernel
set_option maxRecDepth 65536 in
set_option maxHeartbeats 4000000 in
theorem ef_4 (m : MethodId) (q0 : Int64) (q1 : Int64) : entryFrame m #[(.long q0), (.long q1)] 4 = mkF m 0 #[.val (.long q0), .second, .val (.long q1), .second] [] := by first | (simp [entryFrame, mkF, argsToLocals, Value.category]; done) | rfl
set_option maxRecDepth 65536 in
set_option maxHeartbeats 40000000 in
theorem rm4 (l : Launch) (Z : State) (aw : Array Value) (hw : ∀ d ∈ tables_1, d.before aw Z = true) {ws : List Jvm.Cond} (q0 : Int64) (q1 : Int64)  (h0 : Heap) (n0 : Nat) (Z0 : n0 ≤ h0.size)  :
    own_Met l Z (⟨"com/example/libloop/libloop/internal/IoRatioTaskTimeNanosPinLaw", "hi", "(JJ)J"⟩ : MethodName) method_2_code 4 (some .long) ws ({ frames := 0, cells := 0, slots := 0, locals := 0 } : Room) #[(.long q0), (.long q1)] h0 (own_Pq (some (.long (own_hi q0 q1))) h0) := by
  refine own_body (plainFor_of_name pn_1) ?_
  intro p e s m below meth c s₁ hx hZ hby hml hown hnm hret hlk X0 e0
  replace hown : s.vm.findClass "com/example/libloop/libloop/internal/IoRatioTaskTimeNanosPinLaw" = some m.cls := hown
  replace hml : c.maxLocals = 4 := hml
  obtain ⟨P, hP⟩ : ∃ P, P = own_P below s (own_Pq (some (.long (own_hi q0 q1))) h0) ({ frames := 0, cells := 0, slots := 0, locals := 0 } : Room).cells ({ frames := 0, cells := 0, slots := 0, locals := 0 } : Room).slots := ⟨_, rfl⟩
  rw [← hP]
  refine own_cast (ef_4 m q0 q1) ?_
  refine own_go (T' := s₁) (f' := (mkF m 17 #[.val (.long q0), .second, .val (.long q1), .second] [(.long ((((q0.toUInt64 >>> ((32 : Int32) &&& 0x3f).toInt64.toUInt64).toInt64) * q1) + ((((q0 &&& (4294967295 : Int64)) * q1).toUInt64 >>> ((32 : Int32) &&& 0x3f).toInt64.toUInt64).toInt64)))])) (fun t kt => ?_) ?_
  · show Steps p.tables e below (s₁.setTop (mkF m 0 #[.val (.long q0), .second, .val (.long q1), .second] [])) t
    refine XS.lloadN X0.here hx rfl (hb hby d4_0) rfl ?_
    show Steps p.tables e below (s₁.setTop (mkF m 1 #[.val (.long q0), .second, .val (.long q1), .second] [(.long q0)])) t
    refine XS.bipush X0.here hx rfl (hb hby d4_1) ?_
    show Steps p.tables e below (s₁.setTop (mkF m 3 #[.val (.long q0), .second, .val (.long q1), .second] [(.int (32 : Int32)), (.long q0)])) t
    refine XS.lushr X0.here hx rfl (hb hby d4_3) rfl ?_
    show Steps p.tables e below (s₁.setTop (mkF m 4 #[.val (.long q0), .second, .val (.long q1), .second] [(.long ((q0.toUInt64 >>> ((32 : Int32) &&& 0x3f).toInt64.toUInt64).toInt64))])) t
    refine XS.lloadN X0.here hx rfl (hb hby d4_4) rfl ?_
    show Steps p.tables e below (s₁.setTop (mkF m 5 #[.val (.long q0), .second, .val (.long q1), .second] [(.long q1), (.long ((q0.toUInt64 >>> ((32 : Int32) &&& 0x3f).toInt64.toUInt64).toInt64))])) t
    refine XS.lmul X0.here hx rfl (hb hby d4_5) rfl ?_
    show Steps p.tables e below (s₁.setTop (mkF m 6 #[.val (.long q0), .second, .val (.long q1), .second] [(.long (((q0.toUInt64 >>> ((32 : Int32) &&& 0x3f).toInt64.toUInt64).toInt64) * q1))])) t
    refine XS.lloadN X0.here hx rfl (hb hby d4_6) rfl ?_
    show Steps p.tables e below (s₁.setTop (mkF m 7 #[.val (.long q0), .second, .val (.long q1), .second] [(.long q0), (.long (((q0.toUInt64 >>> ((32 : Int32) &&& 0x3f).toInt64.toUInt64).toInt64) * q1))])) t
    refine X0.ldc2Long hx hown (mvT hZ (hw _ (List.mem_of_getElem? (i := 17) rfl))) (g := (mkF m 7 #[.val (.long q0), .second, .val (.long q1), .second] [(.long q0), (.long (((q0.toUInt64 >>> ((32 : Int32) &&& 0x3f).toInt64.toUInt64).toInt64) * q1))])) rfl (hb hby d4_7) _ ?_
    show Steps p.tables e below (s₁.setTop (mkF m 10 #[.val (.long q0), .second, .val (.long q1), .second] [(.long (4294967295 : Int64)), (.long q0), (.long (((q0.toUInt64 >>> ((32 : Int32) &&& 0x3f).toInt64.toUInt64).toInt64) * q1))])) t
    refine XS.land X0.here hx rfl (hb hby d4_10) rfl ?_
    show Steps p.tables e below (s₁.setTop (mkF m 11 #[.val (.long q0), .second, .val (.long q1), .second] [(.long (q0 &&& (4294967295 : Int64))), (.long (((q0.toUInt64 >>> ((32 : Int32) &&& 0x3f).toInt64.toUInt64).toInt64) * q1))])) t
    refine XS.lloadN X0.here hx rfl (hb hby d4_11) rfl ?_
    show Steps p.tables e below (s₁.setTop (mkF m 12 #[.val (.long q0), .second, .val (.long q1), .second] [(.long q1), (.long (q0 &&& (4294967295 : Int64))), (.long (((q0.toUInt64 >>> ((32 : Int32) &&& 0x3f).toInt64.toUInt64).toInt64) * q1))])) t
    refine XS.lmul X0.here hx rfl (hb hby d4_12) rfl ?_
    show Steps p.tables e below (s₁.setTop (mkF m 13 #[.val (.long q0), .second, .val (.long q1), .second] [(.long ((q0 &&& (4294967295 : Int64)) * q1)), (.long (((q0.toUInt64 >>> ((32 : Int32) &&& 0x3f).toInt64.toUInt64).toInt64) * q1))])) t
    refine XS.bipush X0.here hx rfl (hb hby d4_13) ?_
    show Steps p.tables e below (s₁.setTop (mkF m 15 #[.val (.long q0), .second, .val (.long q1), .second] [(.int (32 : Int32)), (.long ((q0 &&& (4294967295 : Int64)) * q1)), (.long (((q0.toUInt64 >>> ((32 : Int32) &&& 0x3f).toInt64.toUInt64).toInt64) * q1))])) t
    refine XS.lushr X0.here hx rfl (hb hby d4_15) rfl ?_
    show Steps p.tables e below (s₁.setTop (mkF m 16 #[.val (.long q0), .second, .val (.long q1), .second] [(.long ((((q0 &&& (4294967295 : Int64)) * q1).toUInt64 >>> ((32 : Int32) &&& 0x3f).toInt64.toUInt64).toInt64)), (.long (((q0.toUInt64 >>> ((32 : Int32) &&& 0x3f).toInt64.toUInt64).toInt64) * q1))])) t
    refine XS.ladd X0.here hx rfl (hb hby d4_16) rfl ?_
    show Steps p.tables e below (s₁.setTop (mkF m 17 #[.val (.long q0), .second, .val (.long q1), .second] [(.long ((((q0.toUInt64 >>> ((32 : Int32) &&& 0x3f).toInt64.toUInt64).toInt64) * q1) + ((((q0 &&& (4294967295 : Int64)) * q1).toUInt64 >>> ((32 : Int32) &&& 0x3f).toInt64.toUInt64).toInt64)))])) t
    exact kt
  exact own_retJ X0 hP hx hlk e0 hret (hb hby d4_17) (by decide) (by decide) ⟨rfl, rfl, rfl⟩
theorem d5_0 : decode method_3_code 0 = .ok (.lload_n 0, 1) := by decide +kernel
theorem d5_1 : decode method_3_code 1 = .ok (.ldc2_w 7, 3) := by decide +kernel
theorem d5_4 : decode method_3_code 4 = .ok (.land, 1) := by decide +kernel
theorem d5_5 : decode method_3_code 5 = .ok (.lload_n 2, 1) := by decide +kernel
theorem d5_6 : decode method_3_code 6 = .ok (.lmul, 1) := by decide +kernel
theorem d5_7 : decode method_3_code 7 = .ok (.ldc2_w 7, 3) := by decide +kernel
theorem d5_10 : decode method_3_code 10 = .ok (.land, 1) := by decide +kernel
theorem d5_11 : decode method_3_code 11 = .ok (.lreturn, 1) := by decide +kernel
set_option maxRecDepth 65536 in
set_option maxHeartbeats 4000000 in
theorem ef_5 (m : MethodId) (q0 : Int64) (q1 : Int64) : entryFrame m #[(.long q0), (.long q1)] 4 = mkF m 0 #[.val (.long q0), .second, .val (.long q1), .second] [] := by first | (simp [entryFrame, mkF, argsToLocals, Value.category]; done) | rfl
set_option maxRecDepth 65536 in
set_option maxHeartbeats 40000000 in
theorem rm5 (l : Launch) (Z : State) (aw : Array Value) (hw : ∀ d ∈ tables_1, d.before aw Z = true) {ws : List Jvm.Cond} (q0 : Int64) (q1 : Int64)  (h0 : Heap) (n0 : Nat) (Z0 : n0 ≤ h0.size)  :
    own_Met l Z (⟨"com/example/libloop/libloop/internal/IoRatioTaskTimeNanosPinLaw", "lo", "(JJ)J"⟩ : MethodName) method_3_code 4 (some .long) ws ({ frames := 0, cells := 0, slots := 0, locals := 0 } : Room) #[(.long q0), (.long q1)] h0 (own_Pq (some (.long (own_lo q0 q1))) h0) := by
  refine own_body (plainFor_of_name pn_1) ?_
  intro p e s m below meth c s₁ hx hZ hby hml hown hnm hret hlk X0 e0
  replace hown : s.vm.findClass "com/example/libloop/libloop/internal/IoRatioTaskTimeNanosPinLaw" = some m.cls := hown
  replace hml : c.maxLocals = 4 := hml
  obtain ⟨P, hP⟩ : ∃ P, P = own_P below s (own_Pq (some (.long (own_lo q0 q1))) h0) ({ frames := 0, cells := 0, slots := 0, locals := 0 } : Room).cells ({ frames := 0, cells := 0, slots := 0, locals := 0 } : Room).slots := ⟨_, rfl⟩
  rw [← hP]
  refine own_cast (ef_5 m q0 q1) ?_
  refine own_go (T' := s₁) (f' := (mkF m 11 #[.val (.long q0), .second, .val (.long q1), .second] [(.long (((q0 &&& (4294967295 : Int64)) * q1) &&& (4294967295 : Int64)))])) (fun t kt => ?_) ?_
  · show Steps p.tables e below (s₁.setTop (mkF m 0 #[.val (.long q0), .second, .val (.long q1), .second] [])) t
    refine XS.lloadN X0.here hx rfl (hb hby d5_0) rfl ?_
    show Steps p.tables e below (s₁.setTop (mkF m 1 #[.val (.long q0), .second, .val (.long q1), .second] [(.long q0)])) t
    refine X0.ldc2Long hx hown (mvT hZ (hw _ (List.mem_of_getElem? (i := 17) rfl))) (g := (mkF m 1 #[.val (.long q0), .second, .val (.long q1), .second] [(.long q0)])) rfl (hb hby d5_1) _ ?_
    show Steps p.tables e below (s₁.setTop (mkF m 4 #[.val (.long q0), .second, .val (.long q1), .second] [(.long (4294967295 : Int64)), (.long q0)])) t
    refine XS.land X0.here hx rfl (hb hby d5_4) rfl ?_
    show Steps p.tables e below (s₁.setTop (mkF m 5 #[.val (.long q0), .second, .val (.long q1), .second] [(.long (q0 &&& (4294967295 : Int64)))])) t
    refine XS.lloadN X0.here hx rfl (hb hby d5_5) rfl ?_
    show Steps p.tables e below (s₁.setTop (mkF m 6 #[.val (.long q0), .second, .val (.long q1), .second] [(.long q1), (.long (q0 &&& (4294967295 : Int64)))])) t
    refine XS.lmul X0.here hx rfl (hb hby d5_6) rfl ?_
    show Steps p.tables e below (s₁.setTop (mkF m 7 #[.val (.long q0), .second, .val (.long q1), .second] [(.long ((q0 &&& (4294967295 : Int64)) * q1))])) t
    refine X0.ldc2Long hx hown (mvT hZ (hw _ (List.mem_of_getElem? (i := 17) rfl))) (g := (mkF m 7 #[.val (.long q0), .second, .val (.long q1), .second] [(.long ((q0 &&& (4294967295 : Int64)) * q1))])) rfl (hb hby d5_7) _ ?_
    show Steps p.tables e below (s₁.setTop (mkF m 10 #[.val (.long q0), .second, .val (.long q1), .second] [(.long (4294967295 : Int64)), (.long ((q0 &&& (4294967295 : Int64)) * q1))])) t
    refine XS.land X0.here hx rfl (hb hby d5_10) rfl ?_
    show Steps p.tables e below (s₁.setTop (mkF m 11 #[.val (.long q0), .second, .val (.long q1), .second] [(.long (((q0 &&& (4294967295 : Int64)) * q1) &&& (4294967295 : Int64)))])) t
    exact kt
  exact own_retJ X0 hP hx hlk e0 hret (hb hby d5_11) (by decide) (by decide) ⟨rfl, rfl, rfl⟩
theorem pd_1 : parseMethodDescriptor "(JJ)J" = some ⟨[.long, .long], some .long⟩ := by decide +kernel
theorem d3_0 : decode method_4_code 0 = .ok (.lload_n 0, 1) := by decide +kernel
theorem d3_1 : decode method_4_code 1 = .ok (.lload_n 2, 1) := by decide +kernel
theorem d3_2 : decode method_4_code 2 = .ok (.invokestatic 9, 3) := by decide +kernel
theorem d3_5 : decode method_4_code 5 = .ok (.lstore 8, 2) := by decide +kernel
theorem d3_7 : decode method_4_code 7 = .ok (.lload 4, 2) := by decide +kernel
theorem d3_9 : decode method_4_code 9 = .ok (.lload 6, 2) := by decide +kernel
theorem d3_11 : decode method_4_code 11 = .ok (.invokestatic 9, 3) := by decide +kernel
theorem d3_14 : decode method_4_code 14 = .ok (.lstore 10, 2) := by decide +kernel
theorem d3_16 : decode method_4_code 16 = .ok (.lload 8, 2) := by decide +kernel
theorem d3_18 : decode method_4_code 18 = .ok (.lload 10, 2) := by decide +kernel
theorem d3_20 : decode method_4_code 20 = .ok (.lcmp, 1) := by decide +kernel
theorem d3_21 : decode method_4_code 21 = .ok (.ifCond .lt 27, 3) := by decide +kernel
theorem d3_24 : decode method_4_code 24 = .ok (.lload 8, 2) := by decide +kernel
theorem d3_26 : decode method_4_code 26 = .ok (.lload 10, 2) := by decide +kernel
theorem d3_28 : decode method_4_code 28 = .ok (.lcmp, 1) := by decide +kernel
theorem d3_29 : decode method_4_code 29 = .ok (.ifCond .ne 23, 3) := by decide +kernel
theorem d3_32 : decode method_4_code 32 = .ok (.lload_n 0, 1) := by decide +kernel
theorem d3_33 : decode method_4_code 33 = .ok (.lload_n 2, 1) := by decide +kernel
theorem d3_34 : decode method_4_code 34 = .ok (.invokestatic 15, 3) := by decide +kernel
theorem d3_37 : decode method_4_code 37 = .ok (.lload 4, 2) := by decide +kernel
theorem d3_39 : decode method_4_code 39 = .ok (.lload 6, 2) := by decide +kernel
theorem d3_41 : decode method_4_code 41 = .ok (.invokestatic 15, 3) := by decide +kernel
theorem d3_44 : decode method_4_code 44 = .ok (.lcmp, 1) := by decide +kernel
theorem d3_45 : decode method_4_code 45 = .ok (.ifCond .gt 7, 3) := by decide +kernel
theorem d3_48 : decode method_4_code 48 = .ok (.iconst 1, 1) := by decide +kernel
theorem d3_49 : decode method_4_code 49 = .ok (.goto 4, 3) := by decide +kernel
theorem d3_52 : decode method_4_code 52 = .ok (.iconst 0, 1) := by decide +kernel
theorem d3_53 : decode method_4_code 53 = .ok (.ireturn, 1) := by decide +kernel
set_option maxRecDepth 65536 in
set_option maxHeartbeats 4000000 in
theorem ef_3 (m : MethodId) (q0 : Int64) (q1 : Int64) (q2 : Int64) (q3 : Int64) : entryFrame m #[(.long q0), (.long q1), (.long q2), (.long q3)] 12 = mkF m 0 #[.val (.long q0), .second, .val (.long q1), .second, .val (.long q2), .second, .val (.long q3), .second, .unset, .unset, .unset, .unset] [] := by first | (simp [entryFrame, mkF, argsToLocals, Value.category]; done) | rfl
set_option maxRecDepth 65536 in
set_option maxHeartbeats 40000000 in
theorem rm3 (l : Launch) (Z : State) (aw : Array Value) (hw : ∀ d ∈ tables_1, d.before aw Z = true) {ws : List Jvm.Cond} (q0 : Int64) (q1 : Int64) (q2 : Int64) (q3 : Int64)  (h0 : Heap) (n0 : Nat) (Z0 : n0 ≤ h0.size) (x0 : 0 ≤ q0.toInt) (s0 : 0 ≤ q1.toInt) (s1 : q1.toInt ≤ 100) (y0 : 0 ≤ q2.toInt) (t0 : 0 ≤ q3.toInt) (t1 : q3.toInt ≤ 100) :
    own_Met l Z (⟨"com/example/libloop/libloop/internal/IoRatioTaskTimeNanosPinLaw", "le", "(JJJJ)Z"⟩ : MethodName) method_4_code 12 (some .boolean) ws ({ frames := 1, cells := 0, slots := 0, locals := 17 } : Room) #[(.long q0), (.long q1), (.long q2), (.long q3)] h0 (own_Pq (some (.int (own_z (q0.toInt * q1.toInt ≤ q2.toInt * q3.toInt)))) h0) := by
  refine own_body (plainFor_of_name pn_1) ?_
  intro p e s m below meth c s₁ hx hZ hby hml hown hnm hret hlk X0 e0
  replace hown : s.vm.findClass "com/example/libloop/libloop/internal/IoRatioTaskTimeNanosPinLaw" = some m.cls := hown
  replace hml : c.maxLocals = 12 := hml
  obtain ⟨P, hP⟩ : ∃ P, P = own_P below s (own_Pq (some (.int (own_z (q0.toInt * q1.toInt ≤ q2.toInt * q3.toInt)))) h0) ({ frames := 1, cells := 0, slots := 0, locals := 17 } : Room).cells ({ frames := 1, cells := 0, slots := 0, locals := 17 } : Room).slots := ⟨_, rfl⟩
  rw [← hP]
  refine own_cast (ef_3 m q0 q1 q2 q3) ?_
  refine own_go (T' := s₁) (f' := (mkF m 2 #[.val (.long q0), .second, .val (.long q1), .second, .val (.long q2), .second, .val (.long q3), .second, .unset, .unset, .unset, .unset] [(.long q1), (.long q0)])) (fun t kt => ?_) ?_
  · show Steps p.tables e below (s₁.setTop (mkF m 0 #[.val (.long q0), .second, .val (.long q1), .second, .val (.long q2), .second, .val (.long q3), .second, .unset, .unset, .unset, .unset] [])) t
    refine XS.lloadN X0.here hx rfl (hb hby d3_0) rfl ?_
    show Steps p.tables e below (s₁.setTop (mkF m 1 #[.val (.long q0), .second, .val (.long q1), .second, .val (.long q2), .second, .val (.long q3), .second, .unset, .unset, .unset, .unset] [(.long q0)])) t
    refine XS.lloadN X0.here hx rfl (hb hby d3_1) rfl ?_
    show Steps p.tables e below (s₁.setTop (mkF m 2 #[.val (.long q0), .second, .val (.long q1), .second, .val (.long q2), .second, .val (.long q3), .second, .unset, .unset, .unset, .unset] [(.long q1), (.long q0)])) t
    exact kt
  refine own_callSp X0 hx hZ hown e0 (hw _ (List.mem_of_getElem? (i := 14) rfl)) (hw _ (List.mem_of_getElem? (i := 15) rfl)) (hw _ (List.mem_of_getElem? (i := 12) rfl)) (hw _ (List.mem_of_getElem? (i := 16) rfl)) (by decide) (rm4 l Z aw hw q0 q1 h0 n0 Z0) (g := (mkF m 2 #[.val (.long q0), .second, .val (.long q1), .second, .val (.long q2), .second, .val (.long q3), .second, .unset, .unset, .unset, .unset] [(.long q1), (.long q0)])) rfl (by rw [hml]; rfl) (argsL := [(.long q0), (.long q1)]) (rest := []) (lenOf pd_1 rfl) rfl rfl (W := 0) (by show 2 * 0 + _ ≤ _; exact Nat.le_of_eq rfl) (hb hby d3_2) (by decide) (by decide) (by decide) (by decide) ?_
  intro T1 X1 e1
  refine own_go (T' := T1) (f' := (mkF m 11 #[.val (.long q0), .second, .val (.long q1), .second, .val (.long q2), .second, .val (.long q3), .second, .val (.long (own_hi q0 q1)), .second, .unset, .unset] [(.long q3), (.long q2)])) (fun t kt => ?_) ?_
  · show Steps p.tables e below (T1.setTop (mkF m 5 #[.val (.long q0), .second, .val (.long q1), .second, .val (.long q2), .second, .val (.long q3), .second, .unset, .unset, .unset, .unset] [(.long (own_hi q0 q1))])) t
    refine XS.lstore X1.here hx rfl (hb hby d3_5) rfl (l' := #[.val (.long q0), .second, .val (.long q1), .second, .val (.long q2), .second, .val (.long q3), .second, .val (.long (own_hi q0 q1)), .second, .unset, .unset]) rfl ?_
    show Steps p.tables e below (T1.setTop (mkF m 7 #[.val (.long q0), .second, .val (.long q1), .second, .val (.long q2), .second, .val (.long q3), .second, .val (.long (own_hi q0 q1)), .second, .unset, .unset] [])) t
    refine XS.lload X1.here hx rfl (hb hby d3_7) rfl ?_
    show Steps p.tables e below (T1.setTop (mkF m 9 #[.val (.long q0), .second, .val (.long q1), .second, .val (.long q2), .second, .val (.long q3), .second, .val (.long (own_hi q0 q1)), .second, .unset, .unset] [(.long q2)])) t
    refine XS.lload X1.here hx rfl (hb hby d3_9) rfl ?_
    show Steps p.tables e below (T1.setTop (mkF m 11 #[.val (.long q0), .second, .val (.long q1), .second, .val (.long q2), .second, .val (.long q3), .second, .val (.long (own_hi q0 q1)), .second, .unset, .unset] [(.long q3), (.long q2)])) t
    exact kt
  refine own_callSp X1 hx hZ hown e1 (hw _ (List.mem_of_getElem? (i := 14) rfl)) (hw _ (List.mem_of_getElem? (i := 15) rfl)) (hw _ (List.mem_of_getElem? (i := 12) rfl)) (hw _ (List.mem_of_getElem? (i := 16) rfl)) (by decide) (rm4 l Z aw hw q2 q3 h0 n0 Z0) (g := (mkF m 11 #[.val (.long q0), .second, .val (.long q1), .second, .val (.long q2), .second, .val (.long q3), .second, .val (.long (own_hi q0 q1)), .second, .unset, .unset] [(.long q3), (.long q2)])) rfl (by rw [hml]; rfl) (argsL := [(.long q2), (.long q3)]) (rest := []) (lenOf pd_1 rfl) rfl rfl (W := 0) (by show 2 * 0 + _ ≤ _; exact Nat.le_of_eq rfl) (hb hby d3_11) (by decide) (by decide) (by decide) (by decide) ?_
  intro T2 X2 e2
  refine own_go (T' := T2) (f' := (mkF m 21 #[.val (.long q0), .second, .val (.long q1), .second, .val (.long q2), .second, .val (.long q3), .second, .val (.long (own_hi q0 q1)), .second, .val (.long (own_hi q2 q3)), .second] [(.int (lcmpW (own_hi q0 q1) (own_hi q2 q3)))])) (fun t kt => ?_) ?_
  · show Steps p.tables e below (T2.setTop (mkF m 14 #[.val (.long q0), .second, .val (.long q1), .second, .val (.long q2), .second, .val (.long q3), .second, .val (.long (own_hi q0 q1)), .second, .unset, .unset] [(.long (own_hi q2 q3))])) t
    refine XS.lstore X2.here hx rfl (hb hby d3_14) rfl (l' := #[.val (.long q0), .second, .val (.long q1), .second, .val (.long q2), .second, .val (.long q3), .second, .val (.long (own_hi q0 q1)), .second, .val (.long (own_hi q2 q3)), .second]) rfl ?_
    show Steps p.tables e below (T2.setTop (mkF m 16 #[.val (.long q0), .second, .val (.long q1), .second, .val (.long q2), .second, .val (.long q3), .second, .val (.long (own_hi q0 q1)), .second, .val (.long (own_hi q2 q3)), .second] [])) t
    refine XS.lload X2.here hx rfl (hb hby d3_16) rfl ?_
    show Steps p.tables e below (T2.setTop (mkF m 18 #[.val (.long q0), .second, .val (.long q1), .second, .val (.long q2), .second, .val (.long q3), .second, .val (.long (own_hi q0 q1)), .second, .val (.long (own_hi q2 q3)), .second] [(.long (own_hi q0 q1))])) t
    refine XS.lload X2.here hx rfl (hb hby d3_18) rfl ?_
    show Steps p.tables e below (T2.setTop (mkF m 20 #[.val (.long q0), .second, .val (.long q1), .second, .val (.long q2), .second, .val (.long q3), .second, .val (.long (own_hi q0 q1)), .second, .val (.long (own_hi q2 q3)), .second] [(.long (own_hi q2 q3)), (.long (own_hi q0 q1))])) t
    refine XS.lcmp X2.here hx rfl (hb hby d3_20) rfl ?_
    show Steps p.tables e below (T2.setTop (mkF m 21 #[.val (.long q0), .second, .val (.long q1), .second, .val (.long q2), .second, .val (.long q3), .second, .val (.long (own_hi q0 q1)), .second, .val (.long (own_hi q2 q3)), .second] [(.int (lcmpW (own_hi q0 q1) (own_hi q2 q3)))])) t
    exact kt
  by_cases hc21_3 : (own_hi q0 q1) < (own_hi q2 q3)
  · refine own_go (T' := T2) (f' := (mkF m 53 #[.val (.long q0), .second, .val (.long q1), .second, .val (.long q2), .second, .val (.long q3), .second, .val (.long (own_hi q0 q1)), .second, .val (.long (own_hi q2 q3)), .second] [(.int (1 : Int32))])) (fun t kt => ?_) ?_
    · show Steps p.tables e below (T2.setTop (mkF m 21 #[.val (.long q0), .second, .val (.long q1), .second, .val (.long q2), .second, .val (.long q3), .second, .val (.long (own_hi q0 q1)), .second, .val (.long (own_hi q2 q3)), .second] [(.int (lcmpW (own_hi q0 q1) (own_hi q2 q3)))])) t
      refine XS.ifYes X2.here hx rfl (pc0 := 21) (pc' := 48) rfl (hb hby d3_21) rfl (own_lY_lt hc21_3) (by decide) (by decide) ?_
      show Steps p.tables e below (T2.setTop (mkF m 48 #[.val (.long q0), .second, .val (.long q1), .second, .val (.long q2), .second, .val (.long q3), .second, .val (.long (own_hi q0 q1)), .second, .val (.long (own_hi q2 q3)), .second] [])) t
      refine XS.iconst X2.here hx rfl (hb hby d3_48) ?_
      show Steps p.tables e below (T2.setTop (mkF m 49 #[.val (.long q0), .second, .val (.long q1), .second, .val (.long q2), .second, .val (.long q3), .second, .val (.long (own_hi q0 q1)), .second, .val (.long (own_hi q2 q3)), .second] [(.int (1 : Int32))])) t
      refine XS.goto X2.here hx rfl (pc0 := 49) (pc' := 53) rfl (hb hby d3_49) (by decide) (by decide) ?_
      show Steps p.tables e below (T2.setTop (mkF m 53 #[.val (.long q0), .second, .val (.long q1), .second, .val (.long q2), .second, .val (.long q3), .second, .val (.long (own_hi q0 q1)), .second, .val (.long (own_hi q2 q3)), .second] [(.int (1 : Int32))])) t
      exact kt
    exact own_retN X2 hP hx hlk e2 (t := .boolean) hret (by simp) (hb hby d3_53) (by decide) (by decide) (z' := (1 : Int32)) (by decide) ⟨(congrArg (fun w => some (Value.int w)) (own_z_t ((own_le x0 s0 s1 y0 t0 t1).1 hc21_3)).symm), rfl, rfl⟩
  · refine own_go (T' := T2) (f' := (mkF m 29 #[.val (.long q0), .second, .val (.long q1), .second, .val (.long q2), .second, .val (.long q3), .second, .val (.long (own_hi q0 q1)), .second, .val (.long (own_hi q2 q3)), .second] [(.int (lcmpW (own_hi q0 q1) (own_hi q2 q3)))])) (fun t kt => ?_) ?_
    · show Steps p.tables e below (T2.setTop (mkF m 21 #[.val (.long q0), .second, .val (.long q1), .second, .val (.long q2), .second, .val (.long q3), .second, .val (.long (own_hi q0 q1)), .second, .val (.long (own_hi q2 q3)), .second] [(.int (lcmpW (own_hi q0 q1) (own_hi q2 q3)))])) t
      refine XS.ifNo X2.here hx rfl (hb hby d3_21) rfl (own_lN_lt hc21_3) ?_
      show Steps p.tables e below (T2.setTop (mkF m 24 #[.val (.long q0), .second, .val (.long q1), .second, .val (.long q2), .second, .val (.long q3), .second, .val (.long (own_hi q0 q1)), .second, .val (.long (own_hi q2 q3)), .second] [])) t
      refine XS.lload X2.here hx rfl (hb hby d3_24) rfl ?_
      show Steps p.tables e below (T2.setTop (mkF m 26 #[.val (.long q0), .second, .val (.long q1), .second, .val (.long q2), .second, .val (.long q3), .second, .val (.long (own_hi q0 q1)), .second, .val (.long (own_hi q2 q3)), .second] [(.long (own_hi q0 q1))])) t
      refine XS.lload X2.here hx rfl (hb hby d3_26) rfl ?_
      show Steps p.tables e below (T2.setTop (mkF m 28 #[.val (.long q0), .second, .val (.long q1), .second, .val (.long q2), .second, .val (.long q3), .second, .val (.long (own_hi q0 q1)), .second, .val (.long (own_hi q2 q3)), .second] [(.long (own_hi q2 q3)), (.long (own_hi q0 q1))])) t
      refine XS.lcmp X2.here hx rfl (hb hby d3_28) rfl ?_
      show Steps p.tables e below (T2.setTop (mkF m 29 #[.val (.long q0), .second, .val (.long q1), .second, .val (.long q2), .second, .val (.long q3), .second, .val (.long (own_hi q0 q1)), .second, .val (.long (own_hi q2 q3)), .second] [(.int (lcmpW (own_hi q0 q1) (own_hi q2 q3)))])) t
      exact kt
    by_cases hc29_4 : (own_hi q0 q1) = (own_hi q2 q3)
    · refine own_go (T' := T2) (f' := (mkF m 34 #[.val (.long q0), .second, .val (.long q1), .second, .val (.long q2), .second, .val (.long q3), .second, .val (.long (own_hi q0 q1)), .second, .val (.long (own_hi q2 q3)), .second] [(.long q1), (.long q0)])) (fun t kt => ?_) ?_
      · show Steps p.tables e below (T2.setTop (mkF m 29 #[.val (.long q0), .second, .val (.long q1), .second, .val (.long q2), .second, .val (.long q3), .second, .val (.long (own_hi q0 q1)), .second, .val (.long (own_hi q2 q3)), .second] [(.int (lcmpW (own_hi q0 q1) (own_hi q2 q3)))])) t
        refine XS.ifNo X2.here hx rfl (hb hby d3_29) rfl (own_lN_ne hc29_4) ?_
        show Steps p.tables e below (T2.setTop (mkF m 32 #[.val (.long q0), .second, .val (.long q1), .second, .val (.long q2), .second, .val (.long q3), .second, .val (.long (own_hi q0 q1)), .second, .val (.long (own_hi q2 q3)), .second] [])) t
        refine XS.lloadN X2.here hx rfl (hb hby d3_32) rfl ?_
        show Steps p.tables e below (T2.setTop (mkF m 33 #[.val (.long q0), .second, .val (.long q1), .second, .val (.long q2), .second, .val (.long q3), .second, .val (.long (own_hi q0 q1)), .second, .val (.long (own_hi q2 q3)), .second] [(.long q0)])) t
        refine XS.lloadN X2.here hx rfl (hb hby d3_33) rfl ?_
        show Steps p.tables e below (T2.setTop (mkF m 34 #[.val (.long q0), .second, .val (.long q1), .second, .val (.long q2), .second, .val (.long q3), .second, .val (.long (own_hi q0 q1)), .second, .val (.long (own_hi q2 q3)), .second] [(.long q1), (.long q0)])) t
        exact kt
      refine own_callSp X2 hx hZ hown e2 (hw _ (List.mem_of_getElem? (i := 18) rfl)) (hw _ (List.mem_of_getElem? (i := 19) rfl)) (hw _ (List.mem_of_getElem? (i := 12) rfl)) (hw _ (List.mem_of_getElem? (i := 20) rfl)) (by decide) (rm5 l Z aw hw q0 q1 h0 n0 Z0) (g := (mkF m 34 #[.val (.long q0), .second, .val (.long q1), .second, .val (.long q2), .second, .val (.long q3), .second, .val (.long (own_hi q0 q1)), .second, .val (.long (own_hi q2 q3)), .second] [(.long q1), (.long q0)])) rfl (by rw [hml]; rfl) (argsL := [(.long q0), (.long q1)]) (rest := []) (lenOf pd_1 rfl) rfl rfl (W := 0) (by show 2 * 0 + _ ≤ _; exact Nat.le_of_eq rfl) (hb hby d3_34) (by decide) (by decide) (by decide) (by decide) ?_
      intro T5 X5 e5
      refine own_go (T' := T5) (f' := (mkF m 41 #[.val (.long q0), .second, .val (.long q1), .second, .val (.long q2), .second, .val (.long q3), .second, .val (.long (own_hi q0 q1)), .second, .val (.long (own_hi q2 q3)), .second] [(.long q3), (.long q2), (.long (own_lo q0 q1))])) (fun t kt => ?_) ?_
      · show Steps p.tables e below (T5.setTop (mkF m 37 #[.val (.long q0), .second, .val (.long q1), .second, .val (.long q2), .second, .val (.long q3), .second, .val (.long (own_hi q0 q1)), .second, .val (.long (own_hi q2 q3)), .second] [(.long (own_lo q0 q1))])) t
        refine XS.lload X5.here hx rfl (hb hby d3_37) rfl ?_
        show Steps p.tables e below (T5.setTop (mkF m 39 #[.val (.long q0), .second, .val (.long q1), .second, .val (.long q2), .second, .val (.long q3), .second, .val (.long (own_hi q0 q1)), .second, .val (.long (own_hi q2 q3)), .second] [(.long q2), (.long (own_lo q0 q1))])) t
        refine XS.lload X5.here hx rfl (hb hby d3_39) rfl ?_
        show Steps p.tables e below (T5.setTop (mkF m 41 #[.val (.long q0), .second, .val (.long q1), .second, .val (.long q2), .second, .val (.long q3), .second, .val (.long (own_hi q0 q1)), .second, .val (.long (own_hi q2 q3)), .second] [(.long q3), (.long q2), (.long (own_lo q0 q1))])) t
        exact kt
      refine own_callSp X5 hx hZ hown e5 (hw _ (List.mem_of_getElem? (i := 18) rfl)) (hw _ (List.mem_of_getElem? (i := 19) rfl)) (hw _ (List.mem_of_getElem? (i := 12) rfl)) (hw _ (List.mem_of_getElem? (i := 20) rfl)) (by decide) (rm5 l Z aw hw q2 q3 h0 n0 Z0) (g := (mkF m 41 #[.val (.long q0), .second, .val (.long q1), .second, .val (.long q2), .second, .val (.long q3), .second, .val (.long (own_hi q0 q1)), .second, .val (.long (own_hi q2 q3)), .second] [(.long q3), (.long q2), (.long (own_lo q0 q1))])) rfl (by rw [hml]; rfl) (argsL := [(.long q2), (.long q3)]) (rest := [(.long (own_lo q0 q1))]) (lenOf pd_1 rfl) rfl rfl (W := 2) (by show 2 * 0 + _ ≤ _; exact Nat.le_of_eq rfl) (hb hby d3_41) (by decide) (by decide) (by decide) (by decide) ?_
      intro T6 X6 e6
      refine own_go (T' := T6) (f' := (mkF m 45 #[.val (.long q0), .second, .val (.long q1), .second, .val (.long q2), .second, .val (.long q3), .second, .val (.long (own_hi q0 q1)), .second, .val (.long (own_hi q2 q3)), .second] [(.int (lcmpW (own_lo q0 q1) (own_lo q2 q3)))])) (fun t kt => ?_) ?_
      · show Steps p.tables e below (T6.setTop (mkF m 44 #[.val (.long q0), .second, .val (.long q1), .second, .val (.long q2), .second, .val (.long q3), .second, .val (.long (own_hi q0 q1)), .second, .val (.long (own_hi q2 q3)), .second] [(.long (own_lo q2 q3)), (.long (own_lo q0 q1))])) t
        refine XS.lcmp X6.here hx rfl (hb hby d3_44) rfl ?_
        show Steps p.tables e below (T6.setTop (mkF m 45 #[.val (.long q0), .second, .val (.long q1), .second, .val (.long q2), .second, .val (.long q3), .second, .val (.long (own_hi q0 q1)), .second, .val (.long (own_hi q2 q3)), .second] [(.int (lcmpW (own_lo q0 q1) (own_lo q2 q3)))])) t
        exact kt
      by_cases hc45_7 : (own_lo q2 q3) < (own_lo q0 q1)
      · refine own_go (T' := T6) (f' := (mkF m 53 #[.val (.long q0), .second, .val (.long q1), .second, .val (.long q2), .second, .val (.long q3), .second, .val (.long (own_hi q0 q1)), .second, .val (.long (own_hi q2 q3)), .second] [(.int (0 : Int32))])) (fun t kt => ?_) ?_
        · show Steps p.tables e below (T6.setTop (mkF m 45 #[.val (.long q0), .second, .val (.long q1), .second, .val (.long q2), .second, .val (.long q3), .second, .val (.long (own_hi q0 q1)), .second, .val (.long (own_hi q2 q3)), .second] [(.int (lcmpW (own_lo q0 q1) (own_lo q2 q3)))])) t
          refine XS.ifYes X6.here hx rfl (pc0 := 45) (pc' := 52) rfl (hb hby d3_45) rfl (own_lY_gt hc45_7) (by decide) (by decide) ?_
          show Steps p.tables e below (T6.setTop (mkF m 52 #[.val (.long q0), .second, .val (.long q1), .second, .val (.long q2), .second, .val (.long q3), .second, .val (.long (own_hi q0 q1)), .second, .val (.long (own_hi q2 q3)), .second] [])) t
          refine XS.iconst X6.here hx rfl (hb hby d3_52) ?_
          show Steps p.tables e below (T6.setTop (mkF m 53 #[.val (.long q0), .second, .val (.long q1), .second, .val (.long q2), .second, .val (.long q3), .second, .val (.long (own_hi q0 q1)), .second, .val (.long (own_hi q2 q3)), .second] [(.int (0 : Int32))])) t
          exact kt
        exact own_retN X6 hP hx hlk e6 (t := .boolean) hret (by simp) (hb hby d3_53) (by decide) (by decide) (z' := (0 : Int32)) (by decide) ⟨(congrArg (fun w => some (Value.int w)) (own_z_f ((own_le x0 s0 s1 y0 t0 t1).2.2.1 hc29_4 hc45_7)).symm), rfl, rfl⟩
      · refine own_go (T' := T6) (f' := (mkF m 53 #[.val (.long q0), .second, .val (.long q1), .second, .val (.long q2), .second, .val (.long q3), .second, .val (.long (own_hi q0 q1)), .second, .val (.long (own_hi q2 q3)), .second] [(.int (1 : Int32))])) (fun t kt => ?_) ?_
        · show Steps p.tables e below (T6.setTop (mkF m 45 #[.val (.long q0), .second, .val (.long q1), .second, .val (.long q2), .second, .val (.long q3), .second, .val (.long (own_hi q0 q1)), .second, .val (.long (own_hi q2 q3)), .second] [(.int (lcmpW (own_lo q0 q1) (own_lo q2 q3)))])) t
          refine XS.ifNo X6.here hx rfl (hb hby d3_45) rfl (own_lN_gt hc45_7) ?_
          show Steps p.tables e below (T6.setTop (mkF m 48 #[.val (.long q0), .second, .val (.long q1), .second, .val (.long q2), .second, .val (.long q3), .second, .val (.long (own_hi q0 q1)), .second, .val (.long (own_hi q2 q3)), .second] [])) t
          refine XS.iconst X6.here hx rfl (hb hby d3_48) ?_
          show Steps p.tables e below (T6.setTop (mkF m 49 #[.val (.long q0), .second, .val (.long q1), .second, .val (.long q2), .second, .val (.long q3), .second, .val (.long (own_hi q0 q1)), .second, .val (.long (own_hi q2 q3)), .second] [(.int (1 : Int32))])) t
          refine XS.goto X6.here hx rfl (pc0 := 49) (pc' := 53) rfl (hb hby d3_49) (by decide) (by decide) ?_
          show Steps p.tables e below (T6.setTop (mkF m 53 #[.val (.long q0), .second, .val (.long q1), .second, .val (.long q2), .second, .val (.long q3), .second, .val (.long (own_hi q0 q1)), .second, .val (.long (own_hi q2 q3)), .second] [(.int (1 : Int32))])) t
          exact kt
        exact own_retN X6 hP hx hlk e6 (t := .boolean) hret (by simp) (hb hby d3_53) (by decide) (by decide) (z' := (1 : Int32)) (by decide) ⟨(congrArg (fun w => some (Value.int w)) (own_z_t ((own_le x0 s0 s1 y0 t0 t1).2.2.2 hc29_4 hc45_7)).symm), rfl, rfl⟩
    · refine own_go (T' := T2) (f' := (mkF m 53 #[.val (.long q0), .second, .val (.long q1), .second, .val (.long q2), .second, .val (.long q3), .second, .val (.long (own_hi q0 q1)), .second, .val (.long (own_hi q2 q3)), .second] [(.int (0 : Int32))])) (fun t kt => ?_) ?_
      · show Steps p.tables e below (T2.setTop (mkF m 29 #[.val (.long q0), .second, .val (.long q1), .second, .val (.long q2), .second, .val (.long q3), .second, .val (.long (own_hi q0 q1)), .second, .val (.long (own_hi q2 q3)), .second] [(.int (lcmpW (own_hi q0 q1) (own_hi q2 q3)))])) t
        refine XS.ifYes X2.here hx rfl (pc0 := 29) (pc' := 52) rfl (hb hby d3_29) rfl (own_lY_ne hc29_4) (by decide) (by decide) ?_
        show Steps p.tables e below (T2.setTop (mkF m 52 #[.val (.long q0), .second, .val (.long q1), .second, .val (.long q2), .second, .val (.long q3), .second, .val (.long (own_hi q0 q1)), .second, .val (.long (own_hi q2 q3)), .second] [])) t
        refine XS.iconst X2.here hx rfl (hb hby d3_52) ?_
        show Steps p.tables e below (T2.setTop (mkF m 53 #[.val (.long q0), .second, .val (.long q1), .second, .val (.long q2), .second, .val (.long q3), .second, .val (.long (own_hi q0 q1)), .second, .val (.long (own_hi q2 q3)), .second] [(.int (0 : Int32))])) t
        exact kt
      exact own_retN X2 hP hx hlk e2 (t := .boolean) hret (by simp) (hb hby d3_53) (by decide) (by decide) (z' := (0 : Int32)) (by decide) ⟨(congrArg (fun w => some (Value.int w)) (own_z_f ((own_le x0 s0 s1 y0 t0 t1).2.1 hc21_3 hc29_4)).symm), rfl, rfl⟩
theorem pd_2 : parseMethodDescriptor "(JI)J" = some ⟨[.long, .int], some .long⟩ := by decide +kernel
theorem pd_3 : parseMethodDescriptor "(JJJJ)Z" = some ⟨[.long, .long, .long, .long], some .boolean⟩ := by decide +kernel
set_option maxRecDepth 65536 in
set_option maxHeartbeats 4000000 in
theorem ef_0 (m : MethodId) (q0 : Int64) (p1 : Int32) : entryFrame m #[(.long q0), (.int p1)] maxLocals = mkF m 0 #[.val (.long q0), .second, .val (.int p1), .unset, .unset, .unset, .unset, .unset, .unset, .unset] [] := by first | (simp [entryFrame, mkF, argsToLocals, Value.category, maxLocals]; done) | rfl
set_option maxRecDepth 65536 in
set_option maxHeartbeats 40000000 in
theorem rm0 (l : Launch) (Z : State) (aw : Array Value) (hw : ∀ d ∈ tables_1, d.before aw Z = true) {ws : List Jvm.Cond} (q0 : Int64) (p1 : Int32)  (h0 : Heap) (n0 : Nat) (Z0 : n0 ≤ h0.size)  :
    own_Met l Z x code maxLocals ret ws room_1 #[(.long q0), (.int p1)] h0 (fun v h L => v = some (.int 1) ∧ Fr n0 L) := by
  refine own_body (plainFor_of_name pn_1) ?_
  intro p e s m below meth c s₁ hx hZ hby hml hown hnm hret hlk X0 e0
  replace hown : s.vm.findClass "com/example/libloop/libloop/internal/IoRatioTaskTimeNanosPinLaw" = some m.cls := hown
  replace hml : c.maxLocals = 10 := hml
  have N0 := Fr.nil n0
  have K0 := Keep.refl h0 []
  obtain ⟨P, hP⟩ : ∃ P, P = own_P below s (fun v h L => v = some (.int 1) ∧ Fr n0 L) room_1.cells room_1.slots := ⟨_, rfl⟩
  rw [← hP]
  refine own_cast (ef_0 m q0 p1) ?_
  refine own_go (T' := s₁) (f' := (mkF m 5 #[.val (.long q0), .second, .val (.int p1), .unset, .unset, .unset, .unset, .unset, .unset, .unset] [(.long (q0 &&& (9223372036854775807 : Int64)))])) (fun t kt => ?_) ?_
  · show Steps p.tables e below (s₁.setTop (mkF m 0 #[.val (.long q0), .second, .val (.int p1), .unset, .unset, .unset, .unset, .unset, .unset, .unset] [])) t
    refine XS.lloadN X0.here hx rfl (hb hby at_0) rfl ?_
    show Steps p.tables e below (s₁.setTop (mkF m 1 #[.val (.long q0), .second, .val (.int p1), .unset, .unset, .unset, .unset, .unset, .unset, .unset] [(.long q0)])) t
    refine X0.ldc2Long hx hown (mvT hZ (hw _ (List.mem_of_getElem? (i := 0) rfl))) (g := (mkF m 1 #[.val (.long q0), .second, .val (.int p1), .unset, .unset, .unset, .unset, .unset, .unset, .unset] [(.long q0)])) rfl (hb hby at_1) _ ?_
    show Steps p.tables e below (s₁.setTop (mkF m 4 #[.val (.long q0), .second, .val (.int p1), .unset, .unset, .unset, .unset, .unset, .unset, .unset] [(.long (9223372036854775807 : Int64)), (.long q0)])) t
    refine XS.land X0.here hx rfl (hb hby at_4) rfl ?_
    show Steps p.tables e below (s₁.setTop (mkF m 5 #[.val (.long q0), .second, .val (.int p1), .unset, .unset, .unset, .unset, .unset, .unset, .unset] [(.long (q0 &&& (9223372036854775807 : Int64)))])) t
    exact kt
  obtain ⟨io, hio⟩ : ∃ z, z = (q0 &&& (9223372036854775807 : Int64)) := ⟨_, rfl⟩
  rw [← hio]
  refine own_go (T' := s₁) (f' := (mkF m 15 #[.val (.long q0), .second, .val (.int p1), .val (.long io), .second, .unset, .unset, .unset, .unset, .unset] [(.int (((p1 &&& (2147483647 : Int32)) % (100 : Int32)) + (1 : Int32)))])) (fun t kt => ?_) ?_
  · show Steps p.tables e below (s₁.setTop (mkF m 5 #[.val (.long q0), .second, .val (.int p1), .unset, .unset, .unset, .unset, .unset, .unset, .unset] [(.long io)])) t
    refine XS.lstoreN X0.here hx rfl (hb hby at_5) rfl (l' := #[.val (.long q0), .second, .val (.int p1), .val (.long io), .second, .unset, .unset, .unset, .unset, .unset]) rfl ?_
    show Steps p.tables e below (s₁.setTop (mkF m 6 #[.val (.long q0), .second, .val (.int p1), .val (.long io), .second, .unset, .unset, .unset, .unset, .unset] [])) t
    refine XS.iloadN X0.here hx rfl (hb hby at_6) rfl ?_
    show Steps p.tables e below (s₁.setTop (mkF m 7 #[.val (.long q0), .second, .val (.int p1), .val (.long io), .second, .unset, .unset, .unset, .unset, .unset] [(.int p1)])) t
    refine X0.ldcInt hx hown (mvT hZ (hw _ (List.mem_of_getElem? (i := 1) rfl))) (g := (mkF m 7 #[.val (.long q0), .second, .val (.int p1), .val (.long io), .second, .unset, .unset, .unset, .unset, .unset] [(.int p1)])) rfl (hb hby at_7) _ ?_
    show Steps p.tables e below (s₁.setTop (mkF m 9 #[.val (.long q0), .second, .val (.int p1), .val (.long io), .second, .unset, .unset, .unset, .unset, .unset] [(.int (2147483647 : Int32)), (.int p1)])) t
    refine XS.iand X0.here hx rfl (hb hby at_9) rfl ?_
    show Steps p.tables e below (s₁.setTop (mkF m 10 #[.val (.long q0), .second, .val (.int p1), .val (.long io), .second, .unset, .unset, .unset, .unset, .unset] [(.int (p1 &&& (2147483647 : Int32)))])) t
    refine XS.bipush X0.here hx rfl (hb hby at_10) ?_
    show Steps p.tables e below (s₁.setTop (mkF m 12 #[.val (.long q0), .second, .val (.int p1), .val (.long io), .second, .unset, .unset, .unset, .unset, .unset] [(.int (100 : Int32)), (.int (p1 &&& (2147483647 : Int32)))])) t
    refine iremM X0 hx rfl (hb hby at_12) rfl (by decide) ?_
    show Steps p.tables e below (s₁.setTop (mkF m 13 #[.val (.long q0), .second, .val (.int p1), .val (.long io), .second, .unset, .unset, .unset, .unset, .unset] [(.int ((p1 &&& (2147483647 : Int32)) % (100 : Int32)))])) t
    refine XS.iconst X0.here hx rfl (hb hby at_13) ?_
    show Steps p.tables e below (s₁.setTop (mkF m 14 #[.val (.long q0), .second, .val (.int p1), .val (.long io), .second, .unset, .unset, .unset, .unset, .unset] [(.int (1 : Int32)), (.int ((p1 &&& (2147483647 : Int32)) % (100 : Int32)))])) t
    refine XS.iadd X0.here hx rfl (hb hby at_14) rfl ?_
    show Steps p.tables e below (s₁.setTop (mkF m 15 #[.val (.long q0), .second, .val (.int p1), .val (.long io), .second, .unset, .unset, .unset, .unset, .unset] [(.int (((p1 &&& (2147483647 : Int32)) % (100 : Int32)) + (1 : Int32)))])) t
    exact kt
  obtain ⟨rr, hrr⟩ : ∃ z, z = (((p1 &&& (2147483647 : Int32)) % (100 : Int32)) + (1 : Int32)) := ⟨_, rfl⟩
  rw [← hrr]
  refine own_go (T' := s₁) (f' := (mkF m 20 #[.val (.long q0), .second, .val (.int p1), .val (.long io), .second, .val (.int rr), .unset, .unset, .unset, .unset] [(.int rr), (.long io)])) (fun t kt => ?_) ?_
  · show Steps p.tables e below (s₁.setTop (mkF m 15 #[.val (.long q0), .second, .val (.int p1), .val (.long io), .second, .unset, .unset, .unset, .unset, .unset] [(.int rr)])) t
    refine XS.istore X0.here hx rfl (hb hby at_15) rfl (l' := #[.val (.long q0), .second, .val (.int p1), .val (.long io), .second, .val (.int rr), .unset, .unset, .unset, .unset]) rfl ?_
    show Steps p.tables e below (s₁.setTop (mkF m 17 #[.val (.long q0), .second, .val (.int p1), .val (.long io), .second, .val (.int rr), .unset, .unset, .unset, .unset] [])) t
    refine XS.lloadN X0.here hx rfl (hb hby at_17) rfl ?_
    show Steps p.tables e below (s₁.setTop (mkF m 18 #[.val (.long q0), .second, .val (.int p1), .val (.long io), .second, .val (.int rr), .unset, .unset, .unset, .unset] [(.long io)])) t
    refine XS.iload X0.here hx rfl (hb hby at_18) rfl ?_
    show Steps p.tables e below (s₁.setTop (mkF m 20 #[.val (.long q0), .second, .val (.int p1), .val (.long io), .second, .val (.int rr), .unset, .unset, .unset, .unset] [(.int rr), (.long io)])) t
    exact kt
  refine own_callSp X0 hx hZ hown e0 (hw _ (List.mem_of_getElem? (i := 2) rfl)) (hw _ (List.mem_of_getElem? (i := 3) rfl)) (hw _ (List.mem_of_getElem? (i := 4) rfl)) (hw _ (List.mem_of_getElem? (i := 5) rfl)) (by decide) (rm1 l Z aw hw io rr h0 n0 Z0 (own_nn (own_io hio)) (own_r hrr).1 (own_r hrr).2) (g := (mkF m 20 #[.val (.long q0), .second, .val (.int p1), .val (.long io), .second, .val (.int rr), .unset, .unset, .unset, .unset] [(.int rr), (.long io)])) rfl (by rw [hml]; rfl) (argsL := [(.long io), (.int rr)]) (rest := []) (lenOf pd_2 rfl) rfl rfl (W := 0) (by show 2 * 0 + _ ≤ _; exact Nat.le_of_eq rfl) (hb hby at_20) (by decide) (by decide) (by decide) (by decide) ?_
  intro T1 X1 e1
  obtain ⟨tt, htt⟩ : ∃ z, z = (own_T io rr) := ⟨_, rfl⟩
  rw [← htt]
  refine own_go (T' := T1) (f' := (mkF m 29 #[.val (.long q0), .second, .val (.int p1), .val (.long io), .second, .val (.int rr), .val (.long tt), .second, .unset, .unset] [(.int (100 : Int32)), (.int rr)])) (fun t kt => ?_) ?_
  · show Steps p.tables e below (T1.setTop (mkF m 23 #[.val (.long q0), .second, .val (.int p1), .val (.long io), .second, .val (.int rr), .unset, .unset, .unset, .unset] [(.long tt)])) t
    refine XS.lstore X1.here hx rfl (hb hby at_23) rfl (l' := #[.val (.long q0), .second, .val (.int p1), .val (.long io), .second, .val (.int rr), .val (.long tt), .second, .unset, .unset]) rfl ?_
    show Steps p.tables e below (T1.setTop (mkF m 25 #[.val (.long q0), .second, .val (.int p1), .val (.long io), .second, .val (.int rr), .val (.long tt), .second, .unset, .unset] [])) t
    refine XS.iload X1.here hx rfl (hb hby at_25) rfl ?_
    show Steps p.tables e below (T1.setTop (mkF m 27 #[.val (.long q0), .second, .val (.int p1), .val (.long io), .second, .val (.int rr), .val (.long tt), .second, .unset, .unset] [(.int rr)])) t
    refine XS.bipush X1.here hx rfl (hb hby at_27) ?_
    show Steps p.tables e below (T1.setTop (mkF m 29 #[.val (.long q0), .second, .val (.int p1), .val (.long io), .second, .val (.int rr), .val (.long tt), .second, .unset, .unset] [(.int (100 : Int32)), (.int rr)])) t
    exact kt
  by_cases hc29_2 : rr = (100 : Int32)
  · refine own_go (T' := T1) (f' := (mkF m 46 #[.val (.long q0), .second, .val (.int p1), .val (.long io), .second, .val (.int rr), .val (.long tt), .second, .unset, .unset] [(.int (1 : Int32))])) (fun t kt => ?_) ?_
    · show Steps p.tables e below (T1.setTop (mkF m 29 #[.val (.long q0), .second, .val (.int p1), .val (.long io), .second, .val (.int rr), .val (.long tt), .second, .unset, .unset] [(.int (100 : Int32)), (.int rr)])) t
      refine XS.icmpNo X1.here hx rfl (hb hby at_29) rfl (teq hc29_2).2 ?_
      show Steps p.tables e below (T1.setTop (mkF m 32 #[.val (.long q0), .second, .val (.int p1), .val (.long io), .second, .val (.int rr), .val (.long tt), .second, .unset, .unset] [])) t
      refine XS.lload X1.here hx rfl (hb hby at_32) rfl ?_
      show Steps p.tables e below (T1.setTop (mkF m 34 #[.val (.long q0), .second, .val (.int p1), .val (.long io), .second, .val (.int rr), .val (.long tt), .second, .unset, .unset] [(.long tt)])) t
      refine X1.ldc2Long hx hown (mvT hZ (hw _ (List.mem_of_getElem? (i := 0) rfl))) (g := (mkF m 34 #[.val (.long q0), .second, .val (.int p1), .val (.long io), .second, .val (.int rr), .val (.long tt), .second, .unset, .unset] [(.long tt)])) rfl (hb hby at_34) _ ?_
      show Steps p.tables e below (T1.setTop (mkF m 37 #[.val (.long q0), .second, .val (.int p1), .val (.long io), .second, .val (.int rr), .val (.long tt), .second, .unset, .unset] [(.long (9223372036854775807 : Int64)), (.long tt)])) t
      refine XS.lcmp X1.here hx rfl (hb hby at_37) rfl ?_
      show Steps p.tables e below (T1.setTop (mkF m 38 #[.val (.long q0), .second, .val (.int p1), .val (.long io), .second, .val (.int rr), .val (.long tt), .second, .unset, .unset] [(.int (lcmpW tt (9223372036854775807 : Int64)))])) t
      refine XS.ifNo X1.here hx rfl (hb hby at_38) rfl (own_lN_ne (show tt = (9223372036854775807 : Int64) from htt.trans (by rw [own_T, if_pos hc29_2]))) ?_
      show Steps p.tables e below (T1.setTop (mkF m 41 #[.val (.long q0), .second, .val (.int p1), .val (.long io), .second, .val (.int rr), .val (.long tt), .second, .unset, .unset] [])) t
      refine XS.iconst X1.here hx rfl (hb hby at_41) ?_
      show Steps p.tables e below (T1.setTop (mkF m 42 #[.val (.long q0), .second, .val (.int p1), .val (.long io), .second, .val (.int rr), .val (.long tt), .second, .unset, .unset] [(.int (1 : Int32))])) t
      refine XS.goto X1.here hx rfl (pc0 := 42) (pc' := 46) rfl (hb hby at_42) (by decide) (by decide) ?_
      show Steps p.tables e below (T1.setTop (mkF m 46 #[.val (.long q0), .second, .val (.int p1), .val (.long io), .second, .val (.int rr), .val (.long tt), .second, .unset, .unset] [(.int (1 : Int32))])) t
      exact kt
    exact own_retN X1 hP hx hlk e1 (t := .boolean) hret (by simp) (hb hby at_46) (by decide) (by decide) (z' := (1 : Int32)) rfl ⟨rfl, N0⟩
  · refine own_go (T' := T1) (f' := (mkF m 53 #[.val (.long q0), .second, .val (.int p1), .val (.long io), .second, .val (.int rr), .val (.long tt), .second, .unset, .unset] [(.long (((100 : Int32) - rr).toInt64))])) (fun t kt => ?_) ?_
    · show Steps p.tables e below (T1.setTop (mkF m 29 #[.val (.long q0), .second, .val (.int p1), .val (.long io), .second, .val (.int rr), .val (.long tt), .second, .unset, .unset] [(.int (100 : Int32)), (.int rr)])) t
      refine XS.icmpYes X1.here hx rfl (pc0 := 29) (pc' := 47) rfl (hb hby at_29) rfl (feq hc29_2).2 (by decide) (by decide) ?_
      show Steps p.tables e below (T1.setTop (mkF m 47 #[.val (.long q0), .second, .val (.int p1), .val (.long io), .second, .val (.int rr), .val (.long tt), .second, .unset, .unset] [])) t
      refine XS.bipush X1.here hx rfl (hb hby at_47) ?_
      show Steps p.tables e below (T1.setTop (mkF m 49 #[.val (.long q0), .second, .val (.int p1), .val (.long io), .second, .val (.int rr), .val (.long tt), .second, .unset, .unset] [(.int (100 : Int32))])) t
      refine XS.iload X1.here hx rfl (hb hby at_49) rfl ?_
      show Steps p.tables e below (T1.setTop (mkF m 51 #[.val (.long q0), .second, .val (.int p1), .val (.long io), .second, .val (.int rr), .val (.long tt), .second, .unset, .unset] [(.int rr), (.int (100 : Int32))])) t
      refine XS.isub X1.here hx rfl (hb hby at_51) rfl ?_
      show Steps p.tables e below (T1.setTop (mkF m 52 #[.val (.long q0), .second, .val (.int p1), .val (.long io), .second, .val (.int rr), .val (.long tt), .second, .unset, .unset] [(.int ((100 : Int32) - rr))])) t
      refine XS.i2l X1.here hx rfl (hb hby at_52) rfl ?_
      show Steps p.tables e below (T1.setTop (mkF m 53 #[.val (.long q0), .second, .val (.int p1), .val (.long io), .second, .val (.int rr), .val (.long tt), .second, .unset, .unset] [(.long (((100 : Int32) - rr).toInt64))])) t
      exact kt
    obtain ⟨ss, hss⟩ : ∃ z, z = (((100 : Int32) - rr).toInt64) := ⟨_, rfl⟩
    rw [← hss]
    refine own_go (T' := T1) (f' := (mkF m 61 #[.val (.long q0), .second, .val (.int p1), .val (.long io), .second, .val (.int rr), .val (.long tt), .second, .val (.long ss), .second] [(.int (lcmpW tt (9223372036854775807 : Int64)))])) (fun t kt => ?_) ?_
    · show Steps p.tables e below (T1.setTop (mkF m 53 #[.val (.long q0), .second, .val (.int p1), .val (.long io), .second, .val (.int rr), .val (.long tt), .second, .unset, .unset] [(.long ss)])) t
      refine XS.lstore X1.here hx rfl (hb hby at_53) rfl (l' := #[.val (.long q0), .second, .val (.int p1), .val (.long io), .second, .val (.int rr), .val (.long tt), .second, .val (.long ss), .second]) rfl ?_
      show Steps p.tables e below (T1.setTop (mkF m 55 #[.val (.long q0), .second, .val (.int p1), .val (.long io), .second, .val (.int rr), .val (.long tt), .second, .val (.long ss), .second] [])) t
      refine XS.lload X1.here hx rfl (hb hby at_55) rfl ?_
      show Steps p.tables e below (T1.setTop (mkF m 57 #[.val (.long q0), .second, .val (.int p1), .val (.long io), .second, .val (.int rr), .val (.long tt), .second, .val (.long ss), .second] [(.long tt)])) t
      refine X1.ldc2Long hx hown (mvT hZ (hw _ (List.mem_of_getElem? (i := 0) rfl))) (g := (mkF m 57 #[.val (.long q0), .second, .val (.int p1), .val (.long io), .second, .val (.int rr), .val (.long tt), .second, .val (.long ss), .second] [(.long tt)])) rfl (hb hby at_57) _ ?_
      show Steps p.tables e below (T1.setTop (mkF m 60 #[.val (.long q0), .second, .val (.int p1), .val (.long io), .second, .val (.int rr), .val (.long tt), .second, .val (.long ss), .second] [(.long (9223372036854775807 : Int64)), (.long tt)])) t
      refine XS.lcmp X1.here hx rfl (hb hby at_60) rfl ?_
      show Steps p.tables e below (T1.setTop (mkF m 61 #[.val (.long q0), .second, .val (.int p1), .val (.long io), .second, .val (.int rr), .val (.long tt), .second, .val (.long ss), .second] [(.int (lcmpW tt (9223372036854775807 : Int64)))])) t
      exact kt
    by_cases hc61_3 : tt = (9223372036854775807 : Int64)
    · refine own_go (T' := T1) (f' := (mkF m 73 #[.val (.long q0), .second, .val (.int p1), .val (.long io), .second, .val (.int rr), .val (.long tt), .second, .val (.long ss), .second] [(.long ss), (.long io), (.long (rr.toInt64)), (.long (9223372036854775807 : Int64))])) (fun t kt => ?_) ?_
      · show Steps p.tables e below (T1.setTop (mkF m 61 #[.val (.long q0), .second, .val (.int p1), .val (.long io), .second, .val (.int rr), .val (.long tt), .second, .val (.long ss), .second] [(.int (lcmpW tt (9223372036854775807 : Int64)))])) t
        refine XS.ifNo X1.here hx rfl (hb hby at_61) rfl (own_lN_ne hc61_3) ?_
        show Steps p.tables e below (T1.setTop (mkF m 64 #[.val (.long q0), .second, .val (.int p1), .val (.long io), .second, .val (.int rr), .val (.long tt), .second, .val (.long ss), .second] [])) t
        refine X1.ldc2Long hx hown (mvT hZ (hw _ (List.mem_of_getElem? (i := 0) rfl))) (g := (mkF m 64 #[.val (.long q0), .second, .val (.int p1), .val (.long io), .second, .val (.int rr), .val (.long tt), .second, .val (.long ss), .second] [])) rfl (hb hby at_64) _ ?_
        show Steps p.tables e below (T1.setTop (mkF m 67 #[.val (.long q0), .second, .val (.int p1), .val (.long io), .second, .val (.int rr), .val (.long tt), .second, .val (.long ss), .second] [(.long (9223372036854775807 : Int64))])) t
        refine XS.iload X1.here hx rfl (hb hby at_67) rfl ?_
        show Steps p.tables e below (T1.setTop (mkF m 69 #[.val (.long q0), .second, .val (.int p1), .val (.long io), .second, .val (.int rr), .val (.long tt), .second, .val (.long ss), .second] [(.int rr), (.long (9223372036854775807 : Int64))])) t
        refine XS.i2l X1.here hx rfl (hb hby at_69) rfl ?_
        show Steps p.tables e below (T1.setTop (mkF m 70 #[.val (.long q0), .second, .val (.int p1), .val (.long io), .second, .val (.int rr), .val (.long tt), .second, .val (.long ss), .second] [(.long (rr.toInt64)), (.long (9223372036854775807 : Int64))])) t
        refine XS.lloadN X1.here hx rfl (hb hby at_70) rfl ?_
        show Steps p.tables e below (T1.setTop (mkF m 71 #[.val (.long q0), .second, .val (.int p1), .val (.long io), .second, .val (.int rr), .val (.long tt), .second, .val (.long ss), .second] [(.long io), (.long (rr.toInt64)), (.long (9223372036854775807 : Int64))])) t
        refine XS.lload X1.here hx rfl (hb hby at_71) rfl ?_
        show Steps p.tables e below (T1.setTop (mkF m 73 #[.val (.long q0), .second, .val (.int p1), .val (.long io), .second, .val (.int rr), .val (.long tt), .second, .val (.long ss), .second] [(.long ss), (.long io), (.long (rr.toInt64)), (.long (9223372036854775807 : Int64))])) t
        exact kt
      refine own_callSp X1 hx hZ hown e1 (hw _ (List.mem_of_getElem? (i := 10) rfl)) (hw _ (List.mem_of_getElem? (i := 11) rfl)) (hw _ (List.mem_of_getElem? (i := 12) rfl)) (hw _ (List.mem_of_getElem? (i := 13) rfl)) (by decide) (rm3 l Z aw hw (9223372036854775807 : Int64) (rr.toInt64) io ss h0 n0 Z0 (by decide) (Int.le_trans (by decide) (own_ri (own_r hrr).1 (own_r hrr).2).1) (own_ri (own_r hrr).1 (own_r hrr).2).2.1 (own_io hio) (own_all (own_io hio) (own_r hrr).1 (own_r hrr).2 hc29_2 hss htt).1.1 (own_all (own_io hio) (own_r hrr).1 (own_r hrr).2 hc29_2 hss htt).1.2) (g := (mkF m 73 #[.val (.long q0), .second, .val (.int p1), .val (.long io), .second, .val (.int rr), .val (.long tt), .second, .val (.long ss), .second] [(.long ss), (.long io), (.long (rr.toInt64)), (.long (9223372036854775807 : Int64))])) rfl (by rw [hml]; rfl) (argsL := [(.long (9223372036854775807 : Int64)), (.long (rr.toInt64)), (.long io), (.long ss)]) (rest := []) (lenOf pd_3 rfl) rfl rfl (W := 0) (by show 2 * 0 + _ ≤ _; exact Nat.le_of_eq rfl) (hb hby at_73) (by decide) (by decide) (by decide) (by decide) ?_
      intro T4 X4 e4
      exact own_retN X4 hP hx hlk e4 (t := .boolean) hret (by simp) (hb hby at_76) (by decide) (by decide) (z' := (1 : Int32)) (own_z_nar.trans (own_z_t ((own_all (own_io hio) (own_r hrr).1 (own_r hrr).2 hc29_2 hss htt).2.1 hc61_3))) ⟨rfl, N0⟩
    · refine own_go (T' := T1) (f' := (mkF m 92 #[.val (.long q0), .second, .val (.int p1), .val (.long io), .second, .val (.int rr), .val (.long tt), .second, .val (.long ss), .second] [(.long ss), (.long io), (.long (rr.toInt64)), (.long tt)])) (fun t kt => ?_) ?_
      · show Steps p.tables e below (T1.setTop (mkF m 61 #[.val (.long q0), .second, .val (.int p1), .val (.long io), .second, .val (.int rr), .val (.long tt), .second, .val (.long ss), .second] [(.int (lcmpW tt (9223372036854775807 : Int64)))])) t
        refine XS.ifYes X1.here hx rfl (pc0 := 61) (pc' := 77) rfl (hb hby at_61) rfl (own_lY_ne hc61_3) (by decide) (by decide) ?_
        show Steps p.tables e below (T1.setTop (mkF m 77 #[.val (.long q0), .second, .val (.int p1), .val (.long io), .second, .val (.int rr), .val (.long tt), .second, .val (.long ss), .second] [])) t
        refine XS.lload X1.here hx rfl (hb hby at_77) rfl ?_
        show Steps p.tables e below (T1.setTop (mkF m 79 #[.val (.long q0), .second, .val (.int p1), .val (.long io), .second, .val (.int rr), .val (.long tt), .second, .val (.long ss), .second] [(.long tt)])) t
        refine XS.lconst X1.here hx rfl (hb hby at_79) ?_
        show Steps p.tables e below (T1.setTop (mkF m 80 #[.val (.long q0), .second, .val (.int p1), .val (.long io), .second, .val (.int rr), .val (.long tt), .second, .val (.long ss), .second] [(.long (0 : Int64)), (.long tt)])) t
        refine XS.lcmp X1.here hx rfl (hb hby at_80) rfl ?_
        show Steps p.tables e below (T1.setTop (mkF m 81 #[.val (.long q0), .second, .val (.int p1), .val (.long io), .second, .val (.int rr), .val (.long tt), .second, .val (.long ss), .second] [(.int (lcmpW tt (0 : Int64)))])) t
        refine XS.ifNo X1.here hx rfl (hb hby at_81) rfl (own_lN_lt (show ¬ (tt < (0 : Int64)) from own_nn ((own_all (own_io hio) (own_r hrr).1 (own_r hrr).2 hc29_2 hss htt).2.2 hc61_3).1)) ?_
        show Steps p.tables e below (T1.setTop (mkF m 84 #[.val (.long q0), .second, .val (.int p1), .val (.long io), .second, .val (.int rr), .val (.long tt), .second, .val (.long ss), .second] [])) t
        refine XS.lload X1.here hx rfl (hb hby at_84) rfl ?_
        show Steps p.tables e below (T1.setTop (mkF m 86 #[.val (.long q0), .second, .val (.int p1), .val (.long io), .second, .val (.int rr), .val (.long tt), .second, .val (.long ss), .second] [(.long tt)])) t
        refine XS.iload X1.here hx rfl (hb hby at_86) rfl ?_
        show Steps p.tables e below (T1.setTop (mkF m 88 #[.val (.long q0), .second, .val (.int p1), .val (.long io), .second, .val (.int rr), .val (.long tt), .second, .val (.long ss), .second] [(.int rr), (.long tt)])) t
        refine XS.i2l X1.here hx rfl (hb hby at_88) rfl ?_
        show Steps p.tables e below (T1.setTop (mkF m 89 #[.val (.long q0), .second, .val (.int p1), .val (.long io), .second, .val (.int rr), .val (.long tt), .second, .val (.long ss), .second] [(.long (rr.toInt64)), (.long tt)])) t
        refine XS.lloadN X1.here hx rfl (hb hby at_89) rfl ?_
        show Steps p.tables e below (T1.setTop (mkF m 90 #[.val (.long q0), .second, .val (.int p1), .val (.long io), .second, .val (.int rr), .val (.long tt), .second, .val (.long ss), .second] [(.long io), (.long (rr.toInt64)), (.long tt)])) t
        refine XS.lload X1.here hx rfl (hb hby at_90) rfl ?_
        show Steps p.tables e below (T1.setTop (mkF m 92 #[.val (.long q0), .second, .val (.int p1), .val (.long io), .second, .val (.int rr), .val (.long tt), .second, .val (.long ss), .second] [(.long ss), (.long io), (.long (rr.toInt64)), (.long tt)])) t
        exact kt
      refine own_callSp X1 hx hZ hown e1 (hw _ (List.mem_of_getElem? (i := 10) rfl)) (hw _ (List.mem_of_getElem? (i := 11) rfl)) (hw _ (List.mem_of_getElem? (i := 12) rfl)) (hw _ (List.mem_of_getElem? (i := 13) rfl)) (by decide) (rm3 l Z aw hw tt (rr.toInt64) io ss h0 n0 Z0 ((own_all (own_io hio) (own_r hrr).1 (own_r hrr).2 hc29_2 hss htt).2.2 hc61_3).1 (Int.le_trans (by decide) (own_ri (own_r hrr).1 (own_r hrr).2).1) (own_ri (own_r hrr).1 (own_r hrr).2).2.1 (own_io hio) (own_all (own_io hio) (own_r hrr).1 (own_r hrr).2 hc29_2 hss htt).1.1 (own_all (own_io hio) (own_r hrr).1 (own_r hrr).2 hc29_2 hss htt).1.2) (g := (mkF m 92 #[.val (.long q0), .second, .val (.int p1), .val (.long io), .second, .val (.int rr), .val (.long tt), .second, .val (.long ss), .second] [(.long ss), (.long io), (.long (rr.toInt64)), (.long tt)])) rfl (by rw [hml]; rfl) (argsL := [(.long tt), (.long (rr.toInt64)), (.long io), (.long ss)]) (rest := []) (lenOf pd_3 rfl) rfl rfl (W := 0) (by show 2 * 0 + _ ≤ _; exact Nat.le_of_eq rfl) (hb hby at_92) (by decide) (by decide) (by decide) (by decide) ?_
      intro T5 X5 e5
      refine own_go (T' := T5) (f' := (mkF m 108 #[.val (.long q0), .second, .val (.int p1), .val (.long io), .second, .val (.int rr), .val (.long tt), .second, .val (.long ss), .second] [(.long ss), (.long io), (.long (rr.toInt64)), (.long (tt + (1 : Int64)))])) (fun t kt => ?_) ?_
      · show Steps p.tables e below (T5.setTop (mkF m 95 #[.val (.long q0), .second, .val (.int p1), .val (.long io), .second, .val (.int rr), .val (.long tt), .second, .val (.long ss), .second] [(.int (own_z (tt.toInt * (rr.toInt64).toInt ≤ io.toInt * ss.toInt)))])) t
        refine XS.ifNo X5.here hx rfl (hb hby at_95) rfl (own_zN_eq (show (tt.toInt * (rr.toInt64).toInt ≤ io.toInt * ss.toInt) from ((own_all (own_io hio) (own_r hrr).1 (own_r hrr).2 hc29_2 hss htt).2.2 hc61_3).2.1)) ?_
        show Steps p.tables e below (T5.setTop (mkF m 98 #[.val (.long q0), .second, .val (.int p1), .val (.long io), .second, .val (.int rr), .val (.long tt), .second, .val (.long ss), .second] [])) t
        refine XS.lload X5.here hx rfl (hb hby at_98) rfl ?_
        show Steps p.tables e below (T5.setTop (mkF m 100 #[.val (.long q0), .second, .val (.int p1), .val (.long io), .second, .val (.int rr), .val (.long tt), .second, .val (.long ss), .second] [(.long tt)])) t
        refine XS.lconst X5.here hx rfl (hb hby at_100) ?_
        show Steps p.tables e below (T5.setTop (mkF m 101 #[.val (.long q0), .second, .val (.int p1), .val (.long io), .second, .val (.int rr), .val (.long tt), .second, .val (.long ss), .second] [(.long (1 : Int64)), (.long tt)])) t
        refine XS.ladd X5.here hx rfl (hb hby at_101) rfl ?_
        show Steps p.tables e below (T5.setTop (mkF m 102 #[.val (.long q0), .second, .val (.int p1), .val (.long io), .second, .val (.int rr), .val (.long tt), .second, .val (.long ss), .second] [(.long (tt + (1 : Int64)))])) t
        refine XS.iload X5.here hx rfl (hb hby at_102) rfl ?_
        show Steps p.tables e below (T5.setTop (mkF m 104 #[.val (.long q0), .second, .val (.int p1), .val (.long io), .second, .val (.int rr), .val (.long tt), .second, .val (.long ss), .second] [(.int rr), (.long (tt + (1 : Int64)))])) t
        refine XS.i2l X5.here hx rfl (hb hby at_104) rfl ?_
        show Steps p.tables e below (T5.setTop (mkF m 105 #[.val (.long q0), .second, .val (.int p1), .val (.long io), .second, .val (.int rr), .val (.long tt), .second, .val (.long ss), .second] [(.long (rr.toInt64)), (.long (tt + (1 : Int64)))])) t
        refine XS.lloadN X5.here hx rfl (hb hby at_105) rfl ?_
        show Steps p.tables e below (T5.setTop (mkF m 106 #[.val (.long q0), .second, .val (.int p1), .val (.long io), .second, .val (.int rr), .val (.long tt), .second, .val (.long ss), .second] [(.long io), (.long (rr.toInt64)), (.long (tt + (1 : Int64)))])) t
        refine XS.lload X5.here hx rfl (hb hby at_106) rfl ?_
        show Steps p.tables e below (T5.setTop (mkF m 108 #[.val (.long q0), .second, .val (.int p1), .val (.long io), .second, .val (.int rr), .val (.long tt), .second, .val (.long ss), .second] [(.long ss), (.long io), (.long (rr.toInt64)), (.long (tt + (1 : Int64)))])) t
        exact kt
      refine own_callSp X5 hx hZ hown e5 (hw _ (List.mem_of_getElem? (i := 10) rfl)) (hw _ (List.mem_of_getElem? (i := 11) rfl)) (hw _ (List.mem_of_getElem? (i := 12) rfl)) (hw _ (List.mem_of_getElem? (i := 13) rfl)) (by decide) (rm3 l Z aw hw (tt + (1 : Int64)) (rr.toInt64) io ss h0 n0 Z0 ((own_all (own_io hio) (own_r hrr).1 (own_r hrr).2 hc29_2 hss htt).2.2 hc61_3).2.2.1 (Int.le_trans (by decide) (own_ri (own_r hrr).1 (own_r hrr).2).1) (own_ri (own_r hrr).1 (own_r hrr).2).2.1 (own_io hio) (own_all (own_io hio) (own_r hrr).1 (own_r hrr).2 hc29_2 hss htt).1.1 (own_all (own_io hio) (own_r hrr).1 (own_r hrr).2 hc29_2 hss htt).1.2) (g := (mkF m 108 #[.val (.long q0), .second, .val (.int p1), .val (.long io), .second, .val (.int rr), .val (.long tt), .second, .val (.long ss), .second] [(.long ss), (.long io), (.long (rr.toInt64)), (.long (tt + (1 : Int64)))])) rfl (by rw [hml]; rfl) (argsL := [(.long (tt + (1 : Int64))), (.long (rr.toInt64)), (.long io), (.long ss)]) (rest := []) (lenOf pd_3 rfl) rfl rfl (W := 0) (by show 2 * 0 + _ ≤ _; exact Nat.le_of_eq rfl) (hb hby at_108) (by decide) (by decide) (by decide) (by decide) ?_
      intro T6 X6 e6
      refine own_go (T' := T6) (f' := (mkF m 119 #[.val (.long q0), .second, .val (.int p1), .val (.long io), .second, .val (.int rr), .val (.long tt), .second, .val (.long ss), .second] [(.int (1 : Int32))])) (fun t kt => ?_) ?_
      · show Steps p.tables e below (T6.setTop (mkF m 111 #[.val (.long q0), .second, .val (.int p1), .val (.long io), .second, .val (.int rr), .val (.long tt), .second, .val (.long ss), .second] [(.int (own_z ((tt + (1 : Int64)).toInt * (rr.toInt64).toInt ≤ io.toInt * ss.toInt)))])) t
        refine XS.ifNo X6.here hx rfl (hb hby at_111) rfl (own_zN_ne (show ¬ (((tt + (1 : Int64)).toInt * (rr.toInt64).toInt ≤ io.toInt * ss.toInt)) from ((own_all (own_io hio) (own_r hrr).1 (own_r hrr).2 hc29_2 hss htt).2.2 hc61_3).2.2.2)) ?_
        show Steps p.tables e below (T6.setTop (mkF m 114 #[.val (.long q0), .second, .val (.int p1), .val (.long io), .second, .val (.int rr), .val (.long tt), .second, .val (.long ss), .second] [])) t
        refine XS.iconst X6.here hx rfl (hb hby at_114) ?_
        show Steps p.tables e below (T6.setTop (mkF m 115 #[.val (.long q0), .second, .val (.int p1), .val (.long io), .second, .val (.int rr), .val (.long tt), .second, .val (.long ss), .second] [(.int (1 : Int32))])) t
        refine XS.goto X6.here hx rfl (pc0 := 115) (pc' := 119) rfl (hb hby at_115) (by decide) (by decide) ?_
        show Steps p.tables e below (T6.setTop (mkF m 119 #[.val (.long q0), .second, .val (.int p1), .val (.long io), .second, .val (.int rr), .val (.long tt), .second, .val (.long ss), .second] [(.int (1 : Int32))])) t
        exact kt
      exact own_retN X6 hP hx hlk e6 (t := .boolean) hret (by simp) (hb hby at_119) (by decide) (by decide) (z' := (1 : Int32)) rfl ⟨rfl, N0⟩
set_option maxRecDepth 65536 in
set_option maxHeartbeats 40000000 in
theorem comes_1 {Post : Tables → Env → Array Value → State → Outcome → State → Prop} (hpost : ∀ tb e args s v u, (limb_1_1.after args s (.returned v) u = true ∧ limb_1_2.after args s (.returned v) u = true ∧ True) → FrameEnd s (.returned v) u (Jvm.fieldLocs frame_1_writes args s ++ Jvm.arrayLocs frame_1_arrays args s ++ Jvm.staticLocs frame_1_statics s) 0 0 → Post tb e args s (.returned v) u) :
    ArmFor flags0 classFile x code maxLocals ret World_1 tables_1 room_1 Calls_1 rest_1 Pre_1 Post := by
  intro l hfl _ _ p e ha hc hk s m args below hf hA hF happ hP
  obtain ⟨hcalls, hrest, hpre⟩ := hP
  obtain ⟨-, -, -, hnamed, -, -, -, hat⟩ := (Spec.applies_iff hf).mp happ
  obtain ⟨hg, hn⟩ := and_e (Cond.before_iff.mp (show (Jvm.Cond.and given_1 narrow_1).before args s = true from hpre))
  obtain ⟨k1, k2⟩ := and_e hg
  obtain ⟨k3, k4⟩ := and_e k2
  obtain ⟨w0, w1, rfl⟩ : ∃ w0 w1 : Value, args = #[w0, w1] := by
    have hs : args.size = 2 := by simpa [Cond.value, given_1] using k1
    obtain ⟨L⟩ := args
    match L, hs with
    | [w0, w1], _ => exact ⟨w0, w1, rfl⟩
  have hw := fun d (hd : d ∈ tables_1) => atoms_spec (ws := Jvm.Cond.code x code maxLocals ret :: tables_1) hat d (List.mem_cons_of_mem _ hd)
  obtain ⟨i0, ei0⟩ := isL_v k3
  obtain rfl : w0 = (.long i0) := Option.some.inj ei0
  obtain ⟨i1, ei1⟩ := is_v k4
  obtain rfl : w1 = (.int i1) := Option.some.inj ei1
  obtain ⟨n, o, h1, h2, h3, _, L, rfl, ⟨rfl, N⟩, hq⟩ := rm0 l s _ hw (ws := tables_1) i0 i1 s.heap s.heap.size (Nat.le_refl _)  p e ha hc hk s m _ below hf ((Spec.applies_iff_loose hf).mp happ).1 ⟨rfl, State.Warmed39.refl s, rfl⟩ trivial
  refine ⟨n, _, h1, h2, h3, hpost _ _ _ _ _ _ ⟨Cond.after_iff.mpr rfl, Cond.after_iff.mpr (eq_i res_at (Term.int_eval (1)) rfl), trivial⟩ ⟨hq.1, hq.2.1, (hq.2.2.sift fun y hy => Or.inr (N y hy)).mono (by decide) (by decide)⟩⟩
theorem main_1_1 : Claimed_1_1 := comes_1 fun _ _ _ _ _ _ h hF => ⟨h.1, hF⟩
theorem main_1_2 : Claimed_1_2 := comes_1 fun _ _ _ _ _ _ h hF => ⟨h.2.1, hF⟩
end Jvm.Pilot.@@N@@
namespace Jvm.Pilot.@@N@@
open Jvm Jvm.ClassFile Sem Op Lib Jvm.Free Jvm.Stand Jvm.Pilot.@@N@@.Jvm.D
/-! MADE BY PROGRAM (witnessworld.py) out of the Statement's table words and the real class files: 9 classes; the members and pool entries that the words name. The judged class is class 1, her method 4. -/
namespace start1
open Jvm.ClassFile
def u (s : String) : CpInfo := .utf8 (stringToUtf16 s)
/-- a pool by its gaps: so many unusable entries, then the entry; so many at the end -/
def gap : Nat → List CpInfo → List CpInfo
  | 0, r => r
  | n + 1, r => .unusable :: gap n r
def poolList (es : List (Nat × CpInfo)) (last : Nat) : List CpInfo := es.foldr (fun e r => gap e.1 (e.2 :: r)) (gap last [])
def pool (es : List (Nat × CpInfo)) (last : Nat) : Array CpInfo := ⟨poolList es last⟩
def fileOf (pool : Array CpInfo) (this : Nat) (attrs : Array Attribute := #[]) (ms : Array MethodInfo := #[]) (fl : Nat := 33) (sup : Nat := 0) (ifs : Array Nat := #[]) (fds : Array FieldInfo := #[]) : ClassFile where
  minorVersion := 0
  majorVersion := 65
  constantPool := pool
  accessFlags := fl
  thisClass := this
  superClass := sup
  interfaces := ifs
  fields := fds
  methods := ms
  attributes := attrs
def plain (name : String) (sup : Option ClassId) : Class where
  name := name
  kind := .ordinary
  loader := none
  accessFlags := 33
  super := sup
  interfaces := #[]
  cf := none
  fields := #[]
  methods := #[]
  instanceTypes := #[]
  staticTypes := #[]
  resolved := #[]
  callSites := []
  init := .initialized
  statics := none
  mirror := none

def pool0 : Array CpInfo := pool [(5, u "<init>"), (0, u "()V"), (1, .class_ 10), (1, u "java/lang/Object")] 113

def k0m0 : Method := { name := "<init>", desc := "()V", sig := { parameters := [], returnType := none }, accessFlags := 1, code := none }
/-- java/lang/Object -/
def k0 : Class := { plain "java/lang/Object" none with
  accessFlags := 33
  interfaces := #[]
  cf := some (fileOf pool0 8 #[] #[{ accessFlags := 1, nameIndex := 5, descriptorIndex := 6, attributes := #[] }] 33 0 #[] #[])
  fields := #[]
  methods := #[k0m0]
  instanceTypes := #[]
  staticTypes := #[]
  resolved := Array.replicate 124 none
  statics := none }

def pool1 : Array CpInfo := pool [(2, .class_ 4), (1, u "java/lang/Object"), (0, u "<init>"), (0, u "()V"), (0, .long 4294967295), (1, .methodref 10 11), (0, .class_ 12), (0, .nameAndType 13 14), (0, u "com/example/libloop/libloop/internal/IoRatioTaskTimeNanosPinLaw"), (0, u "hi"), (0, u "(JJ)J"), (0, .methodref 10 16), (0, .nameAndType 17 14), (0, u "lo"), (2, .long 9223372036854775807), (1, .integer 2147483647), (0, .methodref 24 25), (0, .class_ 26), (0, .nameAndType 27 28), (0, u "com/example/libloop/libloop/internal/IoRatio"), (0, u "taskTimeNanos"), (0, u "(JI)J"), (0, .methodref 10 30), (0, .nameAndType 31 32), (0, u "le"), (0, u "(JJJJ)Z"), (3, u "law"), (0, u "(JI)Z")] 2

def k1m0 : Method := { name := "<init>", desc := "()V", sig := { parameters := [], returnType := none }, accessFlags := 2, code := none }
def k1c1 : Code := { maxStack := 6, maxLocals := 4, code := method_2_code, exceptionTable := #[], attributes := #[] }
def k1m1 : Method := { name := "hi", desc := "(JJ)J", sig := { parameters := [.long, .long], returnType := some .long }, accessFlags := 10, code := some k1c1 }
def k1c2 : Code := { maxStack := 4, maxLocals := 4, code := method_3_code, exceptionTable := #[], attributes := #[] }
def k1m2 : Method := { name := "lo", desc := "(JJ)J", sig := { parameters := [.long, .long], returnType := some .long }, accessFlags := 10, code := some k1c2 }
def k1c3 : Code := { maxStack := 6, maxLocals := 12, code := method_4_code, exceptionTable := #[], attributes := #[] }
def k1m3 : Method := { name := "le", desc := "(JJJJ)Z", sig := { parameters := [.long, .long, .long, .long], returnType := some .boolean }, accessFlags := 10, code := some k1c3 }
def k1c4 : Code := { maxStack := 8, maxLocals := 10, code := code, exceptionTable := #[], attributes := #[] }
def k1m4 : Method := { name := "law", desc := "(JI)Z", sig := { parameters := [.long, .int], returnType := some .boolean }, accessFlags := 9, code := some k1c4 }
/-- com/example/libloop/libloop/internal/IoRatioTaskTimeNanosPinLaw -/
def k1 : Class := { plain "com/example/libloop/libloop/internal/IoRatioTaskTimeNanosPinLaw" (some 0) with
  accessFlags := 49
  interfaces := #[]
  cf := some (fileOf pool1 10 #[] #[{ accessFlags := 2, nameIndex := 5, descriptorIndex := 6, attributes := #[] }, { accessFlags := 10, nameIndex := 13, descriptorIndex := 14, attributes := #[] }, { accessFlags := 10, nameIndex := 17, descriptorIndex := 14, attributes := #[] }, { accessFlags := 10, nameIndex := 31, descriptorIndex := 32, attributes := #[] }, { accessFlags := 9, nameIndex := 36, descriptorIndex := 37, attributes := #[] }] 49 2 #[] #[])
  fields := #[]
  methods := #[k1m0, k1m1, k1m2, k1m3, k1m4]
  instanceTypes := #[]
  staticTypes := #[]
  resolved := Array.replicate 40 none
  statics := none }

def pool2 : Array CpInfo := pool [(2, .class_ 4), (1, u "java/lang/Object"), (0, u "<init>"), (0, u "()V"), (0, .class_ 8), (0, u "com/example/libloop/libloop/internal/IoRatio"), (9, .methodref 7 19), (0, .nameAndType 20 21), (0, u "check"), (0, u "(I)I"), (5, .long 9223372036854775807), (1, u "DEFAULT"), (0, u "I"), (2, u "MIN"), (1, u "MAX"), (4, u "taskTimeNanos"), (0, u "(JI)J")] 19

def k2m0 : Method := { name := "<init>", desc := "()V", sig := { parameters := [], returnType := none }, accessFlags := 2, code := none }
def k2c1 : Code := { maxStack := 3, maxLocals := 1, code := prog_9_method_2_code, exceptionTable := #[], attributes := #[] }
def k2m1 : Method := { name := "check", desc := "(I)I", sig := { parameters := [.int], returnType := some .int }, accessFlags := 9, code := some k2c1 }
def k2c2 : Code := { maxStack := 6, maxLocals := 11, code := prog_9_method_3_code, exceptionTable := #[], attributes := #[] }
def k2m2 : Method := { name := "taskTimeNanos", desc := "(JI)J", sig := { parameters := [.long, .int], returnType := some .long }, accessFlags := 9, code := some k2c2 }
/-- com/example/libloop/libloop/internal/IoRatio -/
def k2 : Class := { plain "com/example/libloop/libloop/internal/IoRatio" (some 0) with
  accessFlags := 49
  interfaces := #[]
  cf := some (fileOf pool2 7 #[] #[{ accessFlags := 2, nameIndex := 5, descriptorIndex := 6, attributes := #[] }, { accessFlags := 9, nameIndex := 20, descriptorIndex := 21, attributes := #[] }, { accessFlags := 9, nameIndex := 40, descriptorIndex := 41, attributes := #[] }] 49 2 #[] #[{ accessFlags := 25, nameIndex := 29, descriptorIndex := 30, attributes := #[] }, { accessFlags := 25, nameIndex := 33, descriptorIndex := 30, attributes := #[] }, { accessFlags := 25, nameIndex := 35, descriptorIndex := 30, attributes := #[] }])
  fields := #[{ name := "DEFAULT", type := .int, accessFlags := 25, slot := 0, constantValue := 0 }, { name := "MIN", type := .int, accessFlags := 25, slot := 1, constantValue := 0 }, { name := "MAX", type := .int, accessFlags := 25, slot := 2, constantValue := 0 }]
  methods := #[k2m0, k2m1, k2m2]
  instanceTypes := #[]
  staticTypes := #[.int, .int, .int]
  resolved := Array.replicate 61 none
  statics := none }

def pool3 : Array CpInfo := pool [(1, u "java/lang/Cloneable"), (0, .class_ 1), (0, u "java/lang/Object"), (0, .class_ 3)] 3

/-- java/lang/Cloneable -/
def k3 : Class := { plain "java/lang/Cloneable" (some 0) with
  accessFlags := 1537
  interfaces := #[]
  cf := some (fileOf pool3 2 #[] #[] 1537 4 #[] #[])
  fields := #[]
  methods := #[]
  instanceTypes := #[]
  staticTypes := #[]
  resolved := Array.replicate 8 none
  statics := none }

def pool4 : Array CpInfo := pool [(1, u "java/io/Serializable"), (0, .class_ 1), (0, u "java/lang/Object"), (0, .class_ 3)] 3

/-- java/io/Serializable -/
def k4 : Class := { plain "java/io/Serializable" (some 0) with
  accessFlags := 1537
  interfaces := #[]
  cf := some (fileOf pool4 2 #[] #[] 1537 4 #[] #[])
  fields := #[]
  methods := #[]
  instanceTypes := #[]
  staticTypes := #[]
  resolved := Array.replicate 8 none
  statics := none }

/-- the primitive byte -/
def k5 : Class := { plain "byte" none with kind := .primitive 'B', accessFlags := 0x411 }
/-- [B -/
def k6 : Class := { plain "[B" (some 0) with kind := .array 5 .byte, interfaces := #[3, 4], accessFlags := 1041 }

/-- the primitive int -/
def k7 : Class := { plain "int" none with kind := .primitive 'I', accessFlags := 0x411 }
/-- [I -/
def k8 : Class := { plain "[I" (some 0) with kind := .array 7 .int, interfaces := #[3, 4], accessFlags := 1041 }

def heap : Heap := #[]
def classes : Array Class := #[k0, k1, k2, k3, k4, k5, k6, k7, k8]
def interned : List (Array UInt16 × Addr) := []
def slotsUsed : Nat := 0
def theMethod : MethodId := ⟨1, 4⟩
def args0 : Array Value := #[.long 5000, .int 7]
def aboutOver (below : List Frame) : State where
  vm := { classes := classes, interned := interned.toArray }
  heap := heap
  slotsUsed := slotsUsed
  threads := #[{ frames := .invoking theMethod args0 :: below }]
def below0 : List Frame := [.native { method := ⟨0, 0⟩, args := #[] }]
def about1 : State := aboutOver below0
def p0 : Program := .bare "" "" ""
def e0 : Env := launch0.env 0 0 0
theorem w_frames : about1.frames = Frame.invoking theMethod args0 :: below0 := rfl
set_option maxRecDepth 65536 in
theorem w_args : argsFit about1.vm theMethod args0 = true := by decide +kernel
set_option maxRecDepth 65536 in
theorem w_heap : heapFits about1 = true := by decide +kernel
set_option maxRecDepth 65536 in
theorem w_runnable : about1.curStatus? = some .runnable := by decide +kernel
set_option maxRecDepth 65536 in
theorem w_alone : about1.alone = true := by decide +kernel
set_option maxRecDepth 65536 in
theorem w_named : about1.methodNamed? x = some theMethod := by decide +kernel
set_option maxRecDepth 65536 in
theorem w_hears : about1.hears theMethod below0 = true := by decide +kernel
set_option maxRecDepth 65536 in
theorem w_ripe : about1.ripe theMethod args0 below0 = true := by decide +kernel
theorem w_running : about1.status = .running := rfl
set_option maxRecDepth 65536 in
theorem w_room : about1.hasRoom e0.platform room_1 = true :=
  launch0.hasRoom_least _ room_1 (by decide +kernel) (by decide +kernel) (by decide +kernel) (by decide +kernel) (by decide +kernel) (by decide +kernel)
theorem allAtoms_all (ts : List Jvm.Cond) (a : Array Jvm.Value) (st : Jvm.State) : (allAtoms ts).before a st = ts.all (fun c => c.before a st) := by
  induction ts with
  | nil => rfl
  | cons c t ih =>
    show (Jvm.Cond.and c (allAtoms t)).before a st = _
    rw [Jvm.Cond.before_and, ih, List.all_cons]
def words1 : List Jvm.Cond := Jvm.Cond.code x code maxLocals ret :: tables_1
/-- a 'code' word, met by the world's own term for the bytes: nothing is compared byte by byte -/
theorem code_word {y : MethodName} {bytes : ByteArray} {mx : Nat} {rt : Option FieldType} {a : Array Value} {s : State} {m : MethodId} {meth : Method} {c : Code} (h1 : s.methodNamed? y = some m) (h2 : s.vm.method? m = some meth) (h3 : meth.code = some c) (h4 : c.code = bytes)
    (h5 : (c.maxLocals == mx && c.exceptionTable.isEmpty && decide (c.maxStack ≤ mostOperands) && decide (meth.sig.returnType = rt) && !meth.locks && decide (parseMethodDescriptor y.desc = some meth.sig)) = true) : (Jvm.Cond.code y bytes mx rt).before a s = true := by
  simp only [Bool.and_eq_true, beq_iff_eq, Bool.not_eq_true', decide_eq_true_eq] at h5
  obtain ⟨⟨⟨⟨⟨g1, g2⟩, g3⟩, g4⟩, g5⟩, g6⟩ := h5
  simp [Cond.before, Cond.holds, Cond.value, h1, h2, h3, h4, g1, g2, g3, g4, g5, g6]
def isCode : Jvm.Cond → Bool
  | .code _ _ _ _ => true
  | _ => false
theorem all_split {L : List Jvm.Cond} {P : Jvm.Cond → Bool} (h1 : L.all (fun c => isCode c || P c) = true) (h2 : ∀ c ∈ L.filter isCode, P c = true) : L.all P = true := by
  refine List.all_eq_true.mpr fun c hc => ?_
  have h := List.all_eq_true.mp h1 c hc
  rcases Bool.eq_false_or_eq_true (isCode c) with hi | hi
  · exact h2 c (List.mem_filter.mpr ⟨hc, hi⟩)
  · simpa [hi] using h
set_option maxRecDepth 65536 in
theorem w_c0 : (Jvm.Cond.code x code maxLocals ret).before args0 about1 = true := code_word (m := ⟨1, 4⟩) (meth := k1m4) (c := k1c4) (by decide +kernel) rfl rfl rfl (by decide +kernel)
set_option maxRecDepth 65536 in
theorem w_c1 : (Jvm.Cond.code ({ cls := "com/example/libloop/libloop/internal/IoRatio", name := "taskTimeNanos", desc := "(JI)J" } : Jvm.MethodName) prog_9_method_3_code (11 : Nat) (Option.some Jvm.ClassFile.FieldType.long)).before args0 about1 = true := code_word (m := ⟨2, 2⟩) (meth := k2m2) (c := k2c2) (by decide +kernel) rfl rfl rfl (by decide +kernel)
set_option maxRecDepth 65536 in
theorem w_c2 : (Jvm.Cond.code ({ cls := "com/example/libloop/libloop/internal/IoRatio", name := "check", desc := "(I)I" } : Jvm.MethodName) prog_9_method_2_code (1 : Nat) (Option.some Jvm.ClassFile.FieldType.int)).before args0 about1 = true := code_word (m := ⟨2, 1⟩) (meth := k2m1) (c := k2c1) (by decide +kernel) rfl rfl rfl (by decide +kernel)
set_option maxRecDepth 65536 in
theorem w_c3 : (Jvm.Cond.code ({ cls := "com/example/libloop/libloop/internal/IoRatioTaskTimeNanosPinLaw", name := "le", desc := "(JJJJ)Z" } : Jvm.MethodName) method_4_code (12 : Nat) (Option.some Jvm.ClassFile.FieldType.boolean)).before args0 about1 = true := code_word (m := ⟨1, 3⟩) (meth := k1m3) (c := k1c3) (by decide +kernel) rfl rfl rfl (by decide +kernel)
set_option maxRecDepth 65536 in
theorem w_c4 : (Jvm.Cond.code ({ cls := "com/example/libloop/libloop/internal/IoRatioTaskTimeNanosPinLaw", name := "hi", desc := "(JJ)J" } : Jvm.MethodName) method_2_code (4 : Nat) (Option.some Jvm.ClassFile.FieldType.long)).before args0 about1 = true := code_word (m := ⟨1, 1⟩) (meth := k1m1) (c := k1c1) (by decide +kernel) rfl rfl rfl (by decide +kernel)
set_option maxRecDepth 65536 in
theorem w_c5 : (Jvm.Cond.code ({ cls := "com/example/libloop/libloop/internal/IoRatioTaskTimeNanosPinLaw", name := "lo", desc := "(JJ)J" } : Jvm.MethodName) method_3_code (4 : Nat) (Option.some Jvm.ClassFile.FieldType.long)).before args0 about1 = true := code_word (m := ⟨1, 2⟩) (meth := k1m2) (c := k1c2) (by decide +kernel) rfl rfl rfl (by decide +kernel)
def codes1 : List Jvm.Cond := [Jvm.Cond.code x code maxLocals ret, Jvm.Cond.code ({ cls := "com/example/libloop/libloop/internal/IoRatio", name := "taskTimeNanos", desc := "(JI)J" } : Jvm.MethodName) prog_9_method_3_code (11 : Nat) (Option.some Jvm.ClassFile.FieldType.long), Jvm.Cond.code ({ cls := "com/example/libloop/libloop/internal/IoRatio", name := "check", desc := "(I)I" } : Jvm.MethodName) prog_9_method_2_code (1 : Nat) (Option.some Jvm.ClassFile.FieldType.int), Jvm.Cond.code ({ cls := "com/example/libloop/libloop/internal/IoRatioTaskTimeNanosPinLaw", name := "le", desc := "(JJJJ)Z" } : Jvm.MethodName) method_4_code (12 : Nat) (Option.some Jvm.ClassFile.FieldType.boolean), Jvm.Cond.code ({ cls := "com/example/libloop/libloop/internal/IoRatioTaskTimeNanosPinLaw", name := "hi", desc := "(JJ)J" } : Jvm.MethodName) method_2_code (4 : Nat) (Option.some Jvm.ClassFile.FieldType.long), Jvm.Cond.code ({ cls := "com/example/libloop/libloop/internal/IoRatioTaskTimeNanosPinLaw", name := "lo", desc := "(JJ)J" } : Jvm.MethodName) method_3_code (4 : Nat) (Option.some Jvm.ClassFile.FieldType.long)]
set_option maxRecDepth 65536 in
theorem codes_eq : words1.filter isCode = codes1 := rfl
theorem w_codes : ∀ c ∈ words1.filter isCode, c.before args0 about1 = true := by
  rw [codes_eq]
  intro c hc
  simp only [codes1, List.mem_cons, List.not_mem_nil, or_false] at hc
  rcases hc with rfl | rfl | rfl | rfl | rfl | rfl
  · exact w_c0
  · exact w_c1
  · exact w_c2
  · exact w_c3
  · exact w_c4
  · exact w_c5
set_option maxRecDepth 65536 in
theorem w_t1 : words1.all (fun c => isCode c || c.before args0 about1) = true := by decide +kernel
theorem w_tables : (allAtoms (Jvm.Cond.code x code maxLocals ret :: tables_1)).before args0 about1 = true := by
  rw [allAtoms_all]
  show words1.all (fun c => c.before args0 about1) = true
  refine all_split ?_ w_codes
  rw [w_t1]
set_option maxRecDepth 65536 in
theorem w_case : (Jvm.Cond.and given_1 narrow_1).before args0 about1 = true := by decide +kernel
theorem w_applies : (headSpec (Jvm.Cond.code x code maxLocals ret :: tables_1) room_1).applies x e0.platform about1 = true :=
  (Spec.applies_iff w_frames).mpr ⟨w_running, w_runnable, w_alone, w_named, w_hears, w_ripe, w_room, w_tables⟩
theorem atStart : AtStart classFile x code maxLocals ret World_1 tables_1 room_1 Calls_1 rest_1 Pre_1 launch0 p0 e0 about1 theMethod args0 below0 :=
  ⟨lists_1, trivial, launch0.admits_env _ _ _, launch0.least_env, fairChoices_fair.cas, fairChoices_fair.clock, w_frames, w_args, w_heap, w_applies, trivial, trivial, w_case⟩
end start1
theorem witness_1 : WitnessClaimed_1 := ⟨start1.p0, start1.e0, start1.about1, start1.theMethod, start1.args0, start1.below0, start1.atStart⟩
end Jvm.Pilot.@@N@@
