import JvmDerived
import JvmDerived.Pilot.@@N@@Statement
import JvmDerived.Pilot.@@N@@Code
set_option linter.unusedVariables false
set_option linter.unusedSimpArgs false
namespace Jvm.RoadKit
open Sem ClassFile Op Lib Jvm.Stand Jvm.Free Jvm.LawKit
section Own
variable {p : Program} {l : Launch} {e : Env} {R : Room} {s : State} {m : MethodId} {args : Array Value} {below : List Frame} {meth : Method} {c : Code} {T T' : State} {locs : List Loc} {cells slots : Nat} {Z : State} {a0 : Array Value} {h : Heap} {Φ : State → Prop} {g g' : JFrame} {Q : Option Value → Heap → List Loc → Prop} {kc ks pc : Nat} {Ls : Array Slot} {st rest : List Value}
/-- from the frame g of T the run comes to a state of which Φ holds -/
def own_Go (p : Program) (e : Env) (below : List Frame) (Φ : State → Prop) (T : State) (g : JFrame) : Prop := ∃ t, Steps p.tables e below (T.setTop g) t ∧ Φ t
theorem own_k (st : ∀ t, Steps p.tables e below (T'.setTop g') t → Steps p.tables e below (T.setTop g) t) (k : own_Go p e below Φ T' g') : own_Go p e below Φ T g := by
  obtain ⟨t, h1, h2⟩ := k
  exact ⟨t, st t h1, h2⟩
theorem own_s (st : Steps p.tables e below (T.setTop g) (T'.setTop g')) (k : own_Go p e below Φ T' g') : own_Go p e below Φ T g := by
  obtain ⟨t, h1, h2⟩ := k
  exact ⟨t, st.trans h1, h2⟩
def own_Fin (s : State) (below : List Frame) (Q : Option Value → Heap → List Loc → Prop) (kc ks : Nat) (t : State) : Prop := t.status = .running ∧ ∃ v L, Ended t below (.returned v) ∧ Q v t.heap L ∧ FrameEnd s (.returned v) t L kc ks
def own_Met (l : Launch) (Z : State) (y : MethodName) (bytes : ByteArray) (maxL : Nat) (ret : Option FieldType) (rm : Room) (av : Array Value) (h : Heap) (Q : Option Value → Heap → List Loc → Prop) : Prop :=
  ∀ ws : List Jvm.Cond, MetFree l y (head1 (Cond.code y bytes maxL ret :: ws) rm) (fun a U => a = av ∧ Z.Warmed39 U.vm ∧ U.heap = h) (fun _ _ _ _ _ => True) (fun _ U o U' => ∃ v L, o = .returned v ∧ Q v U'.heap L ∧ FrameEnd U o U' L rm.cells rm.slots)
theorem own_met {y : MethodName} {bytes : ByteArray} {maxL : Nat} {ret : Option FieldType} {rm : Room} {av : Array Value} (hpl : plainFor y = true)
    (body : ∀ (p : Program) (e : Env) (s : State) (m : MethodId) (below : List Frame) (meth : Method) (c : Code) (s₁ : State) (Φ : State → Prop), (∀ t, own_Fin s below Q rm.cells rm.slots t → Φ t) → Stand p l e rm s m av below meth c s₁ [] 0 0 → p.tables.exec = Jvm.exec → c.code = bytes → c.maxLocals = maxL → Z.Warmed39 s.vm → s.vm.findClass y.cls = some m.cls → meth.name = y.name → meth.sig.returnType = ret → meth.locks = false → s₁.heap = h →
      own_Go p e below Φ s₁ (entryFrame m av maxL)) : own_Met l Z y bytes maxL ret rm av h Q := by
  intro ws
  refine MetFree.of_bodySF hpl hisR ?_
  intro p e s m args below meth c s₁ Bd hml hP hK
  obtain ⟨rfl, hZ, hh⟩ := hP
  obtain ⟨t, h1, hrun, v, L, h2, h3, h4⟩ := body p e s m below meth c s₁ (own_Fin s below Q rm.cells rm.slots) (fun _ q => q) (Stand.of_body Bd) Bd.exec Bd.bytes hml hZ (findClass_of_methodNamed Bd.named) (name_of_methodNamed Bd.named Bd.method).1 Bd.returns Bd.notSynchronized (by rw [← hh, Bd.state]; rfl)
  exact ⟨t, _, h1, hrun, h2, v, L, rfl, h3, h4⟩
theorem own_fin {v : Option Value} (X : Stand p l e R s m args below meth c T locs cells slots) (hv : meth.sig.returnType = none → v = none) (hlk : meth.locks = false)
    (hs : ∀ fs, (∀ (f : JFrame) (acts : List Action), f.method = m → f.locked = none → f.entered = [] → (doReturn e (T.setTop f) acts v).1 = T.setFrames fs) → Steps p.tables e below (T.setTop g) (T.setFrames fs))
    (hF : ∀ t, own_Fin s below Q kc ks t → Φ t) (hQ : Q v T.heap locs) (hk : cells ≤ kc) (hn : slots ≤ ks) : own_Go p e below Φ T g := by
  obtain ⟨fs, hr, hrun, hended, hW, hsame⟩ := X.leave (v := v) hv hlk
  exact ⟨T.setFrames fs, hs fs hr, hF _ ⟨hrun, v, locs, hended, hQ, ⟨_, rfl⟩, hW, hsame.mono hk hn⟩⟩
theorem own_retI (X : Stand p l e R s m args below meth c T locs cells slots) (hx : p.tables.exec = Jvm.exec) {z : Int32} (hret : meth.sig.returnType = some .int) (hlk : meth.locks = false) (hd : decode c.code pc = .ok (.ireturn, 1)) (hF : ∀ t, own_Fin s below Q kc ks t → Φ t) (hQ : Q (some (.int z)) T.heap locs) (hk : cells ≤ kc) (hn : slots ≤ ks) :
    own_Go p e below Φ T (mkF m pc Ls (.int z :: rest)) :=
  own_fin X (fun q => by rw [hret] at q; cases q) hlk (fun fs hr => retOut X hx hret (narrow_int z) (Or.inl ⟨rfl, Or.inl rfl, z, rfl⟩) hd hr) hF hQ hk hn
where narrow_int (z : Int32) : narrow .int (.int z) = .int z := rfl
theorem own_retN (X : Stand p l e R s m args below meth c T locs cells slots) (hx : p.tables.exec = Jvm.exec) {z : Int32} {t : FieldType} (hret : meth.sig.returnType = some t) (ht : t = .boolean ∨ t = .byte ∨ t = .char ∨ t = .short) (hlk : meth.locks = false) (hd : decode c.code pc = .ok (.ireturn, 1)) (hF : ∀ t, own_Fin s below Q kc ks t → Φ t) (hQ : Q (some (.int (nar t z))) T.heap locs) (hk : cells ≤ kc) (hn : slots ≤ ks) :
    own_Go p e below Φ T (mkF m pc Ls (.int z :: rest)) :=
  own_fin X (fun q => by rw [hret] at q; cases q) hlk (fun fs hr => retN X hx hret ht hd hr) hF hQ hk hn
theorem own_retA (X : Stand p l e R s m args below meth c T locs cells slots) (hx : p.tables.exec = Jvm.exec) {w : Value} {t : FieldType} (hret : meth.sig.returnType = some t) (ht : t.isReference = true) (hw : w.isRef = true) (hlk : meth.locks = false) (hd : decode c.code pc = .ok (.areturn, 1)) (hF : ∀ t, own_Fin s below Q kc ks t → Φ t) (hQ : Q (some w) T.heap locs) (hk : cells ≤ kc) (hn : slots ≤ ks) :
    own_Go p e below Φ T (mkF m pc Ls (w :: rest)) :=
  own_fin X (fun q => by rw [hret] at q; cases q) hlk (fun fs hr => retOut X hx hret (by cases t <;> cases w <;> first | rfl | cases ht | cases hw) (Or.inr (Or.inr (Or.inr (Or.inr ⟨rfl, ht, hw⟩)))) hd hr) hF hQ hk hn
theorem own_retJ (X : Stand p l e R s m args below meth c T locs cells slots) (hx : p.tables.exec = Jvm.exec) {z : Int64} (hret : meth.sig.returnType = some .long) (hlk : meth.locks = false) (hd : decode c.code pc = .ok (.lreturn, 1)) (hF : ∀ t, own_Fin s below Q kc ks t → Φ t) (hQ : Q (some (.long z)) T.heap locs) (hk : cells ≤ kc) (hn : slots ≤ ks) :
    own_Go p e below Φ T (mkF m pc Ls (.long z :: rest)) :=
  own_fin X (fun q => by rw [hret] at q; cases q) hlk (fun fs hr => retOut X hx hret rfl (Or.inr (Or.inl ⟨rfl, rfl, z, rfl⟩)) hd hr) hF hQ hk hn
theorem own_ret0 (X : Stand p l e R s m args below meth c T locs cells slots) (hx : p.tables.exec = Jvm.exec) (hret : meth.sig.returnType = none) (hlk : meth.locks = false) (hd : decode c.code pc = .ok (.return_, 1)) (hF : ∀ t, own_Fin s below Q kc ks t → Φ t) (hQ : Q none T.heap locs) (hk : cells ≤ kc) (hn : slots ≤ ks) :
    own_Go p e below Φ T (mkF m pc Ls []) :=
  own_fin X (fun _ => rfl) hlk (fun fs hr => X.returnOut hx hret hd hr) hF hQ hk hn
theorem own_back {y : MethodName} {bytes : ByteArray} {maxL : Nat} {ret : Option FieldType} {rm : Room} {len W : Nat} {av : Array Value} (hM : own_Met l Z y bytes maxL ret rm av h Q)
    (hZ : Z.Warmed39 s.vm) (wc : (Cond.code y bytes maxL ret).before a0 Z = true) (wz : (Cond.initialized y.cls).before a0 Z = true) (hf : rm.frames + 1 ≤ R.frames) (hl : W + (maxL + 11) + rm.locals ≤ R.locals) :
    Back l R p e below s args y len W (fun A a => a = av ∧ A.U.heap = h ∧ A.cells + rm.cells ≤ R.cells ∧ A.slots + rm.slots ≤ R.slots)
      (fun A _ v B => ∃ L, Q v B.U.heap L ∧ B.locs = A.locs ++ L ∧ B.cells = A.cells + rm.cells ∧ B.slots = A.slots + rm.slots) :=
  backOf (Q := Q) (hM []) hZ wc wz hf hl
theorem own_callS (X : Stand p l e R s m args below meth c T locs cells slots) (hx : p.tables.exec = Jvm.exec) (hZ : Z.Warmed39 s.vm) {own : String} {index : Nat} {y : MethodName} {bytes : ByteArray} {maxL : Nat} {ret : Option FieldType} (hown : s.vm.findClass own = some m.cls)
    (w1 : (Cond.methodLink own index y).before a0 Z = true) (w2 : (Cond.static y).before a0 Z = true) (w3 : (Cond.initialized y.cls).before a0 Z = true) (w4 : (Cond.code y bytes maxL ret).before a0 Z = true) (hy : y.cls ≠ "java/lang/invoke/MethodHandle" ∧ y.cls ≠ "java/lang/invoke/VarHandle")
    {rm : Room} {al : List Value} (hM : own_Met l Z y bytes maxL ret rm al.toArray h Q) (W : Nat) (hf : rm.frames + 1 ≤ R.frames) (hl : W + (maxL + 11) + rm.locals ≤ R.locals) (eT : T.heap = h) (hc : cells + rm.cells ≤ R.cells) (hn : slots + rm.slots ≤ R.slots)
    (hsz : Ls.size = c.maxLocals) (hlen : ∀ sig, parseMethodDescriptor y.desc = some sig → al.length = sig.parameters.length) (hst : st = al.reverse ++ rest) (hW : 2 * 0 + (rest.map fun v => v.category).sum ≤ W) (hd : decode c.code pc = .ok (.invokestatic index, 3))
    (k : ∀ (v : Option Value) (T' : State) (L : List Loc), Stand p l e R s m args below meth c T' (locs ++ L) (cells + rm.cells) (slots + rm.slots) → Q v T'.heap L → own_Go p e below Φ T' (mkF m (pc + 3) Ls (v.toList ++ rest))) : own_Go p e below Φ T (mkF m pc Ls st) := by
  obtain ⟨v, vm₁, ⟨T', L', k', n'⟩, -, X', ⟨L, hQ, l1, l2, l3⟩, st'⟩ := Jvm.LawKit.callS X hx (y := y) hown (mvT hZ w1) (mvT hZ w2) (mvT hZ w3) (mvT hZ w4) hy (own_back (W := W) hM hZ w4 w3 hf hl) (g := mkF m pc Ls st) rfl hsz (argsL := al) (rest := rest) hlen hst hW hd (fun _ _ => ⟨rfl, eT, hc, hn⟩)
  dsimp only [Pt.U, Pt.locs, Pt.cells, Pt.slots] at X' l1 l2 l3 st' hQ
  subst l1 l2 l3
  exact own_k st' (k v T' L X' hQ)
theorem own_callV (X : Stand p l e R s m args below meth c T locs cells slots) (hx : p.tables.exec = Jvm.exec) (hZ : Z.Warmed39 s.vm) {own C : String} {index : Nat} {y z : MethodName} {bytes : ByteArray} {maxL : Nat} {ret : Option FieldType} (hown : s.vm.findClass own = some m.cls)
    (w1 : (Cond.methodLink own index y).before a0 Z = true) (w2 : (Cond.declares y).before a0 Z = true) (hnf : NotFace s y) (w3 : (Cond.selects C y z).before a0 Z = true) (w4 : (Cond.instanceMethod z).before a0 Z = true) (w5 : (Cond.code z bytes maxL ret).before a0 Z = true) (w6 : (Cond.initialized z.cls).before a0 Z = true) (hy : y.cls ≠ "java/lang/invoke/MethodHandle" ∧ y.cls ≠ "java/lang/invoke/VarHandle")
    {rm : Room} {al : List Value} {b : Addr} (E : Exa Z h b C) (hM : own_Met l Z z bytes maxL ret rm (.ref b :: al).toArray h Q) (W : Nat) (hf : rm.frames + 1 ≤ R.frames) (hl : W + (maxL + 11) + rm.locals ≤ R.locals) (eT : T.heap = h) (hc : cells + rm.cells ≤ R.cells) (hn : slots + rm.slots ≤ R.slots)
    (hsz : Ls.size = c.maxLocals) (hlen : ∀ sig, parseMethodDescriptor y.desc = some sig → al.length = sig.parameters.length) (hst : st = al.reverse ++ .ref b :: rest) (hW : 2 * 0 + (rest.map fun v => v.category).sum ≤ W) (hd : decode c.code pc = .ok (.invokevirtual index, 3))
    (k : ∀ (v : Option Value) (T' : State) (L : List Loc), Stand p l e R s m args below meth c T' (locs ++ L) (cells + rm.cells) (slots + rm.slots) → Q v T'.heap L → own_Go p e below Φ T' (mkF m (pc + 3) Ls (v.toList ++ rest))) : own_Go p e below Φ T (mkF m pc Ls st) := by
  obtain ⟨cB, kB, q1, q2, q3⟩ := isOf hZ eT E
  obtain ⟨v, vm₁, ⟨T', L', k', n'⟩, -, X', ⟨L, hQ, l1, l2, l3⟩, st'⟩ := X.virtualBack hx (y := y) (z := z) hown (mvT hZ w1) (mvT hZ w2) hnf (mvT hZ w3) (mvT hZ w4) hy (own_back (W := W) hM hZ w5 w6 hf hl) q1 q3 (g := mkF m pc Ls st) rfl hsz (Steps.refl _) (argsL := al) (rest := rest) hlen hst hW hd (fun _ _ => ⟨rfl, eT, hc, hn⟩)
  dsimp only [Pt.U, Pt.locs, Pt.cells, Pt.slots] at X' l1 l2 l3 st' hQ
  subst l1 l2 l3
  exact own_s st' (k v T' L X' hQ)
theorem own_callU (X : Stand p l e R s m args below meth c T locs cells slots) (hx : p.tables.exec = Jvm.exec) (hZ : Z.Warmed39 s.vm) {own C owner : String} {index : Nat} {y z : MethodName} {bytes : ByteArray} {maxL : Nat} {ret : Option FieldType} (hown : s.vm.findClass own = some m.cls)
    (w1 : (Cond.methodLink own index y).before a0 Z = true) (w2 : (Cond.sameMethod y.cls owner y.name y.desc).before a0 Z = true) (w2' : (Cond.declares ⟨owner, y.name, y.desc⟩).before a0 Z = true) (w3 : (Cond.selects C y z).before a0 Z = true) (w4 : (Cond.instanceMethod z).before a0 Z = true) (w5 : (Cond.code z bytes maxL ret).before a0 Z = true) (w6 : (Cond.initialized z.cls).before a0 Z = true) (hy : owner ≠ "java/lang/invoke/MethodHandle" ∧ owner ≠ "java/lang/invoke/VarHandle")
    {rm : Room} {al : List Value} {b : Addr} (E : Exa Z h b C) (hM : own_Met l Z z bytes maxL ret rm (.ref b :: al).toArray h Q) (W : Nat) (hf : rm.frames + 1 ≤ R.frames) (hl : W + (maxL + 11) + rm.locals ≤ R.locals) (eT : T.heap = h) (hc : cells + rm.cells ≤ R.cells) (hn : slots + rm.slots ≤ R.slots)
    (hsz : Ls.size = c.maxLocals) (hlen : ∀ sig, parseMethodDescriptor y.desc = some sig → al.length = sig.parameters.length) (hst : st = al.reverse ++ .ref b :: rest) (hW : 2 * 0 + (rest.map fun v => v.category).sum ≤ W) (hd : decode c.code pc = .ok (.invokevirtual index, 3))
    (k : ∀ (v : Option Value) (T' : State) (L : List Loc), Stand p l e R s m args below meth c T' (locs ++ L) (cells + rm.cells) (slots + rm.slots) → Q v T'.heap L → own_Go p e below Φ T' (mkF m (pc + 3) Ls (v.toList ++ rest))) : own_Go p e below Φ T (mkF m pc Ls st) := by
  obtain ⟨cB, kB, q1, q2, q3⟩ := isOf hZ eT E
  obtain ⟨v, vm₁, ⟨T', L', k', n'⟩, -, X', ⟨L, hQ, l1, l2, l3⟩, st'⟩ := X.virtualBackUp hx (x := y) (y := z) hown (mvT hZ w1) (mvT hZ w2) (mvT hZ w2') hy (mvT hZ w3) (mvT hZ w4) (own_back (W := W) hM hZ w5 w6 hf hl) q1 q3 (g := mkF m pc Ls st) rfl hsz (Steps.refl _) (argsL := al) (rest := rest) hlen hst hW hd (fun _ _ => ⟨rfl, eT, hc, hn⟩)
  dsimp only [Pt.U, Pt.locs, Pt.cells, Pt.slots] at X' l1 l2 l3 st' hQ
  subst l1 l2 l3
  exact own_s st' (k v T' L X' hQ)
theorem own_callN (X : Stand p l e R s m args below meth c T locs cells slots) (hx : p.tables.exec = Jvm.exec) (hZ : Z.Warmed39 s.vm) {own : String} {index : Nat} {y : MethodName} {bytes : ByteArray} {maxL : Nat} (hy1 : y.name = "<init>") (hown : s.vm.findClass own = some m.cls)
    (w1 : (Cond.methodLink own index y).before a0 Z = true) (w2 : (Cond.instanceMethod y).before a0 Z = true) (w3 : (Cond.code y bytes maxL none).before a0 Z = true) (w4 : (Cond.initialized y.cls).before a0 Z = true) (hy : y.cls ≠ "java/lang/invoke/MethodHandle" ∧ y.cls ≠ "java/lang/invoke/VarHandle")
    {rm : Room} {al : List Value} {b : Addr} (hM : own_Met l Z y bytes maxL none rm (.ref b :: al).toArray h Q) (W : Nat) (hf : rm.frames + 1 ≤ R.frames) (hl : W + (maxL + 11) + rm.locals ≤ R.locals) (eT : T.heap = h) (hc : cells + rm.cells ≤ R.cells) (hn : slots + rm.slots ≤ R.slots)
    (hsz : Ls.size = c.maxLocals) (hlen : ∀ sig, parseMethodDescriptor y.desc = some sig → al.length = sig.parameters.length) (hst : st = al.reverse ++ .ref b :: rest) (hW : 2 * 0 + (rest.map fun v => v.category).sum ≤ W) (hd : decode c.code pc = .ok (.invokespecial index, 3))
    (k : ∀ (v : Option Value) (T' : State) (L : List Loc), Stand p l e R s m args below meth c T' (locs ++ L) (cells + rm.cells) (slots + rm.slots) → Q v T'.heap L → own_Go p e below Φ T' (mkF m (pc + 3) Ls (v.toList ++ rest))) : own_Go p e below Φ T (mkF m pc Ls st) := by
  obtain ⟨v, vm₁, ⟨T', L', k', n'⟩, -, X', ⟨L, hQ, l1, l2, l3⟩, st'⟩ := X.specialBack hx (y := y) hy1 hown (mvT hZ w1) (mvT hZ w2) (mvT hZ w3) hy (own_back (W := W) hM hZ w3 w4 hf hl) (g := mkF m pc Ls st) rfl hsz (Steps.refl _) (a := b) (argsL := al) (rest := rest) hlen hst hW hd (fun _ _ => ⟨rfl, eT, hc, hn⟩)
  dsimp only [Pt.U, Pt.locs, Pt.cells, Pt.slots] at X' l1 l2 l3 st' hQ
  subst l1 l2 l3
  exact own_s st' (k v T' L X' hQ)
theorem own_iaload (X : Stand p l e R s m args below meth c T locs cells slots) (hx : p.tables.exec = Jvm.exec) (hZ : Z.Warmed39 s.vm) (eT : T.heap = h) {a : Addr} {k : ClassId} {n : Int32} {vs : List Value} {d : Value} (V : Arv Z h a k .int n vs d) {j : Int32} (hj : ¬ j < 0 ∧ j < n) {v : Value} (hv : vs.getD j.toNatClampNeg d = v) (hd : decode c.code pc = .ok (.iaload, 1)) (kk : own_Go p e below Φ T (mkF m (pc + 1) Ls (v :: rest))) : own_Go p e below Φ T (mkF m pc Ls (.int j :: .ref a :: rest)) := by
  obtain ⟨cl, A, -, S, N, H, -⟩ := V
  have hin := inb_of S hj
  exact own_k (fun t q => X.iaload hx (j := j) (v := v) (by rw [eT]; exact A.1) (State.isArrayOf_alike hZ.alike A.2.1) A.2.2 hin (H.at hin hv) (g := mkF m pc Ls (.int j :: .ref a :: rest)) rfl rfl hd t q) kk
theorem own_saload (X : Stand p l e R s m args below meth c T locs cells slots) (hx : p.tables.exec = Jvm.exec) (hZ : Z.Warmed39 s.vm) (eT : T.heap = h) {a : Addr} {k : ClassId} {n : Int32} {vs : List Value} {d : Value} (V : Arv Z h a k .short n vs d) {j : Int32} (hj : ¬ j < 0 ∧ j < n) {v : Value} (hv : vs.getD j.toNatClampNeg d = v) (hd : decode c.code pc = .ok (.saload, 1)) (kk : own_Go p e below Φ T (mkF m (pc + 1) Ls (v :: rest))) : own_Go p e below Φ T (mkF m pc Ls (.int j :: .ref a :: rest)) := by
  obtain ⟨cl, A, -, S, N, H, -⟩ := V
  have hin := inb_of S hj
  exact own_k (fun t q => X.saload hx (j := j) (v := v) (by rw [eT]; exact A.1) (State.isArrayOf_alike hZ.alike A.2.1) A.2.2 hin (H.at hin hv) (g := mkF m pc Ls (.int j :: .ref a :: rest)) rfl rfl hd t q) kk
theorem own_caload (X : Stand p l e R s m args below meth c T locs cells slots) (hx : p.tables.exec = Jvm.exec) (hZ : Z.Warmed39 s.vm) (eT : T.heap = h) {a : Addr} {k : ClassId} {n : Int32} {vs : List Value} {d : Value} (V : Arv Z h a k .char n vs d) {j : Int32} (hj : ¬ j < 0 ∧ j < n) {v : Value} (hv : vs.getD j.toNatClampNeg d = v) (hd : decode c.code pc = .ok (.caload, 1)) (kk : own_Go p e below Φ T (mkF m (pc + 1) Ls (v :: rest))) : own_Go p e below Φ T (mkF m pc Ls (.int j :: .ref a :: rest)) := by
  obtain ⟨cl, A, -, S, N, H, -⟩ := V
  have hin := inb_of S hj
  exact own_k (fun t q => X.caload hx (j := j) (v := v) (by rw [eT]; exact A.1) (State.isArrayOf_alike hZ.alike A.2.1) A.2.2 hin (H.at hin hv) (g := mkF m pc Ls (.int j :: .ref a :: rest)) rfl rfl hd t q) kk
theorem own_laload (X : Stand p l e R s m args below meth c T locs cells slots) (hx : p.tables.exec = Jvm.exec) (hZ : Z.Warmed39 s.vm) (eT : T.heap = h) {a : Addr} {k : ClassId} {n : Int32} {vs : List Value} {d : Value} (V : Arv Z h a k .long n vs d) {j : Int32} (hj : ¬ j < 0 ∧ j < n) {v : Value} (hv : vs.getD j.toNatClampNeg d = v) (hd : decode c.code pc = .ok (.laload, 1)) (kk : own_Go p e below Φ T (mkF m (pc + 1) Ls (v :: rest))) : own_Go p e below Φ T (mkF m pc Ls (.int j :: .ref a :: rest)) := by
  obtain ⟨cl, A, -, S, N, H, -⟩ := V
  have hin := inb_of S hj
  exact own_k (fun t q => X.laload hx (j := j) (v := v) (by rw [eT]; exact A.1) (State.isArrayOf_alike hZ.alike A.2.1) A.2.2 hin (H.at hin hv) (g := mkF m pc Ls (.int j :: .ref a :: rest)) rfl rfl hd t q) kk
theorem own_baload (X : Stand p l e R s m args below meth c T locs cells slots) (hx : p.tables.exec = Jvm.exec) (hZ : Z.Warmed39 s.vm) (eT : T.heap = h) {a : Addr} {k : ClassId} {n : Int32} {vs : List Value} {d : Value} (V : Arv Z h a k .byte n vs d) {j : Int32} (hj : ¬ j < 0 ∧ j < n) {v : Value} (hv : vs.getD j.toNatClampNeg d = v) (hd : decode c.code pc = .ok (.baload, 1)) (kk : own_Go p e below Φ T (mkF m (pc + 1) Ls (v :: rest))) : own_Go p e below Φ T (mkF m pc Ls (.int j :: .ref a :: rest)) := by
  obtain ⟨cl, A, -, S, N, H, -⟩ := V
  have hin := inb_of S hj
  exact own_k (fun t q => X.baloadBytes hx (j := j) (v := v) (by rw [eT]; exact A.1) (State.isArrayOf_alike hZ.alike A.2.1) A.2.2 hin (H.at hin hv) (g := mkF m pc Ls (.int j :: .ref a :: rest)) rfl rfl hd t q) kk
theorem own_aaload (X : Stand p l e R s m args below meth c T locs cells slots) (hx : p.tables.exec = Jvm.exec) (hZ : Z.Warmed39 s.vm) (eT : T.heap = h) {a : Addr} {k : ClassId} {n : Int32} {vs : List Value} {d : Value} {ty : FieldType} (V : Arv Z h a k ty n vs d) (ht : ty.isReference = true) {j : Int32} (hj : ¬ j < 0 ∧ j < n) {v : Value} (hv : vs.getD j.toNatClampNeg d = v) (hd : decode c.code pc = .ok (.aaload, 1)) (kk : own_Go p e below Φ T (mkF m (pc + 1) Ls (v :: rest))) : own_Go p e below Φ T (mkF m pc Ls (.int j :: .ref a :: rest)) := by
  obtain ⟨cl, A, -, S, N, H, -⟩ := V
  have hin := inb_of S hj
  exact own_k (fun t q => X.aaload hx (j := j) (v := v) (by rw [eT]; exact A.1) (State.isArrayOf_alike hZ.alike A.2.1) ht A.2.2 hin (H.at hin hv) (g := mkF m pc Ls (.int j :: .ref a :: rest)) rfl rfl hd t q) kk
theorem own_len (X : Stand p l e R s m args below meth c T locs cells slots) (hx : p.tables.exec = Jvm.exec) (hZ : Z.Warmed39 s.vm) (eT : T.heap = h) {a : Addr} {k : ClassId} {n : Int32} {vs : List Value} {d : Value} {ty : FieldType} (V : Arv Z h a k ty n vs d) (hd : decode c.code pc = .ok (.arraylength, 1)) (kk : own_Go p e below Φ T (mkF m (pc + 1) Ls (.int n :: rest))) : own_Go p e below Φ T (mkF m pc Ls (.ref a :: rest)) := by
  obtain ⟨cl, A, -, S, N, H, -⟩ := V
  refine own_k (fun t q => X.arraylength hx (by rw [eT]; exact A.1) (State.isArrayOf_alike hZ.alike A.2.1) (g := mkF m pc Ls (.ref a :: rest)) rfl rfl hd t q) ?_
  rw [len_of S N]
  exact kk
theorem own_iastore (X : Stand p l e R s m args below meth c T locs cells slots) (hx : p.tables.exec = Jvm.exec) (hZ : Z.Warmed39 s.vm) (eT : T.heap = h) {a : Addr} {k : ClassId} {n : Int32} {vs : List Value} {d : Value} (V : Arv Z h a k .int n vs d) {j : Int32} {x : Int32} (hj : ¬ j < 0 ∧ j < n) (i : Nat) (hi : j.toNatClampNeg = i) (hl : i < vs.length) (hd : decode c.code pc = .ok (.iastore, 1)) :
    ∃ T' h', Stand p l e R s m args below meth c T' (locs ++ [⟨a, j.toNatClampNeg⟩]) cells slots ∧ T'.heap = h' ∧ Wr h h' a j.toNatClampNeg (.int x) ∧ Arv Z h' a k .int n (vs.set i (.int x)) d ∧ ∀ t, Steps p.tables e below (T'.setTop (mkF m (pc + 1) Ls rest)) t → Steps p.tables e below (T.setTop (mkF m pc Ls ((.int x) :: .int j :: .ref a :: rest))) t := by
  obtain ⟨cl, A, q, S, N, H, G⟩ := V
  have hin := inb_of S hj
  obtain ⟨T', h', X', e', W, st'⟩ := stI X hx hZ eT A (j := j) (x := x) hin (g := mkF m pc Ls ((.int x) :: .int j :: .ref a :: rest)) rfl rfl hd
  exact ⟨T', h', X', e', W, Arv.set A q S N H G rfl W i hi hl, st'⟩
theorem own_lastore (X : Stand p l e R s m args below meth c T locs cells slots) (hx : p.tables.exec = Jvm.exec) (hZ : Z.Warmed39 s.vm) (eT : T.heap = h) {a : Addr} {k : ClassId} {n : Int32} {vs : List Value} {d : Value} (V : Arv Z h a k .long n vs d) {j : Int32} {x : Int64} (hj : ¬ j < 0 ∧ j < n) (i : Nat) (hi : j.toNatClampNeg = i) (hl : i < vs.length) (hd : decode c.code pc = .ok (.lastore, 1)) :
    ∃ T' h', Stand p l e R s m args below meth c T' (locs ++ [⟨a, j.toNatClampNeg⟩]) cells slots ∧ T'.heap = h' ∧ Wr h h' a j.toNatClampNeg (.long x) ∧ Arv Z h' a k .long n (vs.set i (.long x)) d ∧ ∀ t, Steps p.tables e below (T'.setTop (mkF m (pc + 1) Ls rest)) t → Steps p.tables e below (T.setTop (mkF m pc Ls ((.long x) :: .int j :: .ref a :: rest))) t := by
  obtain ⟨cl, A, q, S, N, H, G⟩ := V
  have hin := inb_of S hj
  obtain ⟨T', h', X', e', W, st'⟩ := stJ X hx hZ eT A (j := j) (x := x) hin (g := mkF m pc Ls ((.long x) :: .int j :: .ref a :: rest)) rfl rfl hd
  exact ⟨T', h', X', e', W, Arv.set A q S N H G rfl W i hi hl, st'⟩
theorem own_castore (X : Stand p l e R s m args below meth c T locs cells slots) (hx : p.tables.exec = Jvm.exec) (hZ : Z.Warmed39 s.vm) (eT : T.heap = h) {a : Addr} {k : ClassId} {n : Int32} {vs : List Value} {d : Value} (V : Arv Z h a k .char n vs d) {j : Int32} {x : Int32} (hj : ¬ j < 0 ∧ j < n) (i : Nat) (hi : j.toNatClampNeg = i) (hl : i < vs.length) (hd : decode c.code pc = .ok (.castore, 1)) :
    ∃ T' h', Stand p l e R s m args below meth c T' (locs ++ [⟨a, j.toNatClampNeg⟩]) cells slots ∧ T'.heap = h' ∧ Wr h h' a j.toNatClampNeg (.int (nar .char x)) ∧ Arv Z h' a k .char n (vs.set i (.int (nar .char x))) d ∧ ∀ t, Steps p.tables e below (T'.setTop (mkF m (pc + 1) Ls rest)) t → Steps p.tables e below (T.setTop (mkF m pc Ls ((.int x) :: .int j :: .ref a :: rest))) t := by
  obtain ⟨cl, A, q, S, N, H, G⟩ := V
  have hin := inb_of S hj
  obtain ⟨T', h', X', e', W, st'⟩ := stC X hx hZ eT A (j := j) (x := x) hin (g := mkF m pc Ls ((.int x) :: .int j :: .ref a :: rest)) rfl rfl hd
  exact ⟨T', h', X', e', W, Arv.set A q S N H G (fits_nar_char x) W i hi hl, st'⟩
theorem own_sastore (X : Stand p l e R s m args below meth c T locs cells slots) (hx : p.tables.exec = Jvm.exec) (hZ : Z.Warmed39 s.vm) (eT : T.heap = h) {a : Addr} {k : ClassId} {n : Int32} {vs : List Value} {d : Value} (V : Arv Z h a k .short n vs d) {j : Int32} {x : Int32} (hj : ¬ j < 0 ∧ j < n) (i : Nat) (hi : j.toNatClampNeg = i) (hl : i < vs.length) (hd : decode c.code pc = .ok (.sastore, 1)) :
    ∃ T' h', Stand p l e R s m args below meth c T' (locs ++ [⟨a, j.toNatClampNeg⟩]) cells slots ∧ T'.heap = h' ∧ Wr h h' a j.toNatClampNeg (.int (nar .short x)) ∧ Arv Z h' a k .short n (vs.set i (.int (nar .short x))) d ∧ ∀ t, Steps p.tables e below (T'.setTop (mkF m (pc + 1) Ls rest)) t → Steps p.tables e below (T.setTop (mkF m pc Ls ((.int x) :: .int j :: .ref a :: rest))) t := by
  obtain ⟨cl, A, q, S, N, H, G⟩ := V
  have hin := inb_of S hj
  obtain ⟨T', h', X', e', W, st'⟩ := stS X hx hZ eT A (j := j) (x := x) hin (g := mkF m pc Ls ((.int x) :: .int j :: .ref a :: rest)) rfl rfl hd
  exact ⟨T', h', X', e', W, Arv.set A q S N H G (fits_nar_short x) W i hi hl, st'⟩
theorem own_bastore (X : Stand p l e R s m args below meth c T locs cells slots) (hx : p.tables.exec = Jvm.exec) (hZ : Z.Warmed39 s.vm) (eT : T.heap = h) {a : Addr} {k : ClassId} {n : Int32} {vs : List Value} {d : Value} (V : Arv Z h a k .byte n vs d) {j : Int32} {x : Int32} (hj : ¬ j < 0 ∧ j < n) (i : Nat) (hi : j.toNatClampNeg = i) (hl : i < vs.length) (hd : decode c.code pc = .ok (.bastore, 1)) :
    ∃ T' h', Stand p l e R s m args below meth c T' (locs ++ [⟨a, j.toNatClampNeg⟩]) cells slots ∧ T'.heap = h' ∧ Wr h h' a j.toNatClampNeg (.int (nar .byte x)) ∧ Arv Z h' a k .byte n (vs.set i (.int (nar .byte x))) d ∧ ∀ t, Steps p.tables e below (T'.setTop (mkF m (pc + 1) Ls rest)) t → Steps p.tables e below (T.setTop (mkF m pc Ls ((.int x) :: .int j :: .ref a :: rest))) t := by
  obtain ⟨cl, A, q, S, N, H, G⟩ := V
  have hin := inb_of S hj
  obtain ⟨T', h', X', e', W, st'⟩ := stB X hx hZ eT A (j := j) (x := x) hin (g := mkF m pc Ls ((.int x) :: .int j :: .ref a :: rest)) rfl rfl hd
  exact ⟨T', h', X', e', W, Arv.set A q S N H G (fits_nar_byte x) W i hi hl, st'⟩
theorem own_aastore (X : Stand p l e R s m args below meth c T locs cells slots) (hx : p.tables.exec = Jvm.exec) (hZ : Z.Warmed39 s.vm) (eT : T.heap = h) {a : Addr} {k : ClassId} {n : Int32} {vs : List Value} {d : Value} {ty : FieldType} (V : Arv Z h a k ty n vs d) (ht : ty.isReference = true) {j : Int32} {v : Value} (hj : ¬ j < 0 ∧ j < n) (hf : fits ty v = true) (F : ∀ cl : Cell, Arr Z h a cl ty → cl.cls = k → Sto Z h a v) (i : Nat) (hi : j.toNatClampNeg = i) (hl : i < vs.length) (hd : decode c.code pc = .ok (.aastore, 1)) :
    ∃ T' h', Stand p l e R s m args below meth c T' (locs ++ [⟨a, j.toNatClampNeg⟩]) cells slots ∧ T'.heap = h' ∧ Wr h h' a j.toNatClampNeg v ∧ Arv Z h' a k ty n (vs.set i v) d ∧ ∀ t, Steps p.tables e below (T'.setTop (mkF m (pc + 1) Ls rest)) t → Steps p.tables e below (T.setTop (mkF m pc Ls (v :: .int j :: .ref a :: rest))) t := by
  obtain ⟨cl, A, q, S, N, H, G⟩ := V
  have hin := inb_of S hj
  obtain ⟨T', h', X', e', W, st'⟩ := stR X hx hZ eT A (j := j) (v := v) hin ht (F cl A q) (g := mkF m pc Ls (v :: .int j :: .ref a :: rest)) rfl rfl hd
  exact ⟨T', h', X', e', W, Arv.set A q S N H G hf W i hi hl, st'⟩
theorem own_newarr (X : Stand p l e R s m args below meth c T locs cells slots) (hx : p.tables.exec = Jvm.exec) (hZ : Z.Warmed39 s.vm) {aty : ArrayType} (w : (Cond.arrayClass (newarray.typeOf aty)).before a0 Z = true) (eT : T.heap = h) (hd : decode c.code pc = .ok (.newarray aty, 2)) {n : Int32} (hn : ¬ n < 0) {cap : Nat} (hcap : n.toNatClampNeg ≤ cap) (hb : cap * 8 ≤ 536870912) (hc : cells + 1 ≤ R.cells) (hl : slots + cap ≤ R.slots) {ad : String} (had : "[" ++ (newarray.typeOf aty).toString = ad) :
    ∃ T' h' cA, Stand p l e R s m args below meth c T' locs (cells + 1) (slots + cap) ∧ T'.heap = h' ∧ Ext h h' ∧ Arv Z h' h.size cA (newarray.typeOf aty) n (List.replicate cap (defaultValue (newarray.typeOf aty))) (defaultValue (newarray.typeOf aty)) ∧ Exa Z h' h.size ad ∧
      ∀ t, Steps p.tables e below (T'.setTop (mkF m (pc + 2) Ls (.ref h.size :: rest))) t → Steps p.tables e below (T.setTop (mkF m pc Ls (.int n :: rest))) t := by
  obtain ⟨T', h', cA, X', e', E', A', C', st'⟩ := newPE X hx hZ w eT (g := mkF m pc Ls (.int n :: rest)) rfl hd rfl hn hcap hb hc hl had
  exact ⟨T', h', cA, X', e', E', (Arv.new A' hn).pad (fun i => by have q := pad_rep [] (defaultValue (newarray.typeOf aty)) cap i; simpa using q), C', st'⟩
theorem own_newref (X : Stand p l e R s m args below meth c T locs cells slots) (hx : p.tables.exec = Jvm.exec) (hZ : Z.Warmed39 s.vm) {own C : String} {index : Nat} (hown : s.vm.findClass own = some m.cls) (w1 : (Cond.classLink own index C).before a0 Z = true) (w2 : (Cond.arrayOver (.object C)).before a0 Z = true) (eT : T.heap = h) (hd : decode c.code pc = .ok (.anewarray index, 3)) {n : Int32} (hn : ¬ n < 0) {cap : Nat} (hcap : n.toNatClampNeg ≤ cap) (hb : cap * 8 ≤ 536870912) (hc : cells + 1 ≤ R.cells) (hl : slots + cap ≤ R.slots) {ad : String} (had : "[" ++ (FieldType.object C).toString = ad) :
    ∃ T' h' cA, Stand p l e R s m args below meth c T' locs (cells + 1) (slots + cap) ∧ T'.heap = h' ∧ Ext h h' ∧ Arv Z h' h.size cA (.object C) n (List.replicate cap .null) .null ∧ Exa Z h' h.size ad ∧ Ovr Z cA C ∧
      ∀ t, Steps p.tables e below (T'.setTop (mkF m (pc + 3) Ls (.ref h.size :: rest))) t → Steps p.tables e below (T.setTop (mkF m pc Ls (.int n :: rest))) t := by
  obtain ⟨T', h', cA, X', e', E', A', C', O', st'⟩ := newRE X hx hZ hown w1 w2 eT (g := mkF m pc Ls (.int n :: rest)) rfl hd rfl hn hcap hb hc hl had
  exact ⟨T', h', cA, X', e', E', (Arv.new A' hn).pad (fun i => by have q := pad_rep [] (.null) cap i; simpa [defaultValue] using q), C', O', st'⟩
theorem own_newarr2 (X : Stand p l e R s m args below meth c T locs cells slots) (hx : p.tables.exec = Jvm.exec) (hZ : Z.Warmed39 s.vm) {own C : String} {ty : FieldType} {index : Nat} (hown : s.vm.findClass own = some m.cls) (hC : (FieldType.array ty).toString = C) (w1 : (Cond.classLink own index C).before a0 Z = true) (w2 : (Cond.arrayOver (.array ty)).before a0 Z = true) (eT : T.heap = h) (hd : decode c.code pc = .ok (.anewarray index, 3)) {n : Int32} (hn : ¬ n < 0) {cap : Nat} (hcap : n.toNatClampNeg ≤ cap) (hb : cap * 8 ≤ 536870912) (hc : cells + 1 ≤ R.cells) (hl : slots + cap ≤ R.slots) {ad : String} (had : "[" ++ C = ad) :
    ∃ T' h' cA, Stand p l e R s m args below meth c T' locs (cells + 1) (slots + cap) ∧ T'.heap = h' ∧ Ext h h' ∧ Arv Z h' h.size cA (.array ty) n (List.replicate cap .null) .null ∧ Exa Z h' h.size ad ∧ OvrA Z cA ty C ∧
      ∀ t, Steps p.tables e below (T'.setTop (mkF m (pc + 3) Ls (.ref h.size :: rest))) t → Steps p.tables e below (T.setTop (mkF m pc Ls (.int n :: rest))) t := by
  obtain ⟨T', h', cA, X', e', E', A', C', O', st'⟩ := newRA X hx hZ hown hC w1 w2 eT (g := mkF m pc Ls (.int n :: rest)) rfl hd rfl hn hcap hb hc hl had
  exact ⟨T', h', cA, X', e', E', (Arv.new A' hn).pad (fun i => by have q := pad_rep [] (.null) cap i; simpa [defaultValue] using q), C', O', st'⟩
theorem own_callP (X : Stand p l e R s m args below meth c T locs cells slots) (hx : p.tables.exec = Jvm.exec) (hZ : Z.Warmed39 s.vm) {own : String} {index kk : Nat} {y : MethodName} {bytes : ByteArray} {maxL : Nat} {ret : Option FieldType} (hown : s.vm.findClass own = some m.cls)
    (w1 : (Cond.methodLink own index y).before a0 Z = true) (w2 : (Cond.instanceMethod y).before a0 Z = true) (w3 : (Cond.privateMethod y).before a0 Z = true) (w4 : (Cond.code y bytes maxL ret).before a0 Z = true) (w5 : (Cond.initialized y.cls).before a0 Z = true) (w6 : (Cond.instantiable y.cls kk).before a0 Z = true) (hy : y.cls ≠ "java/lang/invoke/MethodHandle" ∧ y.cls ≠ "java/lang/invoke/VarHandle")
    {rm : Room} {al : List Value} {b : Addr} {C : String} (E : Exa Z h b C) (hM : own_Met l Z y bytes maxL ret rm (.ref b :: al).toArray h Q) (W : Nat) (hf : rm.frames + 1 ≤ R.frames) (hl : W + (maxL + 11) + rm.locals ≤ R.locals) (eT : T.heap = h) (hc : cells + rm.cells ≤ R.cells) (hn : slots + rm.slots ≤ R.slots)
    (hsz : Ls.size = c.maxLocals) (hlen : ∀ sig, parseMethodDescriptor y.desc = some sig → al.length = sig.parameters.length) (hst : st = al.reverse ++ .ref b :: rest) (hW : 2 * 0 + (rest.map fun v => v.category).sum ≤ W) (hd : decode c.code pc = .ok (.invokevirtual index, 3))
    (k : ∀ (v : Option Value) (T' : State) (L : List Loc), Stand p l e R s m args below meth c T' (locs ++ L) (cells + rm.cells) (slots + rm.slots) → Q v T'.heap L → own_Go p e below Φ T' (mkF m (pc + 3) Ls (v.toList ++ rest))) : own_Go p e below Φ T (mkF m pc Ls st) := by
  obtain ⟨cB, q1, q2⟩ := E.cell
  have hp : s.PrivateAt y := Cond.privateMethod_at (mvP hZ w3 (args := #[]))
  obtain ⟨cc, ki, z1, z2, -, z4, -⟩ := Cond.instantiable_spec (mvT (s := s) (args := args) hZ w6)
  have hsel : (Cond.selects y.cls y y).before args s = true := selects_self_of_private z1 z2 (by simp only [Bool.or_eq_false_iff] at z4; exact z4.1) hp (mvT hZ w2) hy
  obtain ⟨v, vm₁, ⟨T', L', k', n'⟩, -, X', ⟨L, hQ, l1, l2, l3⟩, st'⟩ := X.privateBack hx (y := y) hown (mvT hZ w1) (mvT hZ w2) hsel hp (mvT hZ w4) hy (own_back (W := W) hM hZ w4 w5 hf hl) (g := mkF m pc Ls st) rfl hsz (Steps.refl _) (a := b) (cell := cB) (by rw [eT]; exact q1) q2 (argsL := al) (rest := rest) hlen hst hW hd (fun _ _ => ⟨rfl, eT, hc, hn⟩)
  dsimp only [Pt.U, Pt.locs, Pt.cells, Pt.slots] at X' l1 l2 l3 st' hQ
  subst l1 l2 l3
  exact own_s st' (k v T' L X' hQ)
theorem own_eqI {args : Array Value} {t : Term} {n : Int32} (hq : (Cond.eq t (.int n)).value args Z none Z [] = some true) : t.eval args Z none [] Z = some (.int n) := eqv_i (Term.int_eval n) hq
theorem own_fldI {args : Array Value} {t : Term} {n : Int32} {a : Addr} {C f d : String} (ev : t.eval args Z none [] Z = some (.ref a)) (hq : (Cond.eq (.field t C f d) (.int n)).value args Z none Z [] = some true) : Fld Z Z.heap a C f d (.int n) := by
  have q := own_eqI hq
  rw [fld_at ev] at q
  exact Fld.start q
theorem own_nar_short (x : Int32) : nar .short x.toInt16.toInt32 = x.toInt16.toInt32 := by simp [nar]
theorem own_nar_byte (x : Int32) : nar .byte x.toInt8.toInt32 = x.toInt8.toInt32 := by simp [nar]
theorem own_nar_char (x : Int32) : nar .char x.toUInt32.toUInt16.toUInt32.toInt32 = x.toUInt32.toUInt16.toUInt32.toInt32 := by
  have e1 := c_i2c x
  have e2 := c_i2c (x.toUInt32.toUInt16.toUInt32.toInt32)
  exact Int32.toInt_inj.mp (by show (x.toUInt32.toUInt16.toUInt32.toInt32.toUInt32.toUInt16.toUInt32.toInt32).toInt = _; omega)
end Own
end Jvm.RoadKit
namespace Jvm.RoadKit
open Sem ClassFile Op Lib Jvm.Stand Jvm.Free Jvm.LawKit
section Own2
variable {p : Program} {l : Launch} {e : Env} {R : Room} {s : State} {m : MethodId} {args : Array Value} {below : List Frame} {meth : Method} {c : Code} {T T' : State} {locs : List Loc} {cells slots : Nat} {Z : State} {a0 : Array Value} {h : Heap} {Φ : State → Prop} {g g' : JFrame} {Q : Option Value → Heap → List Loc → Prop} {kc ks pc : Nat} {Ls : Array Slot} {st rest : List Value}
theorem own_ldcM (X : Stand p l e R s m args below meth c T locs cells slots) (hx : p.tables.exec = Jvm.exec) (hZ : Z.Warmed39 s.vm) {own C : String} {index : Nat} (hown : s.vm.findClass own = some m.cls) (w : (Cond.classLink own index C).before a0 Z = true) (eT : T.heap = h) {mr : Addr} (M : Mir Z C mr) (hg : g.method = m) (hd : decode c.code g.pc = .ok (.ldc index, 2)) :
    ∃ T', Stand p l e R s m args below meth c T' locs cells slots ∧ T'.heap = h ∧ ∀ target, Steps p.tables e below (T'.setTop { g with pc := g.pc + 2, stack := .ref mr :: g.stack }) target → Steps p.tables e below (T.setTop g) target := by
  obtain ⟨cc, k1, m1, m2, m3, -⟩ := M
  obtain ⟨k', q, ek⟩ := hZ.alike.2.2 _ _ m2
  have q1 : s.vm.findClass C = some cc := by rw [hZ.alike.findClass]; exact m1
  have q2 : k'.mirror = some mr := by rw [ek]; exact m3
  obtain ⟨vm', X', st⟩ := X.ldcMirror hx hown (mv hZ w) (a := mr) (by simp [Term.eval, q1, q, q2]) hg hd
  exact ⟨_, X', eT, st⟩
theorem own_callF (X : Stand p l e R s m args below meth c T locs cells slots) (hx : p.tables.exec = Jvm.exec) (hZ : Z.Warmed39 s.vm) {own C : String} {index count : Nat} {y z : MethodName} {bytes : ByteArray} {maxL : Nat} {ret : Option FieldType} (hown : s.vm.findClass own = some m.cls)
    (w1 : (Cond.methodLink own index y).before a0 Z = true) (w2 : (Cond.declares y).before a0 Z = true) (w3 : (Cond.interfaceMethod y.cls y.cls y.name y.desc).before a0 Z = true) (w4 : (Cond.selects C y z).before a0 Z = true) (w5 : (Cond.instanceMethod z).before a0 Z = true) (w6 : (Cond.publicMethod z).before a0 Z = true) (w7 : (Cond.unhidden C y.name y.desc).before a0 Z = true) (w8 : (Cond.castable C y.cls).before a0 Z = true) (w9 : (Cond.code z bytes maxL ret).before a0 Z = true) (w10 : (Cond.initialized z.cls).before a0 Z = true) (hy : y.cls ≠ "java/lang/invoke/MethodHandle" ∧ y.cls ≠ "java/lang/invoke/VarHandle")
    {rm : Room} {al : List Value} {b : Addr} (E : Exa Z h b C) (hM : own_Met l Z z bytes maxL ret rm (.ref b :: al).toArray h Q) (W : Nat) (hf : rm.frames + 1 ≤ R.frames) (hl : W + (maxL + 11) + rm.locals ≤ R.locals) (eT : T.heap = h) (hc : cells + rm.cells ≤ R.cells) (hn : slots + rm.slots ≤ R.slots)
    (hsz : Ls.size = c.maxLocals) (hlen : ∀ sig, parseMethodDescriptor y.desc = some sig → al.length = sig.parameters.length) (hst : st = al.reverse ++ .ref b :: rest) (hW : 2 * 0 + (rest.map fun v => v.category).sum ≤ W) (hd : decode c.code pc = .ok (.invokeinterface index count, 5))
    (k : ∀ (v : Option Value) (T' : State) (L : List Loc), Stand p l e R s m args below meth c T' (locs ++ L) (cells + rm.cells) (slots + rm.slots) → Q v T'.heap L → own_Go p e below Φ T' (mkF m (pc + 5) Ls (v.toList ++ rest))) : own_Go p e below Φ T (mkF m pc Ls st) := by
  obtain ⟨cB, kB, q1, q2, q3⟩ := isOf hZ eT E
  obtain ⟨v, vm₁, ⟨T', L', k', n'⟩, -, X', ⟨L, hQ, l1, l2, l3⟩, st'⟩ := X.interfaceBack hx (xi := y) (y := z) hown (mvT hZ w1) (mvT hZ w2) (mvT hZ w3 (by simp [Cond.onTables, Cond.keepsFace, Cond.keeps, Cond.steady, Cond.faceAtom, hy.1, hy.2])) (mvT hZ w4) (mvT hZ w5) (mvT hZ w6) (mvT hZ w7) (mvT hZ w8) hy (own_back (W := W) hM hZ w9 w10 hf hl) q1 q2 q3 (g := mkF m pc Ls st) rfl hsz (Steps.refl _) (argsL := al) (rest := rest) hlen hst hW hd (fun _ _ => ⟨rfl, eT, hc, hn⟩)
  dsimp only [Pt.U, Pt.locs, Pt.cells, Pt.slots] at X' l1 l2 l3 st' hQ
  subst l1 l2 l3
  exact own_s st' (k v T' L X' hQ)
theorem own_NSroot {O K : String} {n : Nat} (w : (Cond.noSuperclass O).before a0 Z = true) (wk : (Cond.instantiable K n).before a0 Z = true) (hn : O ≠ K) : NS Z O K := by
  obtain ⟨c, k, h1, h2, h3, -, -⟩ := Cond.noSuperclass_spec w
  obtain ⟨t, k', g1, -⟩ := Cond.instantiable_spec wk
  have ne := ids_ne h1 g1 hn
  refine ⟨c, t, h1, g1, fun fuel => ?_⟩
  cases fuel with
  | zero => rfl
  | succ f => simp [Vm.isSubclassAux, ne, h2, h3]
theorem own_NSno {C S K : String} {n : Nat} (w : (Cond.superclass C S).before a0 Z = true) (wk : (Cond.instantiable K n).before a0 Z = true) (N : NS Z C K) (hn : C ≠ K) : ∃ c t, Z.vm.findClass C = some c ∧ Z.vm.findClass K = some t ∧ Z.vm.assignable c t = false := by
  obtain ⟨c, t, h0, g0, n3⟩ := N
  obtain ⟨p, k, kp, h1, h2, h3, h4, h5, -, h7⟩ := Cond.superclass_spec h0 w
  obtain ⟨t', k', g1, g2, g5, g7, -⟩ := Cond.instantiable_spec wk
  cases g0.symm.trans g1
  have g7' : k'.isInterface = false := (Bool.or_eq_false_iff.mp g7).1
  have ne := ids_ne h0 g0 hn
  refine ⟨c, t, h0, g0, ?_⟩
  show Z.vm.assignableAux (255 + 1) c t = false
  simp [Vm.assignableAux, ne, h2, g2, h5, g5, g7', Vm.isSubclass, n3]
theorem own_arv0 {t : Term} {a : Addr} {ty : FieldType} {dv : Value} (hf : Fit Z) (ev : t.eval args Z none [] Z = some (.ref a)) (ha : (Cond.arrayOf t ty).value args Z none Z [] = some true) (hl : (Cond.eq (.length t) (.int (0 : Int32))).value args Z none Z [] = some true) : ∃ k, Arv Z Z.heap a k ty (0 : Int32) [] dv := by
  obtain ⟨cl, A⟩ := Arr.start ev ha
  have q := own_eqI hl
  have ea : Z.arrayAt? a = some cl := Arr.fin (U := Z) (Vm.Alike.refl _) A
  simp only [Term.eval, ev, ea, Option.bind_eq_bind, Option.bind_some] at q
  by_cases hs : cl.slots.size < 2 ^ 31
  · rw [if_pos hs] at q
    have e : cl.slots.size.toInt32 = (0 : Int32) := by simpa using q
    exact ⟨_, Arv.start hf A hs e (by decide) rfl trivial⟩
  · rw [if_neg hs] at q; cases q
theorem own_fldN {t : Term} {a : Addr} {C f d : String} (ev : t.eval args Z none [] Z = some (.ref a)) (hq : (Cond.eq (.field t C f d) .null).value args Z none Z [] = some true) : Fld Z Z.heap a C f d .null := by
  have q := null_v hq
  rw [fld_at ev] at q
  exact Fld.start q
theorem own_sto {b y : Addr} {k : ClassId} {ty : FieldType} {z : Int32} {vs : List Value} {dv : Value} {C : String} (V : Arv Z h b k ty z vs dv) (O : Ovr Z k C) (I : Ins Z h y C true) : Sto Z h b (.ref y) := by
  obtain ⟨cl, A, q, -⟩ := V
  exact Sto.ofV A q O I
theorem own_lat (x : Int32) : ¬ ((255 : Int32) < ((x &&& (255 : Int32)).toUInt32.toUInt16.toUInt32.toInt32)) := by
  rw [i2c_mask, Int32.lt_iff_toInt_lt]
  have e1 : (x &&& 255).toInt = x.toInt % (2 ^ 8 : Nat) := c_mask x 255 8 (by decide) (by decide)
  have e2 : (255 : Int32).toInt = 255 := by decide
  omega
theorem own_lat8 (x : Int32) : ((((x &&& (255 : Int32)).toUInt32.toUInt16.toUInt32.toInt32).toUInt32 >>> ((8 : Int32) &&& 31).toUInt32).toInt32) = (0 : Int32) := by
  rw [i2c_mask]
  have e1 : (x &&& 255).toInt = x.toInt % (2 ^ 8 : Nat) := c_mask x 255 8 (by decide) (by decide)
  have e2 := c_iushr (x &&& 255) (8 : Int32) 8 (by decide) (by decide)
  have z0 : (0 : Int32).toInt = 0 := by decide
  exact Int32.toInt_inj.mp (by omega)
end Own2
end Jvm.RoadKit
namespace Jvm.Pilot.@@N@@
open Jvm Jvm.ClassFile Sem Op Lib Jvm.Free Jvm.Stand Jvm.LawKit Jvm.RoadKit Bundle Jvm.Pilot.@@N@@.Jvm.D
def own_W (Z : State) (a0 : Array Value) (g_COMPACT_STRINGS : Int32) (g_SIOOBE_FORMATTER : Value) (g_DEFAULTCAPACITY_EMPTY_ELEMENTDATA : Addr) (g_EMPTY : Addr) (g_EMPTY_LIST : Addr) (gk_DEFAULTCAPACITY_EMPTY_ELEMENTDATA : ClassId) (g_NONE : Addr) (g_mir : Addr) : Prop := (∀ d ∈ tables_1, d.before a0 Z = true) ∧ (Sta Z Z.heap "java/lang/String" "COMPACT_STRINGS" "Z" (.int g_COMPACT_STRINGS)) ∧ (¬ (g_COMPACT_STRINGS = (0 : Int32))) ∧ (g_SIOOBE_FORMATTER.isRef = true) ∧ (Sta Z Z.heap "jdk/internal/util/Preconditions" "SIOOBE_FORMATTER" "Ljava/util/function/BiFunction;" g_SIOOBE_FORMATTER) ∧ (Sta Z Z.heap "java/util/ImmutableCollections" "$assertionsDisabled" "Z" (.int (1 : Int32))) ∧ (Sta Z Z.heap "java/util/ArrayList" "DEFAULTCAPACITY_EMPTY_ELEMENTDATA" "[Ljava/lang/Object;" (.ref g_DEFAULTCAPACITY_EMPTY_ELEMENTDATA)) ∧ (Exa Z Z.heap g_DEFAULTCAPACITY_EMPTY_ELEMENTDATA "[Ljava/lang/Object;") ∧ (Sta Z Z.heap "java/util/ImmutableCollections" "EMPTY" "Ljava/lang/Object;" (.ref g_EMPTY)) ∧ (Exa Z Z.heap g_EMPTY "java/lang/Object") ∧ (Sta Z Z.heap "java/util/ImmutableCollections" "EMPTY_LIST" "Ljava/util/ImmutableCollections$ListN;" (.ref g_EMPTY_LIST)) ∧ (Exa Z Z.heap g_EMPTY_LIST "java/util/ImmutableCollections$ListN") ∧ (Arv Z Z.heap g_DEFAULTCAPACITY_EMPTY_ELEMENTDATA gk_DEFAULTCAPACITY_EMPTY_ELEMENTDATA (.object "java/lang/Object") (0 : Int32) [] .null) ∧ (Fld Z Z.heap g_EMPTY_LIST "java/util/ImmutableCollections$ListN" "allowNulls" "Z" (.int (0 : Int32))) ∧ (Sta Z Z.heap "com/example/restoral/restoral/engine/Steps" "NONE" "Lcom/example/restoral/restoral/engine/Steps;" (.ref g_NONE)) ∧ (Exa Z Z.heap g_NONE "com/example/restoral/restoral/engine/Steps") ∧ (Fld Z Z.heap g_NONE "com/example/restoral/restoral/engine/Steps" "owner" "Lcom/example/restoral/restoral/engine/RowName;" .null) ∧ (Mir Z "[Ljava/lang/Object;" g_mir)
theorem ef_0_III (m : MethodId) (x0 : Int32) (x1 : Int32) (x2 : Int32)  : entryFrame m #[(.int x0), (.int x1), (.int x2)] maxLocals = mkF m 0 #[.val (.int x0), .val (.int x1), .val (.int x2), .unset, .unset, .unset, .unset, .unset, .unset, .unset, .unset] [] := by first | (simp [entryFrame, mkF, argsToLocals, Value.category, maxLocals]; done) | rfl
theorem pn_com_example_restoral_restoral_engine_StepsOnPinLaw : plainName "com/example/restoral/restoral/engine/StepsOnPinLaw" = true := by first | (simp [plainName, overriddenIn]; done) | decide +kernel
theorem pd__28_5bC_29V : parseMethodDescriptor "([C)V" = some ⟨[(.array .char)], none⟩ := by decide +kernel
theorem ef_1_RR (m : MethodId) (x0 : Addr) (x1 : Addr)  : entryFrame m #[(.ref x0), (.ref x1)] 2 = mkF m 0 #[.val (.ref x0), .val (.ref x1)] [] := by first | (simp [entryFrame, mkF, argsToLocals, Value.category]; done) | rfl
theorem pn_java_lang_String : plainName "java/lang/String" = true := by first | (simp [plainName, overriddenIn]; done) | decide +kernel
theorem d1_0 : decode jdk_42_method_3_code 0 = .ok (.aload_n 0, 1) := by decide +kernel
theorem d1_1 : decode jdk_42_method_3_code 1 = .ok (.aload_n 1, 1) := by decide +kernel
theorem d1_2 : decode jdk_42_method_3_code 2 = .ok (.iconst 0, 1) := by decide +kernel
theorem d1_3 : decode jdk_42_method_3_code 3 = .ok (.aload_n 1, 1) := by decide +kernel
theorem d1_4 : decode jdk_42_method_3_code 4 = .ok (.arraylength, 1) := by decide +kernel
theorem d1_5 : decode jdk_42_method_3_code 5 = .ok (.aconst_null, 1) := by decide +kernel
theorem d1_6 : decode jdk_42_method_3_code 6 = .ok (.invokespecial 27, 3) := by decide +kernel
theorem pd__28_5bCIILjava_2flang_2fVoid_3b_29V : parseMethodDescriptor "([CIILjava/lang/Void;)V" = some ⟨[(.array .char), .int, .int, (.object "java/lang/Void")], none⟩ := by decide +kernel
theorem ef_2_RRIIN (m : MethodId) (x0 : Addr) (x1 : Addr) (x2 : Int32) (x3 : Int32)  : entryFrame m #[(.ref x0), (.ref x1), (.int x2), (.int x3), .null] 6 = mkF m 0 #[.val (.ref x0), .val (.ref x1), .val (.int x2), .val (.int x3), .val .null, .unset] [] := by first | (simp [entryFrame, mkF, argsToLocals, Value.category]; done) | rfl
theorem d2_0 : decode jdk_42_method_149_code 0 = .ok (.aload_n 0, 1) := by decide +kernel
theorem d2_1 : decode jdk_42_method_149_code 1 = .ok (.invokespecial 1, 3) := by decide +kernel
theorem d2_4 : decode jdk_42_method_149_code 4 = .ok (.iload_n 3, 1) := by decide +kernel
theorem d2_5 : decode jdk_42_method_149_code 5 = .ok (.ifCond .ne 22, 3) := by decide +kernel
theorem d2_27 : decode jdk_42_method_149_code 27 = .ok (.getstatic 38, 3) := by decide +kernel
theorem d2_30 : decode jdk_42_method_149_code 30 = .ok (.ifCond .eq 28, 3) := by decide +kernel
theorem d2_33 : decode jdk_42_method_149_code 33 = .ok (.aload_n 1, 1) := by decide +kernel
theorem d2_34 : decode jdk_42_method_149_code 34 = .ok (.iload_n 2, 1) := by decide +kernel
theorem d2_35 : decode jdk_42_method_149_code 35 = .ok (.iload_n 3, 1) := by decide +kernel
theorem d2_36 : decode jdk_42_method_149_code 36 = .ok (.invokestatic 177, 3) := by decide +kernel
theorem pd__28_5bCII_29_5bB : parseMethodDescriptor "([CII)[B" = some ⟨[(.array .char), .int, .int], some (.array .byte)⟩ := by decide +kernel
theorem ef_4_RII (m : MethodId) (x0 : Addr) (x1 : Int32) (x2 : Int32)  : entryFrame m #[(.ref x0), (.int x1), (.int x2)] 6 = mkF m 0 #[.val (.ref x0), .val (.int x1), .val (.int x2), .unset, .unset, .unset] [] := by first | (simp [entryFrame, mkF, argsToLocals, Value.category]; done) | rfl
theorem pn_java_lang_StringUTF16 : plainName "java/lang/StringUTF16" = true := by first | (simp [plainName, overriddenIn]; done) | decide +kernel
theorem d4_0 : decode jdk_52_method_16_code 0 = .ok (.iload_n 2, 1) := by decide +kernel
theorem d4_1 : decode jdk_52_method_16_code 1 = .ok (.newarray .byte, 2) := by decide +kernel
theorem d4_3 : decode jdk_52_method_16_code 3 = .ok (.astore_n 3, 1) := by decide +kernel
theorem d4_4 : decode jdk_52_method_16_code 4 = .ok (.aload_n 0, 1) := by decide +kernel
theorem d4_5 : decode jdk_52_method_16_code 5 = .ok (.iload_n 1, 1) := by decide +kernel
theorem d4_6 : decode jdk_52_method_16_code 6 = .ok (.aload_n 3, 1) := by decide +kernel
theorem d4_7 : decode jdk_52_method_16_code 7 = .ok (.iconst 0, 1) := by decide +kernel
theorem d4_8 : decode jdk_52_method_16_code 8 = .ok (.iload_n 2, 1) := by decide +kernel
theorem d4_9 : decode jdk_52_method_16_code 9 = .ok (.invokestatic 115, 3) := by decide +kernel
theorem pd__28_5bCI_5bBII_29I : parseMethodDescriptor "([CI[BII)I" = some ⟨[(.array .char), .int, (.array .byte), .int, .int], some .int⟩ := by decide +kernel
theorem ef_5_RIRII (m : MethodId) (x0 : Addr) (x1 : Int32) (x2 : Addr) (x3 : Int32) (x4 : Int32)  : entryFrame m #[(.ref x0), (.int x1), (.ref x2), (.int x3), (.int x4)] 7 = mkF m 0 #[.val (.ref x0), .val (.int x1), .val (.ref x2), .val (.int x3), .val (.int x4), .unset, .unset] [] := by first | (simp [entryFrame, mkF, argsToLocals, Value.category]; done) | rfl
theorem d5_0 : decode jdk_52_method_21_code 0 = .ok (.iconst 0, 1) := by decide +kernel
theorem d5_1 : decode jdk_52_method_21_code 1 = .ok (.istore 5, 2) := by decide +kernel
theorem d5_3 : decode jdk_52_method_21_code 3 = .ok (.iload 5, 2) := by decide +kernel
theorem d5_5 : decode jdk_52_method_21_code 5 = .ok (.iload 4, 2) := by decide +kernel
theorem d5_7 : decode jdk_52_method_21_code 7 = .ok (.if_icmp .ge 37, 3) := by decide +kernel
theorem d5_10 : decode jdk_52_method_21_code 10 = .ok (.aload_n 0, 1) := by decide +kernel
theorem d5_11 : decode jdk_52_method_21_code 11 = .ok (.iload_n 1, 1) := by decide +kernel
theorem d5_12 : decode jdk_52_method_21_code 12 = .ok (.caload, 1) := by decide +kernel
theorem d5_13 : decode jdk_52_method_21_code 13 = .ok (.istore 6, 2) := by decide +kernel
theorem d5_15 : decode jdk_52_method_21_code 15 = .ok (.iload 6, 2) := by decide +kernel
theorem d5_17 : decode jdk_52_method_21_code 17 = .ok (.sipush 255, 3) := by decide +kernel
theorem d5_20 : decode jdk_52_method_21_code 20 = .ok (.if_icmp .le 6, 3) := by decide +kernel
theorem d5_26 : decode jdk_52_method_21_code 26 = .ok (.aload_n 2, 1) := by decide +kernel
theorem d5_27 : decode jdk_52_method_21_code 27 = .ok (.iload_n 3, 1) := by decide +kernel
theorem d5_28 : decode jdk_52_method_21_code 28 = .ok (.iload 6, 2) := by decide +kernel
theorem d5_30 : decode jdk_52_method_21_code 30 = .ok (.i2b, 1) := by decide +kernel
theorem d5_31 : decode jdk_52_method_21_code 31 = .ok (.bastore, 1) := by decide +kernel
theorem d5_32 : decode jdk_52_method_21_code 32 = .ok (.iinc 1 1, 3) := by decide +kernel
theorem d5_35 : decode jdk_52_method_21_code 35 = .ok (.iinc 3 1, 3) := by decide +kernel
theorem d5_38 : decode jdk_52_method_21_code 38 = .ok (.iinc 5 1, 3) := by decide +kernel
theorem d5_41 : decode jdk_52_method_21_code 41 = .ok (.goto (-38), 3) := by decide +kernel
theorem d5_44 : decode jdk_52_method_21_code 44 = .ok (.iload 4, 2) := by decide +kernel
theorem d5_46 : decode jdk_52_method_21_code 46 = .ok (.ireturn, 1) := by decide +kernel
set_option maxRecDepth 65536 in
set_option maxHeartbeats 40000000 in
theorem rm_compress_0 (l : Launch) (Z : State) (a0 : Array Value) (g_COMPACT_STRINGS : Int32) (g_SIOOBE_FORMATTER : Value) (g_DEFAULTCAPACITY_EMPTY_ELEMENTDATA : Addr) (g_EMPTY : Addr) (g_EMPTY_LIST : Addr) (gk_DEFAULTCAPACITY_EMPTY_ELEMENTDATA : ClassId) (g_NONE : Addr) (g_mir : Addr) (hW : own_W Z a0 g_COMPACT_STRINGS g_SIOOBE_FORMATTER g_DEFAULTCAPACITY_EMPTY_ELEMENTDATA g_EMPTY g_EMPTY_LIST gk_DEFAULTCAPACITY_EMPTY_ELEMENTDATA g_NONE g_mir) (a1 : Addr) (a2 : Addr) (q3 : ClassId) (i4 : Int32) (q5 : ClassId) (h0 : Heap) (O0 : Old Z Z.heap.size h0) (h_1 : Arv Z h0 a1 q3 .char (1 : Int32) [(.int i4)] (.int (0 : Int32))) (h_2 : ¬ ((255 : Int32) < i4)) (h_3 : Arv Z h0 a2 q5 .byte (1 : Int32) [(.int (0 : Int32))] (.int (0 : Int32))) (h_4 : Z.heap.size ≤ a2) (h_5 : Exa Z h0 a2 "[B") :
    own_Met l Z (⟨"java/lang/StringUTF16", "compress", "([CI[BII)I"⟩ : MethodName) jdk_52_method_21_code 7 (some .int) ({ frames := 0, cells := 0, slots := 0, locals := 0 } : Room) #[(.ref a1), (.int (0 : Int32)), (.ref a2), (.int (0 : Int32)), (.int (1 : Int32))] h0 (fun v h L => v = some (.int (1 : Int32)) ∧ Fr Z.heap.size L ∧ Keep h0 h [a2] ∧ Arv Z h a2 q5 .byte (1 : Int32) [(.int (i4.toInt8.toInt32))] (.int (0 : Int32)) ∧ Exa Z h a2 "[B") := by
  have hW_ := hW
  obtain ⟨hw, S_g_COMPACT_STRINGS, P_g_COMPACT_STRINGS, R_g_SIOOBE_FORMATTER, S_g_SIOOBE_FORMATTER, S_g__assertionsDisabled, S_g_DEFAULTCAPACITY_EMPTY_ELEMENTDATA, E_g_DEFAULTCAPACITY_EMPTY_ELEMENTDATA, S_g_EMPTY, E_g_EMPTY, S_g_EMPTY_LIST, E_g_EMPTY_LIST, V_g_DEFAULTCAPACITY_EMPTY_ELEMENTDATA, F_g_EMPTY_LIST_allowNulls, S_g_NONE, E_g_NONE, F_g_NONE_owner, M_mir⟩ := hW_
  refine own_met (plainFor_of_name pn_java_lang_StringUTF16) ?_
  intro p e s m below meth cc_ s₁ Φ hF X0 hx hby hml hZ hown hnm hret hlk e0
  have N0 := Fr.nil Z.heap.size
  refine own_k (T' := s₁) (g' := (mkF m 0 #[.val (.ref a1), .val (.int (0 : Int32)), .val (.ref a2), .val (.int (0 : Int32)), .val (.int (1 : Int32)), .unset, .unset] [])) (fun _ k_ => castTop (ef_5_RIRII m a1 (0 : Int32) a2 (0 : Int32) (1 : Int32)) k_) ?_
  refine own_k (T' := s₁) (g' := (mkF m 1 #[.val (.ref a1), .val (.int (0 : Int32)), .val (.ref a2), .val (.int (0 : Int32)), .val (.int (1 : Int32)), .unset, .unset] [(.int (0 : Int32))])) (fun _ k_ => XS.iconst X0.here hx rfl (hb hby d5_0) k_) ?_
  refine own_k (T' := s₁) (g' := (mkF m 3 #[.val (.ref a1), .val (.int (0 : Int32)), .val (.ref a2), .val (.int (0 : Int32)), .val (.int (1 : Int32)), .val (.int (0 : Int32)), .unset] [])) (fun _ k_ => XS.istore X0.here hx rfl (hb hby d5_1) rfl (l' := #[.val (.ref a1), .val (.int (0 : Int32)), .val (.ref a2), .val (.int (0 : Int32)), .val (.int (1 : Int32)), .val (.int (0 : Int32)), .unset]) rfl k_) ?_
  refine own_k (T' := s₁) (g' := (mkF m 5 #[.val (.ref a1), .val (.int (0 : Int32)), .val (.ref a2), .val (.int (0 : Int32)), .val (.int (1 : Int32)), .val (.int (0 : Int32)), .unset] [(.int (0 : Int32))])) (fun _ k_ => XS.iload X0.here hx rfl (hb hby d5_3) rfl  k_) ?_
  refine own_k (T' := s₁) (g' := (mkF m 7 #[.val (.ref a1), .val (.int (0 : Int32)), .val (.ref a2), .val (.int (0 : Int32)), .val (.int (1 : Int32)), .val (.int (0 : Int32)), .unset] [(.int (1 : Int32)), (.int (0 : Int32))])) (fun _ k_ => XS.iload X0.here hx rfl (hb hby d5_5) rfl  k_) ?_
  refine own_k (T' := s₁) (g' := (mkF m 10 #[.val (.ref a1), .val (.int (0 : Int32)), .val (.ref a2), .val (.int (0 : Int32)), .val (.int (1 : Int32)), .val (.int (0 : Int32)), .unset] [])) (fun _ k_ => XS.icmpNo X0.here hx rfl (hb hby d5_7) rfl ((tlt (by decide : ((0 : Int32) < (1 : Int32)))).2.1) k_) ?_
  refine own_k (T' := s₁) (g' := (mkF m 11 #[.val (.ref a1), .val (.int (0 : Int32)), .val (.ref a2), .val (.int (0 : Int32)), .val (.int (1 : Int32)), .val (.int (0 : Int32)), .unset] [(.ref a1)])) (fun _ k_ => XS.aloadN X0.here hx rfl (hb hby d5_10) rfl rfl  k_) ?_
  refine own_k (T' := s₁) (g' := (mkF m 12 #[.val (.ref a1), .val (.int (0 : Int32)), .val (.ref a2), .val (.int (0 : Int32)), .val (.int (1 : Int32)), .val (.int (0 : Int32)), .unset] [(.int (0 : Int32)), (.ref a1)])) (fun _ k_ => XS.iloadN X0.here hx rfl (hb hby d5_11) rfl  k_) ?_
  refine own_caload X0 hx hZ e0 h_1 (j := (0 : Int32)) ⟨by decide, by decide⟩ (v := (.int i4)) rfl (hb hby d5_12) ?_
  show own_Go p e below Φ s₁ (mkF m 13 #[.val (.ref a1), .val (.int (0 : Int32)), .val (.ref a2), .val (.int (0 : Int32)), .val (.int (1 : Int32)), .val (.int (0 : Int32)), .unset] [(.int i4)])
  refine own_k (T' := s₁) (g' := (mkF m 15 #[.val (.ref a1), .val (.int (0 : Int32)), .val (.ref a2), .val (.int (0 : Int32)), .val (.int (1 : Int32)), .val (.int (0 : Int32)), .val (.int i4)] [])) (fun _ k_ => XS.istore X0.here hx rfl (hb hby d5_13) rfl (l' := #[.val (.ref a1), .val (.int (0 : Int32)), .val (.ref a2), .val (.int (0 : Int32)), .val (.int (1 : Int32)), .val (.int (0 : Int32)), .val (.int i4)]) rfl k_) ?_
  refine own_k (T' := s₁) (g' := (mkF m 17 #[.val (.ref a1), .val (.int (0 : Int32)), .val (.ref a2), .val (.int (0 : Int32)), .val (.int (1 : Int32)), .val (.int (0 : Int32)), .val (.int i4)] [(.int i4)])) (fun _ k_ => XS.iload X0.here hx rfl (hb hby d5_15) rfl  k_) ?_
  refine own_k (T' := s₁) (g' := (mkF m 20 #[.val (.ref a1), .val (.int (0 : Int32)), .val (.ref a2), .val (.int (0 : Int32)), .val (.int (1 : Int32)), .val (.int (0 : Int32)), .val (.int i4)] [(.int (255 : Int32)), (.int i4)])) (fun _ k_ => XS.sipush X0.here hx rfl (hb hby d5_17) k_) ?_
  refine own_k (T' := s₁) (g' := (mkF m 26 #[.val (.ref a1), .val (.int (0 : Int32)), .val (.ref a2), .val (.int (0 : Int32)), .val (.int (1 : Int32)), .val (.int (0 : Int32)), .val (.int i4)] [])) (fun _ k_ => XS.icmpYes X0.here hx rfl (pc0 := 20) (pc' := 26) rfl (hb hby d5_20) rfl ((flt h_2).2.2.2) (by decide) (by decide) k_) ?_
  refine own_k (T' := s₁) (g' := (mkF m 27 #[.val (.ref a1), .val (.int (0 : Int32)), .val (.ref a2), .val (.int (0 : Int32)), .val (.int (1 : Int32)), .val (.int (0 : Int32)), .val (.int i4)] [(.ref a2)])) (fun _ k_ => XS.aloadN X0.here hx rfl (hb hby d5_26) rfl rfl  k_) ?_
  refine own_k (T' := s₁) (g' := (mkF m 28 #[.val (.ref a1), .val (.int (0 : Int32)), .val (.ref a2), .val (.int (0 : Int32)), .val (.int (1 : Int32)), .val (.int (0 : Int32)), .val (.int i4)] [(.int (0 : Int32)), (.ref a2)])) (fun _ k_ => XS.iloadN X0.here hx rfl (hb hby d5_27) rfl  k_) ?_
  refine own_k (T' := s₁) (g' := (mkF m 30 #[.val (.ref a1), .val (.int (0 : Int32)), .val (.ref a2), .val (.int (0 : Int32)), .val (.int (1 : Int32)), .val (.int (0 : Int32)), .val (.int i4)] [(.int i4), (.int (0 : Int32)), (.ref a2)])) (fun _ k_ => XS.iload X0.here hx rfl (hb hby d5_28) rfl  k_) ?_
  refine own_k (T' := s₁) (g' := (mkF m 31 #[.val (.ref a1), .val (.int (0 : Int32)), .val (.ref a2), .val (.int (0 : Int32)), .val (.int (1 : Int32)), .val (.int (0 : Int32)), .val (.int i4)] [(.int (i4.toInt8.toInt32)), (.int (0 : Int32)), (.ref a2)])) (fun _ k_ => XS.i2b X0.here hx rfl (hb hby d5_30) rfl k_) ?_
  obtain ⟨T1, h1, X1, e1, W1, V1, st1⟩ := own_bastore (pc := 31) (Ls := #[.val (.ref a1), .val (.int (0 : Int32)), .val (.ref a2), .val (.int (0 : Int32)), .val (.int (1 : Int32)), .val (.int (0 : Int32)), .val (.int i4)]) (rest := []) X0 hx hZ e0 h_3 (j := (0 : Int32)) (x := (i4.toInt8.toInt32)) ⟨by decide, by decide⟩ 0 rfl (Nat.le_of_ble_eq_true rfl) (hb hby d5_31)
  have V1 : Arv Z h1 a2 q5 .byte (1 : Int32) [(.int (nar .byte (i4.toInt8.toInt32)))] (.int (0 : Int32)) := V1
  rw [show nar .byte (i4.toInt8.toInt32) = (i4.toInt8.toInt32) from own_nar_byte _] at V1
  have O1' := O0.wr W1 h_4
  have N1 := Fr.snoc X1 N0 h_4
  refine own_k (T' := T1) (g' := (mkF m 32 #[.val (.ref a1), .val (.int (0 : Int32)), .val (.ref a2), .val (.int (0 : Int32)), .val (.int (1 : Int32)), .val (.int (0 : Int32)), .val (.int i4)] [])) st1 ?_
  refine own_k (T' := T1) (g' := (mkF m 35 #[.val (.ref a1), .val (.int ((0 : Int32) + (1 : Int32))), .val (.ref a2), .val (.int (0 : Int32)), .val (.int (1 : Int32)), .val (.int (0 : Int32)), .val (.int i4)] [])) (fun _ k_ => XS.iinc X1.here hx rfl (hb hby d5_32) rfl (l' := #[.val (.ref a1), .val (.int ((0 : Int32) + (1 : Int32))), .val (.ref a2), .val (.int (0 : Int32)), .val (.int (1 : Int32)), .val (.int (0 : Int32)), .val (.int i4)]) rfl k_) ?_
  rw [show ((0 : Int32) + (1 : Int32)) = (1 : Int32) from by decide]
  refine own_k (T' := T1) (g' := (mkF m 38 #[.val (.ref a1), .val (.int (1 : Int32)), .val (.ref a2), .val (.int ((0 : Int32) + (1 : Int32))), .val (.int (1 : Int32)), .val (.int (0 : Int32)), .val (.int i4)] [])) (fun _ k_ => XS.iinc X1.here hx rfl (hb hby d5_35) rfl (l' := #[.val (.ref a1), .val (.int (1 : Int32)), .val (.ref a2), .val (.int ((0 : Int32) + (1 : Int32))), .val (.int (1 : Int32)), .val (.int (0 : Int32)), .val (.int i4)]) rfl k_) ?_
  rw [show ((0 : Int32) + (1 : Int32)) = (1 : Int32) from by decide]
  refine own_k (T' := T1) (g' := (mkF m 41 #[.val (.ref a1), .val (.int (1 : Int32)), .val (.ref a2), .val (.int (1 : Int32)), .val (.int (1 : Int32)), .val (.int ((0 : Int32) + (1 : Int32))), .val (.int i4)] [])) (fun _ k_ => XS.iinc X1.here hx rfl (hb hby d5_38) rfl (l' := #[.val (.ref a1), .val (.int (1 : Int32)), .val (.ref a2), .val (.int (1 : Int32)), .val (.int (1 : Int32)), .val (.int ((0 : Int32) + (1 : Int32))), .val (.int i4)]) rfl k_) ?_
  rw [show ((0 : Int32) + (1 : Int32)) = (1 : Int32) from by decide]
  refine own_k (T' := T1) (g' := (mkF m 3 #[.val (.ref a1), .val (.int (1 : Int32)), .val (.ref a2), .val (.int (1 : Int32)), .val (.int (1 : Int32)), .val (.int (1 : Int32)), .val (.int i4)] [])) (fun _ k_ => XS.goto X1.here hx rfl (pc0 := 41) (pc' := 3) rfl (hb hby d5_41) (by decide) (by decide) k_) ?_
  refine own_k (T' := T1) (g' := (mkF m 5 #[.val (.ref a1), .val (.int (1 : Int32)), .val (.ref a2), .val (.int (1 : Int32)), .val (.int (1 : Int32)), .val (.int (1 : Int32)), .val (.int i4)] [(.int (1 : Int32))])) (fun _ k_ => XS.iload X1.here hx rfl (hb hby d5_3) rfl  k_) ?_
  refine own_k (T' := T1) (g' := (mkF m 7 #[.val (.ref a1), .val (.int (1 : Int32)), .val (.ref a2), .val (.int (1 : Int32)), .val (.int (1 : Int32)), .val (.int (1 : Int32)), .val (.int i4)] [(.int (1 : Int32)), (.int (1 : Int32))])) (fun _ k_ => XS.iload X1.here hx rfl (hb hby d5_5) rfl  k_) ?_
  refine own_k (T' := T1) (g' := (mkF m 44 #[.val (.ref a1), .val (.int (1 : Int32)), .val (.ref a2), .val (.int (1 : Int32)), .val (.int (1 : Int32)), .val (.int (1 : Int32)), .val (.int i4)] [])) (fun _ k_ => XS.icmpYes X1.here hx rfl (pc0 := 7) (pc' := 44) rfl (hb hby d5_7) rfl ((flt (by decide : ¬ ((1 : Int32) < (1 : Int32)))).2.1) (by decide) (by decide) k_) ?_
  refine own_k (T' := T1) (g' := (mkF m 46 #[.val (.ref a1), .val (.int (1 : Int32)), .val (.ref a2), .val (.int (1 : Int32)), .val (.int (1 : Int32)), .val (.int (1 : Int32)), .val (.int i4)] [(.int (1 : Int32))])) (fun _ k_ => XS.iload X1.here hx rfl (hb hby d5_44) rfl  k_) ?_
  have kp0 : Keep h0 h0 [a2] := Keep.refl h0 [a2]
  have kp1 : Keep h0 h1 [a2] := kp0.wr W1 (Or.inl (List.mem_of_getElem? (i := 0) rfl))
  exact own_retI X1 hx hret hlk (hb hby d5_46) hF (by rw [e1]; exact ⟨rfl, N1, kp1, V1, (h_5.wr W1)⟩) (by decide) (by decide)
theorem d4_12 : decode jdk_52_method_16_code 12 = .ok (.istore 4, 2) := by decide +kernel
theorem d4_14 : decode jdk_52_method_16_code 14 = .ok (.iload 4, 2) := by decide +kernel
theorem d4_16 : decode jdk_52_method_16_code 16 = .ok (.iload_n 2, 1) := by decide +kernel
theorem d4_17 : decode jdk_52_method_16_code 17 = .ok (.if_icmp .eq 40, 3) := by decide +kernel
theorem d4_57 : decode jdk_52_method_16_code 57 = .ok (.aload_n 3, 1) := by decide +kernel
theorem d4_58 : decode jdk_52_method_16_code 58 = .ok (.areturn, 1) := by decide +kernel
set_option maxRecDepth 65536 in
set_option maxHeartbeats 40000000 in
theorem rm_compress_1 (l : Launch) (Z : State) (a0 : Array Value) (g_COMPACT_STRINGS : Int32) (g_SIOOBE_FORMATTER : Value) (g_DEFAULTCAPACITY_EMPTY_ELEMENTDATA : Addr) (g_EMPTY : Addr) (g_EMPTY_LIST : Addr) (gk_DEFAULTCAPACITY_EMPTY_ELEMENTDATA : ClassId) (g_NONE : Addr) (g_mir : Addr) (hW : own_W Z a0 g_COMPACT_STRINGS g_SIOOBE_FORMATTER g_DEFAULTCAPACITY_EMPTY_ELEMENTDATA g_EMPTY g_EMPTY_LIST gk_DEFAULTCAPACITY_EMPTY_ELEMENTDATA g_NONE g_mir) (a1 : Addr) (q2 : ClassId) (i3 : Int32) (h0 : Heap) (O0 : Old Z Z.heap.size h0) (h_1 : ¬ ((255 : Int32) < i3)) (h_2 : Arv Z h0 a1 q2 .char (1 : Int32) [(.int i3)] (.int (0 : Int32))) :
    own_Met l Z (⟨"java/lang/StringUTF16", "compress", "([CII)[B"⟩ : MethodName) jdk_52_method_16_code 6 (some (.array .byte)) ({ frames := 1, cells := 1, slots := 1, locals := 18 } : Room) #[(.ref a1), (.int (0 : Int32)), (.int (1 : Int32))] h0 (fun v h L => ∃ (b1 : Addr) (k1 : ClassId), v = some (.ref b1) ∧ Fr Z.heap.size L ∧ Keep h0 h [] ∧ h0.size ≤ b1 ∧ Exa Z h b1 "[B" ∧ Arv Z h b1 k1 .byte (1 : Int32) [(.int (i3.toInt8.toInt32))] (.int (0 : Int32))) := by
  have hW_ := hW
  obtain ⟨hw, S_g_COMPACT_STRINGS, P_g_COMPACT_STRINGS, R_g_SIOOBE_FORMATTER, S_g_SIOOBE_FORMATTER, S_g__assertionsDisabled, S_g_DEFAULTCAPACITY_EMPTY_ELEMENTDATA, E_g_DEFAULTCAPACITY_EMPTY_ELEMENTDATA, S_g_EMPTY, E_g_EMPTY, S_g_EMPTY_LIST, E_g_EMPTY_LIST, V_g_DEFAULTCAPACITY_EMPTY_ELEMENTDATA, F_g_EMPTY_LIST_allowNulls, S_g_NONE, E_g_NONE, F_g_NONE_owner, M_mir⟩ := hW_
  refine own_met (plainFor_of_name pn_java_lang_StringUTF16) ?_
  intro p e s m below meth cc_ s₁ Φ hF X0 hx hby hml hZ hown hnm hret hlk e0
  have N0 := Fr.nil Z.heap.size
  refine own_k (T' := s₁) (g' := (mkF m 0 #[.val (.ref a1), .val (.int (0 : Int32)), .val (.int (1 : Int32)), .unset, .unset, .unset] [])) (fun _ k_ => castTop (ef_4_RII m a1 (0 : Int32) (1 : Int32)) k_) ?_
  refine own_k (T' := s₁) (g' := (mkF m 1 #[.val (.ref a1), .val (.int (0 : Int32)), .val (.int (1 : Int32)), .unset, .unset, .unset] [(.int (1 : Int32))])) (fun _ k_ => XS.iloadN X0.here hx rfl (hb hby d4_0) rfl  k_) ?_
  obtain ⟨T1, h1, k1, X1, e1, E1, V1, A1, st1⟩ := own_newarr (pc := 1) (Ls := #[.val (.ref a1), .val (.int (0 : Int32)), .val (.int (1 : Int32)), .unset, .unset, .unset]) (rest := []) X0 hx hZ (hw _ (List.mem_of_getElem? (i := 19) rfl)) e0 (hb hby d4_1) (n := (1 : Int32)) (by decide) (cap := 1) (by decide) (by decide) (by decide) (by decide) (ad := "[B") (by decide)
  obtain ⟨b1, g1⟩ : ∃ z, z = h0.size := ⟨_, rfl⟩
  rw [← g1] at V1 A1 st1
  have O1' := O0.ext E1
  have V1 : Arv Z h1 b1 k1 .byte (1 : Int32) [(.int (0 : Int32))] (.int (0 : Int32)) := V1
  refine own_k (T' := T1) (g' := (mkF m 3 #[.val (.ref a1), .val (.int (0 : Int32)), .val (.int (1 : Int32)), .unset, .unset, .unset] [(.ref b1)])) st1 ?_
  refine own_k (T' := T1) (g' := (mkF m 4 #[.val (.ref a1), .val (.int (0 : Int32)), .val (.int (1 : Int32)), .val (.ref b1), .unset, .unset] [])) (fun _ k_ => XS.astoreN X1.here hx rfl (hb hby d4_3) rfl rfl (l' := #[.val (.ref a1), .val (.int (0 : Int32)), .val (.int (1 : Int32)), .val (.ref b1), .unset, .unset]) rfl k_) ?_
  refine own_k (T' := T1) (g' := (mkF m 5 #[.val (.ref a1), .val (.int (0 : Int32)), .val (.int (1 : Int32)), .val (.ref b1), .unset, .unset] [(.ref a1)])) (fun _ k_ => XS.aloadN X1.here hx rfl (hb hby d4_4) rfl rfl  k_) ?_
  refine own_k (T' := T1) (g' := (mkF m 6 #[.val (.ref a1), .val (.int (0 : Int32)), .val (.int (1 : Int32)), .val (.ref b1), .unset, .unset] [(.int (0 : Int32)), (.ref a1)])) (fun _ k_ => XS.iloadN X1.here hx rfl (hb hby d4_5) rfl  k_) ?_
  refine own_k (T' := T1) (g' := (mkF m 7 #[.val (.ref a1), .val (.int (0 : Int32)), .val (.int (1 : Int32)), .val (.ref b1), .unset, .unset] [(.ref b1), (.int (0 : Int32)), (.ref a1)])) (fun _ k_ => XS.aloadN X1.here hx rfl (hb hby d4_6) rfl rfl  k_) ?_
  refine own_k (T' := T1) (g' := (mkF m 8 #[.val (.ref a1), .val (.int (0 : Int32)), .val (.int (1 : Int32)), .val (.ref b1), .unset, .unset] [(.int (0 : Int32)), (.ref b1), (.int (0 : Int32)), (.ref a1)])) (fun _ k_ => XS.iconst X1.here hx rfl (hb hby d4_7) k_) ?_
  refine own_k (T' := T1) (g' := (mkF m 9 #[.val (.ref a1), .val (.int (0 : Int32)), .val (.int (1 : Int32)), .val (.ref b1), .unset, .unset] [(.int (1 : Int32)), (.int (0 : Int32)), (.ref b1), (.int (0 : Int32)), (.ref a1)])) (fun _ k_ => XS.iloadN X1.here hx rfl (hb hby d4_8) rfl  k_) ?_
  refine own_callS X1 hx hZ (y := (⟨"java/lang/StringUTF16", "compress", "([CI[BII)I"⟩ : MethodName)) hown (hw _ (List.mem_of_getElem? (i := 20) rfl)) (hw _ (List.mem_of_getElem? (i := 21) rfl)) (hw _ (List.mem_of_getElem? (i := 17) rfl)) (hw _ (List.mem_of_getElem? (i := 22) rfl)) (by decide) (al := [(.ref a1), (.int (0 : Int32)), (.ref b1), (.int (0 : Int32)), (.int (1 : Int32))]) (rm_compress_0 l Z a0 g_COMPACT_STRINGS g_SIOOBE_FORMATTER g_DEFAULTCAPACITY_EMPTY_ELEMENTDATA g_EMPTY g_EMPTY_LIST gk_DEFAULTCAPACITY_EMPTY_ELEMENTDATA g_NONE g_mir hW a1 b1 q2 i3 k1 h1 O1' (h_2.ext E1) h_1 V1 (Nat.le_trans O0.2.1 (Nat.le_of_eq g1.symm)) A1) 0 (by decide) (by decide) e1 (by decide) (by decide) (by rw [hml]; rfl) (lenOf pd__28_5bCI_5bBII_29I rfl) rfl (rest := []) (by show 2 * 0 + _ ≤ _; exact Nat.le_of_eq rfl) (hb hby d4_9) ?_
  intro v2 T2 L2 X2 hQ2
  obtain ⟨rfl, Nq2, K2, q2_0, q2_1⟩ := hQ2
  have N2 := Fr.app N0 Nq2
  have O2' := O1'.keep K2 (allS (Nat.le_trans O0.2.1 (Nat.le_of_eq g1.symm)) all0)
  show own_Go p e below Φ T2 (mkF m 12 #[.val (.ref a1), .val (.int (0 : Int32)), .val (.int (1 : Int32)), .val (.ref b1), .unset, .unset] [(.int (1 : Int32))])
  refine own_k (T' := T2) (g' := (mkF m 14 #[.val (.ref a1), .val (.int (0 : Int32)), .val (.int (1 : Int32)), .val (.ref b1), .val (.int (1 : Int32)), .unset] [])) (fun _ k_ => XS.istore X2.here hx rfl (hb hby d4_12) rfl (l' := #[.val (.ref a1), .val (.int (0 : Int32)), .val (.int (1 : Int32)), .val (.ref b1), .val (.int (1 : Int32)), .unset]) rfl k_) ?_
  refine own_k (T' := T2) (g' := (mkF m 16 #[.val (.ref a1), .val (.int (0 : Int32)), .val (.int (1 : Int32)), .val (.ref b1), .val (.int (1 : Int32)), .unset] [(.int (1 : Int32))])) (fun _ k_ => XS.iload X2.here hx rfl (hb hby d4_14) rfl  k_) ?_
  refine own_k (T' := T2) (g' := (mkF m 17 #[.val (.ref a1), .val (.int (0 : Int32)), .val (.int (1 : Int32)), .val (.ref b1), .val (.int (1 : Int32)), .unset] [(.int (1 : Int32)), (.int (1 : Int32))])) (fun _ k_ => XS.iloadN X2.here hx rfl (hb hby d4_16) rfl  k_) ?_
  refine own_k (T' := T2) (g' := (mkF m 57 #[.val (.ref a1), .val (.int (0 : Int32)), .val (.int (1 : Int32)), .val (.ref b1), .val (.int (1 : Int32)), .unset] [])) (fun _ k_ => XS.icmpYes X2.here hx rfl (pc0 := 17) (pc' := 57) rfl (hb hby d4_17) rfl ((teq (by decide : ((1 : Int32) = (1 : Int32)))).1) (by decide) (by decide) k_) ?_
  refine own_k (T' := T2) (g' := (mkF m 58 #[.val (.ref a1), .val (.int (0 : Int32)), .val (.int (1 : Int32)), .val (.ref b1), .val (.int (1 : Int32)), .unset] [(.ref b1)])) (fun _ k_ => XS.aloadN X2.here hx rfl (hb hby d4_57) rfl rfl  k_) ?_
  have kp0 : Keep h0 h0 [] := Keep.refl h0 []
  have kp1 : Keep h0 h1 [] := kp0.ext E1
  have kp2 : Keep h0 T2.heap [] := kp1.trans K2 (allS (Or.inr (Nat.le_trans kp0.1 (Nat.le_of_eq g1.symm))) all0)
  exact own_retA X2 hx hret rfl rfl hlk (hb hby d4_58) hF (⟨b1, k1, rfl, N2, kp2, (Nat.le_trans kp0.1 (Nat.le_of_eq g1.symm)), q2_1, q2_0⟩) (by decide) (by decide)
theorem d2_39 : decode jdk_42_method_149_code 39 = .ok (.astore 5, 2) := by decide +kernel
theorem d2_41 : decode jdk_42_method_149_code 41 = .ok (.aload_n 0, 1) := by decide +kernel
theorem d2_42 : decode jdk_42_method_149_code 42 = .ok (.aload 5, 2) := by decide +kernel
theorem d2_44 : decode jdk_42_method_149_code 44 = .ok (.iload_n 3, 1) := by decide +kernel
theorem d2_45 : decode jdk_42_method_149_code 45 = .ok (.invokestatic 47, 3) := by decide +kernel
theorem pd__28_5bBI_29B : parseMethodDescriptor "([BI)B" = some ⟨[(.array .byte), .int], some .byte⟩ := by decide +kernel
theorem ef_6_RI (m : MethodId) (x0 : Addr) (x1 : Int32)  : entryFrame m #[(.ref x0), (.int x1)] 2 = mkF m 0 #[.val (.ref x0), .val (.int x1)] [] := by first | (simp [entryFrame, mkF, argsToLocals, Value.category]; done) | rfl
theorem d6_0 : decode jdk_52_method_15_code 0 = .ok (.iload_n 1, 1) := by decide +kernel
theorem d6_1 : decode jdk_52_method_15_code 1 = .ok (.aload_n 0, 1) := by decide +kernel
theorem d6_2 : decode jdk_52_method_15_code 2 = .ok (.arraylength, 1) := by decide +kernel
theorem d6_3 : decode jdk_52_method_15_code 3 = .ok (.isub, 1) := by decide +kernel
theorem d6_4 : decode jdk_52_method_15_code 4 = .ok (.bipush 31, 2) := by decide +kernel
theorem d6_6 : decode jdk_52_method_15_code 6 = .ok (.iushr, 1) := by decide +kernel
theorem d6_7 : decode jdk_52_method_15_code 7 = .ok (.i2b, 1) := by decide +kernel
theorem d6_8 : decode jdk_52_method_15_code 8 = .ok (.ireturn, 1) := by decide +kernel
set_option maxRecDepth 65536 in
set_option maxHeartbeats 40000000 in
theorem rm_coderFromArrayLen_2 (l : Launch) (Z : State) (a0 : Array Value) (g_COMPACT_STRINGS : Int32) (g_SIOOBE_FORMATTER : Value) (g_DEFAULTCAPACITY_EMPTY_ELEMENTDATA : Addr) (g_EMPTY : Addr) (g_EMPTY_LIST : Addr) (gk_DEFAULTCAPACITY_EMPTY_ELEMENTDATA : ClassId) (g_NONE : Addr) (g_mir : Addr) (hW : own_W Z a0 g_COMPACT_STRINGS g_SIOOBE_FORMATTER g_DEFAULTCAPACITY_EMPTY_ELEMENTDATA g_EMPTY g_EMPTY_LIST gk_DEFAULTCAPACITY_EMPTY_ELEMENTDATA g_NONE g_mir) (a1 : Addr) (q2 : ClassId) (i3 : Int32) (h0 : Heap) (O0 : Old Z Z.heap.size h0) (h_1 : Arv Z h0 a1 q2 .byte (1 : Int32) [(.int i3)] (.int (0 : Int32))) :
    own_Met l Z (⟨"java/lang/StringUTF16", "coderFromArrayLen", "([BI)B"⟩ : MethodName) jdk_52_method_15_code 2 (some .byte) ({ frames := 0, cells := 0, slots := 0, locals := 0 } : Room) #[(.ref a1), (.int (1 : Int32))] h0 (fun v h L => v = some (.int (0 : Int32)) ∧ Fr Z.heap.size L ∧ h = h0) := by
  have hW_ := hW
  obtain ⟨hw, S_g_COMPACT_STRINGS, P_g_COMPACT_STRINGS, R_g_SIOOBE_FORMATTER, S_g_SIOOBE_FORMATTER, S_g__assertionsDisabled, S_g_DEFAULTCAPACITY_EMPTY_ELEMENTDATA, E_g_DEFAULTCAPACITY_EMPTY_ELEMENTDATA, S_g_EMPTY, E_g_EMPTY, S_g_EMPTY_LIST, E_g_EMPTY_LIST, V_g_DEFAULTCAPACITY_EMPTY_ELEMENTDATA, F_g_EMPTY_LIST_allowNulls, S_g_NONE, E_g_NONE, F_g_NONE_owner, M_mir⟩ := hW_
  refine own_met (plainFor_of_name pn_java_lang_StringUTF16) ?_
  intro p e s m below meth cc_ s₁ Φ hF X0 hx hby hml hZ hown hnm hret hlk e0
  have N0 := Fr.nil Z.heap.size
  refine own_k (T' := s₁) (g' := (mkF m 0 #[.val (.ref a1), .val (.int (1 : Int32))] [])) (fun _ k_ => castTop (ef_6_RI m a1 (1 : Int32)) k_) ?_
  refine own_k (T' := s₁) (g' := (mkF m 1 #[.val (.ref a1), .val (.int (1 : Int32))] [(.int (1 : Int32))])) (fun _ k_ => XS.iloadN X0.here hx rfl (hb hby d6_0) rfl  k_) ?_
  refine own_k (T' := s₁) (g' := (mkF m 2 #[.val (.ref a1), .val (.int (1 : Int32))] [(.ref a1), (.int (1 : Int32))])) (fun _ k_ => XS.aloadN X0.here hx rfl (hb hby d6_1) rfl rfl  k_) ?_
  refine own_len X0 hx hZ e0 h_1 (hb hby d6_2) ?_
  show own_Go p e below Φ s₁ (mkF m 3 #[.val (.ref a1), .val (.int (1 : Int32))] [(.int (1 : Int32)), (.int (1 : Int32))])
  refine own_k (T' := s₁) (g' := (mkF m 4 #[.val (.ref a1), .val (.int (1 : Int32))] [(.int ((1 : Int32) - (1 : Int32)))])) (fun _ k_ => XS.isub X0.here hx rfl (hb hby d6_3) rfl k_) ?_
  rw [show ((1 : Int32) - (1 : Int32)) = (0 : Int32) from by decide]
  refine own_k (T' := s₁) (g' := (mkF m 6 #[.val (.ref a1), .val (.int (1 : Int32))] [(.int (31 : Int32)), (.int (0 : Int32))])) (fun _ k_ => XS.bipush X0.here hx rfl (hb hby d6_4) k_) ?_
  refine own_k (T' := s₁) (g' := (mkF m 7 #[.val (.ref a1), .val (.int (1 : Int32))] [(.int (((0 : Int32).toUInt32 >>> ((31 : Int32) &&& 31).toUInt32).toInt32))])) (fun _ k_ => XS.iushr X0.here hx rfl (hb hby d6_6) rfl k_) ?_
  rw [show (((0 : Int32).toUInt32 >>> ((31 : Int32) &&& 31).toUInt32).toInt32) = (0 : Int32) from by decide]
  refine own_k (T' := s₁) (g' := (mkF m 8 #[.val (.ref a1), .val (.int (1 : Int32))] [(.int ((0 : Int32).toInt8.toInt32))])) (fun _ k_ => XS.i2b X0.here hx rfl (hb hby d6_7) rfl k_) ?_
  rw [show ((0 : Int32).toInt8.toInt32) = (0 : Int32) from by decide]
  exact own_retN X0 hx (t := .byte) hret (by simp) hlk (hb hby d6_8) hF (by rw [e0]; exact ⟨by rw [show nar .byte (0 : Int32) = (0 : Int32) from by decide], N0, rfl⟩) (by decide) (by decide)
theorem d2_48 : decode jdk_42_method_149_code 48 = .ok (.putfield 15, 3) := by decide +kernel
theorem d2_51 : decode jdk_42_method_149_code 51 = .ok (.aload_n 0, 1) := by decide +kernel
theorem d2_52 : decode jdk_42_method_149_code 52 = .ok (.aload 5, 2) := by decide +kernel
theorem d2_54 : decode jdk_42_method_149_code 54 = .ok (.putfield 9, 3) := by decide +kernel
theorem d2_57 : decode jdk_42_method_149_code 57 = .ok (.return_, 1) := by decide +kernel
set_option maxRecDepth 65536 in
set_option maxHeartbeats 40000000 in
theorem rm_init_3 (l : Launch) (Z : State) (a0 : Array Value) (g_COMPACT_STRINGS : Int32) (g_SIOOBE_FORMATTER : Value) (g_DEFAULTCAPACITY_EMPTY_ELEMENTDATA : Addr) (g_EMPTY : Addr) (g_EMPTY_LIST : Addr) (gk_DEFAULTCAPACITY_EMPTY_ELEMENTDATA : ClassId) (g_NONE : Addr) (g_mir : Addr) (hW : own_W Z a0 g_COMPACT_STRINGS g_SIOOBE_FORMATTER g_DEFAULTCAPACITY_EMPTY_ELEMENTDATA g_EMPTY g_EMPTY_LIST gk_DEFAULTCAPACITY_EMPTY_ELEMENTDATA g_NONE g_mir) (a1 : Addr) (a2 : Addr) (q3 : ClassId) (i4 : Int32) (h0 : Heap) (O0 : Old Z Z.heap.size h0) (h_1 : ¬ ((255 : Int32) < i4)) (h_2 : Arv Z h0 a2 q3 .char (1 : Int32) [(.int i4)] (.int (0 : Int32))) (h_3 : Fld Z h0 a1 "java/lang/String" "coder" "B" (.int (0 : Int32))) (h_4 : Exa Z h0 a1 "java/lang/String") (h_5 : Z.heap.size ≤ a1) (h_6 : Fld Z h0 a1 "java/lang/String" "value" "[B" .null) :
    own_Met l Z (⟨"java/lang/String", "<init>", "([CIILjava/lang/Void;)V"⟩ : MethodName) jdk_42_method_149_code 6 none ({ frames := 2, cells := 1, slots := 1, locals := 35 } : Room) #[(.ref a1), (.ref a2), (.int (0 : Int32)), (.int (1 : Int32)), .null] h0 (fun v h L => ∃ (b3_0 : Addr) (k3_1 : ClassId), v = none ∧ Fr Z.heap.size L ∧ Keep h0 h [a1] ∧ h0.size ≤ b3_0 ∧ Exa Z h a1 "java/lang/String" ∧ Fld Z h a1 "java/lang/String" "coder" "B" (.int (0 : Int32)) ∧ Fld Z h a1 "java/lang/String" "value" "[B" (.ref b3_0) ∧ Exa Z h b3_0 "[B" ∧ Arv Z h b3_0 k3_1 .byte (1 : Int32) [(.int (i4.toInt8.toInt32))] (.int (0 : Int32))) := by
  have hW_ := hW
  obtain ⟨hw, S_g_COMPACT_STRINGS, P_g_COMPACT_STRINGS, R_g_SIOOBE_FORMATTER, S_g_SIOOBE_FORMATTER, S_g__assertionsDisabled, S_g_DEFAULTCAPACITY_EMPTY_ELEMENTDATA, E_g_DEFAULTCAPACITY_EMPTY_ELEMENTDATA, S_g_EMPTY, E_g_EMPTY, S_g_EMPTY_LIST, E_g_EMPTY_LIST, V_g_DEFAULTCAPACITY_EMPTY_ELEMENTDATA, F_g_EMPTY_LIST_allowNulls, S_g_NONE, E_g_NONE, F_g_NONE_owner, M_mir⟩ := hW_
  refine own_met (plainFor_of_name pn_java_lang_String) ?_
  intro p e s m below meth cc_ s₁ Φ hF X0 hx hby hml hZ hown hnm hret hlk e0
  have N0 := Fr.nil Z.heap.size
  refine own_k (T' := s₁) (g' := (mkF m 0 #[.val (.ref a1), .val (.ref a2), .val (.int (0 : Int32)), .val (.int (1 : Int32)), .val .null, .unset] [])) (fun _ k_ => castTop (ef_2_RRIIN m a1 a2 (0 : Int32) (1 : Int32)) k_) ?_
  refine own_k (T' := s₁) (g' := (mkF m 1 #[.val (.ref a1), .val (.ref a2), .val (.int (0 : Int32)), .val (.int (1 : Int32)), .val .null, .unset] [(.ref a1)])) (fun _ k_ => XS.aloadN X0.here hx rfl (hb hby d2_0) rfl rfl  k_) ?_
  obtain ⟨T1, X1, e1, st1⟩ := initO X0 hx hZ hown (hw _ (List.mem_of_getElem? (i := 11) rfl)) (hw _ (List.mem_of_getElem? (i := 12) rfl)) (hw _ (List.mem_of_getElem? (i := 13) rfl)) e0 (g := (mkF m 1 #[.val (.ref a1), .val (.ref a2), .val (.int (0 : Int32)), .val (.int (1 : Int32)), .val .null, .unset] [(.ref a1)])) rfl (by rw [hml]; rfl) rfl (hb hby d2_1) (by decide) (W := 0) (by show 2 * 0 + _ ≤ _; exact Nat.le_of_eq rfl) (by decide)
  refine own_k (T' := T1) (g' := (mkF m 4 #[.val (.ref a1), .val (.ref a2), .val (.int (0 : Int32)), .val (.int (1 : Int32)), .val .null, .unset] [])) st1 ?_
  refine own_k (T' := T1) (g' := (mkF m 5 #[.val (.ref a1), .val (.ref a2), .val (.int (0 : Int32)), .val (.int (1 : Int32)), .val .null, .unset] [(.int (1 : Int32))])) (fun _ k_ => XS.iloadN X1.here hx rfl (hb hby d2_4) rfl  k_) ?_
  refine own_k (T' := T1) (g' := (mkF m 27 #[.val (.ref a1), .val (.ref a2), .val (.int (0 : Int32)), .val (.int (1 : Int32)), .val .null, .unset] [])) (fun _ k_ => XS.ifYes X1.here hx rfl (pc0 := 5) (pc' := 27) rfl (hb hby d2_5) rfl ((if0 _ _).trans (feq (by decide : ¬ ((1 : Int32) = (0 : Int32)))).2) (by decide) (by decide) k_) ?_
  obtain ⟨T2, X2, e2, st2⟩ := getS2 X1 hx hZ hown (host := "") (Or.inl (hw _ (List.mem_of_getElem? (i := 14) rfl))) Via.refl e1 (S_g_COMPACT_STRINGS.ext O0.2) (g := (mkF m 27 #[.val (.ref a1), .val (.ref a2), .val (.int (0 : Int32)), .val (.int (1 : Int32)), .val .null, .unset] [])) rfl (hb hby d2_27)
  refine own_k (T' := T2) (g' := (mkF m 30 #[.val (.ref a1), .val (.ref a2), .val (.int (0 : Int32)), .val (.int (1 : Int32)), .val .null, .unset] [(.int g_COMPACT_STRINGS)])) st2 ?_
  refine own_k (T' := T2) (g' := (mkF m 33 #[.val (.ref a1), .val (.ref a2), .val (.int (0 : Int32)), .val (.int (1 : Int32)), .val .null, .unset] [])) (fun _ k_ => XS.ifNo X2.here hx rfl (hb hby d2_30) rfl ((if0 _ _).trans (feq P_g_COMPACT_STRINGS).1) k_) ?_
  refine own_k (T' := T2) (g' := (mkF m 34 #[.val (.ref a1), .val (.ref a2), .val (.int (0 : Int32)), .val (.int (1 : Int32)), .val .null, .unset] [(.ref a2)])) (fun _ k_ => XS.aloadN X2.here hx rfl (hb hby d2_33) rfl rfl  k_) ?_
  refine own_k (T' := T2) (g' := (mkF m 35 #[.val (.ref a1), .val (.ref a2), .val (.int (0 : Int32)), .val (.int (1 : Int32)), .val .null, .unset] [(.int (0 : Int32)), (.ref a2)])) (fun _ k_ => XS.iloadN X2.here hx rfl (hb hby d2_34) rfl  k_) ?_
  refine own_k (T' := T2) (g' := (mkF m 36 #[.val (.ref a1), .val (.ref a2), .val (.int (0 : Int32)), .val (.int (1 : Int32)), .val .null, .unset] [(.int (1 : Int32)), (.int (0 : Int32)), (.ref a2)])) (fun _ k_ => XS.iloadN X2.here hx rfl (hb hby d2_35) rfl  k_) ?_
  refine own_callS X2 hx hZ (y := (⟨"java/lang/StringUTF16", "compress", "([CII)[B"⟩ : MethodName)) hown (hw _ (List.mem_of_getElem? (i := 15) rfl)) (hw _ (List.mem_of_getElem? (i := 16) rfl)) (hw _ (List.mem_of_getElem? (i := 17) rfl)) (hw _ (List.mem_of_getElem? (i := 18) rfl)) (by decide) (al := [(.ref a2), (.int (0 : Int32)), (.int (1 : Int32))]) (rm_compress_1 l Z a0 g_COMPACT_STRINGS g_SIOOBE_FORMATTER g_DEFAULTCAPACITY_EMPTY_ELEMENTDATA g_EMPTY g_EMPTY_LIST gk_DEFAULTCAPACITY_EMPTY_ELEMENTDATA g_NONE g_mir hW a2 q3 i4 h0 O0 h_1 h_2) 0 (by decide) (by decide) e2 (by decide) (by decide) (by rw [hml]; rfl) (lenOf pd__28_5bCII_29_5bB rfl) rfl (rest := []) (by show 2 * 0 + _ ≤ _; exact Nat.le_of_eq rfl) (hb hby d2_36) ?_
  intro v3 T3 L3 X3 hQ3
  obtain ⟨b3_0, k3_1, rfl, Nq3, K3, ge3_0, q3_0, q3_1⟩ := hQ3
  have N3 := Fr.app N0 Nq3
  have O3' := O0.keep K3 all0
  show own_Go p e below Φ T3 (mkF m 39 #[.val (.ref a1), .val (.ref a2), .val (.int (0 : Int32)), .val (.int (1 : Int32)), .val .null, .unset] [(.ref b3_0)])
  refine own_k (T' := T3) (g' := (mkF m 41 #[.val (.ref a1), .val (.ref a2), .val (.int (0 : Int32)), .val (.int (1 : Int32)), .val .null, .val (.ref b3_0)] [])) (fun _ k_ => XS.astore X3.here hx rfl (hb hby d2_39) rfl rfl (l' := #[.val (.ref a1), .val (.ref a2), .val (.int (0 : Int32)), .val (.int (1 : Int32)), .val .null, .val (.ref b3_0)]) rfl k_) ?_
  refine own_k (T' := T3) (g' := (mkF m 42 #[.val (.ref a1), .val (.ref a2), .val (.int (0 : Int32)), .val (.int (1 : Int32)), .val .null, .val (.ref b3_0)] [(.ref a1)])) (fun _ k_ => XS.aloadN X3.here hx rfl (hb hby d2_41) rfl rfl  k_) ?_
  refine own_k (T' := T3) (g' := (mkF m 44 #[.val (.ref a1), .val (.ref a2), .val (.int (0 : Int32)), .val (.int (1 : Int32)), .val .null, .val (.ref b3_0)] [(.ref b3_0), (.ref a1)])) (fun _ k_ => XS.aload X3.here hx rfl (hb hby d2_42) rfl rfl  k_) ?_
  refine own_k (T' := T3) (g' := (mkF m 45 #[.val (.ref a1), .val (.ref a2), .val (.int (0 : Int32)), .val (.int (1 : Int32)), .val .null, .val (.ref b3_0)] [(.int (1 : Int32)), (.ref b3_0), (.ref a1)])) (fun _ k_ => XS.iloadN X3.here hx rfl (hb hby d2_44) rfl  k_) ?_
  refine own_callS X3 hx hZ (y := (⟨"java/lang/StringUTF16", "coderFromArrayLen", "([BI)B"⟩ : MethodName)) hown (hw _ (List.mem_of_getElem? (i := 23) rfl)) (hw _ (List.mem_of_getElem? (i := 24) rfl)) (hw _ (List.mem_of_getElem? (i := 17) rfl)) (hw _ (List.mem_of_getElem? (i := 25) rfl)) (by decide) (al := [(.ref b3_0), (.int (1 : Int32))]) (rm_coderFromArrayLen_2 l Z a0 g_COMPACT_STRINGS g_SIOOBE_FORMATTER g_DEFAULTCAPACITY_EMPTY_ELEMENTDATA g_EMPTY g_EMPTY_LIST gk_DEFAULTCAPACITY_EMPTY_ELEMENTDATA g_NONE g_mir hW b3_0 k3_1 (i4.toInt8.toInt32) T3.heap O3' q3_1) 1 (by decide) (by decide) rfl (by decide) (by decide) (by rw [hml]; rfl) (lenOf pd__28_5bBI_29B rfl) rfl (rest := [(.ref a1)]) (by show 2 * 0 + _ ≤ _; exact Nat.le_of_eq rfl) (hb hby d2_45) ?_
  intro v4 T4 L4 X4 hQ4
  obtain ⟨rfl, Nq4, e4⟩ := hQ4
  have N4 := Fr.app N3 Nq4
  show own_Go p e below Φ T4 (mkF m 48 #[.val (.ref a1), .val (.ref a2), .val (.int (0 : Int32)), .val (.int (1 : Int32)), .val .null, .val (.ref b3_0)] [(.int (0 : Int32)), (.ref a1)])
  obtain ⟨T5, h5, X5, e5, W5, st5⟩ := putFN X4 hx hZ hown (hw _ (List.mem_of_getElem? (i := 26) rfl)) Via.refl e4 (h_3.keep K3 nin0) (h_4.keep K3) (Or.inr ⟨(hw _ (List.mem_of_getElem? (i := 27) rfl)), rfl, hnm⟩) (hw _ (List.mem_of_getElem? (i := 2) rfl)) (ty := .byte) (v' := (.int (nar .byte (0 : Int32)))) (by decide) rfl (fits_nar_byte _) (g := (mkF m 48 #[.val (.ref a1), .val (.ref a2), .val (.int (0 : Int32)), .val (.int (1 : Int32)), .val .null, .val (.ref b3_0)] [(.int (0 : Int32)), (.ref a1)])) rfl rfl (hb hby d2_48)
  have w5 := Fld.same W5 (h_3.keep K3 nin0)
  rw [show nar .byte (0 : Int32) = (0 : Int32) from by decide] at w5
  have O5' := O3'.wr W5 h_5
  have N5 := Fr.snoc X5 N4 h_5
  refine own_k (T' := T5) (g' := (mkF m 51 #[.val (.ref a1), .val (.ref a2), .val (.int (0 : Int32)), .val (.int (1 : Int32)), .val .null, .val (.ref b3_0)] [])) st5 ?_
  refine own_k (T' := T5) (g' := (mkF m 52 #[.val (.ref a1), .val (.ref a2), .val (.int (0 : Int32)), .val (.int (1 : Int32)), .val .null, .val (.ref b3_0)] [(.ref a1)])) (fun _ k_ => XS.aloadN X5.here hx rfl (hb hby d2_51) rfl rfl  k_) ?_
  refine own_k (T' := T5) (g' := (mkF m 54 #[.val (.ref a1), .val (.ref a2), .val (.int (0 : Int32)), .val (.int (1 : Int32)), .val .null, .val (.ref b3_0)] [(.ref b3_0), (.ref a1)])) (fun _ k_ => XS.aload X5.here hx rfl (hb hby d2_52) rfl rfl  k_) ?_
  have f6 := ((h_6.keep K3 nin0).other W5 (Or.inr (slot_ne (Or.inr (hw _ (List.mem_of_getElem? (i := 29) rfl))) (Or.inr (hw _ (List.mem_of_getElem? (i := 27) rfl))) (by decide) (t := (.array .byte)) (t' := .byte) (by decide) (by decide))))
  obtain ⟨T7, h7, X7, e7, W7, st7⟩ := putF X5 hx hZ hown (host := "") (Or.inl (hw _ (List.mem_of_getElem? (i := 28) rfl))) Via.refl e5 f6 ((h_4.keep K3).wr W5) (Or.inr ⟨(hw _ (List.mem_of_getElem? (i := 29) rfl)), rfl, hnm⟩) (hw _ (List.mem_of_getElem? (i := 2) rfl)) (ty := (.array .byte)) (by decide) rfl rfl (g := (mkF m 54 #[.val (.ref a1), .val (.ref a2), .val (.int (0 : Int32)), .val (.int (1 : Int32)), .val .null, .val (.ref b3_0)] [(.ref b3_0), (.ref a1)])) rfl rfl (hb hby d2_54)
  have w7 := Fld.same W7 f6
  have O7' := O5'.wr W7 h_5
  have N7 := Fr.snoc X7 N5 h_5
  refine own_k (T' := T7) (g' := (mkF m 57 #[.val (.ref a1), .val (.ref a2), .val (.int (0 : Int32)), .val (.int (1 : Int32)), .val .null, .val (.ref b3_0)] [])) st7 ?_
  have kp0 : Keep h0 h0 [a1] := Keep.refl h0 [a1]
  have kp1 : Keep h0 T3.heap [a1] := kp0.trans K3 all0
  have kp2 : Keep h0 h5 [a1] := kp1.wr W5 (Or.inl (List.mem_of_getElem? (i := 0) rfl))
  have kp3 : Keep h0 h7 [a1] := kp2.wr W7 (Or.inl (List.mem_of_getElem? (i := 0) rfl))
  have f8 := (w5.other W7 (Or.inr (slot_ne (Or.inr (hw _ (List.mem_of_getElem? (i := 27) rfl))) (Or.inr (hw _ (List.mem_of_getElem? (i := 29) rfl))) (by decide) (t := .byte) (t' := (.array .byte)) (by decide) (by decide))))
  have f9 := ((q3_1.other W5 (Ne.symm (Nat.ne_of_lt (Nat.lt_of_lt_of_le h_4.lt ge3_0)))).other W7 (Ne.symm (Nat.ne_of_lt (Nat.lt_of_lt_of_le h_4.lt ge3_0))))
  exact own_ret0 X7 hx hret hlk (hb hby d2_57) hF (by rw [e7]; exact ⟨b3_0, k3_1, rfl, N7, kp3, (Nat.le_trans kp0.1 ge3_0), (((h_4.keep K3).wr W5).wr W7), f8, w7, ((q3_0.wr W5).wr W7), f9⟩) (by decide) (by decide)
theorem d1_9 : decode jdk_42_method_3_code 9 = .ok (.return_, 1) := by decide +kernel
set_option maxRecDepth 65536 in
set_option maxHeartbeats 40000000 in
theorem rm_init_4 (l : Launch) (Z : State) (a0 : Array Value) (g_COMPACT_STRINGS : Int32) (g_SIOOBE_FORMATTER : Value) (g_DEFAULTCAPACITY_EMPTY_ELEMENTDATA : Addr) (g_EMPTY : Addr) (g_EMPTY_LIST : Addr) (gk_DEFAULTCAPACITY_EMPTY_ELEMENTDATA : ClassId) (g_NONE : Addr) (g_mir : Addr) (hW : own_W Z a0 g_COMPACT_STRINGS g_SIOOBE_FORMATTER g_DEFAULTCAPACITY_EMPTY_ELEMENTDATA g_EMPTY g_EMPTY_LIST gk_DEFAULTCAPACITY_EMPTY_ELEMENTDATA g_NONE g_mir) (a1 : Addr) (a2 : Addr) (q3 : ClassId) (i4 : Int32) (h0 : Heap) (O0 : Old Z Z.heap.size h0) (h_1 : Arv Z h0 a2 q3 .char (1 : Int32) [(.int i4)] (.int (0 : Int32))) (h_2 : ¬ ((255 : Int32) < i4)) (h_3 : Fld Z h0 a1 "java/lang/String" "coder" "B" (.int (0 : Int32))) (h_4 : Exa Z h0 a1 "java/lang/String") (h_5 : Z.heap.size ≤ a1) (h_6 : Fld Z h0 a1 "java/lang/String" "value" "[B" .null) :
    own_Met l Z (⟨"java/lang/String", "<init>", "([C)V"⟩ : MethodName) jdk_42_method_3_code 2 none ({ frames := 3, cells := 1, slots := 1, locals := 52 } : Room) #[(.ref a1), (.ref a2)] h0 (fun v h L => ∃ (b1_0 : Addr) (k1_1 : ClassId), v = none ∧ Fr Z.heap.size L ∧ Keep h0 h [a1] ∧ h0.size ≤ b1_0 ∧ Exa Z h a1 "java/lang/String" ∧ Fld Z h a1 "java/lang/String" "coder" "B" (.int (0 : Int32)) ∧ Fld Z h a1 "java/lang/String" "value" "[B" (.ref b1_0) ∧ Exa Z h b1_0 "[B" ∧ Arv Z h b1_0 k1_1 .byte (1 : Int32) [(.int (i4.toInt8.toInt32))] (.int (0 : Int32))) := by
  have hW_ := hW
  obtain ⟨hw, S_g_COMPACT_STRINGS, P_g_COMPACT_STRINGS, R_g_SIOOBE_FORMATTER, S_g_SIOOBE_FORMATTER, S_g__assertionsDisabled, S_g_DEFAULTCAPACITY_EMPTY_ELEMENTDATA, E_g_DEFAULTCAPACITY_EMPTY_ELEMENTDATA, S_g_EMPTY, E_g_EMPTY, S_g_EMPTY_LIST, E_g_EMPTY_LIST, V_g_DEFAULTCAPACITY_EMPTY_ELEMENTDATA, F_g_EMPTY_LIST_allowNulls, S_g_NONE, E_g_NONE, F_g_NONE_owner, M_mir⟩ := hW_
  refine own_met (plainFor_of_name pn_java_lang_String) ?_
  intro p e s m below meth cc_ s₁ Φ hF X0 hx hby hml hZ hown hnm hret hlk e0
  have N0 := Fr.nil Z.heap.size
  refine own_k (T' := s₁) (g' := (mkF m 0 #[.val (.ref a1), .val (.ref a2)] [])) (fun _ k_ => castTop (ef_1_RR m a1 a2) k_) ?_
  refine own_k (T' := s₁) (g' := (mkF m 1 #[.val (.ref a1), .val (.ref a2)] [(.ref a1)])) (fun _ k_ => XS.aloadN X0.here hx rfl (hb hby d1_0) rfl rfl  k_) ?_
  refine own_k (T' := s₁) (g' := (mkF m 2 #[.val (.ref a1), .val (.ref a2)] [(.ref a2), (.ref a1)])) (fun _ k_ => XS.aloadN X0.here hx rfl (hb hby d1_1) rfl rfl  k_) ?_
  refine own_k (T' := s₁) (g' := (mkF m 3 #[.val (.ref a1), .val (.ref a2)] [(.int (0 : Int32)), (.ref a2), (.ref a1)])) (fun _ k_ => XS.iconst X0.here hx rfl (hb hby d1_2) k_) ?_
  refine own_k (T' := s₁) (g' := (mkF m 4 #[.val (.ref a1), .val (.ref a2)] [(.ref a2), (.int (0 : Int32)), (.ref a2), (.ref a1)])) (fun _ k_ => XS.aloadN X0.here hx rfl (hb hby d1_3) rfl rfl  k_) ?_
  refine own_len X0 hx hZ e0 h_1 (hb hby d1_4) ?_
  show own_Go p e below Φ s₁ (mkF m 5 #[.val (.ref a1), .val (.ref a2)] [(.int (1 : Int32)), (.int (0 : Int32)), (.ref a2), (.ref a1)])
  refine own_k (T' := s₁) (g' := (mkF m 6 #[.val (.ref a1), .val (.ref a2)] [.null, (.int (1 : Int32)), (.int (0 : Int32)), (.ref a2), (.ref a1)])) (fun _ k_ => XS.aconstNull X0.here hx rfl (hb hby d1_5) k_) ?_
  refine own_callN X0 hx hZ (y := (⟨"java/lang/String", "<init>", "([CIILjava/lang/Void;)V"⟩ : MethodName)) rfl hown (hw _ (List.mem_of_getElem? (i := 7) rfl)) (hw _ (List.mem_of_getElem? (i := 8) rfl)) (hw _ (List.mem_of_getElem? (i := 10) rfl)) (hw _ (List.mem_of_getElem? (i := 3) rfl)) (by decide) (al := [(.ref a2), (.int (0 : Int32)), (.int (1 : Int32)), .null]) (b := a1) (rm_init_3 l Z a0 g_COMPACT_STRINGS g_SIOOBE_FORMATTER g_DEFAULTCAPACITY_EMPTY_ELEMENTDATA g_EMPTY g_EMPTY_LIST gk_DEFAULTCAPACITY_EMPTY_ELEMENTDATA g_NONE g_mir hW a1 a2 q3 i4 h0 O0 h_2 h_1 h_3 h_4 h_5 h_6) 0 (by decide) (by decide) e0 (by decide) (by decide) (by rw [hml]; rfl) (lenOf pd__28_5bCIILjava_2flang_2fVoid_3b_29V rfl) rfl (rest := []) (by show 2 * 0 + _ ≤ _; exact Nat.le_of_eq rfl) (hb hby d1_6) ?_
  intro v1 T1 L1 X1 hQ1
  obtain ⟨b1_0, k1_1, rfl, Nq1, K1, ge1_0, q1_0, q1_1, q1_2, q1_3, q1_4⟩ := hQ1
  have N1 := Fr.app N0 Nq1
  have O1' := O0.keep K1 (allS h_5 all0)
  show own_Go p e below Φ T1 (mkF m 9 #[.val (.ref a1), .val (.ref a2)] [])
  have kp0 : Keep h0 h0 [a1] := Keep.refl h0 [a1]
  have kp1 : Keep h0 T1.heap [a1] := kp0.trans K1 (allS (Or.inl (List.mem_of_getElem? (i := 0) rfl)) all0)
  exact own_ret0 X1 hx hret hlk (hb hby d1_9) hF (⟨b1_0, k1_1, rfl, N1, kp1, (Nat.le_trans kp0.1 ge1_0), q1_0, q1_1, q1_2, q1_3, q1_4⟩) (by decide) (by decide)
theorem pd__28C_29Ljava_2flang_2fString_3b : parseMethodDescriptor "(C)Ljava/lang/String;" = some ⟨[.char], some (.object "java/lang/String")⟩ := by decide +kernel
theorem ef_7_I (m : MethodId) (x0 : Int32)  : entryFrame m #[(.int x0)] 1 = mkF m 0 #[.val (.int x0)] [] := by first | (simp [entryFrame, mkF, argsToLocals, Value.category]; done) | rfl
theorem d7_0 : decode jdk_42_method_139_code 0 = .ok (.getstatic 38, 3) := by decide +kernel
theorem d7_3 : decode jdk_42_method_139_code 3 = .ok (.ifCond .eq 23, 3) := by decide +kernel
theorem d7_6 : decode jdk_42_method_139_code 6 = .ok (.iload_n 0, 1) := by decide +kernel
theorem d7_7 : decode jdk_42_method_139_code 7 = .ok (.invokestatic 1015, 3) := by decide +kernel
theorem pd__28C_29Z : parseMethodDescriptor "(C)Z" = some ⟨[.char], some .boolean⟩ := by decide +kernel
theorem ef_8_I (m : MethodId) (x0 : Int32)  : entryFrame m #[(.int x0)] 1 = mkF m 0 #[.val (.int x0)] [] := by first | (simp [entryFrame, mkF, argsToLocals, Value.category]; done) | rfl
theorem pn_java_lang_StringLatin1 : plainName "java/lang/StringLatin1" = true := by first | (simp [plainName, overriddenIn]; done) | decide +kernel
theorem d8_0 : decode jdk_43_method_3_code 0 = .ok (.iload_n 0, 1) := by decide +kernel
theorem d8_1 : decode jdk_43_method_3_code 1 = .ok (.sipush 255, 3) := by decide +kernel
theorem d8_4 : decode jdk_43_method_3_code 4 = .ok (.if_icmp .gt 7, 3) := by decide +kernel
theorem d8_7 : decode jdk_43_method_3_code 7 = .ok (.iconst 1, 1) := by decide +kernel
theorem d8_8 : decode jdk_43_method_3_code 8 = .ok (.goto 4, 3) := by decide +kernel
theorem d8_12 : decode jdk_43_method_3_code 12 = .ok (.ireturn, 1) := by decide +kernel
set_option maxRecDepth 65536 in
set_option maxHeartbeats 40000000 in
theorem rm_canEncode_5 (l : Launch) (Z : State) (a0 : Array Value) (g_COMPACT_STRINGS : Int32) (g_SIOOBE_FORMATTER : Value) (g_DEFAULTCAPACITY_EMPTY_ELEMENTDATA : Addr) (g_EMPTY : Addr) (g_EMPTY_LIST : Addr) (gk_DEFAULTCAPACITY_EMPTY_ELEMENTDATA : ClassId) (g_NONE : Addr) (g_mir : Addr) (hW : own_W Z a0 g_COMPACT_STRINGS g_SIOOBE_FORMATTER g_DEFAULTCAPACITY_EMPTY_ELEMENTDATA g_EMPTY g_EMPTY_LIST gk_DEFAULTCAPACITY_EMPTY_ELEMENTDATA g_NONE g_mir) (i1 : Int32) (h0 : Heap) (O0 : Old Z Z.heap.size h0) (h_1 : ¬ ((255 : Int32) < i1)) :
    own_Met l Z (⟨"java/lang/StringLatin1", "canEncode", "(C)Z"⟩ : MethodName) jdk_43_method_3_code 1 (some .boolean) ({ frames := 0, cells := 0, slots := 0, locals := 0 } : Room) #[(.int i1)] h0 (fun v h L => v = some (.int (1 : Int32)) ∧ Fr Z.heap.size L ∧ h = h0) := by
  have hW_ := hW
  obtain ⟨hw, S_g_COMPACT_STRINGS, P_g_COMPACT_STRINGS, R_g_SIOOBE_FORMATTER, S_g_SIOOBE_FORMATTER, S_g__assertionsDisabled, S_g_DEFAULTCAPACITY_EMPTY_ELEMENTDATA, E_g_DEFAULTCAPACITY_EMPTY_ELEMENTDATA, S_g_EMPTY, E_g_EMPTY, S_g_EMPTY_LIST, E_g_EMPTY_LIST, V_g_DEFAULTCAPACITY_EMPTY_ELEMENTDATA, F_g_EMPTY_LIST_allowNulls, S_g_NONE, E_g_NONE, F_g_NONE_owner, M_mir⟩ := hW_
  refine own_met (plainFor_of_name pn_java_lang_StringLatin1) ?_
  intro p e s m below meth cc_ s₁ Φ hF X0 hx hby hml hZ hown hnm hret hlk e0
  have N0 := Fr.nil Z.heap.size
  refine own_k (T' := s₁) (g' := (mkF m 0 #[.val (.int i1)] [])) (fun _ k_ => castTop (ef_8_I m i1) k_) ?_
  refine own_k (T' := s₁) (g' := (mkF m 1 #[.val (.int i1)] [(.int i1)])) (fun _ k_ => XS.iloadN X0.here hx rfl (hb hby d8_0) rfl  k_) ?_
  refine own_k (T' := s₁) (g' := (mkF m 4 #[.val (.int i1)] [(.int (255 : Int32)), (.int i1)])) (fun _ k_ => XS.sipush X0.here hx rfl (hb hby d8_1) k_) ?_
  refine own_k (T' := s₁) (g' := (mkF m 7 #[.val (.int i1)] [])) (fun _ k_ => XS.icmpNo X0.here hx rfl (hb hby d8_4) rfl ((flt h_1).2.2.1) k_) ?_
  refine own_k (T' := s₁) (g' := (mkF m 8 #[.val (.int i1)] [(.int (1 : Int32))])) (fun _ k_ => XS.iconst X0.here hx rfl (hb hby d8_7) k_) ?_
  refine own_k (T' := s₁) (g' := (mkF m 12 #[.val (.int i1)] [(.int (1 : Int32))])) (fun _ k_ => XS.goto X0.here hx rfl (pc0 := 8) (pc' := 12) rfl (hb hby d8_8) (by decide) (by decide) k_) ?_
  exact own_retN X0 hx (t := .boolean) hret (by simp) hlk (hb hby d8_12) hF (by rw [e0]; exact ⟨by rw [show nar .boolean (1 : Int32) = (1 : Int32) from by decide], N0, rfl⟩) (by decide) (by decide)
theorem d7_10 : decode jdk_42_method_139_code 10 = .ok (.ifCond .eq 16, 3) := by decide +kernel
theorem d7_13 : decode jdk_42_method_139_code 13 = .ok (.new 10, 3) := by decide +kernel
theorem d7_16 : decode jdk_42_method_139_code 16 = .ok (.dup, 1) := by decide +kernel
theorem d7_17 : decode jdk_42_method_139_code 17 = .ok (.iload_n 0, 1) := by decide +kernel
theorem d7_18 : decode jdk_42_method_139_code 18 = .ok (.invokestatic 1018, 3) := by decide +kernel
theorem pd__28C_29_5bB : parseMethodDescriptor "(C)[B" = some ⟨[.char], some (.array .byte)⟩ := by decide +kernel
theorem ef_9_I (m : MethodId) (x0 : Int32)  : entryFrame m #[(.int x0)] 1 = mkF m 0 #[.val (.int x0)] [] := by first | (simp [entryFrame, mkF, argsToLocals, Value.category]; done) | rfl
theorem d9_0 : decode jdk_43_method_46_code 0 = .ok (.iconst 1, 1) := by decide +kernel
theorem d9_1 : decode jdk_43_method_46_code 1 = .ok (.newarray .byte, 2) := by decide +kernel
theorem d9_3 : decode jdk_43_method_46_code 3 = .ok (.dup, 1) := by decide +kernel
theorem d9_4 : decode jdk_43_method_46_code 4 = .ok (.iconst 0, 1) := by decide +kernel
theorem d9_5 : decode jdk_43_method_46_code 5 = .ok (.iload_n 0, 1) := by decide +kernel
theorem d9_6 : decode jdk_43_method_46_code 6 = .ok (.i2b, 1) := by decide +kernel
theorem d9_7 : decode jdk_43_method_46_code 7 = .ok (.bastore, 1) := by decide +kernel
theorem d9_8 : decode jdk_43_method_46_code 8 = .ok (.areturn, 1) := by decide +kernel
set_option maxRecDepth 65536 in
set_option maxHeartbeats 40000000 in
theorem rm_toBytes_6 (l : Launch) (Z : State) (a0 : Array Value) (g_COMPACT_STRINGS : Int32) (g_SIOOBE_FORMATTER : Value) (g_DEFAULTCAPACITY_EMPTY_ELEMENTDATA : Addr) (g_EMPTY : Addr) (g_EMPTY_LIST : Addr) (gk_DEFAULTCAPACITY_EMPTY_ELEMENTDATA : ClassId) (g_NONE : Addr) (g_mir : Addr) (hW : own_W Z a0 g_COMPACT_STRINGS g_SIOOBE_FORMATTER g_DEFAULTCAPACITY_EMPTY_ELEMENTDATA g_EMPTY g_EMPTY_LIST gk_DEFAULTCAPACITY_EMPTY_ELEMENTDATA g_NONE g_mir) (i1 : Int32) (h0 : Heap) (O0 : Old Z Z.heap.size h0)  :
    own_Met l Z (⟨"java/lang/StringLatin1", "toBytes", "(C)[B"⟩ : MethodName) jdk_43_method_46_code 1 (some (.array .byte)) ({ frames := 0, cells := 1, slots := 1, locals := 0 } : Room) #[(.int i1)] h0 (fun v h L => ∃ (b1 : Addr) (k1 : ClassId), v = some (.ref b1) ∧ Fr Z.heap.size L ∧ Keep h0 h [] ∧ h0.size ≤ b1 ∧ Arv Z h b1 k1 .byte (1 : Int32) [(.int (i1.toInt8.toInt32))] (.int (0 : Int32)) ∧ Exa Z h b1 "[B") := by
  have hW_ := hW
  obtain ⟨hw, S_g_COMPACT_STRINGS, P_g_COMPACT_STRINGS, R_g_SIOOBE_FORMATTER, S_g_SIOOBE_FORMATTER, S_g__assertionsDisabled, S_g_DEFAULTCAPACITY_EMPTY_ELEMENTDATA, E_g_DEFAULTCAPACITY_EMPTY_ELEMENTDATA, S_g_EMPTY, E_g_EMPTY, S_g_EMPTY_LIST, E_g_EMPTY_LIST, V_g_DEFAULTCAPACITY_EMPTY_ELEMENTDATA, F_g_EMPTY_LIST_allowNulls, S_g_NONE, E_g_NONE, F_g_NONE_owner, M_mir⟩ := hW_
  refine own_met (plainFor_of_name pn_java_lang_StringLatin1) ?_
  intro p e s m below meth cc_ s₁ Φ hF X0 hx hby hml hZ hown hnm hret hlk e0
  have N0 := Fr.nil Z.heap.size
  refine own_k (T' := s₁) (g' := (mkF m 0 #[.val (.int i1)] [])) (fun _ k_ => castTop (ef_9_I m i1) k_) ?_
  refine own_k (T' := s₁) (g' := (mkF m 1 #[.val (.int i1)] [(.int (1 : Int32))])) (fun _ k_ => XS.iconst X0.here hx rfl (hb hby d9_0) k_) ?_
  obtain ⟨T1, h1, k1, X1, e1, E1, V1, A1, st1⟩ := own_newarr (pc := 1) (Ls := #[.val (.int i1)]) (rest := []) X0 hx hZ (hw _ (List.mem_of_getElem? (i := 19) rfl)) e0 (hb hby d9_1) (n := (1 : Int32)) (by decide) (cap := 1) (by decide) (by decide) (by decide) (by decide) (ad := "[B") (by decide)
  obtain ⟨b1, g1⟩ : ∃ z, z = h0.size := ⟨_, rfl⟩
  rw [← g1] at V1 A1 st1
  have O1' := O0.ext E1
  have V1 : Arv Z h1 b1 k1 .byte (1 : Int32) [(.int (0 : Int32))] (.int (0 : Int32)) := V1
  refine own_k (T' := T1) (g' := (mkF m 3 #[.val (.int i1)] [(.ref b1)])) st1 ?_
  refine own_k (T' := T1) (g' := (mkF m 4 #[.val (.int i1)] [(.ref b1), (.ref b1)])) (fun _ k_ => XS.dup X1.here hx rfl (hb hby d9_3) rfl rfl k_) ?_
  refine own_k (T' := T1) (g' := (mkF m 5 #[.val (.int i1)] [(.int (0 : Int32)), (.ref b1), (.ref b1)])) (fun _ k_ => XS.iconst X1.here hx rfl (hb hby d9_4) k_) ?_
  refine own_k (T' := T1) (g' := (mkF m 6 #[.val (.int i1)] [(.int i1), (.int (0 : Int32)), (.ref b1), (.ref b1)])) (fun _ k_ => XS.iloadN X1.here hx rfl (hb hby d9_5) rfl  k_) ?_
  refine own_k (T' := T1) (g' := (mkF m 7 #[.val (.int i1)] [(.int (i1.toInt8.toInt32)), (.int (0 : Int32)), (.ref b1), (.ref b1)])) (fun _ k_ => XS.i2b X1.here hx rfl (hb hby d9_6) rfl k_) ?_
  obtain ⟨T2, h2, X2, e2, W2, V2, st2⟩ := own_bastore (pc := 7) (Ls := #[.val (.int i1)]) (rest := [(.ref b1)]) X1 hx hZ e1 V1 (j := (0 : Int32)) (x := (i1.toInt8.toInt32)) ⟨by decide, by decide⟩ 0 rfl (Nat.le_of_ble_eq_true rfl) (hb hby d9_7)
  have V2 : Arv Z h2 b1 k1 .byte (1 : Int32) [(.int (nar .byte (i1.toInt8.toInt32)))] (.int (0 : Int32)) := V2
  rw [show nar .byte (i1.toInt8.toInt32) = (i1.toInt8.toInt32) from own_nar_byte _] at V2
  have O2' := O1'.wr W2 (Nat.le_trans O0.2.1 (Nat.le_of_eq g1.symm))
  have N2 := Fr.snoc X2 N0 (Nat.le_trans O0.2.1 (Nat.le_of_eq g1.symm))
  refine own_k (T' := T2) (g' := (mkF m 8 #[.val (.int i1)] [(.ref b1)])) st2 ?_
  have kp0 : Keep h0 h0 [] := Keep.refl h0 []
  have kp1 : Keep h0 h1 [] := kp0.ext E1
  have kp2 : Keep h0 h2 [] := kp1.wr W2 (Or.inr (Nat.le_trans kp0.1 (Nat.le_of_eq g1.symm)))
  exact own_retA X2 hx hret rfl rfl hlk (hb hby d9_8) hF (by rw [e2]; exact ⟨b1, k1, rfl, N2, kp2, (Nat.le_trans kp0.1 (Nat.le_of_eq g1.symm)), V2, (A1.wr W2)⟩) (by decide) (by decide)
theorem d7_21 : decode jdk_42_method_139_code 21 = .ok (.iconst 0, 1) := by decide +kernel
theorem d7_22 : decode jdk_42_method_139_code 22 = .ok (.invokespecial 209, 3) := by decide +kernel
theorem pd__28_5bBB_29V : parseMethodDescriptor "([BB)V" = some ⟨[(.array .byte), .byte], none⟩ := by decide +kernel
theorem ef_10_RRI (m : MethodId) (x0 : Addr) (x1 : Addr) (x2 : Int32)  : entryFrame m #[(.ref x0), (.ref x1), (.int x2)] 3 = mkF m 0 #[.val (.ref x0), .val (.ref x1), .val (.int x2)] [] := by first | (simp [entryFrame, mkF, argsToLocals, Value.category]; done) | rfl
theorem d10_0 : decode jdk_42_method_151_code 0 = .ok (.aload_n 0, 1) := by decide +kernel
theorem d10_1 : decode jdk_42_method_151_code 1 = .ok (.invokespecial 1, 3) := by decide +kernel
theorem d10_4 : decode jdk_42_method_151_code 4 = .ok (.aload_n 0, 1) := by decide +kernel
theorem d10_5 : decode jdk_42_method_151_code 5 = .ok (.aload_n 1, 1) := by decide +kernel
theorem d10_6 : decode jdk_42_method_151_code 6 = .ok (.putfield 9, 3) := by decide +kernel
theorem d10_9 : decode jdk_42_method_151_code 9 = .ok (.aload_n 0, 1) := by decide +kernel
theorem d10_10 : decode jdk_42_method_151_code 10 = .ok (.iload_n 2, 1) := by decide +kernel
theorem d10_11 : decode jdk_42_method_151_code 11 = .ok (.putfield 15, 3) := by decide +kernel
theorem d10_14 : decode jdk_42_method_151_code 14 = .ok (.return_, 1) := by decide +kernel
set_option maxRecDepth 65536 in
set_option maxHeartbeats 40000000 in
theorem rm_init_7 (l : Launch) (Z : State) (a0 : Array Value) (g_COMPACT_STRINGS : Int32) (g_SIOOBE_FORMATTER : Value) (g_DEFAULTCAPACITY_EMPTY_ELEMENTDATA : Addr) (g_EMPTY : Addr) (g_EMPTY_LIST : Addr) (gk_DEFAULTCAPACITY_EMPTY_ELEMENTDATA : ClassId) (g_NONE : Addr) (g_mir : Addr) (hW : own_W Z a0 g_COMPACT_STRINGS g_SIOOBE_FORMATTER g_DEFAULTCAPACITY_EMPTY_ELEMENTDATA g_EMPTY g_EMPTY_LIST gk_DEFAULTCAPACITY_EMPTY_ELEMENTDATA g_NONE g_mir) (a1 : Addr) (a2 : Addr) (h0 : Heap) (O0 : Old Z Z.heap.size h0) (h_1 : Fld Z h0 a1 "java/lang/String" "value" "[B" .null) (h_2 : Exa Z h0 a1 "java/lang/String") (h_3 : Z.heap.size ≤ a1) (h_4 : Fld Z h0 a1 "java/lang/String" "coder" "B" (.int (0 : Int32))) :
    own_Met l Z (⟨"java/lang/String", "<init>", "([BB)V"⟩ : MethodName) jdk_42_method_151_code 3 none ({ frames := 1, cells := 0, slots := 0, locals := 12 } : Room) #[(.ref a1), (.ref a2), (.int (0 : Int32))] h0 (fun v h L => v = none ∧ Fr Z.heap.size L ∧ Keep h0 h [a1] ∧ Exa Z h a1 "java/lang/String" ∧ Fld Z h a1 "java/lang/String" "value" "[B" (.ref a2) ∧ Fld Z h a1 "java/lang/String" "coder" "B" (.int (0 : Int32))) := by
  have hW_ := hW
  obtain ⟨hw, S_g_COMPACT_STRINGS, P_g_COMPACT_STRINGS, R_g_SIOOBE_FORMATTER, S_g_SIOOBE_FORMATTER, S_g__assertionsDisabled, S_g_DEFAULTCAPACITY_EMPTY_ELEMENTDATA, E_g_DEFAULTCAPACITY_EMPTY_ELEMENTDATA, S_g_EMPTY, E_g_EMPTY, S_g_EMPTY_LIST, E_g_EMPTY_LIST, V_g_DEFAULTCAPACITY_EMPTY_ELEMENTDATA, F_g_EMPTY_LIST_allowNulls, S_g_NONE, E_g_NONE, F_g_NONE_owner, M_mir⟩ := hW_
  refine own_met (plainFor_of_name pn_java_lang_String) ?_
  intro p e s m below meth cc_ s₁ Φ hF X0 hx hby hml hZ hown hnm hret hlk e0
  have N0 := Fr.nil Z.heap.size
  refine own_k (T' := s₁) (g' := (mkF m 0 #[.val (.ref a1), .val (.ref a2), .val (.int (0 : Int32))] [])) (fun _ k_ => castTop (ef_10_RRI m a1 a2 (0 : Int32)) k_) ?_
  refine own_k (T' := s₁) (g' := (mkF m 1 #[.val (.ref a1), .val (.ref a2), .val (.int (0 : Int32))] [(.ref a1)])) (fun _ k_ => XS.aloadN X0.here hx rfl (hb hby d10_0) rfl rfl  k_) ?_
  obtain ⟨T1, X1, e1, st1⟩ := initO X0 hx hZ hown (hw _ (List.mem_of_getElem? (i := 11) rfl)) (hw _ (List.mem_of_getElem? (i := 12) rfl)) (hw _ (List.mem_of_getElem? (i := 13) rfl)) e0 (g := (mkF m 1 #[.val (.ref a1), .val (.ref a2), .val (.int (0 : Int32))] [(.ref a1)])) rfl (by rw [hml]; rfl) rfl (hb hby d10_1) (by decide) (W := 0) (by show 2 * 0 + _ ≤ _; exact Nat.le_of_eq rfl) (by decide)
  refine own_k (T' := T1) (g' := (mkF m 4 #[.val (.ref a1), .val (.ref a2), .val (.int (0 : Int32))] [])) st1 ?_
  refine own_k (T' := T1) (g' := (mkF m 5 #[.val (.ref a1), .val (.ref a2), .val (.int (0 : Int32))] [(.ref a1)])) (fun _ k_ => XS.aloadN X1.here hx rfl (hb hby d10_4) rfl rfl  k_) ?_
  refine own_k (T' := T1) (g' := (mkF m 6 #[.val (.ref a1), .val (.ref a2), .val (.int (0 : Int32))] [(.ref a2), (.ref a1)])) (fun _ k_ => XS.aloadN X1.here hx rfl (hb hby d10_5) rfl rfl  k_) ?_
  obtain ⟨T2, h2, X2, e2, W2, st2⟩ := putF X1 hx hZ hown (host := "") (Or.inl (hw _ (List.mem_of_getElem? (i := 28) rfl))) Via.refl e1 h_1 h_2 (Or.inr ⟨(hw _ (List.mem_of_getElem? (i := 29) rfl)), rfl, hnm⟩) (hw _ (List.mem_of_getElem? (i := 2) rfl)) (ty := (.array .byte)) (by decide) rfl rfl (g := (mkF m 6 #[.val (.ref a1), .val (.ref a2), .val (.int (0 : Int32))] [(.ref a2), (.ref a1)])) rfl rfl (hb hby d10_6)
  have w2 := Fld.same W2 h_1
  have O2' := O0.wr W2 h_3
  have N2 := Fr.snoc X2 N0 h_3
  refine own_k (T' := T2) (g' := (mkF m 9 #[.val (.ref a1), .val (.ref a2), .val (.int (0 : Int32))] [])) st2 ?_
  refine own_k (T' := T2) (g' := (mkF m 10 #[.val (.ref a1), .val (.ref a2), .val (.int (0 : Int32))] [(.ref a1)])) (fun _ k_ => XS.aloadN X2.here hx rfl (hb hby d10_9) rfl rfl  k_) ?_
  refine own_k (T' := T2) (g' := (mkF m 11 #[.val (.ref a1), .val (.ref a2), .val (.int (0 : Int32))] [(.int (0 : Int32)), (.ref a1)])) (fun _ k_ => XS.iloadN X2.here hx rfl (hb hby d10_10) rfl  k_) ?_
  have f3 := (h_4.other W2 (Or.inr (slot_ne (Or.inr (hw _ (List.mem_of_getElem? (i := 27) rfl))) (Or.inr (hw _ (List.mem_of_getElem? (i := 29) rfl))) (by decide) (t := .byte) (t' := (.array .byte)) (by decide) (by decide))))
  obtain ⟨T4, h4, X4, e4, W4, st4⟩ := putFN X2 hx hZ hown (hw _ (List.mem_of_getElem? (i := 26) rfl)) Via.refl e2 f3 (h_2.wr W2) (Or.inr ⟨(hw _ (List.mem_of_getElem? (i := 27) rfl)), rfl, hnm⟩) (hw _ (List.mem_of_getElem? (i := 2) rfl)) (ty := .byte) (v' := (.int (nar .byte (0 : Int32)))) (by decide) rfl (fits_nar_byte _) (g := (mkF m 11 #[.val (.ref a1), .val (.ref a2), .val (.int (0 : Int32))] [(.int (0 : Int32)), (.ref a1)])) rfl rfl (hb hby d10_11)
  have w4 := Fld.same W4 f3
  rw [show nar .byte (0 : Int32) = (0 : Int32) from by decide] at w4
  have O4' := O2'.wr W4 h_3
  have N4 := Fr.snoc X4 N2 h_3
  refine own_k (T' := T4) (g' := (mkF m 14 #[.val (.ref a1), .val (.ref a2), .val (.int (0 : Int32))] [])) st4 ?_
  have kp0 : Keep h0 h0 [a1] := Keep.refl h0 [a1]
  have kp1 : Keep h0 h2 [a1] := kp0.wr W2 (Or.inl (List.mem_of_getElem? (i := 0) rfl))
  have kp2 : Keep h0 h4 [a1] := kp1.wr W4 (Or.inl (List.mem_of_getElem? (i := 0) rfl))
  have f5 := (w2.other W4 (Or.inr (slot_ne (Or.inr (hw _ (List.mem_of_getElem? (i := 29) rfl))) (Or.inr (hw _ (List.mem_of_getElem? (i := 27) rfl))) (by decide) (t := (.array .byte)) (t' := .byte) (by decide) (by decide))))
  exact own_ret0 X4 hx hret hlk (hb hby d10_14) hF (by rw [e4]; exact ⟨rfl, N4, kp2, ((h_2.wr W2).wr W4), f5, w4⟩) (by decide) (by decide)
theorem d7_25 : decode jdk_42_method_139_code 25 = .ok (.areturn, 1) := by decide +kernel
set_option maxRecDepth 65536 in
set_option maxHeartbeats 40000000 in
theorem rm_valueOf_8 (l : Launch) (Z : State) (a0 : Array Value) (g_COMPACT_STRINGS : Int32) (g_SIOOBE_FORMATTER : Value) (g_DEFAULTCAPACITY_EMPTY_ELEMENTDATA : Addr) (g_EMPTY : Addr) (g_EMPTY_LIST : Addr) (gk_DEFAULTCAPACITY_EMPTY_ELEMENTDATA : ClassId) (g_NONE : Addr) (g_mir : Addr) (hW : own_W Z a0 g_COMPACT_STRINGS g_SIOOBE_FORMATTER g_DEFAULTCAPACITY_EMPTY_ELEMENTDATA g_EMPTY g_EMPTY_LIST gk_DEFAULTCAPACITY_EMPTY_ELEMENTDATA g_NONE g_mir) (i1 : Int32) (h0 : Heap) (O0 : Old Z Z.heap.size h0) (h_1 : ¬ ((255 : Int32) < i1)) :
    own_Met l Z (⟨"java/lang/String", "valueOf", "(C)Ljava/lang/String;"⟩ : MethodName) jdk_42_method_139_code 1 (some (.object "java/lang/String")) ({ frames := 2, cells := 2, slots := 5, locals := 27 } : Room) #[(.int i1)] h0 (fun v h L => ∃ (b3 : Addr) (b4_0 : Addr) (k4_1 : ClassId), v = some (.ref b3) ∧ Fr Z.heap.size L ∧ Keep h0 h [] ∧ h0.size ≤ b3 ∧ h0.size ≤ b4_0 ∧ b3 ≠ b4_0 ∧ Exa Z h b3 "java/lang/String" ∧ Fld Z h b3 "java/lang/String" "value" "[B" (.ref b4_0) ∧ Fld Z h b3 "java/lang/String" "coder" "B" (.int (0 : Int32)) ∧ Arv Z h b4_0 k4_1 .byte (1 : Int32) [(.int (i1.toInt8.toInt32))] (.int (0 : Int32)) ∧ Exa Z h b4_0 "[B") := by
  have hW_ := hW
  obtain ⟨hw, S_g_COMPACT_STRINGS, P_g_COMPACT_STRINGS, R_g_SIOOBE_FORMATTER, S_g_SIOOBE_FORMATTER, S_g__assertionsDisabled, S_g_DEFAULTCAPACITY_EMPTY_ELEMENTDATA, E_g_DEFAULTCAPACITY_EMPTY_ELEMENTDATA, S_g_EMPTY, E_g_EMPTY, S_g_EMPTY_LIST, E_g_EMPTY_LIST, V_g_DEFAULTCAPACITY_EMPTY_ELEMENTDATA, F_g_EMPTY_LIST_allowNulls, S_g_NONE, E_g_NONE, F_g_NONE_owner, M_mir⟩ := hW_
  refine own_met (plainFor_of_name pn_java_lang_String) ?_
  intro p e s m below meth cc_ s₁ Φ hF X0 hx hby hml hZ hown hnm hret hlk e0
  have N0 := Fr.nil Z.heap.size
  refine own_k (T' := s₁) (g' := (mkF m 0 #[.val (.int i1)] [])) (fun _ k_ => castTop (ef_7_I m i1) k_) ?_
  obtain ⟨T1, X1, e1, st1⟩ := getS2 X0 hx hZ hown (host := "") (Or.inl (hw _ (List.mem_of_getElem? (i := 14) rfl))) Via.refl e0 (S_g_COMPACT_STRINGS.ext O0.2) (g := (mkF m 0 #[.val (.int i1)] [])) rfl (hb hby d7_0)
  refine own_k (T' := T1) (g' := (mkF m 3 #[.val (.int i1)] [(.int g_COMPACT_STRINGS)])) st1 ?_
  refine own_k (T' := T1) (g' := (mkF m 6 #[.val (.int i1)] [])) (fun _ k_ => XS.ifNo X1.here hx rfl (hb hby d7_3) rfl ((if0 _ _).trans (feq P_g_COMPACT_STRINGS).1) k_) ?_
  refine own_k (T' := T1) (g' := (mkF m 7 #[.val (.int i1)] [(.int i1)])) (fun _ k_ => XS.iloadN X1.here hx rfl (hb hby d7_6) rfl  k_) ?_
  refine own_callS X1 hx hZ (y := (⟨"java/lang/StringLatin1", "canEncode", "(C)Z"⟩ : MethodName)) hown (hw _ (List.mem_of_getElem? (i := 33) rfl)) (hw _ (List.mem_of_getElem? (i := 34) rfl)) (hw _ (List.mem_of_getElem? (i := 35) rfl)) (hw _ (List.mem_of_getElem? (i := 36) rfl)) (by decide) (al := [(.int i1)]) (rm_canEncode_5 l Z a0 g_COMPACT_STRINGS g_SIOOBE_FORMATTER g_DEFAULTCAPACITY_EMPTY_ELEMENTDATA g_EMPTY g_EMPTY_LIST gk_DEFAULTCAPACITY_EMPTY_ELEMENTDATA g_NONE g_mir hW i1 h0 O0 h_1) 0 (by decide) (by decide) e1 (by decide) (by decide) (by rw [hml]; rfl) (lenOf pd__28C_29Z rfl) rfl (rest := []) (by show 2 * 0 + _ ≤ _; exact Nat.le_of_eq rfl) (hb hby d7_7) ?_
  intro v2 T2 L2 X2 hQ2
  obtain ⟨rfl, Nq2, e2⟩ := hQ2
  have N2 := Fr.app N0 Nq2
  show own_Go p e below Φ T2 (mkF m 10 #[.val (.int i1)] [(.int (1 : Int32))])
  refine own_k (T' := T2) (g' := (mkF m 13 #[.val (.int i1)] [])) (fun _ k_ => XS.ifNo X2.here hx rfl (hb hby d7_10) rfl ((if0 _ _).trans (feq (by decide : ¬ ((1 : Int32) = (0 : Int32)))).1) k_) ?_
  obtain ⟨T3, h3, X3, e3, E3, A3, D3, -, st3⟩ := newO X2 hx hZ hown (hw _ (List.mem_of_getElem? (i := 37) rfl)) (hw _ (List.mem_of_getElem? (i := 2) rfl)) (hw _ (List.mem_of_getElem? (i := 3) rfl)) e2 (g := (mkF m 13 #[.val (.int i1)] [])) rfl (hb hby d7_13) (by decide) (by decide)
  obtain ⟨b3, g3⟩ : ∃ z, z = h0.size := ⟨_, rfl⟩
  rw [← g3] at A3 D3 st3
  have O3' := O0.ext E3
  have F3_coder : Fld Z h3 b3 "java/lang/String" "coder" "B" (.int (0 : Int32)) := D3 (Or.inr (hw _ (List.mem_of_getElem? (i := 27) rfl))) (ty := .byte) (by decide)
  have F3_value : Fld Z h3 b3 "java/lang/String" "value" "[B" .null := D3 (Or.inr (hw _ (List.mem_of_getElem? (i := 29) rfl))) (ty := (.array .byte)) (by decide)
  refine own_k (T' := T3) (g' := (mkF m 16 #[.val (.int i1)] [(.ref b3)])) st3 ?_
  refine own_k (T' := T3) (g' := (mkF m 17 #[.val (.int i1)] [(.ref b3), (.ref b3)])) (fun _ k_ => XS.dup X3.here hx rfl (hb hby d7_16) rfl rfl k_) ?_
  refine own_k (T' := T3) (g' := (mkF m 18 #[.val (.int i1)] [(.int i1), (.ref b3), (.ref b3)])) (fun _ k_ => XS.iloadN X3.here hx rfl (hb hby d7_17) rfl  k_) ?_
  refine own_callS X3 hx hZ (y := (⟨"java/lang/StringLatin1", "toBytes", "(C)[B"⟩ : MethodName)) hown (hw _ (List.mem_of_getElem? (i := 38) rfl)) (hw _ (List.mem_of_getElem? (i := 39) rfl)) (hw _ (List.mem_of_getElem? (i := 35) rfl)) (hw _ (List.mem_of_getElem? (i := 40) rfl)) (by decide) (al := [(.int i1)]) (rm_toBytes_6 l Z a0 g_COMPACT_STRINGS g_SIOOBE_FORMATTER g_DEFAULTCAPACITY_EMPTY_ELEMENTDATA g_EMPTY g_EMPTY_LIST gk_DEFAULTCAPACITY_EMPTY_ELEMENTDATA g_NONE g_mir hW i1 h3 O3') 2 (by decide) (by decide) e3 (by decide) (by decide) (by rw [hml]; rfl) (lenOf pd__28C_29_5bB rfl) rfl (rest := [(.ref b3), (.ref b3)]) (by show 2 * 0 + _ ≤ _; exact Nat.le_of_eq rfl) (hb hby d7_18) ?_
  intro v4 T4 L4 X4 hQ4
  obtain ⟨b4_0, k4_1, rfl, Nq4, K4, ge4_0, q4_0, q4_1⟩ := hQ4
  have N4 := Fr.app N2 Nq4
  have O4' := O3'.keep K4 all0
  show own_Go p e below Φ T4 (mkF m 21 #[.val (.int i1)] [(.ref b4_0), (.ref b3), (.ref b3)])
  refine own_k (T' := T4) (g' := (mkF m 22 #[.val (.int i1)] [(.int (0 : Int32)), (.ref b4_0), (.ref b3), (.ref b3)])) (fun _ k_ => XS.iconst X4.here hx rfl (hb hby d7_21) k_) ?_
  refine own_callN X4 hx hZ (y := (⟨"java/lang/String", "<init>", "([BB)V"⟩ : MethodName)) rfl hown (hw _ (List.mem_of_getElem? (i := 41) rfl)) (hw _ (List.mem_of_getElem? (i := 42) rfl)) (hw _ (List.mem_of_getElem? (i := 43) rfl)) (hw _ (List.mem_of_getElem? (i := 3) rfl)) (by decide) (al := [(.ref b4_0), (.int (0 : Int32))]) (b := b3) (rm_init_7 l Z a0 g_COMPACT_STRINGS g_SIOOBE_FORMATTER g_DEFAULTCAPACITY_EMPTY_ELEMENTDATA g_EMPTY g_EMPTY_LIST gk_DEFAULTCAPACITY_EMPTY_ELEMENTDATA g_NONE g_mir hW b3 b4_0 T4.heap O4' (F3_value.keep K4 nin0) (A3.keep K4) (Nat.le_trans O0.2.1 (Nat.le_of_eq g3.symm)) (F3_coder.keep K4 nin0)) 1 (by decide) (by decide) rfl (by decide) (by decide) (by rw [hml]; rfl) (lenOf pd__28_5bBB_29V rfl) rfl (rest := [(.ref b3)]) (by show 2 * 0 + _ ≤ _; exact Nat.le_of_eq rfl) (hb hby d7_22) ?_
  intro v5 T5 L5 X5 hQ5
  obtain ⟨rfl, Nq5, K5, q5_0, q5_1, q5_2⟩ := hQ5
  have N5 := Fr.app N4 Nq5
  have O5' := O4'.keep K5 (allS (Nat.le_trans O0.2.1 (Nat.le_of_eq g3.symm)) all0)
  show own_Go p e below Φ T5 (mkF m 25 #[.val (.int i1)] [(.ref b3)])
  have kp0 : Keep h0 h0 [] := Keep.refl h0 []
  have kp1 : Keep h0 h3 [] := kp0.ext E3
  have kp2 : Keep h0 T4.heap [] := kp1.trans K4 all0
  have kp3 : Keep h0 T5.heap [] := kp2.trans K5 (allS (Or.inr (Nat.le_trans kp0.1 (Nat.le_of_eq g3.symm))) all0)
  have f6 := (q4_0.keep K5 (ninS (Ne.symm (Nat.ne_of_lt (Nat.lt_of_lt_of_le A3.lt ge4_0))) nin0))
  exact own_retA X5 hx hret rfl rfl hlk (hb hby d7_25) hF (⟨b3, b4_0, k4_1, rfl, N5, kp3, (Nat.le_trans kp0.1 (Nat.le_of_eq g3.symm)), (Nat.le_trans kp1.1 ge4_0), (Nat.ne_of_lt (Nat.lt_of_lt_of_le A3.lt ge4_0)), q5_0, q5_1, q5_2, f6, (q4_1.keep K5)⟩) (by decide) (by decide)
theorem pd__28Lcom_2fexample_2frestoral_2frestoral_2fengine_2fRowName_3bLjava_2futil_2fMap_3b_29V : parseMethodDescriptor "(Lcom/example/restoral/restoral/engine/RowName;Ljava/util/Map;)V" = some ⟨[(.object "com/example/restoral/restoral/engine/RowName"), (.object "java/util/Map")], none⟩ := by decide +kernel
theorem ef_11_RNN (m : MethodId) (x0 : Addr)  : entryFrame m #[(.ref x0), .null, .null] 3 = mkF m 0 #[.val (.ref x0), .val .null, .val .null] [] := by first | (simp [entryFrame, mkF, argsToLocals, Value.category]; done) | rfl
theorem pn_com_example_restoral_restoral_engine_Steps : plainName "com/example/restoral/restoral/engine/Steps" = true := by first | (simp [plainName, overriddenIn]; done) | decide +kernel
theorem d11_0 : decode prog_26_method_1_code 0 = .ok (.aload_n 0, 1) := by decide +kernel
theorem d11_1 : decode prog_26_method_1_code 1 = .ok (.invokespecial 1, 3) := by decide +kernel
theorem d11_4 : decode prog_26_method_1_code 4 = .ok (.aload_n 0, 1) := by decide +kernel
theorem d11_5 : decode prog_26_method_1_code 5 = .ok (.aload_n 1, 1) := by decide +kernel
theorem d11_6 : decode prog_26_method_1_code 6 = .ok (.putfield 7, 3) := by decide +kernel
theorem d11_9 : decode prog_26_method_1_code 9 = .ok (.aload_n 0, 1) := by decide +kernel
theorem d11_10 : decode prog_26_method_1_code 10 = .ok (.aload_n 2, 1) := by decide +kernel
theorem d11_11 : decode prog_26_method_1_code 11 = .ok (.putfield 13, 3) := by decide +kernel
theorem d11_14 : decode prog_26_method_1_code 14 = .ok (.return_, 1) := by decide +kernel
set_option maxRecDepth 65536 in
set_option maxHeartbeats 40000000 in
theorem rm_init_9 (l : Launch) (Z : State) (a0 : Array Value) (g_COMPACT_STRINGS : Int32) (g_SIOOBE_FORMATTER : Value) (g_DEFAULTCAPACITY_EMPTY_ELEMENTDATA : Addr) (g_EMPTY : Addr) (g_EMPTY_LIST : Addr) (gk_DEFAULTCAPACITY_EMPTY_ELEMENTDATA : ClassId) (g_NONE : Addr) (g_mir : Addr) (hW : own_W Z a0 g_COMPACT_STRINGS g_SIOOBE_FORMATTER g_DEFAULTCAPACITY_EMPTY_ELEMENTDATA g_EMPTY g_EMPTY_LIST gk_DEFAULTCAPACITY_EMPTY_ELEMENTDATA g_NONE g_mir) (a1 : Addr) (h0 : Heap) (O0 : Old Z Z.heap.size h0) (h_1 : Fld Z h0 a1 "com/example/restoral/restoral/engine/Steps" "owner" "Lcom/example/restoral/restoral/engine/RowName;" .null) (h_2 : Exa Z h0 a1 "com/example/restoral/restoral/engine/Steps") (h_3 : Z.heap.size ≤ a1) (h_4 : Fld Z h0 a1 "com/example/restoral/restoral/engine/Steps" "figures" "Ljava/util/Map;" .null) (h_5 : Fld Z h0 a1 "com/example/restoral/restoral/engine/Steps" "last" "Lcom/example/restoral/restoral/engine/Step;" .null) :
    own_Met l Z (⟨"com/example/restoral/restoral/engine/Steps", "<init>", "(Lcom/example/restoral/restoral/engine/RowName;Ljava/util/Map;)V"⟩ : MethodName) prog_26_method_1_code 3 none ({ frames := 1, cells := 0, slots := 0, locals := 12 } : Room) #[(.ref a1), .null, .null] h0 (fun v h L => v = none ∧ Fr Z.heap.size L ∧ Keep h0 h [a1] ∧ Exa Z h a1 "com/example/restoral/restoral/engine/Steps" ∧ Fld Z h a1 "com/example/restoral/restoral/engine/Steps" "owner" "Lcom/example/restoral/restoral/engine/RowName;" .null ∧ Fld Z h a1 "com/example/restoral/restoral/engine/Steps" "figures" "Ljava/util/Map;" .null ∧ Fld Z h a1 "com/example/restoral/restoral/engine/Steps" "last" "Lcom/example/restoral/restoral/engine/Step;" .null) := by
  have hW_ := hW
  obtain ⟨hw, S_g_COMPACT_STRINGS, P_g_COMPACT_STRINGS, R_g_SIOOBE_FORMATTER, S_g_SIOOBE_FORMATTER, S_g__assertionsDisabled, S_g_DEFAULTCAPACITY_EMPTY_ELEMENTDATA, E_g_DEFAULTCAPACITY_EMPTY_ELEMENTDATA, S_g_EMPTY, E_g_EMPTY, S_g_EMPTY_LIST, E_g_EMPTY_LIST, V_g_DEFAULTCAPACITY_EMPTY_ELEMENTDATA, F_g_EMPTY_LIST_allowNulls, S_g_NONE, E_g_NONE, F_g_NONE_owner, M_mir⟩ := hW_
  refine own_met (plainFor_of_name pn_com_example_restoral_restoral_engine_Steps) ?_
  intro p e s m below meth cc_ s₁ Φ hF X0 hx hby hml hZ hown hnm hret hlk e0
  have N0 := Fr.nil Z.heap.size
  refine own_k (T' := s₁) (g' := (mkF m 0 #[.val (.ref a1), .val .null, .val .null] [])) (fun _ k_ => castTop (ef_11_RNN m a1) k_) ?_
  refine own_k (T' := s₁) (g' := (mkF m 1 #[.val (.ref a1), .val .null, .val .null] [(.ref a1)])) (fun _ k_ => XS.aloadN X0.here hx rfl (hb hby d11_0) rfl rfl  k_) ?_
  obtain ⟨T1, X1, e1, st1⟩ := initO X0 hx hZ hown (hw _ (List.mem_of_getElem? (i := 50) rfl)) (hw _ (List.mem_of_getElem? (i := 12) rfl)) (hw _ (List.mem_of_getElem? (i := 13) rfl)) e0 (g := (mkF m 1 #[.val (.ref a1), .val .null, .val .null] [(.ref a1)])) rfl (by rw [hml]; rfl) rfl (hb hby d11_1) (by decide) (W := 0) (by show 2 * 0 + _ ≤ _; exact Nat.le_of_eq rfl) (by decide)
  refine own_k (T' := T1) (g' := (mkF m 4 #[.val (.ref a1), .val .null, .val .null] [])) st1 ?_
  refine own_k (T' := T1) (g' := (mkF m 5 #[.val (.ref a1), .val .null, .val .null] [(.ref a1)])) (fun _ k_ => XS.aloadN X1.here hx rfl (hb hby d11_4) rfl rfl  k_) ?_
  refine own_k (T' := T1) (g' := (mkF m 6 #[.val (.ref a1), .val .null, .val .null] [.null, (.ref a1)])) (fun _ k_ => XS.aloadN X1.here hx rfl (hb hby d11_5) rfl rfl  k_) ?_
  obtain ⟨T2, h2, X2, e2, W2, st2⟩ := putF X1 hx hZ hown (host := "") (Or.inl (hw _ (List.mem_of_getElem? (i := 51) rfl))) Via.refl e1 h_1 h_2 (Or.inr ⟨(hw _ (List.mem_of_getElem? (i := 52) rfl)), rfl, hnm⟩) (hw _ (List.mem_of_getElem? (i := 45) rfl)) (ty := (.object "com/example/restoral/restoral/engine/RowName")) (by decide) rfl rfl (g := (mkF m 6 #[.val (.ref a1), .val .null, .val .null] [.null, (.ref a1)])) rfl rfl (hb hby d11_6)
  have w2 := Fld.same W2 h_1
  have O2' := O0.wr W2 h_3
  have N2 := Fr.snoc X2 N0 h_3
  refine own_k (T' := T2) (g' := (mkF m 9 #[.val (.ref a1), .val .null, .val .null] [])) st2 ?_
  refine own_k (T' := T2) (g' := (mkF m 10 #[.val (.ref a1), .val .null, .val .null] [(.ref a1)])) (fun _ k_ => XS.aloadN X2.here hx rfl (hb hby d11_9) rfl rfl  k_) ?_
  refine own_k (T' := T2) (g' := (mkF m 11 #[.val (.ref a1), .val .null, .val .null] [.null, (.ref a1)])) (fun _ k_ => XS.aloadN X2.here hx rfl (hb hby d11_10) rfl rfl  k_) ?_
  have f3 := (h_4.other W2 (Or.inr (slot_ne (Or.inr (hw _ (List.mem_of_getElem? (i := 54) rfl))) (Or.inr (hw _ (List.mem_of_getElem? (i := 52) rfl))) (by decide) (t := (.object "java/util/Map")) (t' := (.object "com/example/restoral/restoral/engine/RowName")) (by decide) (by decide))))
  obtain ⟨T4, h4, X4, e4, W4, st4⟩ := putF X2 hx hZ hown (host := "") (Or.inl (hw _ (List.mem_of_getElem? (i := 53) rfl))) Via.refl e2 f3 (h_2.wr W2) (Or.inr ⟨(hw _ (List.mem_of_getElem? (i := 54) rfl)), rfl, hnm⟩) (hw _ (List.mem_of_getElem? (i := 45) rfl)) (ty := (.object "java/util/Map")) (by decide) rfl rfl (g := (mkF m 11 #[.val (.ref a1), .val .null, .val .null] [.null, (.ref a1)])) rfl rfl (hb hby d11_11)
  have w4 := Fld.same W4 f3
  have O4' := O2'.wr W4 h_3
  have N4 := Fr.snoc X4 N2 h_3
  refine own_k (T' := T4) (g' := (mkF m 14 #[.val (.ref a1), .val .null, .val .null] [])) st4 ?_
  have kp0 : Keep h0 h0 [a1] := Keep.refl h0 [a1]
  have kp1 : Keep h0 h2 [a1] := kp0.wr W2 (Or.inl (List.mem_of_getElem? (i := 0) rfl))
  have kp2 : Keep h0 h4 [a1] := kp1.wr W4 (Or.inl (List.mem_of_getElem? (i := 0) rfl))
  have f5 := (w2.other W4 (Or.inr (slot_ne (Or.inr (hw _ (List.mem_of_getElem? (i := 52) rfl))) (Or.inr (hw _ (List.mem_of_getElem? (i := 54) rfl))) (by decide) (t := (.object "com/example/restoral/restoral/engine/RowName")) (t' := (.object "java/util/Map")) (by decide) (by decide))))
  have f6 := ((h_5.other W2 (Or.inr (slot_ne (Or.inl (hw _ (List.mem_of_getElem? (i := 78) rfl))) (Or.inr (hw _ (List.mem_of_getElem? (i := 52) rfl))) (by decide) (t := (.object "com/example/restoral/restoral/engine/Step")) (t' := (.object "com/example/restoral/restoral/engine/RowName")) (by decide) (by decide)))).other W4 (Or.inr (slot_ne (Or.inl (hw _ (List.mem_of_getElem? (i := 78) rfl))) (Or.inr (hw _ (List.mem_of_getElem? (i := 54) rfl))) (by decide) (t := (.object "com/example/restoral/restoral/engine/Step")) (t' := (.object "java/util/Map")) (by decide) (by decide))))
  exact own_ret0 X4 hx hret hlk (hb hby d11_14) hF (by rw [e4]; exact ⟨rfl, N4, kp2, ((h_2.wr W2).wr W4), f5, w4, f6⟩) (by decide) (by decide)
theorem pd__28_29Z : parseMethodDescriptor "()Z" = some ⟨[], some .boolean⟩ := by decide +kernel
theorem ef_12_R (m : MethodId) (x0 : Addr)  : entryFrame m #[(.ref x0)] 1 = mkF m 0 #[.val (.ref x0)] [] := by first | (simp [entryFrame, mkF, argsToLocals, Value.category]; done) | rfl
theorem d12_0 : decode prog_26_method_2_code 0 = .ok (.aload_n 0, 1) := by decide +kernel
theorem d12_1 : decode prog_26_method_2_code 1 = .ok (.getfield 7, 3) := by decide +kernel
theorem d12_4 : decode prog_26_method_2_code 4 = .ok (.ifnull 7, 3) := by decide +kernel
theorem d12_11 : decode prog_26_method_2_code 11 = .ok (.iconst 0, 1) := by decide +kernel
theorem d12_12 : decode prog_26_method_2_code 12 = .ok (.ireturn, 1) := by decide +kernel
set_option maxRecDepth 65536 in
set_option maxHeartbeats 40000000 in
theorem rm_on_10 (l : Launch) (Z : State) (a0 : Array Value) (g_COMPACT_STRINGS : Int32) (g_SIOOBE_FORMATTER : Value) (g_DEFAULTCAPACITY_EMPTY_ELEMENTDATA : Addr) (g_EMPTY : Addr) (g_EMPTY_LIST : Addr) (gk_DEFAULTCAPACITY_EMPTY_ELEMENTDATA : ClassId) (g_NONE : Addr) (g_mir : Addr) (hW : own_W Z a0 g_COMPACT_STRINGS g_SIOOBE_FORMATTER g_DEFAULTCAPACITY_EMPTY_ELEMENTDATA g_EMPTY g_EMPTY_LIST gk_DEFAULTCAPACITY_EMPTY_ELEMENTDATA g_NONE g_mir) (a1 : Addr) (h0 : Heap) (O0 : Old Z Z.heap.size h0) (h_1 : Fld Z h0 a1 "com/example/restoral/restoral/engine/Steps" "owner" "Lcom/example/restoral/restoral/engine/RowName;" .null) :
    own_Met l Z (⟨"com/example/restoral/restoral/engine/Steps", "on", "()Z"⟩ : MethodName) prog_26_method_2_code 1 (some .boolean) ({ frames := 0, cells := 0, slots := 0, locals := 0 } : Room) #[(.ref a1)] h0 (fun v h L => v = some (.int (0 : Int32)) ∧ Fr Z.heap.size L ∧ h = h0) := by
  have hW_ := hW
  obtain ⟨hw, S_g_COMPACT_STRINGS, P_g_COMPACT_STRINGS, R_g_SIOOBE_FORMATTER, S_g_SIOOBE_FORMATTER, S_g__assertionsDisabled, S_g_DEFAULTCAPACITY_EMPTY_ELEMENTDATA, E_g_DEFAULTCAPACITY_EMPTY_ELEMENTDATA, S_g_EMPTY, E_g_EMPTY, S_g_EMPTY_LIST, E_g_EMPTY_LIST, V_g_DEFAULTCAPACITY_EMPTY_ELEMENTDATA, F_g_EMPTY_LIST_allowNulls, S_g_NONE, E_g_NONE, F_g_NONE_owner, M_mir⟩ := hW_
  refine own_met (plainFor_of_name pn_com_example_restoral_restoral_engine_Steps) ?_
  intro p e s m below meth cc_ s₁ Φ hF X0 hx hby hml hZ hown hnm hret hlk e0
  have N0 := Fr.nil Z.heap.size
  refine own_k (T' := s₁) (g' := (mkF m 0 #[.val (.ref a1)] [])) (fun _ k_ => castTop (ef_12_R m a1) k_) ?_
  refine own_k (T' := s₁) (g' := (mkF m 1 #[.val (.ref a1)] [(.ref a1)])) (fun _ k_ => XS.aloadN X0.here hx rfl (hb hby d12_0) rfl rfl  k_) ?_
  obtain ⟨T1, X1, e1, st1⟩ := getF X0 hx hZ hown (host := "") (Or.inl (hw _ (List.mem_of_getElem? (i := 51) rfl))) Via.refl e0 h_1 (g := (mkF m 1 #[.val (.ref a1)] [(.ref a1)])) rfl rfl (hb hby d12_1)
  refine own_k (T' := T1) (g' := (mkF m 4 #[.val (.ref a1)] [.null])) st1 ?_
  refine own_k (T' := T1) (g' := (mkF m 11 #[.val (.ref a1)] [])) (fun _ k_ => XS.ifnullYes X1.here hx rfl (pc0 := 4) (pc' := 11) rfl (hb hby d12_4) rfl (by decide) (by decide) k_) ?_
  refine own_k (T' := T1) (g' := (mkF m 12 #[.val (.ref a1)] [(.int (0 : Int32))])) (fun _ k_ => XS.iconst X1.here hx rfl (hb hby d12_11) k_) ?_
  exact own_retN X1 hx (t := .boolean) hret (by simp) hlk (hb hby d12_12) hF (by rw [e1]; exact ⟨by rw [show nar .boolean (0 : Int32) = (0 : Int32) from by decide], N0, rfl⟩) (by decide) (by decide)
set_option maxRecDepth 65536 in
set_option maxHeartbeats 40000000 in
theorem rm_on_11 (l : Launch) (Z : State) (a0 : Array Value) (g_COMPACT_STRINGS : Int32) (g_SIOOBE_FORMATTER : Value) (g_DEFAULTCAPACITY_EMPTY_ELEMENTDATA : Addr) (g_EMPTY : Addr) (g_EMPTY_LIST : Addr) (gk_DEFAULTCAPACITY_EMPTY_ELEMENTDATA : ClassId) (g_NONE : Addr) (g_mir : Addr) (hW : own_W Z a0 g_COMPACT_STRINGS g_SIOOBE_FORMATTER g_DEFAULTCAPACITY_EMPTY_ELEMENTDATA g_EMPTY g_EMPTY_LIST gk_DEFAULTCAPACITY_EMPTY_ELEMENTDATA g_NONE g_mir)  (h0 : Heap) (O0 : Old Z Z.heap.size h0)  :
    own_Met l Z (⟨"com/example/restoral/restoral/engine/Steps", "on", "()Z"⟩ : MethodName) prog_26_method_2_code 1 (some .boolean) ({ frames := 0, cells := 0, slots := 0, locals := 0 } : Room) #[(.ref g_NONE)] h0 (fun v h L => v = some (.int (0 : Int32)) ∧ Fr Z.heap.size L ∧ h = h0) := by
  have hW_ := hW
  obtain ⟨hw, S_g_COMPACT_STRINGS, P_g_COMPACT_STRINGS, R_g_SIOOBE_FORMATTER, S_g_SIOOBE_FORMATTER, S_g__assertionsDisabled, S_g_DEFAULTCAPACITY_EMPTY_ELEMENTDATA, E_g_DEFAULTCAPACITY_EMPTY_ELEMENTDATA, S_g_EMPTY, E_g_EMPTY, S_g_EMPTY_LIST, E_g_EMPTY_LIST, V_g_DEFAULTCAPACITY_EMPTY_ELEMENTDATA, F_g_EMPTY_LIST_allowNulls, S_g_NONE, E_g_NONE, F_g_NONE_owner, M_mir⟩ := hW_
  refine own_met (plainFor_of_name pn_com_example_restoral_restoral_engine_Steps) ?_
  intro p e s m below meth cc_ s₁ Φ hF X0 hx hby hml hZ hown hnm hret hlk e0
  have N0 := Fr.nil Z.heap.size
  refine own_k (T' := s₁) (g' := (mkF m 0 #[.val (.ref g_NONE)] [])) (fun _ k_ => castTop (ef_12_R m g_NONE) k_) ?_
  refine own_k (T' := s₁) (g' := (mkF m 1 #[.val (.ref g_NONE)] [(.ref g_NONE)])) (fun _ k_ => XS.aloadN X0.here hx rfl (hb hby d12_0) rfl rfl  k_) ?_
  obtain ⟨T1, X1, e1, st1⟩ := getF X0 hx hZ hown (host := "") (Or.inl (hw _ (List.mem_of_getElem? (i := 51) rfl))) Via.refl e0 (F_g_NONE_owner.ext O0.2) (g := (mkF m 1 #[.val (.ref g_NONE)] [(.ref g_NONE)])) rfl rfl (hb hby d12_1)
  refine own_k (T' := T1) (g' := (mkF m 4 #[.val (.ref g_NONE)] [.null])) st1 ?_
  refine own_k (T' := T1) (g' := (mkF m 11 #[.val (.ref g_NONE)] [])) (fun _ k_ => XS.ifnullYes X1.here hx rfl (pc0 := 4) (pc' := 11) rfl (hb hby d12_4) rfl (by decide) (by decide) k_) ?_
  refine own_k (T' := T1) (g' := (mkF m 12 #[.val (.ref g_NONE)] [(.int (0 : Int32))])) (fun _ k_ => XS.iconst X1.here hx rfl (hb hby d12_11) k_) ?_
  exact own_retN X1 hx (t := .boolean) hret (by simp) hlk (hb hby d12_12) hF (by rw [e1]; exact ⟨by rw [show nar .boolean (0 : Int32) = (0 : Int32) from by decide], N0, rfl⟩) (by decide) (by decide)
theorem pd__28Ljava_2flang_2fString_3bLjava_2flang_2fObject_3bLjava_2flang_2fString_3bLjava_2flang_2fString_3b_29Lcom_2fexample_2frestoral_2frestoral_2fengine_2fStep_3b : parseMethodDescriptor "(Ljava/lang/String;Ljava/lang/Object;Ljava/lang/String;Ljava/lang/String;)Lcom/example/restoral/restoral/engine/Step;" = some ⟨[(.object "java/lang/String"), (.object "java/lang/Object"), (.object "java/lang/String"), (.object "java/lang/String")], some (.object "com/example/restoral/restoral/engine/Step")⟩ := by decide +kernel
theorem ef_13_RRRRR (m : MethodId) (x0 : Addr) (x1 : Addr) (x2 : Addr) (x3 : Addr) (x4 : Addr)  : entryFrame m #[(.ref x0), (.ref x1), (.ref x2), (.ref x3), (.ref x4)] 5 = mkF m 0 #[.val (.ref x0), .val (.ref x1), .val (.ref x2), .val (.ref x3), .val (.ref x4)] [] := by first | (simp [entryFrame, mkF, argsToLocals, Value.category]; done) | rfl
theorem d13_0 : decode prog_26_method_8_code 0 = .ok (.aload_n 0, 1) := by decide +kernel
theorem d13_1 : decode prog_26_method_8_code 1 = .ok (.aload_n 0, 1) := by decide +kernel
theorem d13_2 : decode prog_26_method_8_code 2 = .ok (.invokevirtual 25, 3) := by decide +kernel
theorem d13_5 : decode prog_26_method_8_code 5 = .ok (.ifCond .eq 28, 3) := by decide +kernel
theorem d13_33 : decode prog_26_method_8_code 33 = .ok (.aconst_null, 1) := by decide +kernel
theorem d13_34 : decode prog_26_method_8_code 34 = .ok (.invokevirtual 70, 3) := by decide +kernel
theorem pd__28Lcom_2fexample_2frestoral_2frestoral_2fengine_2fStep_3b_29Lcom_2fexample_2frestoral_2frestoral_2fengine_2fStep_3b : parseMethodDescriptor "(Lcom/example/restoral/restoral/engine/Step;)Lcom/example/restoral/restoral/engine/Step;" = some ⟨[(.object "com/example/restoral/restoral/engine/Step")], some (.object "com/example/restoral/restoral/engine/Step")⟩ := by decide +kernel
theorem ef_14_RN (m : MethodId) (x0 : Addr)  : entryFrame m #[(.ref x0), .null] 2 = mkF m 0 #[.val (.ref x0), .val .null] [] := by first | (simp [entryFrame, mkF, argsToLocals, Value.category]; done) | rfl
theorem d14_0 : decode prog_26_method_13_code 0 = .ok (.aload_n 1, 1) := by decide +kernel
theorem d14_1 : decode prog_26_method_13_code 1 = .ok (.ifnull 8, 3) := by decide +kernel
theorem d14_9 : decode prog_26_method_13_code 9 = .ok (.aload_n 1, 1) := by decide +kernel
theorem d14_10 : decode prog_26_method_13_code 10 = .ok (.areturn, 1) := by decide +kernel
set_option maxRecDepth 65536 in
set_option maxHeartbeats 40000000 in
theorem rm_taken_12 (l : Launch) (Z : State) (a0 : Array Value) (g_COMPACT_STRINGS : Int32) (g_SIOOBE_FORMATTER : Value) (g_DEFAULTCAPACITY_EMPTY_ELEMENTDATA : Addr) (g_EMPTY : Addr) (g_EMPTY_LIST : Addr) (gk_DEFAULTCAPACITY_EMPTY_ELEMENTDATA : ClassId) (g_NONE : Addr) (g_mir : Addr) (hW : own_W Z a0 g_COMPACT_STRINGS g_SIOOBE_FORMATTER g_DEFAULTCAPACITY_EMPTY_ELEMENTDATA g_EMPTY g_EMPTY_LIST gk_DEFAULTCAPACITY_EMPTY_ELEMENTDATA g_NONE g_mir) (a1 : Addr) (h0 : Heap) (O0 : Old Z Z.heap.size h0)  :
    own_Met l Z (⟨"com/example/restoral/restoral/engine/Steps", "taken", "(Lcom/example/restoral/restoral/engine/Step;)Lcom/example/restoral/restoral/engine/Step;"⟩ : MethodName) prog_26_method_13_code 2 (some (.object "com/example/restoral/restoral/engine/Step")) ({ frames := 0, cells := 0, slots := 0, locals := 0 } : Room) #[(.ref a1), .null] h0 (fun v h L => v = some .null ∧ Fr Z.heap.size L ∧ h = h0) := by
  have hW_ := hW
  obtain ⟨hw, S_g_COMPACT_STRINGS, P_g_COMPACT_STRINGS, R_g_SIOOBE_FORMATTER, S_g_SIOOBE_FORMATTER, S_g__assertionsDisabled, S_g_DEFAULTCAPACITY_EMPTY_ELEMENTDATA, E_g_DEFAULTCAPACITY_EMPTY_ELEMENTDATA, S_g_EMPTY, E_g_EMPTY, S_g_EMPTY_LIST, E_g_EMPTY_LIST, V_g_DEFAULTCAPACITY_EMPTY_ELEMENTDATA, F_g_EMPTY_LIST_allowNulls, S_g_NONE, E_g_NONE, F_g_NONE_owner, M_mir⟩ := hW_
  refine own_met (plainFor_of_name pn_com_example_restoral_restoral_engine_Steps) ?_
  intro p e s m below meth cc_ s₁ Φ hF X0 hx hby hml hZ hown hnm hret hlk e0
  have N0 := Fr.nil Z.heap.size
  refine own_k (T' := s₁) (g' := (mkF m 0 #[.val (.ref a1), .val .null] [])) (fun _ k_ => castTop (ef_14_RN m a1) k_) ?_
  refine own_k (T' := s₁) (g' := (mkF m 1 #[.val (.ref a1), .val .null] [.null])) (fun _ k_ => XS.aloadN X0.here hx rfl (hb hby d14_0) rfl rfl  k_) ?_
  refine own_k (T' := s₁) (g' := (mkF m 9 #[.val (.ref a1), .val .null] [])) (fun _ k_ => XS.ifnullYes X0.here hx rfl (pc0 := 1) (pc' := 9) rfl (hb hby d14_1) rfl (by decide) (by decide) k_) ?_
  refine own_k (T' := s₁) (g' := (mkF m 10 #[.val (.ref a1), .val .null] [.null])) (fun _ k_ => XS.aloadN X0.here hx rfl (hb hby d14_9) rfl rfl  k_) ?_
  exact own_retA X0 hx hret rfl rfl hlk (hb hby d14_10) hF (by rw [e0]; exact ⟨rfl, N0, rfl⟩) (by decide) (by decide)
theorem d13_37 : decode prog_26_method_8_code 37 = .ok (.areturn, 1) := by decide +kernel
set_option maxRecDepth 65536 in
set_option maxHeartbeats 40000000 in
theorem rm_fact_13 (l : Launch) (Z : State) (a0 : Array Value) (g_COMPACT_STRINGS : Int32) (g_SIOOBE_FORMATTER : Value) (g_DEFAULTCAPACITY_EMPTY_ELEMENTDATA : Addr) (g_EMPTY : Addr) (g_EMPTY_LIST : Addr) (gk_DEFAULTCAPACITY_EMPTY_ELEMENTDATA : ClassId) (g_NONE : Addr) (g_mir : Addr) (hW : own_W Z a0 g_COMPACT_STRINGS g_SIOOBE_FORMATTER g_DEFAULTCAPACITY_EMPTY_ELEMENTDATA g_EMPTY g_EMPTY_LIST gk_DEFAULTCAPACITY_EMPTY_ELEMENTDATA g_NONE g_mir) (a1 : Addr) (a2 : Addr) (a3 : Addr) (h0 : Heap) (O0 : Old Z Z.heap.size h0) (h_1 : Fld Z h0 a1 "com/example/restoral/restoral/engine/Steps" "owner" "Lcom/example/restoral/restoral/engine/RowName;" .null) (h_2 : Exa Z h0 a1 "com/example/restoral/restoral/engine/Steps") :
    own_Met l Z (⟨"com/example/restoral/restoral/engine/Steps", "fact", "(Ljava/lang/String;Ljava/lang/Object;Ljava/lang/String;Ljava/lang/String;)Lcom/example/restoral/restoral/engine/Step;"⟩ : MethodName) prog_26_method_8_code 5 (some (.object "com/example/restoral/restoral/engine/Step")) ({ frames := 1, cells := 0, slots := 0, locals := 13 } : Room) #[(.ref a1), (.ref a2), (.ref a3), (.ref a3), (.ref a2)] h0 (fun v h L => v = some .null ∧ Fr Z.heap.size L ∧ h = h0) := by
  have hW_ := hW
  obtain ⟨hw, S_g_COMPACT_STRINGS, P_g_COMPACT_STRINGS, R_g_SIOOBE_FORMATTER, S_g_SIOOBE_FORMATTER, S_g__assertionsDisabled, S_g_DEFAULTCAPACITY_EMPTY_ELEMENTDATA, E_g_DEFAULTCAPACITY_EMPTY_ELEMENTDATA, S_g_EMPTY, E_g_EMPTY, S_g_EMPTY_LIST, E_g_EMPTY_LIST, V_g_DEFAULTCAPACITY_EMPTY_ELEMENTDATA, F_g_EMPTY_LIST_allowNulls, S_g_NONE, E_g_NONE, F_g_NONE_owner, M_mir⟩ := hW_
  refine own_met (plainFor_of_name pn_com_example_restoral_restoral_engine_Steps) ?_
  intro p e s m below meth cc_ s₁ Φ hF X0 hx hby hml hZ hown hnm hret hlk e0
  have N0 := Fr.nil Z.heap.size
  refine own_k (T' := s₁) (g' := (mkF m 0 #[.val (.ref a1), .val (.ref a2), .val (.ref a3), .val (.ref a3), .val (.ref a2)] [])) (fun _ k_ => castTop (ef_13_RRRRR m a1 a2 a3 a3 a2) k_) ?_
  refine own_k (T' := s₁) (g' := (mkF m 1 #[.val (.ref a1), .val (.ref a2), .val (.ref a3), .val (.ref a3), .val (.ref a2)] [(.ref a1)])) (fun _ k_ => XS.aloadN X0.here hx rfl (hb hby d13_0) rfl rfl  k_) ?_
  refine own_k (T' := s₁) (g' := (mkF m 2 #[.val (.ref a1), .val (.ref a2), .val (.ref a3), .val (.ref a3), .val (.ref a2)] [(.ref a1), (.ref a1)])) (fun _ k_ => XS.aloadN X0.here hx rfl (hb hby d13_1) rfl rfl  k_) ?_
  refine own_callV X0 hx hZ (C := "com/example/restoral/restoral/engine/Steps") (y := (⟨"com/example/restoral/restoral/engine/Steps", "on", "()Z"⟩ : MethodName)) (z := (⟨"com/example/restoral/restoral/engine/Steps", "on", "()Z"⟩ : MethodName)) hown (hw _ (List.mem_of_getElem? (i := 67) rfl)) (hw _ (List.mem_of_getElem? (i := 56) rfl)) (notFace_of_selects (args := #[]) (mvT hZ (hw _ (List.mem_of_getElem? (i := 58) rfl)))) (hw _ (List.mem_of_getElem? (i := 58) rfl)) (hw _ (List.mem_of_getElem? (i := 57) rfl)) (hw _ (List.mem_of_getElem? (i := 59) rfl)) (hw _ (List.mem_of_getElem? (i := 46) rfl)) (by decide) (al := []) h_2 (rm_on_10 l Z a0 g_COMPACT_STRINGS g_SIOOBE_FORMATTER g_DEFAULTCAPACITY_EMPTY_ELEMENTDATA g_EMPTY g_EMPTY_LIST gk_DEFAULTCAPACITY_EMPTY_ELEMENTDATA g_NONE g_mir hW a1 h0 O0 h_1) 1 (by decide) (by decide) e0 (by decide) (by decide) (by rw [hml]; rfl) (lenOf pd__28_29Z rfl) rfl (rest := [(.ref a1)]) (by show 2 * 0 + _ ≤ _; exact Nat.le_of_eq rfl) (hb hby d13_2) ?_
  intro v1 T1 L1 X1 hQ1
  obtain ⟨rfl, Nq1, e1⟩ := hQ1
  have N1 := Fr.app N0 Nq1
  show own_Go p e below Φ T1 (mkF m 5 #[.val (.ref a1), .val (.ref a2), .val (.ref a3), .val (.ref a3), .val (.ref a2)] [(.int (0 : Int32)), (.ref a1)])
  refine own_k (T' := T1) (g' := (mkF m 33 #[.val (.ref a1), .val (.ref a2), .val (.ref a3), .val (.ref a3), .val (.ref a2)] [(.ref a1)])) (fun _ k_ => XS.ifYes X1.here hx rfl (pc0 := 5) (pc' := 33) rfl (hb hby d13_5) rfl ((if0 _ _).trans (teq (by decide : ((0 : Int32) = (0 : Int32)))).1) (by decide) (by decide) k_) ?_
  refine own_k (T' := T1) (g' := (mkF m 34 #[.val (.ref a1), .val (.ref a2), .val (.ref a3), .val (.ref a3), .val (.ref a2)] [.null, (.ref a1)])) (fun _ k_ => XS.aconstNull X1.here hx rfl (hb hby d13_33) k_) ?_
  refine own_callP X1 hx hZ (y := (⟨"com/example/restoral/restoral/engine/Steps", "taken", "(Lcom/example/restoral/restoral/engine/Step;)Lcom/example/restoral/restoral/engine/Step;"⟩ : MethodName)) hown (hw _ (List.mem_of_getElem? (i := 68) rfl)) (hw _ (List.mem_of_getElem? (i := 69) rfl)) (hw _ (List.mem_of_getElem? (i := 70) rfl)) (hw _ (List.mem_of_getElem? (i := 71) rfl)) (hw _ (List.mem_of_getElem? (i := 46) rfl)) (hw _ (List.mem_of_getElem? (i := 45) rfl)) (by decide) (al := [.null]) h_2 (rm_taken_12 l Z a0 g_COMPACT_STRINGS g_SIOOBE_FORMATTER g_DEFAULTCAPACITY_EMPTY_ELEMENTDATA g_EMPTY g_EMPTY_LIST gk_DEFAULTCAPACITY_EMPTY_ELEMENTDATA g_NONE g_mir hW a1 h0 O0) 0 (by decide) (by decide) e1 (by decide) (by decide) (by rw [hml]; rfl) (lenOf pd__28Lcom_2fexample_2frestoral_2frestoral_2fengine_2fStep_3b_29Lcom_2fexample_2frestoral_2frestoral_2fengine_2fStep_3b rfl) rfl (rest := []) (by show 2 * 0 + _ ≤ _; exact Nat.le_of_eq rfl) (hb hby d13_34) ?_
  intro v2 T2 L2 X2 hQ2
  obtain ⟨rfl, Nq2, e2⟩ := hQ2
  have N2 := Fr.app N1 Nq2
  show own_Go p e below Φ T2 (mkF m 37 #[.val (.ref a1), .val (.ref a2), .val (.ref a3), .val (.ref a3), .val (.ref a2)] [.null])
  exact own_retA X2 hx hret rfl rfl hlk (hb hby d13_37) hF (by rw [e2]; exact ⟨rfl, N2, rfl⟩) (by decide) (by decide)
theorem pd__28_29Lcom_2fexample_2frestoral_2frestoral_2fengine_2fStep_3b : parseMethodDescriptor "()Lcom/example/restoral/restoral/engine/Step;" = some ⟨[], some (.object "com/example/restoral/restoral/engine/Step")⟩ := by decide +kernel
theorem ef_15_R (m : MethodId) (x0 : Addr)  : entryFrame m #[(.ref x0)] 1 = mkF m 0 #[.val (.ref x0)] [] := by first | (simp [entryFrame, mkF, argsToLocals, Value.category]; done) | rfl
theorem d15_0 : decode prog_26_method_12_code 0 = .ok (.aload_n 0, 1) := by decide +kernel
theorem d15_1 : decode prog_26_method_12_code 1 = .ok (.getfield 91, 3) := by decide +kernel
theorem d15_4 : decode prog_26_method_12_code 4 = .ok (.areturn, 1) := by decide +kernel
set_option maxRecDepth 65536 in
set_option maxHeartbeats 40000000 in
theorem rm_last_14 (l : Launch) (Z : State) (a0 : Array Value) (g_COMPACT_STRINGS : Int32) (g_SIOOBE_FORMATTER : Value) (g_DEFAULTCAPACITY_EMPTY_ELEMENTDATA : Addr) (g_EMPTY : Addr) (g_EMPTY_LIST : Addr) (gk_DEFAULTCAPACITY_EMPTY_ELEMENTDATA : ClassId) (g_NONE : Addr) (g_mir : Addr) (hW : own_W Z a0 g_COMPACT_STRINGS g_SIOOBE_FORMATTER g_DEFAULTCAPACITY_EMPTY_ELEMENTDATA g_EMPTY g_EMPTY_LIST gk_DEFAULTCAPACITY_EMPTY_ELEMENTDATA g_NONE g_mir) (a1 : Addr) (h0 : Heap) (O0 : Old Z Z.heap.size h0) (h_1 : Fld Z h0 a1 "com/example/restoral/restoral/engine/Steps" "last" "Lcom/example/restoral/restoral/engine/Step;" .null) :
    own_Met l Z (⟨"com/example/restoral/restoral/engine/Steps", "last", "()Lcom/example/restoral/restoral/engine/Step;"⟩ : MethodName) prog_26_method_12_code 1 (some (.object "com/example/restoral/restoral/engine/Step")) ({ frames := 0, cells := 0, slots := 0, locals := 0 } : Room) #[(.ref a1)] h0 (fun v h L => v = some .null ∧ Fr Z.heap.size L ∧ h = h0) := by
  have hW_ := hW
  obtain ⟨hw, S_g_COMPACT_STRINGS, P_g_COMPACT_STRINGS, R_g_SIOOBE_FORMATTER, S_g_SIOOBE_FORMATTER, S_g__assertionsDisabled, S_g_DEFAULTCAPACITY_EMPTY_ELEMENTDATA, E_g_DEFAULTCAPACITY_EMPTY_ELEMENTDATA, S_g_EMPTY, E_g_EMPTY, S_g_EMPTY_LIST, E_g_EMPTY_LIST, V_g_DEFAULTCAPACITY_EMPTY_ELEMENTDATA, F_g_EMPTY_LIST_allowNulls, S_g_NONE, E_g_NONE, F_g_NONE_owner, M_mir⟩ := hW_
  refine own_met (plainFor_of_name pn_com_example_restoral_restoral_engine_Steps) ?_
  intro p e s m below meth cc_ s₁ Φ hF X0 hx hby hml hZ hown hnm hret hlk e0
  have N0 := Fr.nil Z.heap.size
  refine own_k (T' := s₁) (g' := (mkF m 0 #[.val (.ref a1)] [])) (fun _ k_ => castTop (ef_15_R m a1) k_) ?_
  refine own_k (T' := s₁) (g' := (mkF m 1 #[.val (.ref a1)] [(.ref a1)])) (fun _ k_ => XS.aloadN X0.here hx rfl (hb hby d15_0) rfl rfl  k_) ?_
  obtain ⟨T1, X1, e1, st1⟩ := getF X0 hx hZ hown (host := "") (Or.inl (hw _ (List.mem_of_getElem? (i := 77) rfl))) Via.refl e0 h_1 (g := (mkF m 1 #[.val (.ref a1)] [(.ref a1)])) rfl rfl (hb hby d15_1)
  refine own_k (T' := T1) (g' := (mkF m 4 #[.val (.ref a1)] [.null])) st1 ?_
  exact own_retA X1 hx hret rfl rfl hlk (hb hby d15_4) hF (by rw [e1]; exact ⟨rfl, N0, rfl⟩) (by decide) (by decide)
theorem pd__28_29V : parseMethodDescriptor "()V" = some ⟨[], none⟩ := by decide +kernel
theorem ef_16_R (m : MethodId) (x0 : Addr)  : entryFrame m #[(.ref x0)] 1 = mkF m 0 #[.val (.ref x0)] [] := by first | (simp [entryFrame, mkF, argsToLocals, Value.category]; done) | rfl
theorem pn_java_util_ArrayList : plainName "java/util/ArrayList" = true := by first | (simp [plainName, overriddenIn]; done) | decide +kernel
theorem d16_0 : decode jdk_38_method_2_code 0 = .ok (.aload_n 0, 1) := by decide +kernel
theorem d16_1 : decode jdk_38_method_2_code 1 = .ok (.invokespecial 1, 3) := by decide +kernel
theorem ef_17_R (m : MethodId) (x0 : Addr)  : entryFrame m #[(.ref x0)] 1 = mkF m 0 #[.val (.ref x0)] [] := by first | (simp [entryFrame, mkF, argsToLocals, Value.category]; done) | rfl
theorem pn_java_util_AbstractList : plainName "java/util/AbstractList" = true := by first | (simp [plainName, overriddenIn]; done) | decide +kernel
theorem d17_0 : decode jdk_39_method_1_code 0 = .ok (.aload_n 0, 1) := by decide +kernel
theorem d17_1 : decode jdk_39_method_1_code 1 = .ok (.invokespecial 1, 3) := by decide +kernel
theorem ef_18_R (m : MethodId) (x0 : Addr)  : entryFrame m #[(.ref x0)] 1 = mkF m 0 #[.val (.ref x0)] [] := by first | (simp [entryFrame, mkF, argsToLocals, Value.category]; done) | rfl
theorem pn_java_util_AbstractCollection : plainName "java/util/AbstractCollection" = true := by first | (simp [plainName, overriddenIn]; done) | decide +kernel
theorem d18_0 : decode jdk_22_method_1_code 0 = .ok (.aload_n 0, 1) := by decide +kernel
theorem d18_1 : decode jdk_22_method_1_code 1 = .ok (.invokespecial 1, 3) := by decide +kernel
theorem d18_4 : decode jdk_22_method_1_code 4 = .ok (.return_, 1) := by decide +kernel
set_option maxRecDepth 65536 in
set_option maxHeartbeats 40000000 in
theorem rm_init_15 (l : Launch) (Z : State) (a0 : Array Value) (g_COMPACT_STRINGS : Int32) (g_SIOOBE_FORMATTER : Value) (g_DEFAULTCAPACITY_EMPTY_ELEMENTDATA : Addr) (g_EMPTY : Addr) (g_EMPTY_LIST : Addr) (gk_DEFAULTCAPACITY_EMPTY_ELEMENTDATA : ClassId) (g_NONE : Addr) (g_mir : Addr) (hW : own_W Z a0 g_COMPACT_STRINGS g_SIOOBE_FORMATTER g_DEFAULTCAPACITY_EMPTY_ELEMENTDATA g_EMPTY g_EMPTY_LIST gk_DEFAULTCAPACITY_EMPTY_ELEMENTDATA g_NONE g_mir) (a1 : Addr) (h0 : Heap) (O0 : Old Z Z.heap.size h0)  :
    own_Met l Z (⟨"java/util/AbstractCollection", "<init>", "()V"⟩ : MethodName) jdk_22_method_1_code 1 none ({ frames := 1, cells := 0, slots := 0, locals := 12 } : Room) #[(.ref a1)] h0 (fun v h L => v = none ∧ Fr Z.heap.size L ∧ h = h0) := by
  have hW_ := hW
  obtain ⟨hw, S_g_COMPACT_STRINGS, P_g_COMPACT_STRINGS, R_g_SIOOBE_FORMATTER, S_g_SIOOBE_FORMATTER, S_g__assertionsDisabled, S_g_DEFAULTCAPACITY_EMPTY_ELEMENTDATA, E_g_DEFAULTCAPACITY_EMPTY_ELEMENTDATA, S_g_EMPTY, E_g_EMPTY, S_g_EMPTY_LIST, E_g_EMPTY_LIST, V_g_DEFAULTCAPACITY_EMPTY_ELEMENTDATA, F_g_EMPTY_LIST_allowNulls, S_g_NONE, E_g_NONE, F_g_NONE_owner, M_mir⟩ := hW_
  refine own_met (plainFor_of_name pn_java_util_AbstractCollection) ?_
  intro p e s m below meth cc_ s₁ Φ hF X0 hx hby hml hZ hown hnm hret hlk e0
  have N0 := Fr.nil Z.heap.size
  refine own_k (T' := s₁) (g' := (mkF m 0 #[.val (.ref a1)] [])) (fun _ k_ => castTop (ef_18_R m a1) k_) ?_
  refine own_k (T' := s₁) (g' := (mkF m 1 #[.val (.ref a1)] [(.ref a1)])) (fun _ k_ => XS.aloadN X0.here hx rfl (hb hby d18_0) rfl rfl  k_) ?_
  obtain ⟨T1, X1, e1, st1⟩ := initO X0 hx hZ hown (hw _ (List.mem_of_getElem? (i := 97) rfl)) (hw _ (List.mem_of_getElem? (i := 12) rfl)) (hw _ (List.mem_of_getElem? (i := 13) rfl)) e0 (g := (mkF m 1 #[.val (.ref a1)] [(.ref a1)])) rfl (by rw [hml]; rfl) rfl (hb hby d18_1) (by decide) (W := 0) (by show 2 * 0 + _ ≤ _; exact Nat.le_of_eq rfl) (by decide)
  refine own_k (T' := T1) (g' := (mkF m 4 #[.val (.ref a1)] [])) st1 ?_
  exact own_ret0 X1 hx hret hlk (hb hby d18_4) hF (by rw [e1]; exact ⟨rfl, N0, rfl⟩) (by decide) (by decide)
theorem d17_4 : decode jdk_39_method_1_code 4 = .ok (.aload_n 0, 1) := by decide +kernel
theorem d17_5 : decode jdk_39_method_1_code 5 = .ok (.iconst 0, 1) := by decide +kernel
theorem d17_6 : decode jdk_39_method_1_code 6 = .ok (.putfield 7, 3) := by decide +kernel
theorem d17_9 : decode jdk_39_method_1_code 9 = .ok (.return_, 1) := by decide +kernel
set_option maxRecDepth 65536 in
set_option maxHeartbeats 40000000 in
theorem rm_init_16 (l : Launch) (Z : State) (a0 : Array Value) (g_COMPACT_STRINGS : Int32) (g_SIOOBE_FORMATTER : Value) (g_DEFAULTCAPACITY_EMPTY_ELEMENTDATA : Addr) (g_EMPTY : Addr) (g_EMPTY_LIST : Addr) (gk_DEFAULTCAPACITY_EMPTY_ELEMENTDATA : ClassId) (g_NONE : Addr) (g_mir : Addr) (hW : own_W Z a0 g_COMPACT_STRINGS g_SIOOBE_FORMATTER g_DEFAULTCAPACITY_EMPTY_ELEMENTDATA g_EMPTY g_EMPTY_LIST gk_DEFAULTCAPACITY_EMPTY_ELEMENTDATA g_NONE g_mir) (a1 : Addr) (h0 : Heap) (O0 : Old Z Z.heap.size h0) (h_1 : Fld Z h0 a1 "java/util/AbstractList" "modCount" "I" (.int (0 : Int32))) (h_2 : Exa Z h0 a1 "java/util/ArrayList") (h_3 : Z.heap.size ≤ a1) (h_4 : Fld Z h0 a1 "java/util/ArrayList" "elementData" "[Ljava/lang/Object;" .null) (h_5 : Fld Z h0 a1 "java/util/ArrayList" "size" "I" (.int (0 : Int32))) :
    own_Met l Z (⟨"java/util/AbstractList", "<init>", "()V"⟩ : MethodName) jdk_39_method_1_code 1 none ({ frames := 2, cells := 0, slots := 0, locals := 24 } : Room) #[(.ref a1)] h0 (fun v h L => v = none ∧ Fr Z.heap.size L ∧ Keep h0 h [a1] ∧ Exa Z h a1 "java/util/ArrayList" ∧ Fld Z h a1 "java/util/AbstractList" "modCount" "I" (.int (0 : Int32)) ∧ Fld Z h a1 "java/util/ArrayList" "elementData" "[Ljava/lang/Object;" .null ∧ Fld Z h a1 "java/util/ArrayList" "size" "I" (.int (0 : Int32))) := by
  have hW_ := hW
  obtain ⟨hw, S_g_COMPACT_STRINGS, P_g_COMPACT_STRINGS, R_g_SIOOBE_FORMATTER, S_g_SIOOBE_FORMATTER, S_g__assertionsDisabled, S_g_DEFAULTCAPACITY_EMPTY_ELEMENTDATA, E_g_DEFAULTCAPACITY_EMPTY_ELEMENTDATA, S_g_EMPTY, E_g_EMPTY, S_g_EMPTY_LIST, E_g_EMPTY_LIST, V_g_DEFAULTCAPACITY_EMPTY_ELEMENTDATA, F_g_EMPTY_LIST_allowNulls, S_g_NONE, E_g_NONE, F_g_NONE_owner, M_mir⟩ := hW_
  refine own_met (plainFor_of_name pn_java_util_AbstractList) ?_
  intro p e s m below meth cc_ s₁ Φ hF X0 hx hby hml hZ hown hnm hret hlk e0
  have N0 := Fr.nil Z.heap.size
  refine own_k (T' := s₁) (g' := (mkF m 0 #[.val (.ref a1)] [])) (fun _ k_ => castTop (ef_17_R m a1) k_) ?_
  refine own_k (T' := s₁) (g' := (mkF m 1 #[.val (.ref a1)] [(.ref a1)])) (fun _ k_ => XS.aloadN X0.here hx rfl (hb hby d17_0) rfl rfl  k_) ?_
  refine own_callN X0 hx hZ (y := (⟨"java/util/AbstractCollection", "<init>", "()V"⟩ : MethodName)) rfl hown (hw _ (List.mem_of_getElem? (i := 91) rfl)) (hw _ (List.mem_of_getElem? (i := 92) rfl)) (hw _ (List.mem_of_getElem? (i := 96) rfl)) (hw _ (List.mem_of_getElem? (i := 95) rfl)) (by decide) (al := []) (b := a1) (rm_init_15 l Z a0 g_COMPACT_STRINGS g_SIOOBE_FORMATTER g_DEFAULTCAPACITY_EMPTY_ELEMENTDATA g_EMPTY g_EMPTY_LIST gk_DEFAULTCAPACITY_EMPTY_ELEMENTDATA g_NONE g_mir hW a1 h0 O0) 0 (by decide) (by decide) e0 (by decide) (by decide) (by rw [hml]; rfl) (lenOf pd__28_29V rfl) rfl (rest := []) (by show 2 * 0 + _ ≤ _; exact Nat.le_of_eq rfl) (hb hby d17_1) ?_
  intro v1 T1 L1 X1 hQ1
  obtain ⟨rfl, Nq1, e1⟩ := hQ1
  have N1 := Fr.app N0 Nq1
  show own_Go p e below Φ T1 (mkF m 4 #[.val (.ref a1)] [])
  refine own_k (T' := T1) (g' := (mkF m 5 #[.val (.ref a1)] [(.ref a1)])) (fun _ k_ => XS.aloadN X1.here hx rfl (hb hby d17_4) rfl rfl  k_) ?_
  refine own_k (T' := T1) (g' := (mkF m 6 #[.val (.ref a1)] [(.int (0 : Int32)), (.ref a1)])) (fun _ k_ => XS.iconst X1.here hx rfl (hb hby d17_5) k_) ?_
  obtain ⟨T2, h2, X2, e2, W2, st2⟩ := putF X1 hx hZ hown (host := "") (Or.inl (hw _ (List.mem_of_getElem? (i := 98) rfl))) Via.refl e1 h_1 h_2 (Or.inl (hw _ (List.mem_of_getElem? (i := 99) rfl))) (hw _ (List.mem_of_getElem? (i := 80) rfl)) (ty := .int) (by decide) rfl rfl (g := (mkF m 6 #[.val (.ref a1)] [(.int (0 : Int32)), (.ref a1)])) rfl rfl (hb hby d17_6)
  have w2 := Fld.same W2 h_1
  have O2' := O0.wr W2 h_3
  have N2 := Fr.snoc X2 N1 h_3
  refine own_k (T' := T2) (g' := (mkF m 9 #[.val (.ref a1)] [])) st2 ?_
  have kp0 : Keep h0 h0 [a1] := Keep.refl h0 [a1]
  have kp1 : Keep h0 h2 [a1] := kp0.wr W2 (Or.inl (List.mem_of_getElem? (i := 0) rfl))
  have f3 := (h_4.other W2 (Or.inr (slot_ne (Or.inl (hw _ (List.mem_of_getElem? (i := 102) rfl))) (Or.inl (hw _ (List.mem_of_getElem? (i := 99) rfl))) (by decide) (t := (.array (.object "java/lang/Object"))) (t' := .int) (by decide) (by decide))))
  have f4 := (h_5.other W2 (Or.inr (slot_ne (Or.inl (hw _ (List.mem_of_getElem? (i := 111) rfl))) (Or.inl (hw _ (List.mem_of_getElem? (i := 99) rfl))) (by decide) (t := .int) (t' := .int) (by decide) (by decide))))
  exact own_ret0 X2 hx hret hlk (hb hby d17_9) hF (by rw [e2]; exact ⟨rfl, N2, kp1, (h_2.wr W2), w2, f3, f4⟩) (by decide) (by decide)
theorem d16_4 : decode jdk_38_method_2_code 4 = .ok (.aload_n 0, 1) := by decide +kernel
theorem d16_5 : decode jdk_38_method_2_code 5 = .ok (.getstatic 39, 3) := by decide +kernel
theorem d16_8 : decode jdk_38_method_2_code 8 = .ok (.putfield 9, 3) := by decide +kernel
theorem d16_11 : decode jdk_38_method_2_code 11 = .ok (.return_, 1) := by decide +kernel
set_option maxRecDepth 65536 in
set_option maxHeartbeats 40000000 in
theorem rm_init_17 (l : Launch) (Z : State) (a0 : Array Value) (g_COMPACT_STRINGS : Int32) (g_SIOOBE_FORMATTER : Value) (g_DEFAULTCAPACITY_EMPTY_ELEMENTDATA : Addr) (g_EMPTY : Addr) (g_EMPTY_LIST : Addr) (gk_DEFAULTCAPACITY_EMPTY_ELEMENTDATA : ClassId) (g_NONE : Addr) (g_mir : Addr) (hW : own_W Z a0 g_COMPACT_STRINGS g_SIOOBE_FORMATTER g_DEFAULTCAPACITY_EMPTY_ELEMENTDATA g_EMPTY g_EMPTY_LIST gk_DEFAULTCAPACITY_EMPTY_ELEMENTDATA g_NONE g_mir) (a1 : Addr) (h0 : Heap) (O0 : Old Z Z.heap.size h0) (h_1 : Fld Z h0 a1 "java/util/AbstractList" "modCount" "I" (.int (0 : Int32))) (h_2 : Exa Z h0 a1 "java/util/ArrayList") (h_3 : Z.heap.size ≤ a1) (h_4 : Fld Z h0 a1 "java/util/ArrayList" "elementData" "[Ljava/lang/Object;" .null) (h_5 : Fld Z h0 a1 "java/util/ArrayList" "size" "I" (.int (0 : Int32))) :
    own_Met l Z (⟨"java/util/ArrayList", "<init>", "()V"⟩ : MethodName) jdk_38_method_2_code 1 none ({ frames := 3, cells := 0, slots := 0, locals := 36 } : Room) #[(.ref a1)] h0 (fun v h L => v = none ∧ Fr Z.heap.size L ∧ Keep h0 h [a1] ∧ Exa Z h a1 "java/util/ArrayList" ∧ Fld Z h a1 "java/util/AbstractList" "modCount" "I" (.int (0 : Int32)) ∧ Fld Z h a1 "java/util/ArrayList" "elementData" "[Ljava/lang/Object;" (.ref g_DEFAULTCAPACITY_EMPTY_ELEMENTDATA) ∧ Fld Z h a1 "java/util/ArrayList" "size" "I" (.int (0 : Int32))) := by
  have hW_ := hW
  obtain ⟨hw, S_g_COMPACT_STRINGS, P_g_COMPACT_STRINGS, R_g_SIOOBE_FORMATTER, S_g_SIOOBE_FORMATTER, S_g__assertionsDisabled, S_g_DEFAULTCAPACITY_EMPTY_ELEMENTDATA, E_g_DEFAULTCAPACITY_EMPTY_ELEMENTDATA, S_g_EMPTY, E_g_EMPTY, S_g_EMPTY_LIST, E_g_EMPTY_LIST, V_g_DEFAULTCAPACITY_EMPTY_ELEMENTDATA, F_g_EMPTY_LIST_allowNulls, S_g_NONE, E_g_NONE, F_g_NONE_owner, M_mir⟩ := hW_
  refine own_met (plainFor_of_name pn_java_util_ArrayList) ?_
  intro p e s m below meth cc_ s₁ Φ hF X0 hx hby hml hZ hown hnm hret hlk e0
  have N0 := Fr.nil Z.heap.size
  refine own_k (T' := s₁) (g' := (mkF m 0 #[.val (.ref a1)] [])) (fun _ k_ => castTop (ef_16_R m a1) k_) ?_
  refine own_k (T' := s₁) (g' := (mkF m 1 #[.val (.ref a1)] [(.ref a1)])) (fun _ k_ => XS.aloadN X0.here hx rfl (hb hby d16_0) rfl rfl  k_) ?_
  refine own_callN X0 hx hZ (y := (⟨"java/util/AbstractList", "<init>", "()V"⟩ : MethodName)) rfl hown (hw _ (List.mem_of_getElem? (i := 85) rfl)) (hw _ (List.mem_of_getElem? (i := 86) rfl)) (hw _ (List.mem_of_getElem? (i := 90) rfl)) (hw _ (List.mem_of_getElem? (i := 89) rfl)) (by decide) (al := []) (b := a1) (rm_init_16 l Z a0 g_COMPACT_STRINGS g_SIOOBE_FORMATTER g_DEFAULTCAPACITY_EMPTY_ELEMENTDATA g_EMPTY g_EMPTY_LIST gk_DEFAULTCAPACITY_EMPTY_ELEMENTDATA g_NONE g_mir hW a1 h0 O0 h_1 h_2 h_3 h_4 h_5) 0 (by decide) (by decide) e0 (by decide) (by decide) (by rw [hml]; rfl) (lenOf pd__28_29V rfl) rfl (rest := []) (by show 2 * 0 + _ ≤ _; exact Nat.le_of_eq rfl) (hb hby d16_1) ?_
  intro v1 T1 L1 X1 hQ1
  obtain ⟨rfl, Nq1, K1, q1_0, q1_1, q1_2, q1_3⟩ := hQ1
  have N1 := Fr.app N0 Nq1
  have O1' := O0.keep K1 (allS h_3 all0)
  show own_Go p e below Φ T1 (mkF m 4 #[.val (.ref a1)] [])
  refine own_k (T' := T1) (g' := (mkF m 5 #[.val (.ref a1)] [(.ref a1)])) (fun _ k_ => XS.aloadN X1.here hx rfl (hb hby d16_4) rfl rfl  k_) ?_
  obtain ⟨T2, X2, e2, st2⟩ := getS2 X1 hx hZ hown (host := "") (Or.inl (hw _ (List.mem_of_getElem? (i := 100) rfl))) Via.refl rfl (S_g_DEFAULTCAPACITY_EMPTY_ELEMENTDATA.ext O1'.2) (g := (mkF m 5 #[.val (.ref a1)] [(.ref a1)])) rfl (hb hby d16_5)
  refine own_k (T' := T2) (g' := (mkF m 8 #[.val (.ref a1)] [(.ref g_DEFAULTCAPACITY_EMPTY_ELEMENTDATA), (.ref a1)])) st2 ?_
  obtain ⟨T3, h3, X3, e3, W3, st3⟩ := putF X2 hx hZ hown (host := "") (Or.inl (hw _ (List.mem_of_getElem? (i := 101) rfl))) Via.refl e2 q1_2 q1_0 (Or.inl (hw _ (List.mem_of_getElem? (i := 102) rfl))) (hw _ (List.mem_of_getElem? (i := 80) rfl)) (ty := (.array (.object "java/lang/Object"))) (by decide) rfl rfl (g := (mkF m 8 #[.val (.ref a1)] [(.ref g_DEFAULTCAPACITY_EMPTY_ELEMENTDATA), (.ref a1)])) rfl rfl (hb hby d16_8)
  have w3 := Fld.same W3 q1_2
  have O3' := O1'.wr W3 h_3
  have N3 := Fr.snoc X3 N1 h_3
  refine own_k (T' := T3) (g' := (mkF m 11 #[.val (.ref a1)] [])) st3 ?_
  have kp0 : Keep h0 h0 [a1] := Keep.refl h0 [a1]
  have kp1 : Keep h0 T1.heap [a1] := kp0.trans K1 (allS (Or.inl (List.mem_of_getElem? (i := 0) rfl)) all0)
  have kp2 : Keep h0 h3 [a1] := kp1.wr W3 (Or.inl (List.mem_of_getElem? (i := 0) rfl))
  have f4 := (q1_1.other W3 (Or.inr (slot_ne (Or.inl (hw _ (List.mem_of_getElem? (i := 99) rfl))) (Or.inl (hw _ (List.mem_of_getElem? (i := 102) rfl))) (by decide) (t := .int) (t' := (.array (.object "java/lang/Object"))) (by decide) (by decide))))
  have f5 := (q1_3.other W3 (Or.inr (slot_ne (Or.inl (hw _ (List.mem_of_getElem? (i := 111) rfl))) (Or.inl (hw _ (List.mem_of_getElem? (i := 102) rfl))) (by decide) (t := .int) (t' := (.array (.object "java/lang/Object"))) (by decide) (by decide))))
  exact own_ret0 X3 hx hret hlk (hb hby d16_11) hF (by rw [e3]; exact ⟨rfl, N3, kp2, (q1_0.wr W3), f4, w3, f5⟩) (by decide) (by decide)
theorem pd__28Ljava_2flang_2fObject_3b_29Z : parseMethodDescriptor "(Ljava/lang/Object;)Z" = some ⟨[(.object "java/lang/Object")], some .boolean⟩ := by decide +kernel
theorem ef_19_RR (m : MethodId) (x0 : Addr) (x1 : Addr)  : entryFrame m #[(.ref x0), (.ref x1)] 2 = mkF m 0 #[.val (.ref x0), .val (.ref x1)] [] := by first | (simp [entryFrame, mkF, argsToLocals, Value.category]; done) | rfl
theorem d19_0 : decode jdk_38_method_25_code 0 = .ok (.aload_n 0, 1) := by decide +kernel
theorem d19_1 : decode jdk_38_method_25_code 1 = .ok (.dup, 1) := by decide +kernel
theorem d19_2 : decode jdk_38_method_25_code 2 = .ok (.getfield 63, 3) := by decide +kernel
theorem d19_5 : decode jdk_38_method_25_code 5 = .ok (.iconst 1, 1) := by decide +kernel
theorem d19_6 : decode jdk_38_method_25_code 6 = .ok (.iadd, 1) := by decide +kernel
theorem d19_7 : decode jdk_38_method_25_code 7 = .ok (.putfield 63, 3) := by decide +kernel
theorem d19_10 : decode jdk_38_method_25_code 10 = .ok (.aload_n 0, 1) := by decide +kernel
theorem d19_11 : decode jdk_38_method_25_code 11 = .ok (.aload_n 1, 1) := by decide +kernel
theorem d19_12 : decode jdk_38_method_25_code 12 = .ok (.aload_n 0, 1) := by decide +kernel
theorem d19_13 : decode jdk_38_method_25_code 13 = .ok (.getfield 9, 3) := by decide +kernel
theorem d19_16 : decode jdk_38_method_25_code 16 = .ok (.aload_n 0, 1) := by decide +kernel
theorem d19_17 : decode jdk_38_method_25_code 17 = .ok (.getfield 48, 3) := by decide +kernel
theorem d19_20 : decode jdk_38_method_25_code 20 = .ok (.invokevirtual 131, 3) := by decide +kernel
theorem pd__28Ljava_2flang_2fObject_3b_5bLjava_2flang_2fObject_3bI_29V : parseMethodDescriptor "(Ljava/lang/Object;[Ljava/lang/Object;I)V" = some ⟨[(.object "java/lang/Object"), (.array (.object "java/lang/Object")), .int], none⟩ := by decide +kernel
theorem ef_20_RRRI (m : MethodId) (x0 : Addr) (x1 : Addr) (x2 : Addr) (x3 : Int32)  : entryFrame m #[(.ref x0), (.ref x1), (.ref x2), (.int x3)] 4 = mkF m 0 #[.val (.ref x0), .val (.ref x1), .val (.ref x2), .val (.int x3)] [] := by first | (simp [entryFrame, mkF, argsToLocals, Value.category]; done) | rfl
theorem d20_0 : decode jdk_38_method_24_code 0 = .ok (.iload_n 3, 1) := by decide +kernel
theorem d20_1 : decode jdk_38_method_24_code 1 = .ok (.aload_n 2, 1) := by decide +kernel
theorem d20_2 : decode jdk_38_method_24_code 2 = .ok (.arraylength, 1) := by decide +kernel
theorem d20_3 : decode jdk_38_method_24_code 3 = .ok (.if_icmp .ne 8, 3) := by decide +kernel
theorem d20_6 : decode jdk_38_method_24_code 6 = .ok (.aload_n 0, 1) := by decide +kernel
theorem d20_7 : decode jdk_38_method_24_code 7 = .ok (.invokevirtual 129, 3) := by decide +kernel
theorem pd__28_29_5bLjava_2flang_2fObject_3b : parseMethodDescriptor "()[Ljava/lang/Object;" = some ⟨[], some (.array (.object "java/lang/Object"))⟩ := by decide +kernel
theorem ef_21_R (m : MethodId) (x0 : Addr)  : entryFrame m #[(.ref x0)] 1 = mkF m 0 #[.val (.ref x0)] [] := by first | (simp [entryFrame, mkF, argsToLocals, Value.category]; done) | rfl
theorem d21_0 : decode jdk_38_method_7_code 0 = .ok (.aload_n 0, 1) := by decide +kernel
theorem d21_1 : decode jdk_38_method_7_code 1 = .ok (.aload_n 0, 1) := by decide +kernel
theorem d21_2 : decode jdk_38_method_7_code 2 = .ok (.getfield 48, 3) := by decide +kernel
theorem d21_5 : decode jdk_38_method_7_code 5 = .ok (.iconst 1, 1) := by decide +kernel
theorem d21_6 : decode jdk_38_method_7_code 6 = .ok (.iadd, 1) := by decide +kernel
theorem d21_7 : decode jdk_38_method_7_code 7 = .ok (.invokevirtual 69, 3) := by decide +kernel
theorem pd__28I_29_5bLjava_2flang_2fObject_3b : parseMethodDescriptor "(I)[Ljava/lang/Object;" = some ⟨[.int], some (.array (.object "java/lang/Object"))⟩ := by decide +kernel
theorem ef_22_RI (m : MethodId) (x0 : Addr) (x1 : Int32)  : entryFrame m #[(.ref x0), (.int x1)] 4 = mkF m 0 #[.val (.ref x0), .val (.int x1), .unset, .unset] [] := by first | (simp [entryFrame, mkF, argsToLocals, Value.category]; done) | rfl
theorem d22_0 : decode jdk_38_method_6_code 0 = .ok (.aload_n 0, 1) := by decide +kernel
theorem d22_1 : decode jdk_38_method_6_code 1 = .ok (.getfield 9, 3) := by decide +kernel
theorem d22_4 : decode jdk_38_method_6_code 4 = .ok (.arraylength, 1) := by decide +kernel
theorem d22_5 : decode jdk_38_method_6_code 5 = .ok (.istore_n 2, 1) := by decide +kernel
theorem d22_6 : decode jdk_38_method_6_code 6 = .ok (.iload_n 2, 1) := by decide +kernel
theorem d22_7 : decode jdk_38_method_6_code 7 = .ok (.ifCond .gt 13, 3) := by decide +kernel
theorem d22_10 : decode jdk_38_method_6_code 10 = .ok (.aload_n 0, 1) := by decide +kernel
theorem d22_11 : decode jdk_38_method_6_code 11 = .ok (.getfield 9, 3) := by decide +kernel
theorem d22_14 : decode jdk_38_method_6_code 14 = .ok (.getstatic 39, 3) := by decide +kernel
theorem d22_17 : decode jdk_38_method_6_code 17 = .ok (.if_acmp .eq 28, 3) := by decide +kernel
theorem d22_45 : decode jdk_38_method_6_code 45 = .ok (.aload_n 0, 1) := by decide +kernel
theorem d22_46 : decode jdk_38_method_6_code 46 = .ok (.bipush 10, 2) := by decide +kernel
theorem d22_48 : decode jdk_38_method_6_code 48 = .ok (.iload_n 1, 1) := by decide +kernel
theorem d22_49 : decode jdk_38_method_6_code 49 = .ok (.invokestatic 79, 3) := by decide +kernel
theorem pd__28II_29I : parseMethodDescriptor "(II)I" = some ⟨[.int, .int], some .int⟩ := by decide +kernel
theorem ef_23_II (m : MethodId) (x0 : Int32) (x1 : Int32)  : entryFrame m #[(.int x0), (.int x1)] 2 = mkF m 0 #[.val (.int x0), .val (.int x1)] [] := by first | (simp [entryFrame, mkF, argsToLocals, Value.category]; done) | rfl
theorem d23_0 : decode jdk_29_method_65_code 0 = .ok (.iload_n 0, 1) := by decide +kernel
theorem d23_1 : decode jdk_29_method_65_code 1 = .ok (.iload_n 1, 1) := by decide +kernel
theorem d23_2 : decode jdk_29_method_65_code 2 = .ok (.if_icmp .lt 7, 3) := by decide +kernel
theorem d23_5 : decode jdk_29_method_65_code 5 = .ok (.iload_n 0, 1) := by decide +kernel
theorem d23_6 : decode jdk_29_method_65_code 6 = .ok (.goto 4, 3) := by decide +kernel
theorem d23_10 : decode jdk_29_method_65_code 10 = .ok (.ireturn, 1) := by decide +kernel
set_option maxRecDepth 65536 in
set_option maxHeartbeats 40000000 in
theorem rm_max_18 (l : Launch) (Z : State) (a0 : Array Value) (g_COMPACT_STRINGS : Int32) (g_SIOOBE_FORMATTER : Value) (g_DEFAULTCAPACITY_EMPTY_ELEMENTDATA : Addr) (g_EMPTY : Addr) (g_EMPTY_LIST : Addr) (gk_DEFAULTCAPACITY_EMPTY_ELEMENTDATA : ClassId) (g_NONE : Addr) (g_mir : Addr) (hW : own_W Z a0 g_COMPACT_STRINGS g_SIOOBE_FORMATTER g_DEFAULTCAPACITY_EMPTY_ELEMENTDATA g_EMPTY g_EMPTY_LIST gk_DEFAULTCAPACITY_EMPTY_ELEMENTDATA g_NONE g_mir)  (h0 : Heap) (O0 : Old Z Z.heap.size h0)  :
    own_Met l Z (⟨"java/lang/Math", "max", "(II)I"⟩ : MethodName) jdk_29_method_65_code 2 (some .int) ({ frames := 0, cells := 0, slots := 0, locals := 0 } : Room) #[(.int (10 : Int32)), (.int (1 : Int32))] h0 (fun v h L => v = some (.int (10 : Int32)) ∧ Fr Z.heap.size L ∧ h = h0) := by
  have hW_ := hW
  obtain ⟨hw, S_g_COMPACT_STRINGS, P_g_COMPACT_STRINGS, R_g_SIOOBE_FORMATTER, S_g_SIOOBE_FORMATTER, S_g__assertionsDisabled, S_g_DEFAULTCAPACITY_EMPTY_ELEMENTDATA, E_g_DEFAULTCAPACITY_EMPTY_ELEMENTDATA, S_g_EMPTY, E_g_EMPTY, S_g_EMPTY_LIST, E_g_EMPTY_LIST, V_g_DEFAULTCAPACITY_EMPTY_ELEMENTDATA, F_g_EMPTY_LIST_allowNulls, S_g_NONE, E_g_NONE, F_g_NONE_owner, M_mir⟩ := hW_
  refine own_met (Jvm.Free.JP.mathPlain rfl (by decide +kernel)) ?_
  intro p e s m below meth cc_ s₁ Φ hF X0 hx hby hml hZ hown hnm hret hlk e0
  have N0 := Fr.nil Z.heap.size
  refine own_k (T' := s₁) (g' := (mkF m 0 #[.val (.int (10 : Int32)), .val (.int (1 : Int32))] [])) (fun _ k_ => castTop (ef_23_II m (10 : Int32) (1 : Int32)) k_) ?_
  refine own_k (T' := s₁) (g' := (mkF m 1 #[.val (.int (10 : Int32)), .val (.int (1 : Int32))] [(.int (10 : Int32))])) (fun _ k_ => XS.iloadN X0.here hx rfl (hb hby d23_0) rfl  k_) ?_
  refine own_k (T' := s₁) (g' := (mkF m 2 #[.val (.int (10 : Int32)), .val (.int (1 : Int32))] [(.int (1 : Int32)), (.int (10 : Int32))])) (fun _ k_ => XS.iloadN X0.here hx rfl (hb hby d23_1) rfl  k_) ?_
  refine own_k (T' := s₁) (g' := (mkF m 5 #[.val (.int (10 : Int32)), .val (.int (1 : Int32))] [])) (fun _ k_ => XS.icmpNo X0.here hx rfl (hb hby d23_2) rfl ((flt (by decide : ¬ ((10 : Int32) < (1 : Int32)))).1) k_) ?_
  refine own_k (T' := s₁) (g' := (mkF m 6 #[.val (.int (10 : Int32)), .val (.int (1 : Int32))] [(.int (10 : Int32))])) (fun _ k_ => XS.iloadN X0.here hx rfl (hb hby d23_5) rfl  k_) ?_
  refine own_k (T' := s₁) (g' := (mkF m 10 #[.val (.int (10 : Int32)), .val (.int (1 : Int32))] [(.int (10 : Int32))])) (fun _ k_ => XS.goto X0.here hx rfl (pc0 := 6) (pc' := 10) rfl (hb hby d23_6) (by decide) (by decide) k_) ?_
  exact own_retI X0 hx hret hlk (hb hby d23_10) hF (by rw [e0]; exact ⟨rfl, N0, rfl⟩) (by decide) (by decide)
theorem d22_52 : decode jdk_38_method_6_code 52 = .ok (.anewarray 7, 3) := by decide +kernel
theorem d22_55 : decode jdk_38_method_6_code 55 = .ok (.dup_x1, 1) := by decide +kernel
theorem d22_56 : decode jdk_38_method_6_code 56 = .ok (.putfield 9, 3) := by decide +kernel
theorem d22_59 : decode jdk_38_method_6_code 59 = .ok (.areturn, 1) := by decide +kernel
set_option maxRecDepth 65536 in
set_option maxHeartbeats 40000000 in
theorem rm_grow_19 (l : Launch) (Z : State) (a0 : Array Value) (g_COMPACT_STRINGS : Int32) (g_SIOOBE_FORMATTER : Value) (g_DEFAULTCAPACITY_EMPTY_ELEMENTDATA : Addr) (g_EMPTY : Addr) (g_EMPTY_LIST : Addr) (gk_DEFAULTCAPACITY_EMPTY_ELEMENTDATA : ClassId) (g_NONE : Addr) (g_mir : Addr) (hW : own_W Z a0 g_COMPACT_STRINGS g_SIOOBE_FORMATTER g_DEFAULTCAPACITY_EMPTY_ELEMENTDATA g_EMPTY g_EMPTY_LIST gk_DEFAULTCAPACITY_EMPTY_ELEMENTDATA g_NONE g_mir) (a1 : Addr) (h0 : Heap) (O0 : Old Z Z.heap.size h0) (h_1 : Fld Z h0 a1 "java/util/ArrayList" "elementData" "[Ljava/lang/Object;" (.ref g_DEFAULTCAPACITY_EMPTY_ELEMENTDATA)) (h_2 : Exa Z h0 a1 "java/util/ArrayList") (h_3 : Z.heap.size ≤ a1) (h_4 : Fld Z h0 a1 "java/util/AbstractList" "modCount" "I" (.int (1 : Int32))) (h_5 : Fld Z h0 a1 "java/util/ArrayList" "size" "I" (.int (0 : Int32))) :
    own_Met l Z (⟨"java/util/ArrayList", "grow", "(I)[Ljava/lang/Object;"⟩ : MethodName) jdk_38_method_6_code 4 (some (.array (.object "java/lang/Object"))) ({ frames := 1, cells := 1, slots := 10, locals := 14 } : Room) #[(.ref a1), (.int (1 : Int32))] h0 (fun v h L => ∃ (b5 : Addr) (k5 : ClassId), v = some (.ref b5) ∧ Fr Z.heap.size L ∧ Keep h0 h [a1] ∧ h0.size ≤ b5 ∧ Fld Z h a1 "java/util/ArrayList" "elementData" "[Ljava/lang/Object;" (.ref b5) ∧ Exa Z h a1 "java/util/ArrayList" ∧ Fld Z h a1 "java/util/AbstractList" "modCount" "I" (.int (1 : Int32)) ∧ Fld Z h a1 "java/util/ArrayList" "size" "I" (.int (0 : Int32)) ∧ Arv Z h b5 k5 (.object "java/lang/Object") (10 : Int32) [.null, .null, .null, .null, .null, .null, .null, .null, .null, .null] .null ∧ Ovr Z k5 "java/lang/Object" ∧ Exa Z h b5 "[Ljava/lang/Object;") := by
  have hW_ := hW
  obtain ⟨hw, S_g_COMPACT_STRINGS, P_g_COMPACT_STRINGS, R_g_SIOOBE_FORMATTER, S_g_SIOOBE_FORMATTER, S_g__assertionsDisabled, S_g_DEFAULTCAPACITY_EMPTY_ELEMENTDATA, E_g_DEFAULTCAPACITY_EMPTY_ELEMENTDATA, S_g_EMPTY, E_g_EMPTY, S_g_EMPTY_LIST, E_g_EMPTY_LIST, V_g_DEFAULTCAPACITY_EMPTY_ELEMENTDATA, F_g_EMPTY_LIST_allowNulls, S_g_NONE, E_g_NONE, F_g_NONE_owner, M_mir⟩ := hW_
  refine own_met (plainFor_of_name pn_java_util_ArrayList) ?_
  intro p e s m below meth cc_ s₁ Φ hF X0 hx hby hml hZ hown hnm hret hlk e0
  have N0 := Fr.nil Z.heap.size
  refine own_k (T' := s₁) (g' := (mkF m 0 #[.val (.ref a1), .val (.int (1 : Int32)), .unset, .unset] [])) (fun _ k_ => castTop (ef_22_RI m a1 (1 : Int32)) k_) ?_
  refine own_k (T' := s₁) (g' := (mkF m 1 #[.val (.ref a1), .val (.int (1 : Int32)), .unset, .unset] [(.ref a1)])) (fun _ k_ => XS.aloadN X0.here hx rfl (hb hby d22_0) rfl rfl  k_) ?_
  obtain ⟨T1, X1, e1, st1⟩ := getF X0 hx hZ hown (host := "") (Or.inl (hw _ (List.mem_of_getElem? (i := 101) rfl))) Via.refl e0 h_1 (g := (mkF m 1 #[.val (.ref a1), .val (.int (1 : Int32)), .unset, .unset] [(.ref a1)])) rfl rfl (hb hby d22_1)
  refine own_k (T' := T1) (g' := (mkF m 4 #[.val (.ref a1), .val (.int (1 : Int32)), .unset, .unset] [(.ref g_DEFAULTCAPACITY_EMPTY_ELEMENTDATA)])) st1 ?_
  refine own_len X1 hx hZ e1 (V_g_DEFAULTCAPACITY_EMPTY_ELEMENTDATA.ext O0.2) (hb hby d22_4) ?_
  show own_Go p e below Φ T1 (mkF m 5 #[.val (.ref a1), .val (.int (1 : Int32)), .unset, .unset] [(.int (0 : Int32))])
  refine own_k (T' := T1) (g' := (mkF m 6 #[.val (.ref a1), .val (.int (1 : Int32)), .val (.int (0 : Int32)), .unset] [])) (fun _ k_ => XS.istoreN X1.here hx rfl (hb hby d22_5) rfl (l' := #[.val (.ref a1), .val (.int (1 : Int32)), .val (.int (0 : Int32)), .unset]) rfl k_) ?_
  refine own_k (T' := T1) (g' := (mkF m 7 #[.val (.ref a1), .val (.int (1 : Int32)), .val (.int (0 : Int32)), .unset] [(.int (0 : Int32))])) (fun _ k_ => XS.iloadN X1.here hx rfl (hb hby d22_6) rfl  k_) ?_
  refine own_k (T' := T1) (g' := (mkF m 10 #[.val (.ref a1), .val (.int (1 : Int32)), .val (.int (0 : Int32)), .unset] [])) (fun _ k_ => XS.ifNo X1.here hx rfl (hb hby d22_7) rfl ((if0 _ _).trans (flt (by decide : ¬ ((0 : Int32) < (0 : Int32)))).2.2.1) k_) ?_
  refine own_k (T' := T1) (g' := (mkF m 11 #[.val (.ref a1), .val (.int (1 : Int32)), .val (.int (0 : Int32)), .unset] [(.ref a1)])) (fun _ k_ => XS.aloadN X1.here hx rfl (hb hby d22_10) rfl rfl  k_) ?_
  obtain ⟨T2, X2, e2, st2⟩ := getF X1 hx hZ hown (host := "") (Or.inl (hw _ (List.mem_of_getElem? (i := 101) rfl))) Via.refl e1 h_1 (g := (mkF m 11 #[.val (.ref a1), .val (.int (1 : Int32)), .val (.int (0 : Int32)), .unset] [(.ref a1)])) rfl rfl (hb hby d22_11)
  refine own_k (T' := T2) (g' := (mkF m 14 #[.val (.ref a1), .val (.int (1 : Int32)), .val (.int (0 : Int32)), .unset] [(.ref g_DEFAULTCAPACITY_EMPTY_ELEMENTDATA)])) st2 ?_
  obtain ⟨T3, X3, e3, st3⟩ := getS2 X2 hx hZ hown (host := "") (Or.inl (hw _ (List.mem_of_getElem? (i := 100) rfl))) Via.refl e2 (S_g_DEFAULTCAPACITY_EMPTY_ELEMENTDATA.ext O0.2) (g := (mkF m 14 #[.val (.ref a1), .val (.int (1 : Int32)), .val (.int (0 : Int32)), .unset] [(.ref g_DEFAULTCAPACITY_EMPTY_ELEMENTDATA)])) rfl (hb hby d22_14)
  refine own_k (T' := T3) (g' := (mkF m 17 #[.val (.ref a1), .val (.int (1 : Int32)), .val (.int (0 : Int32)), .unset] [(.ref g_DEFAULTCAPACITY_EMPTY_ELEMENTDATA), (.ref g_DEFAULTCAPACITY_EMPTY_ELEMENTDATA)])) st3 ?_
  refine own_k (T' := T3) (g' := (mkF m 45 #[.val (.ref a1), .val (.int (1 : Int32)), .val (.int (0 : Int32)), .unset] [])) (fun _ k_ => Jvm.RoadKit.acmp (g := (mkF m 17 #[.val (.ref a1), .val (.int (1 : Int32)), .val (.int (0 : Int32)), .unset] [(.ref g_DEFAULTCAPACITY_EMPTY_ELEMENTDATA), (.ref g_DEFAULTCAPACITY_EMPTY_ELEMENTDATA)])) X3 hx rfl rfl rfl (pc0 := 17) (pc' := 45) (same := true) rfl (hb hby d22_17) rfl (decide_eq_true rfl) (by decide) (by decide) k_) ?_
  refine own_k (T' := T3) (g' := (mkF m 46 #[.val (.ref a1), .val (.int (1 : Int32)), .val (.int (0 : Int32)), .unset] [(.ref a1)])) (fun _ k_ => XS.aloadN X3.here hx rfl (hb hby d22_45) rfl rfl  k_) ?_
  refine own_k (T' := T3) (g' := (mkF m 48 #[.val (.ref a1), .val (.int (1 : Int32)), .val (.int (0 : Int32)), .unset] [(.int (10 : Int32)), (.ref a1)])) (fun _ k_ => XS.bipush X3.here hx rfl (hb hby d22_46) k_) ?_
  refine own_k (T' := T3) (g' := (mkF m 49 #[.val (.ref a1), .val (.int (1 : Int32)), .val (.int (0 : Int32)), .unset] [(.int (1 : Int32)), (.int (10 : Int32)), (.ref a1)])) (fun _ k_ => XS.iloadN X3.here hx rfl (hb hby d22_48) rfl  k_) ?_
  refine own_callS X3 hx hZ (y := (⟨"java/lang/Math", "max", "(II)I"⟩ : MethodName)) hown (hw _ (List.mem_of_getElem? (i := 127) rfl)) (hw _ (List.mem_of_getElem? (i := 128) rfl)) (hw _ (List.mem_of_getElem? (i := 129) rfl)) (hw _ (List.mem_of_getElem? (i := 130) rfl)) (by decide) (al := [(.int (10 : Int32)), (.int (1 : Int32))]) (rm_max_18 l Z a0 g_COMPACT_STRINGS g_SIOOBE_FORMATTER g_DEFAULTCAPACITY_EMPTY_ELEMENTDATA g_EMPTY g_EMPTY_LIST gk_DEFAULTCAPACITY_EMPTY_ELEMENTDATA g_NONE g_mir hW h0 O0) 1 (by decide) (by decide) e3 (by decide) (by decide) (by rw [hml]; rfl) (lenOf pd__28II_29I rfl) rfl (rest := [(.ref a1)]) (by show 2 * 0 + _ ≤ _; exact Nat.le_of_eq rfl) (hb hby d22_49) ?_
  intro v4 T4 L4 X4 hQ4
  obtain ⟨rfl, Nq4, e4⟩ := hQ4
  have N4 := Fr.app N0 Nq4
  show own_Go p e below Φ T4 (mkF m 52 #[.val (.ref a1), .val (.int (1 : Int32)), .val (.int (0 : Int32)), .unset] [(.int (10 : Int32)), (.ref a1)])
  obtain ⟨T5, h5, k5, X5, e5, E5, V5, A5, O5, st5⟩ := own_newref (pc := 52) (Ls := #[.val (.ref a1), .val (.int (1 : Int32)), .val (.int (0 : Int32)), .unset]) (rest := [(.ref a1)]) X4 hx hZ (C := "java/lang/Object") hown (hw _ (List.mem_of_getElem? (i := 131) rfl)) (hw _ (List.mem_of_getElem? (i := 132) rfl)) e4 (hb hby d22_52) (n := (10 : Int32)) (by decide) (cap := 10) (by decide) (by decide) (by decide) (by decide) (ad := "[Ljava/lang/Object;") (by decide)
  obtain ⟨b5, g5⟩ : ∃ z, z = h0.size := ⟨_, rfl⟩
  rw [← g5] at V5 A5 st5
  have O5' := O0.ext E5
  have V5 : Arv Z h5 b5 k5 (.object "java/lang/Object") (10 : Int32) [.null, .null, .null, .null, .null, .null, .null, .null, .null, .null] .null := V5
  refine own_k (T' := T5) (g' := (mkF m 55 #[.val (.ref a1), .val (.int (1 : Int32)), .val (.int (0 : Int32)), .unset] [(.ref b5), (.ref a1)])) st5 ?_
  refine own_k (T' := T5) (g' := (mkF m 56 #[.val (.ref a1), .val (.int (1 : Int32)), .val (.int (0 : Int32)), .unset] [(.ref b5), (.ref a1), (.ref b5)])) (fun _ k_ => XS.dupX1 X5.here hx rfl (hb hby d22_55) rfl rfl rfl k_) ?_
  obtain ⟨T6, h6, X6, e6, W6, st6⟩ := putF X5 hx hZ hown (host := "") (Or.inl (hw _ (List.mem_of_getElem? (i := 101) rfl))) Via.refl e5 (h_1.ext E5) (h_2.ext E5) (Or.inl (hw _ (List.mem_of_getElem? (i := 102) rfl))) (hw _ (List.mem_of_getElem? (i := 80) rfl)) (ty := (.array (.object "java/lang/Object"))) (by decide) rfl rfl (g := (mkF m 56 #[.val (.ref a1), .val (.int (1 : Int32)), .val (.int (0 : Int32)), .unset] [(.ref b5), (.ref a1), (.ref b5)])) rfl rfl (hb hby d22_56)
  have w6 := Fld.same W6 (h_1.ext E5)
  have O6' := O5'.wr W6 h_3
  have N6 := Fr.snoc X6 N4 h_3
  refine own_k (T' := T6) (g' := (mkF m 59 #[.val (.ref a1), .val (.int (1 : Int32)), .val (.int (0 : Int32)), .unset] [(.ref b5)])) st6 ?_
  have kp0 : Keep h0 h0 [a1] := Keep.refl h0 [a1]
  have kp1 : Keep h0 h5 [a1] := kp0.ext E5
  have kp2 : Keep h0 h6 [a1] := kp1.wr W6 (Or.inl (List.mem_of_getElem? (i := 0) rfl))
  have f7 := ((h_4.ext E5).other W6 (Or.inr (slot_ne (Or.inl (hw _ (List.mem_of_getElem? (i := 99) rfl))) (Or.inl (hw _ (List.mem_of_getElem? (i := 102) rfl))) (by decide) (t := .int) (t' := (.array (.object "java/lang/Object"))) (by decide) (by decide))))
  have f8 := ((h_5.ext E5).other W6 (Or.inr (slot_ne (Or.inl (hw _ (List.mem_of_getElem? (i := 111) rfl))) (Or.inl (hw _ (List.mem_of_getElem? (i := 102) rfl))) (by decide) (t := .int) (t' := (.array (.object "java/lang/Object"))) (by decide) (by decide))))
  have f9 := (V5.other W6 (Ne.symm (Nat.ne_of_lt (Nat.lt_of_lt_of_le h_1.lt (Nat.le_of_eq g5.symm)))))
  exact own_retA X6 hx hret rfl rfl hlk (hb hby d22_59) hF (by rw [e6]; exact ⟨b5, k5, rfl, N6, kp2, (Nat.le_trans kp0.1 (Nat.le_of_eq g5.symm)), w6, ((h_2.ext E5).wr W6), f7, f8, f9, O5, (A5.wr W6)⟩) (by decide) (by decide)
theorem d21_10 : decode jdk_38_method_7_code 10 = .ok (.areturn, 1) := by decide +kernel
set_option maxRecDepth 65536 in
set_option maxHeartbeats 40000000 in
theorem rm_grow_20 (l : Launch) (Z : State) (a0 : Array Value) (g_COMPACT_STRINGS : Int32) (g_SIOOBE_FORMATTER : Value) (g_DEFAULTCAPACITY_EMPTY_ELEMENTDATA : Addr) (g_EMPTY : Addr) (g_EMPTY_LIST : Addr) (gk_DEFAULTCAPACITY_EMPTY_ELEMENTDATA : ClassId) (g_NONE : Addr) (g_mir : Addr) (hW : own_W Z a0 g_COMPACT_STRINGS g_SIOOBE_FORMATTER g_DEFAULTCAPACITY_EMPTY_ELEMENTDATA g_EMPTY g_EMPTY_LIST gk_DEFAULTCAPACITY_EMPTY_ELEMENTDATA g_NONE g_mir) (a1 : Addr) (h0 : Heap) (O0 : Old Z Z.heap.size h0) (h_1 : Fld Z h0 a1 "java/util/ArrayList" "size" "I" (.int (0 : Int32))) (h_2 : Fld Z h0 a1 "java/util/ArrayList" "elementData" "[Ljava/lang/Object;" (.ref g_DEFAULTCAPACITY_EMPTY_ELEMENTDATA)) (h_3 : Exa Z h0 a1 "java/util/ArrayList") (h_4 : Z.heap.size ≤ a1) (h_5 : Fld Z h0 a1 "java/util/AbstractList" "modCount" "I" (.int (1 : Int32))) :
    own_Met l Z (⟨"java/util/ArrayList", "grow", "()[Ljava/lang/Object;"⟩ : MethodName) jdk_38_method_7_code 1 (some (.array (.object "java/lang/Object"))) ({ frames := 2, cells := 1, slots := 10, locals := 29 } : Room) #[(.ref a1)] h0 (fun v h L => ∃ (b2_0 : Addr) (k2_1 : ClassId), v = some (.ref b2_0) ∧ Fr Z.heap.size L ∧ Keep h0 h [a1] ∧ h0.size ≤ b2_0 ∧ Exa Z h a1 "java/util/ArrayList" ∧ Fld Z h a1 "java/util/ArrayList" "elementData" "[Ljava/lang/Object;" (.ref b2_0) ∧ Fld Z h a1 "java/util/AbstractList" "modCount" "I" (.int (1 : Int32)) ∧ Fld Z h a1 "java/util/ArrayList" "size" "I" (.int (0 : Int32)) ∧ Arv Z h b2_0 k2_1 (.object "java/lang/Object") (10 : Int32) [.null, .null, .null, .null, .null, .null, .null, .null, .null, .null] .null ∧ Ovr Z k2_1 "java/lang/Object" ∧ Exa Z h b2_0 "[Ljava/lang/Object;") := by
  have hW_ := hW
  obtain ⟨hw, S_g_COMPACT_STRINGS, P_g_COMPACT_STRINGS, R_g_SIOOBE_FORMATTER, S_g_SIOOBE_FORMATTER, S_g__assertionsDisabled, S_g_DEFAULTCAPACITY_EMPTY_ELEMENTDATA, E_g_DEFAULTCAPACITY_EMPTY_ELEMENTDATA, S_g_EMPTY, E_g_EMPTY, S_g_EMPTY_LIST, E_g_EMPTY_LIST, V_g_DEFAULTCAPACITY_EMPTY_ELEMENTDATA, F_g_EMPTY_LIST_allowNulls, S_g_NONE, E_g_NONE, F_g_NONE_owner, M_mir⟩ := hW_
  refine own_met (plainFor_of_name pn_java_util_ArrayList) ?_
  intro p e s m below meth cc_ s₁ Φ hF X0 hx hby hml hZ hown hnm hret hlk e0
  have N0 := Fr.nil Z.heap.size
  refine own_k (T' := s₁) (g' := (mkF m 0 #[.val (.ref a1)] [])) (fun _ k_ => castTop (ef_21_R m a1) k_) ?_
  refine own_k (T' := s₁) (g' := (mkF m 1 #[.val (.ref a1)] [(.ref a1)])) (fun _ k_ => XS.aloadN X0.here hx rfl (hb hby d21_0) rfl rfl  k_) ?_
  refine own_k (T' := s₁) (g' := (mkF m 2 #[.val (.ref a1)] [(.ref a1), (.ref a1)])) (fun _ k_ => XS.aloadN X0.here hx rfl (hb hby d21_1) rfl rfl  k_) ?_
  obtain ⟨T1, X1, e1, st1⟩ := getF X0 hx hZ hown (host := "") (Or.inl (hw _ (List.mem_of_getElem? (i := 110) rfl))) Via.refl e0 h_1 (g := (mkF m 2 #[.val (.ref a1)] [(.ref a1), (.ref a1)])) rfl rfl (hb hby d21_2)
  refine own_k (T' := T1) (g' := (mkF m 5 #[.val (.ref a1)] [(.int (0 : Int32)), (.ref a1)])) st1 ?_
  refine own_k (T' := T1) (g' := (mkF m 6 #[.val (.ref a1)] [(.int (1 : Int32)), (.int (0 : Int32)), (.ref a1)])) (fun _ k_ => XS.iconst X1.here hx rfl (hb hby d21_5) k_) ?_
  refine own_k (T' := T1) (g' := (mkF m 7 #[.val (.ref a1)] [(.int ((0 : Int32) + (1 : Int32))), (.ref a1)])) (fun _ k_ => XS.iadd X1.here hx rfl (hb hby d21_6) rfl k_) ?_
  rw [show ((0 : Int32) + (1 : Int32)) = (1 : Int32) from by decide]
  refine own_callP X1 hx hZ (y := (⟨"java/util/ArrayList", "grow", "(I)[Ljava/lang/Object;"⟩ : MethodName)) hown (hw _ (List.mem_of_getElem? (i := 122) rfl)) (hw _ (List.mem_of_getElem? (i := 123) rfl)) (hw _ (List.mem_of_getElem? (i := 124) rfl)) (hw _ (List.mem_of_getElem? (i := 126) rfl)) (hw _ (List.mem_of_getElem? (i := 81) rfl)) (hw _ (List.mem_of_getElem? (i := 80) rfl)) (by decide) (al := [(.int (1 : Int32))]) h_3 (rm_grow_19 l Z a0 g_COMPACT_STRINGS g_SIOOBE_FORMATTER g_DEFAULTCAPACITY_EMPTY_ELEMENTDATA g_EMPTY g_EMPTY_LIST gk_DEFAULTCAPACITY_EMPTY_ELEMENTDATA g_NONE g_mir hW a1 h0 O0 h_2 h_3 h_4 h_5 h_1) 0 (by decide) (by decide) e1 (by decide) (by decide) (by rw [hml]; rfl) (lenOf pd__28I_29_5bLjava_2flang_2fObject_3b rfl) rfl (rest := []) (by show 2 * 0 + _ ≤ _; exact Nat.le_of_eq rfl) (hb hby d21_7) ?_
  intro v2 T2 L2 X2 hQ2
  obtain ⟨b2_0, k2_1, rfl, Nq2, K2, ge2_0, q2_0, q2_1, q2_2, q2_3, q2_4, q2_5, q2_6⟩ := hQ2
  have N2 := Fr.app N0 Nq2
  have O2' := O0.keep K2 (allS h_4 all0)
  show own_Go p e below Φ T2 (mkF m 10 #[.val (.ref a1)] [(.ref b2_0)])
  have kp0 : Keep h0 h0 [a1] := Keep.refl h0 [a1]
  have kp1 : Keep h0 T2.heap [a1] := kp0.trans K2 (allS (Or.inl (List.mem_of_getElem? (i := 0) rfl)) all0)
  exact own_retA X2 hx hret rfl rfl hlk (hb hby d21_10) hF (⟨b2_0, k2_1, rfl, N2, kp1, (Nat.le_trans kp0.1 ge2_0), q2_1, q2_0, q2_2, q2_3, q2_4, q2_5, q2_6⟩) (by decide) (by decide)
theorem d20_10 : decode jdk_38_method_24_code 10 = .ok (.astore_n 2, 1) := by decide +kernel
theorem d20_11 : decode jdk_38_method_24_code 11 = .ok (.aload_n 2, 1) := by decide +kernel
theorem d20_12 : decode jdk_38_method_24_code 12 = .ok (.iload_n 3, 1) := by decide +kernel
theorem d20_13 : decode jdk_38_method_24_code 13 = .ok (.aload_n 1, 1) := by decide +kernel
theorem d20_14 : decode jdk_38_method_24_code 14 = .ok (.aastore, 1) := by decide +kernel
theorem d20_15 : decode jdk_38_method_24_code 15 = .ok (.aload_n 0, 1) := by decide +kernel
theorem d20_16 : decode jdk_38_method_24_code 16 = .ok (.iload_n 3, 1) := by decide +kernel
theorem d20_17 : decode jdk_38_method_24_code 17 = .ok (.iconst 1, 1) := by decide +kernel
theorem d20_18 : decode jdk_38_method_24_code 18 = .ok (.iadd, 1) := by decide +kernel
theorem d20_19 : decode jdk_38_method_24_code 19 = .ok (.putfield 48, 3) := by decide +kernel
theorem d20_22 : decode jdk_38_method_24_code 22 = .ok (.return_, 1) := by decide +kernel
set_option maxRecDepth 65536 in
set_option maxHeartbeats 40000000 in
theorem rm_add_21 (l : Launch) (Z : State) (a0 : Array Value) (g_COMPACT_STRINGS : Int32) (g_SIOOBE_FORMATTER : Value) (g_DEFAULTCAPACITY_EMPTY_ELEMENTDATA : Addr) (g_EMPTY : Addr) (g_EMPTY_LIST : Addr) (gk_DEFAULTCAPACITY_EMPTY_ELEMENTDATA : ClassId) (g_NONE : Addr) (g_mir : Addr) (hW : own_W Z a0 g_COMPACT_STRINGS g_SIOOBE_FORMATTER g_DEFAULTCAPACITY_EMPTY_ELEMENTDATA g_EMPTY g_EMPTY_LIST gk_DEFAULTCAPACITY_EMPTY_ELEMENTDATA g_NONE g_mir) (a1 : Addr) (a2 : Addr) (h0 : Heap) (O0 : Old Z Z.heap.size h0) (h_1 : Fld Z h0 a1 "java/util/ArrayList" "size" "I" (.int (0 : Int32))) (h_2 : Fld Z h0 a1 "java/util/ArrayList" "elementData" "[Ljava/lang/Object;" (.ref g_DEFAULTCAPACITY_EMPTY_ELEMENTDATA)) (h_3 : Exa Z h0 a1 "java/util/ArrayList") (h_4 : Z.heap.size ≤ a1) (h_5 : Fld Z h0 a1 "java/util/AbstractList" "modCount" "I" (.int (1 : Int32))) (h_6 : Exa Z h0 a2 "java/lang/String") :
    own_Met l Z (⟨"java/util/ArrayList", "add", "(Ljava/lang/Object;[Ljava/lang/Object;I)V"⟩ : MethodName) jdk_38_method_24_code 4 none ({ frames := 3, cells := 1, slots := 10, locals := 41 } : Room) #[(.ref a1), (.ref a2), (.ref g_DEFAULTCAPACITY_EMPTY_ELEMENTDATA), (.int (0 : Int32))] h0 (fun v h L => ∃ (b1_0 : Addr) (k1_1 : ClassId), v = none ∧ Fr Z.heap.size L ∧ Keep h0 h [a1] ∧ h0.size ≤ b1_0 ∧ Exa Z h a1 "java/util/ArrayList" ∧ Fld Z h a1 "java/util/ArrayList" "elementData" "[Ljava/lang/Object;" (.ref b1_0) ∧ Fld Z h a1 "java/util/AbstractList" "modCount" "I" (.int (1 : Int32)) ∧ Fld Z h a1 "java/util/ArrayList" "size" "I" (.int (1 : Int32)) ∧ Arv Z h b1_0 k1_1 (.object "java/lang/Object") (10 : Int32) [(.ref a2), .null, .null, .null, .null, .null, .null, .null, .null, .null] .null ∧ Ovr Z k1_1 "java/lang/Object" ∧ Exa Z h b1_0 "[Ljava/lang/Object;") := by
  have hW_ := hW
  obtain ⟨hw, S_g_COMPACT_STRINGS, P_g_COMPACT_STRINGS, R_g_SIOOBE_FORMATTER, S_g_SIOOBE_FORMATTER, S_g__assertionsDisabled, S_g_DEFAULTCAPACITY_EMPTY_ELEMENTDATA, E_g_DEFAULTCAPACITY_EMPTY_ELEMENTDATA, S_g_EMPTY, E_g_EMPTY, S_g_EMPTY_LIST, E_g_EMPTY_LIST, V_g_DEFAULTCAPACITY_EMPTY_ELEMENTDATA, F_g_EMPTY_LIST_allowNulls, S_g_NONE, E_g_NONE, F_g_NONE_owner, M_mir⟩ := hW_
  refine own_met (plainFor_of_name pn_java_util_ArrayList) ?_
  intro p e s m below meth cc_ s₁ Φ hF X0 hx hby hml hZ hown hnm hret hlk e0
  have N0 := Fr.nil Z.heap.size
  refine own_k (T' := s₁) (g' := (mkF m 0 #[.val (.ref a1), .val (.ref a2), .val (.ref g_DEFAULTCAPACITY_EMPTY_ELEMENTDATA), .val (.int (0 : Int32))] [])) (fun _ k_ => castTop (ef_20_RRRI m a1 a2 g_DEFAULTCAPACITY_EMPTY_ELEMENTDATA (0 : Int32)) k_) ?_
  refine own_k (T' := s₁) (g' := (mkF m 1 #[.val (.ref a1), .val (.ref a2), .val (.ref g_DEFAULTCAPACITY_EMPTY_ELEMENTDATA), .val (.int (0 : Int32))] [(.int (0 : Int32))])) (fun _ k_ => XS.iloadN X0.here hx rfl (hb hby d20_0) rfl  k_) ?_
  refine own_k (T' := s₁) (g' := (mkF m 2 #[.val (.ref a1), .val (.ref a2), .val (.ref g_DEFAULTCAPACITY_EMPTY_ELEMENTDATA), .val (.int (0 : Int32))] [(.ref g_DEFAULTCAPACITY_EMPTY_ELEMENTDATA), (.int (0 : Int32))])) (fun _ k_ => XS.aloadN X0.here hx rfl (hb hby d20_1) rfl rfl  k_) ?_
  refine own_len X0 hx hZ e0 (V_g_DEFAULTCAPACITY_EMPTY_ELEMENTDATA.ext O0.2) (hb hby d20_2) ?_
  show own_Go p e below Φ s₁ (mkF m 3 #[.val (.ref a1), .val (.ref a2), .val (.ref g_DEFAULTCAPACITY_EMPTY_ELEMENTDATA), .val (.int (0 : Int32))] [(.int (0 : Int32)), (.int (0 : Int32))])
  refine own_k (T' := s₁) (g' := (mkF m 6 #[.val (.ref a1), .val (.ref a2), .val (.ref g_DEFAULTCAPACITY_EMPTY_ELEMENTDATA), .val (.int (0 : Int32))] [])) (fun _ k_ => XS.icmpNo X0.here hx rfl (hb hby d20_3) rfl ((teq (by decide : ((0 : Int32) = (0 : Int32)))).2) k_) ?_
  refine own_k (T' := s₁) (g' := (mkF m 7 #[.val (.ref a1), .val (.ref a2), .val (.ref g_DEFAULTCAPACITY_EMPTY_ELEMENTDATA), .val (.int (0 : Int32))] [(.ref a1)])) (fun _ k_ => XS.aloadN X0.here hx rfl (hb hby d20_6) rfl rfl  k_) ?_
  refine own_callP X0 hx hZ (y := (⟨"java/util/ArrayList", "grow", "()[Ljava/lang/Object;"⟩ : MethodName)) hown (hw _ (List.mem_of_getElem? (i := 117) rfl)) (hw _ (List.mem_of_getElem? (i := 118) rfl)) (hw _ (List.mem_of_getElem? (i := 119) rfl)) (hw _ (List.mem_of_getElem? (i := 121) rfl)) (hw _ (List.mem_of_getElem? (i := 81) rfl)) (hw _ (List.mem_of_getElem? (i := 80) rfl)) (by decide) (al := []) h_3 (rm_grow_20 l Z a0 g_COMPACT_STRINGS g_SIOOBE_FORMATTER g_DEFAULTCAPACITY_EMPTY_ELEMENTDATA g_EMPTY g_EMPTY_LIST gk_DEFAULTCAPACITY_EMPTY_ELEMENTDATA g_NONE g_mir hW a1 h0 O0 h_1 h_2 h_3 h_4 h_5) 0 (by decide) (by decide) e0 (by decide) (by decide) (by rw [hml]; rfl) (lenOf pd__28_29_5bLjava_2flang_2fObject_3b rfl) rfl (rest := []) (by show 2 * 0 + _ ≤ _; exact Nat.le_of_eq rfl) (hb hby d20_7) ?_
  intro v1 T1 L1 X1 hQ1
  obtain ⟨b1_0, k1_1, rfl, Nq1, K1, ge1_0, q1_0, q1_1, q1_2, q1_3, q1_4, q1_5, q1_6⟩ := hQ1
  have N1 := Fr.app N0 Nq1
  have O1' := O0.keep K1 (allS h_4 all0)
  show own_Go p e below Φ T1 (mkF m 10 #[.val (.ref a1), .val (.ref a2), .val (.ref g_DEFAULTCAPACITY_EMPTY_ELEMENTDATA), .val (.int (0 : Int32))] [(.ref b1_0)])
  refine own_k (T' := T1) (g' := (mkF m 11 #[.val (.ref a1), .val (.ref a2), .val (.ref b1_0), .val (.int (0 : Int32))] [])) (fun _ k_ => XS.astoreN X1.here hx rfl (hb hby d20_10) rfl rfl (l' := #[.val (.ref a1), .val (.ref a2), .val (.ref b1_0), .val (.int (0 : Int32))]) rfl k_) ?_
  refine own_k (T' := T1) (g' := (mkF m 12 #[.val (.ref a1), .val (.ref a2), .val (.ref b1_0), .val (.int (0 : Int32))] [(.ref b1_0)])) (fun _ k_ => XS.aloadN X1.here hx rfl (hb hby d20_11) rfl rfl  k_) ?_
  refine own_k (T' := T1) (g' := (mkF m 13 #[.val (.ref a1), .val (.ref a2), .val (.ref b1_0), .val (.int (0 : Int32))] [(.int (0 : Int32)), (.ref b1_0)])) (fun _ k_ => XS.iloadN X1.here hx rfl (hb hby d20_12) rfl  k_) ?_
  refine own_k (T' := T1) (g' := (mkF m 14 #[.val (.ref a1), .val (.ref a2), .val (.ref b1_0), .val (.int (0 : Int32))] [(.ref a2), (.int (0 : Int32)), (.ref b1_0)])) (fun _ k_ => XS.aloadN X1.here hx rfl (hb hby d20_13) rfl rfl  k_) ?_
  obtain ⟨T2, h2, X2, e2, W2, V2, st2⟩ := own_aastore (pc := 14) (Ls := #[.val (.ref a1), .val (.ref a2), .val (.ref b1_0), .val (.int (0 : Int32))]) (rest := []) X1 hx hZ rfl q1_4 rfl (j := (0 : Int32)) (v := (.ref a2)) ⟨by decide, by decide⟩ rfl (fun cl A q => Sto.ofV A q q1_5 (Ins.of_exa (h_6.keep K1) (hw _ (List.mem_of_getElem? (i := 133) rfl)))) 0 rfl (Nat.le_of_ble_eq_true rfl) (hb hby d20_14)
  have V2 : Arv Z h2 b1_0 k1_1 (.object "java/lang/Object") (10 : Int32) [(.ref a2), .null, .null, .null, .null, .null, .null, .null, .null, .null] .null := V2
  have O2' := O1'.wr W2 (Nat.le_trans O0.2.1 ge1_0)
  have N2 := Fr.snoc X2 N1 (Nat.le_trans O0.2.1 ge1_0)
  refine own_k (T' := T2) (g' := (mkF m 15 #[.val (.ref a1), .val (.ref a2), .val (.ref b1_0), .val (.int (0 : Int32))] [])) st2 ?_
  refine own_k (T' := T2) (g' := (mkF m 16 #[.val (.ref a1), .val (.ref a2), .val (.ref b1_0), .val (.int (0 : Int32))] [(.ref a1)])) (fun _ k_ => XS.aloadN X2.here hx rfl (hb hby d20_15) rfl rfl  k_) ?_
  refine own_k (T' := T2) (g' := (mkF m 17 #[.val (.ref a1), .val (.ref a2), .val (.ref b1_0), .val (.int (0 : Int32))] [(.int (0 : Int32)), (.ref a1)])) (fun _ k_ => XS.iloadN X2.here hx rfl (hb hby d20_16) rfl  k_) ?_
  refine own_k (T' := T2) (g' := (mkF m 18 #[.val (.ref a1), .val (.ref a2), .val (.ref b1_0), .val (.int (0 : Int32))] [(.int (1 : Int32)), (.int (0 : Int32)), (.ref a1)])) (fun _ k_ => XS.iconst X2.here hx rfl (hb hby d20_17) k_) ?_
  refine own_k (T' := T2) (g' := (mkF m 19 #[.val (.ref a1), .val (.ref a2), .val (.ref b1_0), .val (.int (0 : Int32))] [(.int ((0 : Int32) + (1 : Int32))), (.ref a1)])) (fun _ k_ => XS.iadd X2.here hx rfl (hb hby d20_18) rfl k_) ?_
  rw [show ((0 : Int32) + (1 : Int32)) = (1 : Int32) from by decide]
  have f3 := (q1_3.other W2 (Or.inl (Nat.ne_of_lt (Nat.lt_of_lt_of_le h_3.lt ge1_0))))
  obtain ⟨T4, h4, X4, e4, W4, st4⟩ := putF X2 hx hZ hown (host := "") (Or.inl (hw _ (List.mem_of_getElem? (i := 110) rfl))) Via.refl e2 f3 (q1_0.wr W2) (Or.inl (hw _ (List.mem_of_getElem? (i := 111) rfl))) (hw _ (List.mem_of_getElem? (i := 80) rfl)) (ty := .int) (by decide) rfl rfl (g := (mkF m 19 #[.val (.ref a1), .val (.ref a2), .val (.ref b1_0), .val (.int (0 : Int32))] [(.int (1 : Int32)), (.ref a1)])) rfl rfl (hb hby d20_19)
  have w4 := Fld.same W4 f3
  have O4' := O2'.wr W4 h_4
  have N4 := Fr.snoc X4 N2 h_4
  refine own_k (T' := T4) (g' := (mkF m 22 #[.val (.ref a1), .val (.ref a2), .val (.ref b1_0), .val (.int (0 : Int32))] [])) st4 ?_
  have kp0 : Keep h0 h0 [a1] := Keep.refl h0 [a1]
  have kp1 : Keep h0 T1.heap [a1] := kp0.trans K1 (allS (Or.inl (List.mem_of_getElem? (i := 0) rfl)) all0)
  have kp2 : Keep h0 h2 [a1] := kp1.wr W2 (Or.inr (Nat.le_trans kp0.1 ge1_0))
  have kp3 : Keep h0 h4 [a1] := kp2.wr W4 (Or.inl (List.mem_of_getElem? (i := 0) rfl))
  have f5 := ((q1_1.other W2 (Or.inl (Nat.ne_of_lt (Nat.lt_of_lt_of_le h_3.lt ge1_0)))).other W4 (Or.inr (slot_ne (Or.inl (hw _ (List.mem_of_getElem? (i := 102) rfl))) (Or.inl (hw _ (List.mem_of_getElem? (i := 111) rfl))) (by decide) (t := (.array (.object "java/lang/Object"))) (t' := .int) (by decide) (by decide))))
  have f6 := ((q1_2.other W2 (Or.inl (Nat.ne_of_lt (Nat.lt_of_lt_of_le h_3.lt ge1_0)))).other W4 (Or.inr (slot_ne (Or.inl (hw _ (List.mem_of_getElem? (i := 99) rfl))) (Or.inl (hw _ (List.mem_of_getElem? (i := 111) rfl))) (by decide) (t := .int) (t' := .int) (by decide) (by decide))))
  have f7 := (V2.other W4 (Ne.symm (Nat.ne_of_lt (Nat.lt_of_lt_of_le h_3.lt ge1_0))))
  exact own_ret0 X4 hx hret hlk (hb hby d20_22) hF (by rw [e4]; exact ⟨b1_0, k1_1, rfl, N4, kp3, (Nat.le_trans kp0.1 ge1_0), ((q1_0.wr W2).wr W4), f5, f6, w4, f7, q1_5, ((q1_6.wr W2).wr W4)⟩) (by decide) (by decide)
theorem d19_23 : decode jdk_38_method_25_code 23 = .ok (.iconst 1, 1) := by decide +kernel
theorem d19_24 : decode jdk_38_method_25_code 24 = .ok (.ireturn, 1) := by decide +kernel
set_option maxRecDepth 65536 in
set_option maxHeartbeats 40000000 in
theorem rm_add_22 (l : Launch) (Z : State) (a0 : Array Value) (g_COMPACT_STRINGS : Int32) (g_SIOOBE_FORMATTER : Value) (g_DEFAULTCAPACITY_EMPTY_ELEMENTDATA : Addr) (g_EMPTY : Addr) (g_EMPTY_LIST : Addr) (gk_DEFAULTCAPACITY_EMPTY_ELEMENTDATA : ClassId) (g_NONE : Addr) (g_mir : Addr) (hW : own_W Z a0 g_COMPACT_STRINGS g_SIOOBE_FORMATTER g_DEFAULTCAPACITY_EMPTY_ELEMENTDATA g_EMPTY g_EMPTY_LIST gk_DEFAULTCAPACITY_EMPTY_ELEMENTDATA g_NONE g_mir) (a1 : Addr) (a2 : Addr) (h0 : Heap) (O0 : Old Z Z.heap.size h0) (h_1 : Fld Z h0 a1 "java/util/AbstractList" "modCount" "I" (.int (0 : Int32))) (h_2 : Exa Z h0 a1 "java/util/ArrayList") (h_3 : Z.heap.size ≤ a1) (h_4 : Fld Z h0 a1 "java/util/ArrayList" "elementData" "[Ljava/lang/Object;" (.ref g_DEFAULTCAPACITY_EMPTY_ELEMENTDATA)) (h_5 : Fld Z h0 a1 "java/util/ArrayList" "size" "I" (.int (0 : Int32))) (h_6 : Exa Z h0 a2 "java/lang/String") :
    own_Met l Z (⟨"java/util/ArrayList", "add", "(Ljava/lang/Object;)Z"⟩ : MethodName) jdk_38_method_25_code 2 (some .boolean) ({ frames := 4, cells := 1, slots := 10, locals := 56 } : Room) #[(.ref a1), (.ref a2)] h0 (fun v h L => ∃ (b7_0 : Addr) (k7_1 : ClassId), v = some (.int (1 : Int32)) ∧ Fr Z.heap.size L ∧ Keep h0 h [a1] ∧ h0.size ≤ b7_0 ∧ Exa Z h a1 "java/util/ArrayList" ∧ Fld Z h a1 "java/util/ArrayList" "elementData" "[Ljava/lang/Object;" (.ref b7_0) ∧ Fld Z h a1 "java/util/AbstractList" "modCount" "I" (.int (1 : Int32)) ∧ Fld Z h a1 "java/util/ArrayList" "size" "I" (.int (1 : Int32)) ∧ Arv Z h b7_0 k7_1 (.object "java/lang/Object") (10 : Int32) [(.ref a2), .null, .null, .null, .null, .null, .null, .null, .null, .null] .null ∧ Ovr Z k7_1 "java/lang/Object" ∧ Exa Z h b7_0 "[Ljava/lang/Object;") := by
  have hW_ := hW
  obtain ⟨hw, S_g_COMPACT_STRINGS, P_g_COMPACT_STRINGS, R_g_SIOOBE_FORMATTER, S_g_SIOOBE_FORMATTER, S_g__assertionsDisabled, S_g_DEFAULTCAPACITY_EMPTY_ELEMENTDATA, E_g_DEFAULTCAPACITY_EMPTY_ELEMENTDATA, S_g_EMPTY, E_g_EMPTY, S_g_EMPTY_LIST, E_g_EMPTY_LIST, V_g_DEFAULTCAPACITY_EMPTY_ELEMENTDATA, F_g_EMPTY_LIST_allowNulls, S_g_NONE, E_g_NONE, F_g_NONE_owner, M_mir⟩ := hW_
  refine own_met (plainFor_of_name pn_java_util_ArrayList) ?_
  intro p e s m below meth cc_ s₁ Φ hF X0 hx hby hml hZ hown hnm hret hlk e0
  have N0 := Fr.nil Z.heap.size
  refine own_k (T' := s₁) (g' := (mkF m 0 #[.val (.ref a1), .val (.ref a2)] [])) (fun _ k_ => castTop (ef_19_RR m a1 a2) k_) ?_
  refine own_k (T' := s₁) (g' := (mkF m 1 #[.val (.ref a1), .val (.ref a2)] [(.ref a1)])) (fun _ k_ => XS.aloadN X0.here hx rfl (hb hby d19_0) rfl rfl  k_) ?_
  refine own_k (T' := s₁) (g' := (mkF m 2 #[.val (.ref a1), .val (.ref a2)] [(.ref a1), (.ref a1)])) (fun _ k_ => XS.dup X0.here hx rfl (hb hby d19_1) rfl rfl k_) ?_
  obtain ⟨T1, X1, e1, st1⟩ := getF X0 hx hZ hown (host := "") (Or.inl (hw _ (List.mem_of_getElem? (i := 108) rfl))) (Via.of (hw _ (List.mem_of_getElem? (i := 109) rfl))) e0 h_1 (g := (mkF m 2 #[.val (.ref a1), .val (.ref a2)] [(.ref a1), (.ref a1)])) rfl rfl (hb hby d19_2)
  refine own_k (T' := T1) (g' := (mkF m 5 #[.val (.ref a1), .val (.ref a2)] [(.int (0 : Int32)), (.ref a1)])) st1 ?_
  refine own_k (T' := T1) (g' := (mkF m 6 #[.val (.ref a1), .val (.ref a2)] [(.int (1 : Int32)), (.int (0 : Int32)), (.ref a1)])) (fun _ k_ => XS.iconst X1.here hx rfl (hb hby d19_5) k_) ?_
  refine own_k (T' := T1) (g' := (mkF m 7 #[.val (.ref a1), .val (.ref a2)] [(.int ((0 : Int32) + (1 : Int32))), (.ref a1)])) (fun _ k_ => XS.iadd X1.here hx rfl (hb hby d19_6) rfl k_) ?_
  rw [show ((0 : Int32) + (1 : Int32)) = (1 : Int32) from by decide]
  obtain ⟨T2, h2, X2, e2, W2, st2⟩ := putF X1 hx hZ hown (host := "") (Or.inl (hw _ (List.mem_of_getElem? (i := 108) rfl))) (Via.of (hw _ (List.mem_of_getElem? (i := 109) rfl))) e1 h_1 h_2 (Or.inl (hw _ (List.mem_of_getElem? (i := 99) rfl))) (hw _ (List.mem_of_getElem? (i := 80) rfl)) (ty := .int) (by decide) rfl rfl (g := (mkF m 7 #[.val (.ref a1), .val (.ref a2)] [(.int (1 : Int32)), (.ref a1)])) rfl rfl (hb hby d19_7)
  have w2 := Fld.same W2 h_1
  have O2' := O0.wr W2 h_3
  have N2 := Fr.snoc X2 N0 h_3
  refine own_k (T' := T2) (g' := (mkF m 10 #[.val (.ref a1), .val (.ref a2)] [])) st2 ?_
  refine own_k (T' := T2) (g' := (mkF m 11 #[.val (.ref a1), .val (.ref a2)] [(.ref a1)])) (fun _ k_ => XS.aloadN X2.here hx rfl (hb hby d19_10) rfl rfl  k_) ?_
  refine own_k (T' := T2) (g' := (mkF m 12 #[.val (.ref a1), .val (.ref a2)] [(.ref a2), (.ref a1)])) (fun _ k_ => XS.aloadN X2.here hx rfl (hb hby d19_11) rfl rfl  k_) ?_
  refine own_k (T' := T2) (g' := (mkF m 13 #[.val (.ref a1), .val (.ref a2)] [(.ref a1), (.ref a2), (.ref a1)])) (fun _ k_ => XS.aloadN X2.here hx rfl (hb hby d19_12) rfl rfl  k_) ?_
  have f3 := (h_4.other W2 (Or.inr (slot_ne (Or.inl (hw _ (List.mem_of_getElem? (i := 102) rfl))) (Or.inl (hw _ (List.mem_of_getElem? (i := 99) rfl))) (by decide) (t := (.array (.object "java/lang/Object"))) (t' := .int) (by decide) (by decide))))
  obtain ⟨T4, X4, e4, st4⟩ := getF X2 hx hZ hown (host := "") (Or.inl (hw _ (List.mem_of_getElem? (i := 101) rfl))) Via.refl e2 f3 (g := (mkF m 13 #[.val (.ref a1), .val (.ref a2)] [(.ref a1), (.ref a2), (.ref a1)])) rfl rfl (hb hby d19_13)
  refine own_k (T' := T4) (g' := (mkF m 16 #[.val (.ref a1), .val (.ref a2)] [(.ref g_DEFAULTCAPACITY_EMPTY_ELEMENTDATA), (.ref a2), (.ref a1)])) st4 ?_
  refine own_k (T' := T4) (g' := (mkF m 17 #[.val (.ref a1), .val (.ref a2)] [(.ref a1), (.ref g_DEFAULTCAPACITY_EMPTY_ELEMENTDATA), (.ref a2), (.ref a1)])) (fun _ k_ => XS.aloadN X4.here hx rfl (hb hby d19_16) rfl rfl  k_) ?_
  have f5 := (h_5.other W2 (Or.inr (slot_ne (Or.inl (hw _ (List.mem_of_getElem? (i := 111) rfl))) (Or.inl (hw _ (List.mem_of_getElem? (i := 99) rfl))) (by decide) (t := .int) (t' := .int) (by decide) (by decide))))
  obtain ⟨T6, X6, e6, st6⟩ := getF X4 hx hZ hown (host := "") (Or.inl (hw _ (List.mem_of_getElem? (i := 110) rfl))) Via.refl e4 f5 (g := (mkF m 17 #[.val (.ref a1), .val (.ref a2)] [(.ref a1), (.ref g_DEFAULTCAPACITY_EMPTY_ELEMENTDATA), (.ref a2), (.ref a1)])) rfl rfl (hb hby d19_17)
  refine own_k (T' := T6) (g' := (mkF m 20 #[.val (.ref a1), .val (.ref a2)] [(.int (0 : Int32)), (.ref g_DEFAULTCAPACITY_EMPTY_ELEMENTDATA), (.ref a2), (.ref a1)])) st6 ?_
  refine own_callP X6 hx hZ (y := (⟨"java/util/ArrayList", "add", "(Ljava/lang/Object;[Ljava/lang/Object;I)V"⟩ : MethodName)) hown (hw _ (List.mem_of_getElem? (i := 112) rfl)) (hw _ (List.mem_of_getElem? (i := 113) rfl)) (hw _ (List.mem_of_getElem? (i := 114) rfl)) (hw _ (List.mem_of_getElem? (i := 116) rfl)) (hw _ (List.mem_of_getElem? (i := 81) rfl)) (hw _ (List.mem_of_getElem? (i := 80) rfl)) (by decide) (al := [(.ref a2), (.ref g_DEFAULTCAPACITY_EMPTY_ELEMENTDATA), (.int (0 : Int32))]) (h_2.wr W2) (rm_add_21 l Z a0 g_COMPACT_STRINGS g_SIOOBE_FORMATTER g_DEFAULTCAPACITY_EMPTY_ELEMENTDATA g_EMPTY g_EMPTY_LIST gk_DEFAULTCAPACITY_EMPTY_ELEMENTDATA g_NONE g_mir hW a1 a2 h2 O2' f5 f3 (h_2.wr W2) h_3 w2 (h_6.wr W2)) 0 (by decide) (by decide) e6 (by decide) (by decide) (by rw [hml]; rfl) (lenOf pd__28Ljava_2flang_2fObject_3b_5bLjava_2flang_2fObject_3bI_29V rfl) rfl (rest := []) (by show 2 * 0 + _ ≤ _; exact Nat.le_of_eq rfl) (hb hby d19_20) ?_
  intro v7 T7 L7 X7 hQ7
  obtain ⟨b7_0, k7_1, rfl, Nq7, K7, ge7_0, q7_0, q7_1, q7_2, q7_3, q7_4, q7_5, q7_6⟩ := hQ7
  have N7 := Fr.app N2 Nq7
  have O7' := O2'.keep K7 (allS h_3 all0)
  show own_Go p e below Φ T7 (mkF m 23 #[.val (.ref a1), .val (.ref a2)] [])
  refine own_k (T' := T7) (g' := (mkF m 24 #[.val (.ref a1), .val (.ref a2)] [(.int (1 : Int32))])) (fun _ k_ => XS.iconst X7.here hx rfl (hb hby d19_23) k_) ?_
  have kp0 : Keep h0 h0 [a1] := Keep.refl h0 [a1]
  have kp1 : Keep h0 h2 [a1] := kp0.wr W2 (Or.inl (List.mem_of_getElem? (i := 0) rfl))
  have kp2 : Keep h0 T7.heap [a1] := kp1.trans K7 (allS (Or.inl (List.mem_of_getElem? (i := 0) rfl)) all0)
  exact own_retN X7 hx (t := .boolean) hret (by simp) hlk (hb hby d19_24) hF (⟨b7_0, k7_1, by rw [show nar .boolean (1 : Int32) = (1 : Int32) from by decide], N7, kp2, (Nat.le_trans kp1.1 ge7_0), q7_0, q7_1, q7_2, q7_3, q7_4, q7_5, q7_6⟩) (by decide) (by decide)
theorem pd__28Ljava_2flang_2fString_3bLjava_2futil_2fList_3b_29V : parseMethodDescriptor "(Ljava/lang/String;Ljava/util/List;)V" = some ⟨[(.object "java/lang/String"), (.object "java/util/List")], none⟩ := by decide +kernel
theorem ef_24_RRR (m : MethodId) (x0 : Addr) (x1 : Addr) (x2 : Addr)  : entryFrame m #[(.ref x0), (.ref x1), (.ref x2)] 3 = mkF m 0 #[.val (.ref x0), .val (.ref x1), .val (.ref x2)] [] := by first | (simp [entryFrame, mkF, argsToLocals, Value.category]; done) | rfl
theorem pn_com_example_restoral_restoral_engine_RowName : plainName "com/example/restoral/restoral/engine/RowName" = true := by first | (simp [plainName, overriddenIn]; done) | decide +kernel
theorem d24_0 : decode prog_21_method_1_code 0 = .ok (.aload_n 0, 1) := by decide +kernel
theorem d24_1 : decode prog_21_method_1_code 1 = .ok (.invokespecial 1, 3) := by decide +kernel
theorem ef_25_R (m : MethodId) (x0 : Addr)  : entryFrame m #[(.ref x0)] 1 = mkF m 0 #[.val (.ref x0)] [] := by first | (simp [entryFrame, mkF, argsToLocals, Value.category]; done) | rfl
theorem pn_java_lang_Record : plainName "java/lang/Record" = true := by first | (simp [plainName, overriddenIn]; done) | decide +kernel
theorem d25_0 : decode jdk_30_method_1_code 0 = .ok (.aload_n 0, 1) := by decide +kernel
theorem d25_1 : decode jdk_30_method_1_code 1 = .ok (.invokespecial 1, 3) := by decide +kernel
theorem d25_4 : decode jdk_30_method_1_code 4 = .ok (.return_, 1) := by decide +kernel
set_option maxRecDepth 65536 in
set_option maxHeartbeats 40000000 in
theorem rm_init_23 (l : Launch) (Z : State) (a0 : Array Value) (g_COMPACT_STRINGS : Int32) (g_SIOOBE_FORMATTER : Value) (g_DEFAULTCAPACITY_EMPTY_ELEMENTDATA : Addr) (g_EMPTY : Addr) (g_EMPTY_LIST : Addr) (gk_DEFAULTCAPACITY_EMPTY_ELEMENTDATA : ClassId) (g_NONE : Addr) (g_mir : Addr) (hW : own_W Z a0 g_COMPACT_STRINGS g_SIOOBE_FORMATTER g_DEFAULTCAPACITY_EMPTY_ELEMENTDATA g_EMPTY g_EMPTY_LIST gk_DEFAULTCAPACITY_EMPTY_ELEMENTDATA g_NONE g_mir) (a1 : Addr) (h0 : Heap) (O0 : Old Z Z.heap.size h0)  :
    own_Met l Z (⟨"java/lang/Record", "<init>", "()V"⟩ : MethodName) jdk_30_method_1_code 1 none ({ frames := 1, cells := 0, slots := 0, locals := 12 } : Room) #[(.ref a1)] h0 (fun v h L => v = none ∧ Fr Z.heap.size L ∧ h = h0) := by
  have hW_ := hW
  obtain ⟨hw, S_g_COMPACT_STRINGS, P_g_COMPACT_STRINGS, R_g_SIOOBE_FORMATTER, S_g_SIOOBE_FORMATTER, S_g__assertionsDisabled, S_g_DEFAULTCAPACITY_EMPTY_ELEMENTDATA, E_g_DEFAULTCAPACITY_EMPTY_ELEMENTDATA, S_g_EMPTY, E_g_EMPTY, S_g_EMPTY_LIST, E_g_EMPTY_LIST, V_g_DEFAULTCAPACITY_EMPTY_ELEMENTDATA, F_g_EMPTY_LIST_allowNulls, S_g_NONE, E_g_NONE, F_g_NONE_owner, M_mir⟩ := hW_
  refine own_met (plainFor_of_name pn_java_lang_Record) ?_
  intro p e s m below meth cc_ s₁ Φ hF X0 hx hby hml hZ hown hnm hret hlk e0
  have N0 := Fr.nil Z.heap.size
  refine own_k (T' := s₁) (g' := (mkF m 0 #[.val (.ref a1)] [])) (fun _ k_ => castTop (ef_25_R m a1) k_) ?_
  refine own_k (T' := s₁) (g' := (mkF m 1 #[.val (.ref a1)] [(.ref a1)])) (fun _ k_ => XS.aloadN X0.here hx rfl (hb hby d25_0) rfl rfl  k_) ?_
  obtain ⟨T1, X1, e1, st1⟩ := initO X0 hx hZ hown (hw _ (List.mem_of_getElem? (i := 145) rfl)) (hw _ (List.mem_of_getElem? (i := 12) rfl)) (hw _ (List.mem_of_getElem? (i := 13) rfl)) e0 (g := (mkF m 1 #[.val (.ref a1)] [(.ref a1)])) rfl (by rw [hml]; rfl) rfl (hb hby d25_1) (by decide) (W := 0) (by show 2 * 0 + _ ≤ _; exact Nat.le_of_eq rfl) (by decide)
  refine own_k (T' := T1) (g' := (mkF m 4 #[.val (.ref a1)] [])) st1 ?_
  exact own_ret0 X1 hx hret hlk (hb hby d25_4) hF (by rw [e1]; exact ⟨rfl, N0, rfl⟩) (by decide) (by decide)
theorem d24_4 : decode prog_21_method_1_code 4 = .ok (.aload_n 2, 1) := by decide +kernel
theorem d24_5 : decode prog_21_method_1_code 5 = .ok (.invokestatic 7, 3) := by decide +kernel
theorem pd__28Ljava_2futil_2fCollection_3b_29Ljava_2futil_2fList_3b : parseMethodDescriptor "(Ljava/util/Collection;)Ljava/util/List;" = some ⟨[(.object "java/util/Collection")], some (.object "java/util/List")⟩ := by decide +kernel
theorem ef_26_R (m : MethodId) (x0 : Addr)  : entryFrame m #[(.ref x0)] 1 = mkF m 0 #[.val (.ref x0)] [] := by first | (simp [entryFrame, mkF, argsToLocals, Value.category]; done) | rfl
theorem pn_java_util_List : plainName "java/util/List" = true := by first | (simp [plainName, overriddenIn]; done) | decide +kernel
theorem d26_0 : decode jdk_40_method_48_code 0 = .ok (.aload_n 0, 1) := by decide +kernel
theorem d26_1 : decode jdk_40_method_48_code 1 = .ok (.invokestatic 112, 3) := by decide +kernel
theorem ef_27_R (m : MethodId) (x0 : Addr)  : entryFrame m #[(.ref x0)] 2 = mkF m 0 #[.val (.ref x0), .unset] [] := by first | (simp [entryFrame, mkF, argsToLocals, Value.category]; done) | rfl
theorem pn_java_util_ImmutableCollections : plainName "java/util/ImmutableCollections" = true := by first | (simp [plainName, overriddenIn]; done) | decide +kernel
theorem d27_0 : decode jdk_56_method_3_code 0 = .ok (.aload_n 0, 1) := by decide +kernel
theorem d27_1 : decode jdk_56_method_3_code 1 = .ok (.instanceof 10, 3) := by decide +kernel
theorem d27_4 : decode jdk_56_method_3_code 4 = .ok (.ifCond .ne 22, 3) := by decide +kernel
theorem d27_7 : decode jdk_56_method_3_code 7 = .ok (.aload_n 0, 1) := by decide +kernel
theorem d27_8 : decode jdk_56_method_3_code 8 = .ok (.instanceof 12, 3) := by decide +kernel
theorem d27_11 : decode jdk_56_method_3_code 11 = .ok (.ifCond .eq 20, 3) := by decide +kernel
theorem d27_31 : decode jdk_56_method_3_code 31 = .ok (.aload_n 0, 1) := by decide +kernel
theorem d27_32 : decode jdk_56_method_3_code 32 = .ok (.invokeinterface 20 1, 5) := by decide +kernel
theorem ef_28_R (m : MethodId) (x0 : Addr)  : entryFrame m #[(.ref x0)] 1 = mkF m 0 #[.val (.ref x0)] [] := by first | (simp [entryFrame, mkF, argsToLocals, Value.category]; done) | rfl
theorem d28_0 : decode jdk_38_method_9_code 0 = .ok (.aload_n 0, 1) := by decide +kernel
theorem d28_1 : decode jdk_38_method_9_code 1 = .ok (.getfield 48, 3) := by decide +kernel
theorem d28_4 : decode jdk_38_method_9_code 4 = .ok (.ifCond .ne 7, 3) := by decide +kernel
theorem d28_11 : decode jdk_38_method_9_code 11 = .ok (.iconst 0, 1) := by decide +kernel
theorem d28_12 : decode jdk_38_method_9_code 12 = .ok (.ireturn, 1) := by decide +kernel
set_option maxRecDepth 65536 in
set_option maxHeartbeats 40000000 in
theorem rm_isEmpty_24 (l : Launch) (Z : State) (a0 : Array Value) (g_COMPACT_STRINGS : Int32) (g_SIOOBE_FORMATTER : Value) (g_DEFAULTCAPACITY_EMPTY_ELEMENTDATA : Addr) (g_EMPTY : Addr) (g_EMPTY_LIST : Addr) (gk_DEFAULTCAPACITY_EMPTY_ELEMENTDATA : ClassId) (g_NONE : Addr) (g_mir : Addr) (hW : own_W Z a0 g_COMPACT_STRINGS g_SIOOBE_FORMATTER g_DEFAULTCAPACITY_EMPTY_ELEMENTDATA g_EMPTY g_EMPTY_LIST gk_DEFAULTCAPACITY_EMPTY_ELEMENTDATA g_NONE g_mir) (a1 : Addr) (h0 : Heap) (O0 : Old Z Z.heap.size h0) (h_1 : Fld Z h0 a1 "java/util/ArrayList" "size" "I" (.int (1 : Int32))) :
    own_Met l Z (⟨"java/util/ArrayList", "isEmpty", "()Z"⟩ : MethodName) jdk_38_method_9_code 1 (some .boolean) ({ frames := 0, cells := 0, slots := 0, locals := 0 } : Room) #[(.ref a1)] h0 (fun v h L => v = some (.int (0 : Int32)) ∧ Fr Z.heap.size L ∧ h = h0) := by
  have hW_ := hW
  obtain ⟨hw, S_g_COMPACT_STRINGS, P_g_COMPACT_STRINGS, R_g_SIOOBE_FORMATTER, S_g_SIOOBE_FORMATTER, S_g__assertionsDisabled, S_g_DEFAULTCAPACITY_EMPTY_ELEMENTDATA, E_g_DEFAULTCAPACITY_EMPTY_ELEMENTDATA, S_g_EMPTY, E_g_EMPTY, S_g_EMPTY_LIST, E_g_EMPTY_LIST, V_g_DEFAULTCAPACITY_EMPTY_ELEMENTDATA, F_g_EMPTY_LIST_allowNulls, S_g_NONE, E_g_NONE, F_g_NONE_owner, M_mir⟩ := hW_
  refine own_met (plainFor_of_name pn_java_util_ArrayList) ?_
  intro p e s m below meth cc_ s₁ Φ hF X0 hx hby hml hZ hown hnm hret hlk e0
  have N0 := Fr.nil Z.heap.size
  refine own_k (T' := s₁) (g' := (mkF m 0 #[.val (.ref a1)] [])) (fun _ k_ => castTop (ef_28_R m a1) k_) ?_
  refine own_k (T' := s₁) (g' := (mkF m 1 #[.val (.ref a1)] [(.ref a1)])) (fun _ k_ => XS.aloadN X0.here hx rfl (hb hby d28_0) rfl rfl  k_) ?_
  obtain ⟨T1, X1, e1, st1⟩ := getF X0 hx hZ hown (host := "") (Or.inl (hw _ (List.mem_of_getElem? (i := 110) rfl))) Via.refl e0 h_1 (g := (mkF m 1 #[.val (.ref a1)] [(.ref a1)])) rfl rfl (hb hby d28_1)
  refine own_k (T' := T1) (g' := (mkF m 4 #[.val (.ref a1)] [(.int (1 : Int32))])) st1 ?_
  refine own_k (T' := T1) (g' := (mkF m 11 #[.val (.ref a1)] [])) (fun _ k_ => XS.ifYes X1.here hx rfl (pc0 := 4) (pc' := 11) rfl (hb hby d28_4) rfl ((if0 _ _).trans (feq (by decide : ¬ ((1 : Int32) = (0 : Int32)))).2) (by decide) (by decide) k_) ?_
  refine own_k (T' := T1) (g' := (mkF m 12 #[.val (.ref a1)] [(.int (0 : Int32))])) (fun _ k_ => XS.iconst X1.here hx rfl (hb hby d28_11) k_) ?_
  exact own_retN X1 hx (t := .boolean) hret (by simp) hlk (hb hby d28_12) hF (by rw [e1]; exact ⟨by rw [show nar .boolean (0 : Int32) = (0 : Int32) from by decide], N0, rfl⟩) (by decide) (by decide)
theorem d27_37 : decode jdk_56_method_3_code 37 = .ok (.ifCond .eq 7, 3) := by decide +kernel
theorem d27_44 : decode jdk_56_method_3_code 44 = .ok (.aload_n 0, 1) := by decide +kernel
theorem d27_45 : decode jdk_56_method_3_code 45 = .ok (.invokeinterface 30 1, 5) := by decide +kernel
theorem ef_29_R (m : MethodId) (x0 : Addr)  : entryFrame m #[(.ref x0)] 1 = mkF m 0 #[.val (.ref x0)] [] := by first | (simp [entryFrame, mkF, argsToLocals, Value.category]; done) | rfl
theorem d29_0 : decode jdk_38_method_16_code 0 = .ok (.aload_n 0, 1) := by decide +kernel
theorem d29_1 : decode jdk_38_method_16_code 1 = .ok (.getfield 9, 3) := by decide +kernel
theorem d29_4 : decode jdk_38_method_16_code 4 = .ok (.aload_n 0, 1) := by decide +kernel
theorem d29_5 : decode jdk_38_method_16_code 5 = .ok (.getfield 48, 3) := by decide +kernel
theorem d29_8 : decode jdk_38_method_16_code 8 = .ok (.invokestatic 66, 3) := by decide +kernel
theorem pd__28_5bLjava_2flang_2fObject_3bI_29_5bLjava_2flang_2fObject_3b : parseMethodDescriptor "([Ljava/lang/Object;I)[Ljava/lang/Object;" = some ⟨[(.array (.object "java/lang/Object")), .int], some (.array (.object "java/lang/Object"))⟩ := by decide +kernel
theorem ef_30_RI (m : MethodId) (x0 : Addr) (x1 : Int32)  : entryFrame m #[(.ref x0), (.int x1)] 2 = mkF m 0 #[.val (.ref x0), .val (.int x1)] [] := by first | (simp [entryFrame, mkF, argsToLocals, Value.category]; done) | rfl
theorem pn_java_util_Arrays : plainName "java/util/Arrays" = true := by first | (simp [plainName, overriddenIn]; done) | decide +kernel
theorem d30_0 : decode jdk_65_method_119_code 0 = .ok (.aload_n 0, 1) := by decide +kernel
theorem d30_1 : decode jdk_65_method_119_code 1 = .ok (.iload_n 1, 1) := by decide +kernel
theorem d30_2 : decode jdk_65_method_119_code 2 = .ok (.aload_n 0, 1) := by decide +kernel
theorem d30_3 : decode jdk_65_method_119_code 3 = .ok (.invokevirtual 86, 3) := by decide +kernel
theorem d30_6 : decode jdk_65_method_119_code 6 = .ok (.invokestatic 300, 3) := by decide +kernel
theorem pd__28_5bLjava_2flang_2fObject_3bILjava_2flang_2fClass_3b_29_5bLjava_2flang_2fObject_3b : parseMethodDescriptor "([Ljava/lang/Object;ILjava/lang/Class;)[Ljava/lang/Object;" = some ⟨[(.array (.object "java/lang/Object")), .int, (.object "java/lang/Class")], some (.array (.object "java/lang/Object"))⟩ := by decide +kernel
theorem ef_31_RIR (m : MethodId) (x0 : Addr) (x1 : Int32) (x2 : Addr)  : entryFrame m #[(.ref x0), (.int x1), (.ref x2)] 4 = mkF m 0 #[.val (.ref x0), .val (.int x1), .val (.ref x2), .unset] [] := by first | (simp [entryFrame, mkF, argsToLocals, Value.category]; done) | rfl
theorem d31_0 : decode jdk_65_method_120_code 0 = .ok (.aload_n 2, 1) := by decide +kernel
theorem d31_1 : decode jdk_65_method_120_code 1 = .ok (.ldc 110, 2) := by decide +kernel
theorem d31_3 : decode jdk_65_method_120_code 3 = .ok (.if_acmp .ne 10, 3) := by decide +kernel
theorem d31_6 : decode jdk_65_method_120_code 6 = .ok (.iload_n 1, 1) := by decide +kernel
theorem d31_7 : decode jdk_65_method_120_code 7 = .ok (.anewarray 2, 3) := by decide +kernel
theorem d31_10 : decode jdk_65_method_120_code 10 = .ok (.goto 14, 3) := by decide +kernel
theorem d31_24 : decode jdk_65_method_120_code 24 = .ok (.astore_n 3, 1) := by decide +kernel
theorem d31_25 : decode jdk_65_method_120_code 25 = .ok (.aload_n 0, 1) := by decide +kernel
theorem d31_26 : decode jdk_65_method_120_code 26 = .ok (.iconst 0, 1) := by decide +kernel
theorem d31_27 : decode jdk_65_method_120_code 27 = .ok (.aload_n 3, 1) := by decide +kernel
theorem d31_28 : decode jdk_65_method_120_code 28 = .ok (.iconst 0, 1) := by decide +kernel
theorem d31_29 : decode jdk_65_method_120_code 29 = .ok (.aload_n 0, 1) := by decide +kernel
theorem d31_30 : decode jdk_65_method_120_code 30 = .ok (.arraylength, 1) := by decide +kernel
theorem d31_31 : decode jdk_65_method_120_code 31 = .ok (.iload_n 1, 1) := by decide +kernel
theorem d31_32 : decode jdk_65_method_120_code 32 = .ok (.invokestatic 304, 3) := by decide +kernel
theorem ef_32_II (m : MethodId) (x0 : Int32) (x1 : Int32)  : entryFrame m #[(.int x0), (.int x1)] 2 = mkF m 0 #[.val (.int x0), .val (.int x1)] [] := by first | (simp [entryFrame, mkF, argsToLocals, Value.category]; done) | rfl
theorem d32_0 : decode jdk_29_method_69_code 0 = .ok (.iload_n 0, 1) := by decide +kernel
theorem d32_1 : decode jdk_29_method_69_code 1 = .ok (.iload_n 1, 1) := by decide +kernel
theorem d32_2 : decode jdk_29_method_69_code 2 = .ok (.if_icmp .gt 7, 3) := by decide +kernel
theorem d32_9 : decode jdk_29_method_69_code 9 = .ok (.iload_n 1, 1) := by decide +kernel
theorem d32_10 : decode jdk_29_method_69_code 10 = .ok (.ireturn, 1) := by decide +kernel
set_option maxRecDepth 65536 in
set_option maxHeartbeats 40000000 in
theorem rm_min_25 (l : Launch) (Z : State) (a0 : Array Value) (g_COMPACT_STRINGS : Int32) (g_SIOOBE_FORMATTER : Value) (g_DEFAULTCAPACITY_EMPTY_ELEMENTDATA : Addr) (g_EMPTY : Addr) (g_EMPTY_LIST : Addr) (gk_DEFAULTCAPACITY_EMPTY_ELEMENTDATA : ClassId) (g_NONE : Addr) (g_mir : Addr) (hW : own_W Z a0 g_COMPACT_STRINGS g_SIOOBE_FORMATTER g_DEFAULTCAPACITY_EMPTY_ELEMENTDATA g_EMPTY g_EMPTY_LIST gk_DEFAULTCAPACITY_EMPTY_ELEMENTDATA g_NONE g_mir)  (h0 : Heap) (O0 : Old Z Z.heap.size h0)  :
    own_Met l Z (⟨"java/lang/Math", "min", "(II)I"⟩ : MethodName) jdk_29_method_69_code 2 (some .int) ({ frames := 0, cells := 0, slots := 0, locals := 0 } : Room) #[(.int (10 : Int32)), (.int (1 : Int32))] h0 (fun v h L => v = some (.int (1 : Int32)) ∧ Fr Z.heap.size L ∧ h = h0) := by
  have hW_ := hW
  obtain ⟨hw, S_g_COMPACT_STRINGS, P_g_COMPACT_STRINGS, R_g_SIOOBE_FORMATTER, S_g_SIOOBE_FORMATTER, S_g__assertionsDisabled, S_g_DEFAULTCAPACITY_EMPTY_ELEMENTDATA, E_g_DEFAULTCAPACITY_EMPTY_ELEMENTDATA, S_g_EMPTY, E_g_EMPTY, S_g_EMPTY_LIST, E_g_EMPTY_LIST, V_g_DEFAULTCAPACITY_EMPTY_ELEMENTDATA, F_g_EMPTY_LIST_allowNulls, S_g_NONE, E_g_NONE, F_g_NONE_owner, M_mir⟩ := hW_
  refine own_met (Jvm.Free.JP.mathPlain rfl (by decide +kernel)) ?_
  intro p e s m below meth cc_ s₁ Φ hF X0 hx hby hml hZ hown hnm hret hlk e0
  have N0 := Fr.nil Z.heap.size
  refine own_k (T' := s₁) (g' := (mkF m 0 #[.val (.int (10 : Int32)), .val (.int (1 : Int32))] [])) (fun _ k_ => castTop (ef_32_II m (10 : Int32) (1 : Int32)) k_) ?_
  refine own_k (T' := s₁) (g' := (mkF m 1 #[.val (.int (10 : Int32)), .val (.int (1 : Int32))] [(.int (10 : Int32))])) (fun _ k_ => XS.iloadN X0.here hx rfl (hb hby d32_0) rfl  k_) ?_
  refine own_k (T' := s₁) (g' := (mkF m 2 #[.val (.int (10 : Int32)), .val (.int (1 : Int32))] [(.int (1 : Int32)), (.int (10 : Int32))])) (fun _ k_ => XS.iloadN X0.here hx rfl (hb hby d32_1) rfl  k_) ?_
  refine own_k (T' := s₁) (g' := (mkF m 9 #[.val (.int (10 : Int32)), .val (.int (1 : Int32))] [])) (fun _ k_ => XS.icmpYes X0.here hx rfl (pc0 := 2) (pc' := 9) rfl (hb hby d32_2) rfl ((tlt (by decide : ((1 : Int32) < (10 : Int32)))).2.2.1) (by decide) (by decide) k_) ?_
  refine own_k (T' := s₁) (g' := (mkF m 10 #[.val (.int (10 : Int32)), .val (.int (1 : Int32))] [(.int (1 : Int32))])) (fun _ k_ => XS.iloadN X0.here hx rfl (hb hby d32_9) rfl  k_) ?_
  exact own_retI X0 hx hret hlk (hb hby d32_10) hF (by rw [e0]; exact ⟨rfl, N0, rfl⟩) (by decide) (by decide)
theorem d31_35 : decode jdk_65_method_120_code 35 = .ok (.invokestatic 150, 3) := by decide +kernel
theorem d31_38 : decode jdk_65_method_120_code 38 = .ok (.aload_n 3, 1) := by decide +kernel
theorem d31_39 : decode jdk_65_method_120_code 39 = .ok (.areturn, 1) := by decide +kernel
set_option maxRecDepth 65536 in
set_option maxHeartbeats 40000000 in
theorem rm_copyOf_26 (l : Launch) (Z : State) (a0 : Array Value) (g_COMPACT_STRINGS : Int32) (g_SIOOBE_FORMATTER : Value) (g_DEFAULTCAPACITY_EMPTY_ELEMENTDATA : Addr) (g_EMPTY : Addr) (g_EMPTY_LIST : Addr) (gk_DEFAULTCAPACITY_EMPTY_ELEMENTDATA : ClassId) (g_NONE : Addr) (g_mir : Addr) (hW : own_W Z a0 g_COMPACT_STRINGS g_SIOOBE_FORMATTER g_DEFAULTCAPACITY_EMPTY_ELEMENTDATA g_EMPTY g_EMPTY_LIST gk_DEFAULTCAPACITY_EMPTY_ELEMENTDATA g_NONE g_mir) (a1 : Addr) (q2 : ClassId) (a3 : Addr) (h0 : Heap) (O0 : Old Z Z.heap.size h0) (h_1 : Arv Z h0 a1 q2 (.object "java/lang/Object") (10 : Int32) [(.ref a3), .null, .null, .null, .null, .null, .null, .null, .null, .null] .null) (h_2 : Exa Z h0 a3 "java/lang/String") :
    own_Met l Z (⟨"java/util/Arrays", "copyOf", "([Ljava/lang/Object;ILjava/lang/Class;)[Ljava/lang/Object;"⟩ : MethodName) jdk_65_method_120_code 4 (some (.array (.object "java/lang/Object"))) ({ frames := 1, cells := 1, slots := 1, locals := 18 } : Room) #[(.ref a1), (.int (1 : Int32)), (.ref g_mir)] h0 (fun v h L => ∃ (b2 : Addr) (k2 : ClassId), v = some (.ref b2) ∧ Fr Z.heap.size L ∧ Keep h0 h [] ∧ h0.size ≤ b2 ∧ Arv Z h b2 k2 (.object "java/lang/Object") (1 : Int32) [(.ref a3)] .null ∧ Ovr Z k2 "java/lang/Object" ∧ Exa Z h b2 "[Ljava/lang/Object;") := by
  have hW_ := hW
  obtain ⟨hw, S_g_COMPACT_STRINGS, P_g_COMPACT_STRINGS, R_g_SIOOBE_FORMATTER, S_g_SIOOBE_FORMATTER, S_g__assertionsDisabled, S_g_DEFAULTCAPACITY_EMPTY_ELEMENTDATA, E_g_DEFAULTCAPACITY_EMPTY_ELEMENTDATA, S_g_EMPTY, E_g_EMPTY, S_g_EMPTY_LIST, E_g_EMPTY_LIST, V_g_DEFAULTCAPACITY_EMPTY_ELEMENTDATA, F_g_EMPTY_LIST_allowNulls, S_g_NONE, E_g_NONE, F_g_NONE_owner, M_mir⟩ := hW_
  refine own_met (plainFor_of_name pn_java_util_Arrays) ?_
  intro p e s m below meth cc_ s₁ Φ hF X0 hx hby hml hZ hown hnm hret hlk e0
  have N0 := Fr.nil Z.heap.size
  refine own_k (T' := s₁) (g' := (mkF m 0 #[.val (.ref a1), .val (.int (1 : Int32)), .val (.ref g_mir), .unset] [])) (fun _ k_ => castTop (ef_31_RIR m a1 (1 : Int32) g_mir) k_) ?_
  refine own_k (T' := s₁) (g' := (mkF m 1 #[.val (.ref a1), .val (.int (1 : Int32)), .val (.ref g_mir), .unset] [(.ref g_mir)])) (fun _ k_ => XS.aloadN X0.here hx rfl (hb hby d31_0) rfl rfl  k_) ?_
  obtain ⟨T1, X1, e1, st1⟩ := own_ldcM X0 hx hZ hown (hw _ (List.mem_of_getElem? (i := 190) rfl)) e0 M_mir (g := (mkF m 1 #[.val (.ref a1), .val (.int (1 : Int32)), .val (.ref g_mir), .unset] [(.ref g_mir)])) rfl (hb hby d31_1)
  refine own_k (T' := T1) (g' := (mkF m 3 #[.val (.ref a1), .val (.int (1 : Int32)), .val (.ref g_mir), .unset] [(.ref g_mir), (.ref g_mir)])) st1 ?_
  refine own_k (T' := T1) (g' := (mkF m 6 #[.val (.ref a1), .val (.int (1 : Int32)), .val (.ref g_mir), .unset] [])) (fun _ k_ => Jvm.RoadKit.acmp (g := (mkF m 3 #[.val (.ref a1), .val (.int (1 : Int32)), .val (.ref g_mir), .unset] [(.ref g_mir), (.ref g_mir)])) X1 hx rfl rfl rfl (pc0 := 3) (pc' := 6) (same := true) rfl (hb hby d31_3) rfl (decide_eq_true rfl) (by decide) (by decide) k_) ?_
  refine own_k (T' := T1) (g' := (mkF m 7 #[.val (.ref a1), .val (.int (1 : Int32)), .val (.ref g_mir), .unset] [(.int (1 : Int32))])) (fun _ k_ => XS.iloadN X1.here hx rfl (hb hby d31_6) rfl  k_) ?_
  obtain ⟨T2, h2, k2, X2, e2, E2, V2, A2, O2, st2⟩ := own_newref (pc := 7) (Ls := #[.val (.ref a1), .val (.int (1 : Int32)), .val (.ref g_mir), .unset]) (rest := []) X1 hx hZ (C := "java/lang/Object") hown (hw _ (List.mem_of_getElem? (i := 191) rfl)) (hw _ (List.mem_of_getElem? (i := 132) rfl)) e1 (hb hby d31_7) (n := (1 : Int32)) (by decide) (cap := 1) (by decide) (by decide) (by decide) (by decide) (ad := "[Ljava/lang/Object;") (by decide)
  obtain ⟨b2, g2⟩ : ∃ z, z = h0.size := ⟨_, rfl⟩
  rw [← g2] at V2 A2 st2
  have O2' := O0.ext E2
  have V2 : Arv Z h2 b2 k2 (.object "java/lang/Object") (1 : Int32) [.null] .null := V2
  refine own_k (T' := T2) (g' := (mkF m 10 #[.val (.ref a1), .val (.int (1 : Int32)), .val (.ref g_mir), .unset] [(.ref b2)])) st2 ?_
  refine own_k (T' := T2) (g' := (mkF m 24 #[.val (.ref a1), .val (.int (1 : Int32)), .val (.ref g_mir), .unset] [(.ref b2)])) (fun _ k_ => XS.goto X2.here hx rfl (pc0 := 10) (pc' := 24) rfl (hb hby d31_10) (by decide) (by decide) k_) ?_
  refine own_k (T' := T2) (g' := (mkF m 25 #[.val (.ref a1), .val (.int (1 : Int32)), .val (.ref g_mir), .val (.ref b2)] [])) (fun _ k_ => XS.astoreN X2.here hx rfl (hb hby d31_24) rfl rfl (l' := #[.val (.ref a1), .val (.int (1 : Int32)), .val (.ref g_mir), .val (.ref b2)]) rfl k_) ?_
  refine own_k (T' := T2) (g' := (mkF m 26 #[.val (.ref a1), .val (.int (1 : Int32)), .val (.ref g_mir), .val (.ref b2)] [(.ref a1)])) (fun _ k_ => XS.aloadN X2.here hx rfl (hb hby d31_25) rfl rfl  k_) ?_
  refine own_k (T' := T2) (g' := (mkF m 27 #[.val (.ref a1), .val (.int (1 : Int32)), .val (.ref g_mir), .val (.ref b2)] [(.int (0 : Int32)), (.ref a1)])) (fun _ k_ => XS.iconst X2.here hx rfl (hb hby d31_26) k_) ?_
  refine own_k (T' := T2) (g' := (mkF m 28 #[.val (.ref a1), .val (.int (1 : Int32)), .val (.ref g_mir), .val (.ref b2)] [(.ref b2), (.int (0 : Int32)), (.ref a1)])) (fun _ k_ => XS.aloadN X2.here hx rfl (hb hby d31_27) rfl rfl  k_) ?_
  refine own_k (T' := T2) (g' := (mkF m 29 #[.val (.ref a1), .val (.int (1 : Int32)), .val (.ref g_mir), .val (.ref b2)] [(.int (0 : Int32)), (.ref b2), (.int (0 : Int32)), (.ref a1)])) (fun _ k_ => XS.iconst X2.here hx rfl (hb hby d31_28) k_) ?_
  refine own_k (T' := T2) (g' := (mkF m 30 #[.val (.ref a1), .val (.int (1 : Int32)), .val (.ref g_mir), .val (.ref b2)] [(.ref a1), (.int (0 : Int32)), (.ref b2), (.int (0 : Int32)), (.ref a1)])) (fun _ k_ => XS.aloadN X2.here hx rfl (hb hby d31_29) rfl rfl  k_) ?_
  refine own_len X2 hx hZ e2 (h_1.ext E2) (hb hby d31_30) ?_
  show own_Go p e below Φ T2 (mkF m 31 #[.val (.ref a1), .val (.int (1 : Int32)), .val (.ref g_mir), .val (.ref b2)] [(.int (10 : Int32)), (.int (0 : Int32)), (.ref b2), (.int (0 : Int32)), (.ref a1)])
  refine own_k (T' := T2) (g' := (mkF m 32 #[.val (.ref a1), .val (.int (1 : Int32)), .val (.ref g_mir), .val (.ref b2)] [(.int (1 : Int32)), (.int (10 : Int32)), (.int (0 : Int32)), (.ref b2), (.int (0 : Int32)), (.ref a1)])) (fun _ k_ => XS.iloadN X2.here hx rfl (hb hby d31_31) rfl  k_) ?_
  refine own_callS X2 hx hZ (y := (⟨"java/lang/Math", "min", "(II)I"⟩ : MethodName)) hown (hw _ (List.mem_of_getElem? (i := 192) rfl)) (hw _ (List.mem_of_getElem? (i := 193) rfl)) (hw _ (List.mem_of_getElem? (i := 129) rfl)) (hw _ (List.mem_of_getElem? (i := 194) rfl)) (by decide) (al := [(.int (10 : Int32)), (.int (1 : Int32))]) (rm_min_25 l Z a0 g_COMPACT_STRINGS g_SIOOBE_FORMATTER g_DEFAULTCAPACITY_EMPTY_ELEMENTDATA g_EMPTY g_EMPTY_LIST gk_DEFAULTCAPACITY_EMPTY_ELEMENTDATA g_NONE g_mir hW h2 O2') 4 (by decide) (by decide) e2 (by decide) (by decide) (by rw [hml]; rfl) (lenOf pd__28II_29I rfl) rfl (rest := [(.int (0 : Int32)), (.ref b2), (.int (0 : Int32)), (.ref a1)]) (by show 2 * 0 + _ ≤ _; exact Nat.le_of_eq rfl) (hb hby d31_32) ?_
  intro v3 T3 L3 X3 hQ3
  obtain ⟨rfl, Nq3, e3⟩ := hQ3
  have N3 := Fr.app N0 Nq3
  show own_Go p e below Φ T3 (mkF m 35 #[.val (.ref a1), .val (.int (1 : Int32)), .val (.ref g_mir), .val (.ref b2)] [(.int (1 : Int32)), (.int (0 : Int32)), (.ref b2), (.int (0 : Int32)), (.ref a1)])
  obtain ⟨T4, h4, L4, X4, e4, N4, K4, V4, st4⟩ := cpA X3 hx hZ hown (hw _ (List.mem_of_getElem? (i := 195) rfl)) (hw _ (List.mem_of_getElem? (i := 198) rfl)) (hw _ (List.mem_of_getElem? (i := 196) rfl)) (hw _ (List.mem_of_getElem? (i := 197) rfl)) e3 (sp := (0 : Int32)) (dp := (0 : Int32)) (nn := (1 : Int32)) (us := [(.ref a3)]) (h_1.ext E2) V2 (Or.inr ⟨rfl, rfl, ⟨(own_sto V2 O2 (Ins.of_exa (h_2.ext E2) (hw _ (List.mem_of_getElem? (i := 133) rfl)))), trivial⟩⟩) (by decide) (by decide) (by decide) (by decide) (by decide) rfl (Nat.le_of_ble_eq_true rfl) N3 (Nat.le_trans O0.2.1 (Nat.le_of_eq g2.symm)) (g := (mkF m 35 #[.val (.ref a1), .val (.int (1 : Int32)), .val (.ref g_mir), .val (.ref b2)] [(.int (1 : Int32)), (.int (0 : Int32)), (.ref b2), (.int (0 : Int32)), (.ref a1)])) rfl (by rw [hml]; rfl) rfl (hb hby d31_35) (by decide) (W := 0) (by show 2 * 0 + _ ≤ _; exact Nat.le_of_eq rfl) (by decide)
  have V4 : Arv Z h4 b2 k2 (.object "java/lang/Object") (1 : Int32) [(.ref a3)] .null := V4
  have O4' := O2'.keep K4 (allS (Nat.le_trans O0.2.1 (Nat.le_of_eq g2.symm)) all0)
  refine own_k (T' := T4) (g' := (mkF m 38 #[.val (.ref a1), .val (.int (1 : Int32)), .val (.ref g_mir), .val (.ref b2)] [])) st4 ?_
  refine own_k (T' := T4) (g' := (mkF m 39 #[.val (.ref a1), .val (.int (1 : Int32)), .val (.ref g_mir), .val (.ref b2)] [(.ref b2)])) (fun _ k_ => XS.aloadN X4.here hx rfl (hb hby d31_38) rfl rfl  k_) ?_
  have kp0 : Keep h0 h0 [] := Keep.refl h0 []
  have kp1 : Keep h0 h2 [] := kp0.ext E2
  have kp2 : Keep h0 h4 [] := kp1.trans K4 (allS (Or.inr (Nat.le_trans kp0.1 (Nat.le_of_eq g2.symm))) all0)
  exact own_retA X4 hx hret rfl rfl hlk (hb hby d31_39) hF (by rw [e4]; exact ⟨b2, k2, rfl, N4, kp2, (Nat.le_trans kp0.1 (Nat.le_of_eq g2.symm)), V4, O2, (A2.keep K4)⟩) (by decide) (by decide)
theorem d30_9 : decode jdk_65_method_119_code 9 = .ok (.areturn, 1) := by decide +kernel
set_option maxRecDepth 65536 in
set_option maxHeartbeats 40000000 in
theorem rm_copyOf_27 (l : Launch) (Z : State) (a0 : Array Value) (g_COMPACT_STRINGS : Int32) (g_SIOOBE_FORMATTER : Value) (g_DEFAULTCAPACITY_EMPTY_ELEMENTDATA : Addr) (g_EMPTY : Addr) (g_EMPTY_LIST : Addr) (gk_DEFAULTCAPACITY_EMPTY_ELEMENTDATA : ClassId) (g_NONE : Addr) (g_mir : Addr) (hW : own_W Z a0 g_COMPACT_STRINGS g_SIOOBE_FORMATTER g_DEFAULTCAPACITY_EMPTY_ELEMENTDATA g_EMPTY g_EMPTY_LIST gk_DEFAULTCAPACITY_EMPTY_ELEMENTDATA g_NONE g_mir) (a1 : Addr) (q2 : ClassId) (a3 : Addr) (h0 : Heap) (O0 : Old Z Z.heap.size h0) (h_1 : Exa Z h0 a1 "[Ljava/lang/Object;") (h_2 : Arv Z h0 a1 q2 (.object "java/lang/Object") (10 : Int32) [(.ref a3), .null, .null, .null, .null, .null, .null, .null, .null, .null] .null) (h_3 : Exa Z h0 a3 "java/lang/String") :
    own_Met l Z (⟨"java/util/Arrays", "copyOf", "([Ljava/lang/Object;I)[Ljava/lang/Object;"⟩ : MethodName) jdk_65_method_119_code 2 (some (.array (.object "java/lang/Object"))) ({ frames := 2, cells := 1, slots := 1, locals := 33 } : Room) #[(.ref a1), (.int (1 : Int32))] h0 (fun v h L => ∃ (b2_0 : Addr) (k2_1 : ClassId), v = some (.ref b2_0) ∧ Fr Z.heap.size L ∧ Keep h0 h [] ∧ h0.size ≤ b2_0 ∧ Arv Z h b2_0 k2_1 (.object "java/lang/Object") (1 : Int32) [(.ref a3)] .null ∧ Ovr Z k2_1 "java/lang/Object" ∧ Exa Z h b2_0 "[Ljava/lang/Object;") := by
  have hW_ := hW
  obtain ⟨hw, S_g_COMPACT_STRINGS, P_g_COMPACT_STRINGS, R_g_SIOOBE_FORMATTER, S_g_SIOOBE_FORMATTER, S_g__assertionsDisabled, S_g_DEFAULTCAPACITY_EMPTY_ELEMENTDATA, E_g_DEFAULTCAPACITY_EMPTY_ELEMENTDATA, S_g_EMPTY, E_g_EMPTY, S_g_EMPTY_LIST, E_g_EMPTY_LIST, V_g_DEFAULTCAPACITY_EMPTY_ELEMENTDATA, F_g_EMPTY_LIST_allowNulls, S_g_NONE, E_g_NONE, F_g_NONE_owner, M_mir⟩ := hW_
  refine own_met (plainFor_of_name pn_java_util_Arrays) ?_
  intro p e s m below meth cc_ s₁ Φ hF X0 hx hby hml hZ hown hnm hret hlk e0
  have N0 := Fr.nil Z.heap.size
  refine own_k (T' := s₁) (g' := (mkF m 0 #[.val (.ref a1), .val (.int (1 : Int32))] [])) (fun _ k_ => castTop (ef_30_RI m a1 (1 : Int32)) k_) ?_
  refine own_k (T' := s₁) (g' := (mkF m 1 #[.val (.ref a1), .val (.int (1 : Int32))] [(.ref a1)])) (fun _ k_ => XS.aloadN X0.here hx rfl (hb hby d30_0) rfl rfl  k_) ?_
  refine own_k (T' := s₁) (g' := (mkF m 2 #[.val (.ref a1), .val (.int (1 : Int32))] [(.int (1 : Int32)), (.ref a1)])) (fun _ k_ => XS.iloadN X0.here hx rfl (hb hby d30_1) rfl  k_) ?_
  refine own_k (T' := s₁) (g' := (mkF m 3 #[.val (.ref a1), .val (.int (1 : Int32))] [(.ref a1), (.int (1 : Int32)), (.ref a1)])) (fun _ k_ => XS.aloadN X0.here hx rfl (hb hby d30_2) rfl rfl  k_) ?_
  obtain ⟨T1, X1, e1, st1⟩ := gcls X0 hx hZ hown (hw _ (List.mem_of_getElem? (i := 181) rfl)) (hw _ (List.mem_of_getElem? (i := 182) rfl)) (hw _ (List.mem_of_getElem? (i := 158) rfl)) (hw _ (List.mem_of_getElem? (i := 184) rfl)) (hw _ (List.mem_of_getElem? (i := 183) rfl)) (hw _ (List.mem_of_getElem? (i := 185) rfl)) e0 h_1 M_mir (g := (mkF m 3 #[.val (.ref a1), .val (.int (1 : Int32))] [(.ref a1), (.int (1 : Int32)), (.ref a1)])) rfl (by rw [hml]; rfl) rfl (hb hby d30_3) (by decide) (W := 2) (by show 2 * 0 + _ ≤ _; exact Nat.le_of_eq rfl) (by decide)
  refine own_k (T' := T1) (g' := (mkF m 6 #[.val (.ref a1), .val (.int (1 : Int32))] [(.ref g_mir), (.int (1 : Int32)), (.ref a1)])) st1 ?_
  refine own_callS X1 hx hZ (y := (⟨"java/util/Arrays", "copyOf", "([Ljava/lang/Object;ILjava/lang/Class;)[Ljava/lang/Object;"⟩ : MethodName)) hown (hw _ (List.mem_of_getElem? (i := 187) rfl)) (hw _ (List.mem_of_getElem? (i := 188) rfl)) (hw _ (List.mem_of_getElem? (i := 179) rfl)) (hw _ (List.mem_of_getElem? (i := 189) rfl)) (by decide) (al := [(.ref a1), (.int (1 : Int32)), (.ref g_mir)]) (rm_copyOf_26 l Z a0 g_COMPACT_STRINGS g_SIOOBE_FORMATTER g_DEFAULTCAPACITY_EMPTY_ELEMENTDATA g_EMPTY g_EMPTY_LIST gk_DEFAULTCAPACITY_EMPTY_ELEMENTDATA g_NONE g_mir hW a1 q2 a3 h0 O0 h_2 h_3) 0 (by decide) (by decide) e1 (by decide) (by decide) (by rw [hml]; rfl) (lenOf pd__28_5bLjava_2flang_2fObject_3bILjava_2flang_2fClass_3b_29_5bLjava_2flang_2fObject_3b rfl) rfl (rest := []) (by show 2 * 0 + _ ≤ _; exact Nat.le_of_eq rfl) (hb hby d30_6) ?_
  intro v2 T2 L2 X2 hQ2
  obtain ⟨b2_0, k2_1, rfl, Nq2, K2, ge2_0, q2_0, q2_1, q2_2⟩ := hQ2
  have N2 := Fr.app N0 Nq2
  have O2' := O0.keep K2 all0
  show own_Go p e below Φ T2 (mkF m 9 #[.val (.ref a1), .val (.int (1 : Int32))] [(.ref b2_0)])
  have kp0 : Keep h0 h0 [] := Keep.refl h0 []
  have kp1 : Keep h0 T2.heap [] := kp0.trans K2 all0
  exact own_retA X2 hx hret rfl rfl hlk (hb hby d30_9) hF (⟨b2_0, k2_1, rfl, N2, kp1, (Nat.le_trans kp0.1 ge2_0), q2_0, q2_1, q2_2⟩) (by decide) (by decide)
theorem d29_11 : decode jdk_38_method_16_code 11 = .ok (.areturn, 1) := by decide +kernel
set_option maxRecDepth 65536 in
set_option maxHeartbeats 40000000 in
theorem rm_toArray_28 (l : Launch) (Z : State) (a0 : Array Value) (g_COMPACT_STRINGS : Int32) (g_SIOOBE_FORMATTER : Value) (g_DEFAULTCAPACITY_EMPTY_ELEMENTDATA : Addr) (g_EMPTY : Addr) (g_EMPTY_LIST : Addr) (gk_DEFAULTCAPACITY_EMPTY_ELEMENTDATA : ClassId) (g_NONE : Addr) (g_mir : Addr) (hW : own_W Z a0 g_COMPACT_STRINGS g_SIOOBE_FORMATTER g_DEFAULTCAPACITY_EMPTY_ELEMENTDATA g_EMPTY g_EMPTY_LIST gk_DEFAULTCAPACITY_EMPTY_ELEMENTDATA g_NONE g_mir) (a1 : Addr) (a2 : Addr) (q3 : ClassId) (a4 : Addr) (h0 : Heap) (O0 : Old Z Z.heap.size h0) (h_1 : Fld Z h0 a1 "java/util/ArrayList" "elementData" "[Ljava/lang/Object;" (.ref a2)) (h_2 : Fld Z h0 a1 "java/util/ArrayList" "size" "I" (.int (1 : Int32))) (h_3 : Exa Z h0 a2 "[Ljava/lang/Object;") (h_4 : Arv Z h0 a2 q3 (.object "java/lang/Object") (10 : Int32) [(.ref a4), .null, .null, .null, .null, .null, .null, .null, .null, .null] .null) (h_5 : Exa Z h0 a4 "java/lang/String") :
    own_Met l Z (⟨"java/util/ArrayList", "toArray", "()[Ljava/lang/Object;"⟩ : MethodName) jdk_38_method_16_code 1 (some (.array (.object "java/lang/Object"))) ({ frames := 3, cells := 1, slots := 1, locals := 46 } : Room) #[(.ref a1)] h0 (fun v h L => ∃ (b3_0 : Addr) (k3_1 : ClassId), v = some (.ref b3_0) ∧ Fr Z.heap.size L ∧ Keep h0 h [] ∧ h0.size ≤ b3_0 ∧ Arv Z h b3_0 k3_1 (.object "java/lang/Object") (1 : Int32) [(.ref a4)] .null ∧ Ovr Z k3_1 "java/lang/Object" ∧ Exa Z h b3_0 "[Ljava/lang/Object;") := by
  have hW_ := hW
  obtain ⟨hw, S_g_COMPACT_STRINGS, P_g_COMPACT_STRINGS, R_g_SIOOBE_FORMATTER, S_g_SIOOBE_FORMATTER, S_g__assertionsDisabled, S_g_DEFAULTCAPACITY_EMPTY_ELEMENTDATA, E_g_DEFAULTCAPACITY_EMPTY_ELEMENTDATA, S_g_EMPTY, E_g_EMPTY, S_g_EMPTY_LIST, E_g_EMPTY_LIST, V_g_DEFAULTCAPACITY_EMPTY_ELEMENTDATA, F_g_EMPTY_LIST_allowNulls, S_g_NONE, E_g_NONE, F_g_NONE_owner, M_mir⟩ := hW_
  refine own_met (plainFor_of_name pn_java_util_ArrayList) ?_
  intro p e s m below meth cc_ s₁ Φ hF X0 hx hby hml hZ hown hnm hret hlk e0
  have N0 := Fr.nil Z.heap.size
  refine own_k (T' := s₁) (g' := (mkF m 0 #[.val (.ref a1)] [])) (fun _ k_ => castTop (ef_29_R m a1) k_) ?_
  refine own_k (T' := s₁) (g' := (mkF m 1 #[.val (.ref a1)] [(.ref a1)])) (fun _ k_ => XS.aloadN X0.here hx rfl (hb hby d29_0) rfl rfl  k_) ?_
  obtain ⟨T1, X1, e1, st1⟩ := getF X0 hx hZ hown (host := "") (Or.inl (hw _ (List.mem_of_getElem? (i := 101) rfl))) Via.refl e0 h_1 (g := (mkF m 1 #[.val (.ref a1)] [(.ref a1)])) rfl rfl (hb hby d29_1)
  refine own_k (T' := T1) (g' := (mkF m 4 #[.val (.ref a1)] [(.ref a2)])) st1 ?_
  refine own_k (T' := T1) (g' := (mkF m 5 #[.val (.ref a1)] [(.ref a1), (.ref a2)])) (fun _ k_ => XS.aloadN X1.here hx rfl (hb hby d29_4) rfl rfl  k_) ?_
  obtain ⟨T2, X2, e2, st2⟩ := getF X1 hx hZ hown (host := "") (Or.inl (hw _ (List.mem_of_getElem? (i := 110) rfl))) Via.refl e1 h_2 (g := (mkF m 5 #[.val (.ref a1)] [(.ref a1), (.ref a2)])) rfl rfl (hb hby d29_5)
  refine own_k (T' := T2) (g' := (mkF m 8 #[.val (.ref a1)] [(.int (1 : Int32)), (.ref a2)])) st2 ?_
  refine own_callS X2 hx hZ (y := (⟨"java/util/Arrays", "copyOf", "([Ljava/lang/Object;I)[Ljava/lang/Object;"⟩ : MethodName)) hown (hw _ (List.mem_of_getElem? (i := 177) rfl)) (hw _ (List.mem_of_getElem? (i := 178) rfl)) (hw _ (List.mem_of_getElem? (i := 179) rfl)) (hw _ (List.mem_of_getElem? (i := 180) rfl)) (by decide) (al := [(.ref a2), (.int (1 : Int32))]) (rm_copyOf_27 l Z a0 g_COMPACT_STRINGS g_SIOOBE_FORMATTER g_DEFAULTCAPACITY_EMPTY_ELEMENTDATA g_EMPTY g_EMPTY_LIST gk_DEFAULTCAPACITY_EMPTY_ELEMENTDATA g_NONE g_mir hW a2 q3 a4 h0 O0 h_3 h_4 h_5) 0 (by decide) (by decide) e2 (by decide) (by decide) (by rw [hml]; rfl) (lenOf pd__28_5bLjava_2flang_2fObject_3bI_29_5bLjava_2flang_2fObject_3b rfl) rfl (rest := []) (by show 2 * 0 + _ ≤ _; exact Nat.le_of_eq rfl) (hb hby d29_8) ?_
  intro v3 T3 L3 X3 hQ3
  obtain ⟨b3_0, k3_1, rfl, Nq3, K3, ge3_0, q3_0, q3_1, q3_2⟩ := hQ3
  have N3 := Fr.app N0 Nq3
  have O3' := O0.keep K3 all0
  show own_Go p e below Φ T3 (mkF m 11 #[.val (.ref a1)] [(.ref b3_0)])
  have kp0 : Keep h0 h0 [] := Keep.refl h0 []
  have kp1 : Keep h0 T3.heap [] := kp0.trans K3 all0
  exact own_retA X3 hx hret rfl rfl hlk (hb hby d29_11) hF (⟨b3_0, k3_1, rfl, N3, kp1, (Nat.le_trans kp0.1 ge3_0), q3_0, q3_1, q3_2⟩) (by decide) (by decide)
theorem d27_50 : decode jdk_56_method_3_code 50 = .ok (.invokestatic 34, 3) := by decide +kernel
theorem pd__28_5bLjava_2flang_2fObject_3b_29Ljava_2futil_2fList_3b : parseMethodDescriptor "([Ljava/lang/Object;)Ljava/util/List;" = some ⟨[(.array (.object "java/lang/Object"))], some (.object "java/util/List")⟩ := by decide +kernel
theorem ef_33_R (m : MethodId) (x0 : Addr)  : entryFrame m #[(.ref x0)] 2 = mkF m 0 #[.val (.ref x0), .unset] [] := by first | (simp [entryFrame, mkF, argsToLocals, Value.category]; done) | rfl
theorem d33_0 : decode jdk_40_method_47_code 0 = .ok (.aload_n 0, 1) := by decide +kernel
theorem d33_1 : decode jdk_40_method_47_code 1 = .ok (.arraylength, 1) := by decide +kernel
theorem d33_2 : decode jdk_40_method_47_code 2 = .ok (.tableswitch 57 0 2 #[26, 32, 43], 26) := by decide +kernel
theorem d33_34 : decode jdk_40_method_47_code 34 = .ok (.new 96, 3) := by decide +kernel
theorem d33_37 : decode jdk_40_method_47_code 37 = .ok (.dup, 1) := by decide +kernel
theorem d33_38 : decode jdk_40_method_47_code 38 = .ok (.aload_n 0, 1) := by decide +kernel
theorem d33_39 : decode jdk_40_method_47_code 39 = .ok (.iconst 0, 1) := by decide +kernel
theorem d33_40 : decode jdk_40_method_47_code 40 = .ok (.aaload, 1) := by decide +kernel
theorem d33_41 : decode jdk_40_method_47_code 41 = .ok (.invokespecial 98, 3) := by decide +kernel
theorem pd__28Ljava_2flang_2fObject_3b_29V : parseMethodDescriptor "(Ljava/lang/Object;)V" = some ⟨[(.object "java/lang/Object")], none⟩ := by decide +kernel
theorem ef_34_RR (m : MethodId) (x0 : Addr) (x1 : Addr)  : entryFrame m #[(.ref x0), (.ref x1)] 2 = mkF m 0 #[.val (.ref x0), .val (.ref x1)] [] := by first | (simp [entryFrame, mkF, argsToLocals, Value.category]; done) | rfl
theorem pn_java_util_ImmutableCollections_List12 : plainName "java/util/ImmutableCollections$List12" = true := by first | (simp [plainName, overriddenIn]; done) | decide +kernel
theorem d34_0 : decode jdk_44_method_1_code 0 = .ok (.aload_n 0, 1) := by decide +kernel
theorem d34_1 : decode jdk_44_method_1_code 1 = .ok (.invokespecial 1, 3) := by decide +kernel
theorem ef_35_R (m : MethodId) (x0 : Addr)  : entryFrame m #[(.ref x0)] 1 = mkF m 0 #[.val (.ref x0)] [] := by first | (simp [entryFrame, mkF, argsToLocals, Value.category]; done) | rfl
theorem pn_java_util_ImmutableCollections_AbstractImmutableList : plainName "java/util/ImmutableCollections$AbstractImmutableList" = true := by first | (simp [plainName, overriddenIn]; done) | decide +kernel
theorem d35_0 : decode jdk_46_method_1_code 0 = .ok (.aload_n 0, 1) := by decide +kernel
theorem d35_1 : decode jdk_46_method_1_code 1 = .ok (.invokespecial 1, 3) := by decide +kernel
theorem ef_36_R (m : MethodId) (x0 : Addr)  : entryFrame m #[(.ref x0)] 1 = mkF m 0 #[.val (.ref x0)] [] := by first | (simp [entryFrame, mkF, argsToLocals, Value.category]; done) | rfl
theorem pn_java_util_ImmutableCollections_AbstractImmutableCollection : plainName "java/util/ImmutableCollections$AbstractImmutableCollection" = true := by first | (simp [plainName, overriddenIn]; done) | decide +kernel
theorem d36_0 : decode jdk_47_method_1_code 0 = .ok (.aload_n 0, 1) := by decide +kernel
theorem d36_1 : decode jdk_47_method_1_code 1 = .ok (.invokespecial 1, 3) := by decide +kernel
theorem d36_4 : decode jdk_47_method_1_code 4 = .ok (.return_, 1) := by decide +kernel
set_option maxRecDepth 65536 in
set_option maxHeartbeats 40000000 in
theorem rm_init_29 (l : Launch) (Z : State) (a0 : Array Value) (g_COMPACT_STRINGS : Int32) (g_SIOOBE_FORMATTER : Value) (g_DEFAULTCAPACITY_EMPTY_ELEMENTDATA : Addr) (g_EMPTY : Addr) (g_EMPTY_LIST : Addr) (gk_DEFAULTCAPACITY_EMPTY_ELEMENTDATA : ClassId) (g_NONE : Addr) (g_mir : Addr) (hW : own_W Z a0 g_COMPACT_STRINGS g_SIOOBE_FORMATTER g_DEFAULTCAPACITY_EMPTY_ELEMENTDATA g_EMPTY g_EMPTY_LIST gk_DEFAULTCAPACITY_EMPTY_ELEMENTDATA g_NONE g_mir) (a1 : Addr) (h0 : Heap) (O0 : Old Z Z.heap.size h0)  :
    own_Met l Z (⟨"java/util/ImmutableCollections$AbstractImmutableCollection", "<init>", "()V"⟩ : MethodName) jdk_47_method_1_code 1 none ({ frames := 2, cells := 0, slots := 0, locals := 24 } : Room) #[(.ref a1)] h0 (fun v h L => v = none ∧ Fr Z.heap.size L ∧ h = h0) := by
  have hW_ := hW
  obtain ⟨hw, S_g_COMPACT_STRINGS, P_g_COMPACT_STRINGS, R_g_SIOOBE_FORMATTER, S_g_SIOOBE_FORMATTER, S_g__assertionsDisabled, S_g_DEFAULTCAPACITY_EMPTY_ELEMENTDATA, E_g_DEFAULTCAPACITY_EMPTY_ELEMENTDATA, S_g_EMPTY, E_g_EMPTY, S_g_EMPTY_LIST, E_g_EMPTY_LIST, V_g_DEFAULTCAPACITY_EMPTY_ELEMENTDATA, F_g_EMPTY_LIST_allowNulls, S_g_NONE, E_g_NONE, F_g_NONE_owner, M_mir⟩ := hW_
  refine own_met (plainFor_of_name pn_java_util_ImmutableCollections_AbstractImmutableCollection) ?_
  intro p e s m below meth cc_ s₁ Φ hF X0 hx hby hml hZ hown hnm hret hlk e0
  have N0 := Fr.nil Z.heap.size
  refine own_k (T' := s₁) (g' := (mkF m 0 #[.val (.ref a1)] [])) (fun _ k_ => castTop (ef_36_R m a1) k_) ?_
  refine own_k (T' := s₁) (g' := (mkF m 1 #[.val (.ref a1)] [(.ref a1)])) (fun _ k_ => XS.aloadN X0.here hx rfl (hb hby d36_0) rfl rfl  k_) ?_
  refine own_callN X0 hx hZ (y := (⟨"java/util/AbstractCollection", "<init>", "()V"⟩ : MethodName)) rfl hown (hw _ (List.mem_of_getElem? (i := 221) rfl)) (hw _ (List.mem_of_getElem? (i := 92) rfl)) (hw _ (List.mem_of_getElem? (i := 96) rfl)) (hw _ (List.mem_of_getElem? (i := 95) rfl)) (by decide) (al := []) (b := a1) (rm_init_15 l Z a0 g_COMPACT_STRINGS g_SIOOBE_FORMATTER g_DEFAULTCAPACITY_EMPTY_ELEMENTDATA g_EMPTY g_EMPTY_LIST gk_DEFAULTCAPACITY_EMPTY_ELEMENTDATA g_NONE g_mir hW a1 h0 O0) 0 (by decide) (by decide) e0 (by decide) (by decide) (by rw [hml]; rfl) (lenOf pd__28_29V rfl) rfl (rest := []) (by show 2 * 0 + _ ≤ _; exact Nat.le_of_eq rfl) (hb hby d36_1) ?_
  intro v1 T1 L1 X1 hQ1
  obtain ⟨rfl, Nq1, e1⟩ := hQ1
  have N1 := Fr.app N0 Nq1
  show own_Go p e below Φ T1 (mkF m 4 #[.val (.ref a1)] [])
  exact own_ret0 X1 hx hret hlk (hb hby d36_4) hF (by rw [e1]; exact ⟨rfl, N1, rfl⟩) (by decide) (by decide)
theorem d35_4 : decode jdk_46_method_1_code 4 = .ok (.return_, 1) := by decide +kernel
set_option maxRecDepth 65536 in
set_option maxHeartbeats 40000000 in
theorem rm_init_30 (l : Launch) (Z : State) (a0 : Array Value) (g_COMPACT_STRINGS : Int32) (g_SIOOBE_FORMATTER : Value) (g_DEFAULTCAPACITY_EMPTY_ELEMENTDATA : Addr) (g_EMPTY : Addr) (g_EMPTY_LIST : Addr) (gk_DEFAULTCAPACITY_EMPTY_ELEMENTDATA : ClassId) (g_NONE : Addr) (g_mir : Addr) (hW : own_W Z a0 g_COMPACT_STRINGS g_SIOOBE_FORMATTER g_DEFAULTCAPACITY_EMPTY_ELEMENTDATA g_EMPTY g_EMPTY_LIST gk_DEFAULTCAPACITY_EMPTY_ELEMENTDATA g_NONE g_mir) (a1 : Addr) (h0 : Heap) (O0 : Old Z Z.heap.size h0)  :
    own_Met l Z (⟨"java/util/ImmutableCollections$AbstractImmutableList", "<init>", "()V"⟩ : MethodName) jdk_46_method_1_code 1 none ({ frames := 3, cells := 0, slots := 0, locals := 36 } : Room) #[(.ref a1)] h0 (fun v h L => v = none ∧ Fr Z.heap.size L ∧ h = h0) := by
  have hW_ := hW
  obtain ⟨hw, S_g_COMPACT_STRINGS, P_g_COMPACT_STRINGS, R_g_SIOOBE_FORMATTER, S_g_SIOOBE_FORMATTER, S_g__assertionsDisabled, S_g_DEFAULTCAPACITY_EMPTY_ELEMENTDATA, E_g_DEFAULTCAPACITY_EMPTY_ELEMENTDATA, S_g_EMPTY, E_g_EMPTY, S_g_EMPTY_LIST, E_g_EMPTY_LIST, V_g_DEFAULTCAPACITY_EMPTY_ELEMENTDATA, F_g_EMPTY_LIST_allowNulls, S_g_NONE, E_g_NONE, F_g_NONE_owner, M_mir⟩ := hW_
  refine own_met (plainFor_of_name pn_java_util_ImmutableCollections_AbstractImmutableList) ?_
  intro p e s m below meth cc_ s₁ Φ hF X0 hx hby hml hZ hown hnm hret hlk e0
  have N0 := Fr.nil Z.heap.size
  refine own_k (T' := s₁) (g' := (mkF m 0 #[.val (.ref a1)] [])) (fun _ k_ => castTop (ef_35_R m a1) k_) ?_
  refine own_k (T' := s₁) (g' := (mkF m 1 #[.val (.ref a1)] [(.ref a1)])) (fun _ k_ => XS.aloadN X0.here hx rfl (hb hby d35_0) rfl rfl  k_) ?_
  refine own_callN X0 hx hZ (y := (⟨"java/util/ImmutableCollections$AbstractImmutableCollection", "<init>", "()V"⟩ : MethodName)) rfl hown (hw _ (List.mem_of_getElem? (i := 215) rfl)) (hw _ (List.mem_of_getElem? (i := 216) rfl)) (hw _ (List.mem_of_getElem? (i := 220) rfl)) (hw _ (List.mem_of_getElem? (i := 219) rfl)) (by decide) (al := []) (b := a1) (rm_init_29 l Z a0 g_COMPACT_STRINGS g_SIOOBE_FORMATTER g_DEFAULTCAPACITY_EMPTY_ELEMENTDATA g_EMPTY g_EMPTY_LIST gk_DEFAULTCAPACITY_EMPTY_ELEMENTDATA g_NONE g_mir hW a1 h0 O0) 0 (by decide) (by decide) e0 (by decide) (by decide) (by rw [hml]; rfl) (lenOf pd__28_29V rfl) rfl (rest := []) (by show 2 * 0 + _ ≤ _; exact Nat.le_of_eq rfl) (hb hby d35_1) ?_
  intro v1 T1 L1 X1 hQ1
  obtain ⟨rfl, Nq1, e1⟩ := hQ1
  have N1 := Fr.app N0 Nq1
  show own_Go p e below Φ T1 (mkF m 4 #[.val (.ref a1)] [])
  exact own_ret0 X1 hx hret hlk (hb hby d35_4) hF (by rw [e1]; exact ⟨rfl, N1, rfl⟩) (by decide) (by decide)
theorem d34_4 : decode jdk_44_method_1_code 4 = .ok (.aload_n 0, 1) := by decide +kernel
theorem d34_5 : decode jdk_44_method_1_code 5 = .ok (.aload_n 1, 1) := by decide +kernel
theorem d34_6 : decode jdk_44_method_1_code 6 = .ok (.invokestatic 7, 3) := by decide +kernel
theorem pd__28Ljava_2flang_2fObject_3b_29Ljava_2flang_2fObject_3b : parseMethodDescriptor "(Ljava/lang/Object;)Ljava/lang/Object;" = some ⟨[(.object "java/lang/Object")], some (.object "java/lang/Object")⟩ := by decide +kernel
theorem ef_37_R (m : MethodId) (x0 : Addr)  : entryFrame m #[(.ref x0)] 1 = mkF m 0 #[.val (.ref x0)] [] := by first | (simp [entryFrame, mkF, argsToLocals, Value.category]; done) | rfl
theorem pn_java_util_Objects : plainName "java/util/Objects" = true := by first | (simp [plainName, overriddenIn]; done) | decide +kernel
theorem d37_0 : decode jdk_31_method_10_code 0 = .ok (.aload_n 0, 1) := by decide +kernel
theorem d37_1 : decode jdk_31_method_10_code 1 = .ok (.ifnonnull 11, 3) := by decide +kernel
theorem d37_12 : decode jdk_31_method_10_code 12 = .ok (.aload_n 0, 1) := by decide +kernel
theorem d37_13 : decode jdk_31_method_10_code 13 = .ok (.areturn, 1) := by decide +kernel
set_option maxRecDepth 65536 in
set_option maxHeartbeats 40000000 in
theorem rm_requireNonNull_31 (l : Launch) (Z : State) (a0 : Array Value) (g_COMPACT_STRINGS : Int32) (g_SIOOBE_FORMATTER : Value) (g_DEFAULTCAPACITY_EMPTY_ELEMENTDATA : Addr) (g_EMPTY : Addr) (g_EMPTY_LIST : Addr) (gk_DEFAULTCAPACITY_EMPTY_ELEMENTDATA : ClassId) (g_NONE : Addr) (g_mir : Addr) (hW : own_W Z a0 g_COMPACT_STRINGS g_SIOOBE_FORMATTER g_DEFAULTCAPACITY_EMPTY_ELEMENTDATA g_EMPTY g_EMPTY_LIST gk_DEFAULTCAPACITY_EMPTY_ELEMENTDATA g_NONE g_mir) (a1 : Addr) (h0 : Heap) (O0 : Old Z Z.heap.size h0)  :
    own_Met l Z (⟨"java/util/Objects", "requireNonNull", "(Ljava/lang/Object;)Ljava/lang/Object;"⟩ : MethodName) jdk_31_method_10_code 1 (some (.object "java/lang/Object")) ({ frames := 0, cells := 0, slots := 0, locals := 0 } : Room) #[(.ref a1)] h0 (fun v h L => v = some (.ref a1) ∧ Fr Z.heap.size L ∧ h = h0) := by
  have hW_ := hW
  obtain ⟨hw, S_g_COMPACT_STRINGS, P_g_COMPACT_STRINGS, R_g_SIOOBE_FORMATTER, S_g_SIOOBE_FORMATTER, S_g__assertionsDisabled, S_g_DEFAULTCAPACITY_EMPTY_ELEMENTDATA, E_g_DEFAULTCAPACITY_EMPTY_ELEMENTDATA, S_g_EMPTY, E_g_EMPTY, S_g_EMPTY_LIST, E_g_EMPTY_LIST, V_g_DEFAULTCAPACITY_EMPTY_ELEMENTDATA, F_g_EMPTY_LIST_allowNulls, S_g_NONE, E_g_NONE, F_g_NONE_owner, M_mir⟩ := hW_
  refine own_met (plainFor_of_name pn_java_util_Objects) ?_
  intro p e s m below meth cc_ s₁ Φ hF X0 hx hby hml hZ hown hnm hret hlk e0
  have N0 := Fr.nil Z.heap.size
  refine own_k (T' := s₁) (g' := (mkF m 0 #[.val (.ref a1)] [])) (fun _ k_ => castTop (ef_37_R m a1) k_) ?_
  refine own_k (T' := s₁) (g' := (mkF m 1 #[.val (.ref a1)] [(.ref a1)])) (fun _ k_ => XS.aloadN X0.here hx rfl (hb hby d37_0) rfl rfl  k_) ?_
  refine own_k (T' := s₁) (g' := (mkF m 12 #[.val (.ref a1)] [])) (fun _ k_ => XS.ifnonnullYes X0.here hx rfl (pc0 := 1) (pc' := 12) rfl (hb hby d37_1) rfl (by decide) (by decide) k_) ?_
  refine own_k (T' := s₁) (g' := (mkF m 13 #[.val (.ref a1)] [(.ref a1)])) (fun _ k_ => XS.aloadN X0.here hx rfl (hb hby d37_12) rfl rfl  k_) ?_
  exact own_retA X0 hx hret rfl rfl hlk (hb hby d37_13) hF (by rw [e0]; exact ⟨rfl, N0, rfl⟩) (by decide) (by decide)
theorem d34_9 : decode jdk_44_method_1_code 9 = .ok (.putfield 13, 3) := by decide +kernel
theorem d34_12 : decode jdk_44_method_1_code 12 = .ok (.aload_n 0, 1) := by decide +kernel
theorem d34_13 : decode jdk_44_method_1_code 13 = .ok (.getstatic 19, 3) := by decide +kernel
theorem d34_16 : decode jdk_44_method_1_code 16 = .ok (.putfield 24, 3) := by decide +kernel
theorem d34_19 : decode jdk_44_method_1_code 19 = .ok (.return_, 1) := by decide +kernel
set_option maxRecDepth 65536 in
set_option maxHeartbeats 40000000 in
theorem rm_init_32 (l : Launch) (Z : State) (a0 : Array Value) (g_COMPACT_STRINGS : Int32) (g_SIOOBE_FORMATTER : Value) (g_DEFAULTCAPACITY_EMPTY_ELEMENTDATA : Addr) (g_EMPTY : Addr) (g_EMPTY_LIST : Addr) (gk_DEFAULTCAPACITY_EMPTY_ELEMENTDATA : ClassId) (g_NONE : Addr) (g_mir : Addr) (hW : own_W Z a0 g_COMPACT_STRINGS g_SIOOBE_FORMATTER g_DEFAULTCAPACITY_EMPTY_ELEMENTDATA g_EMPTY g_EMPTY_LIST gk_DEFAULTCAPACITY_EMPTY_ELEMENTDATA g_NONE g_mir) (a1 : Addr) (a2 : Addr) (h0 : Heap) (O0 : Old Z Z.heap.size h0) (h_1 : Fld Z h0 a1 "java/util/ImmutableCollections$List12" "e0" "Ljava/lang/Object;" .null) (h_2 : Exa Z h0 a1 "java/util/ImmutableCollections$List12") (h_3 : Z.heap.size ≤ a1) (h_4 : Fld Z h0 a1 "java/util/ImmutableCollections$List12" "e1" "Ljava/lang/Object;" .null) :
    own_Met l Z (⟨"java/util/ImmutableCollections$List12", "<init>", "(Ljava/lang/Object;)V"⟩ : MethodName) jdk_44_method_1_code 2 none ({ frames := 4, cells := 0, slots := 0, locals := 48 } : Room) #[(.ref a1), (.ref a2)] h0 (fun v h L => v = none ∧ Fr Z.heap.size L ∧ Keep h0 h [a1] ∧ Exa Z h a1 "java/util/ImmutableCollections$List12" ∧ Fld Z h a1 "java/util/ImmutableCollections$List12" "e0" "Ljava/lang/Object;" (.ref a2) ∧ Fld Z h a1 "java/util/ImmutableCollections$List12" "e1" "Ljava/lang/Object;" (.ref g_EMPTY)) := by
  have hW_ := hW
  obtain ⟨hw, S_g_COMPACT_STRINGS, P_g_COMPACT_STRINGS, R_g_SIOOBE_FORMATTER, S_g_SIOOBE_FORMATTER, S_g__assertionsDisabled, S_g_DEFAULTCAPACITY_EMPTY_ELEMENTDATA, E_g_DEFAULTCAPACITY_EMPTY_ELEMENTDATA, S_g_EMPTY, E_g_EMPTY, S_g_EMPTY_LIST, E_g_EMPTY_LIST, V_g_DEFAULTCAPACITY_EMPTY_ELEMENTDATA, F_g_EMPTY_LIST_allowNulls, S_g_NONE, E_g_NONE, F_g_NONE_owner, M_mir⟩ := hW_
  refine own_met (plainFor_of_name pn_java_util_ImmutableCollections_List12) ?_
  intro p e s m below meth cc_ s₁ Φ hF X0 hx hby hml hZ hown hnm hret hlk e0
  have N0 := Fr.nil Z.heap.size
  refine own_k (T' := s₁) (g' := (mkF m 0 #[.val (.ref a1), .val (.ref a2)] [])) (fun _ k_ => castTop (ef_34_RR m a1 a2) k_) ?_
  refine own_k (T' := s₁) (g' := (mkF m 1 #[.val (.ref a1), .val (.ref a2)] [(.ref a1)])) (fun _ k_ => XS.aloadN X0.here hx rfl (hb hby d34_0) rfl rfl  k_) ?_
  refine own_callN X0 hx hZ (y := (⟨"java/util/ImmutableCollections$AbstractImmutableList", "<init>", "()V"⟩ : MethodName)) rfl hown (hw _ (List.mem_of_getElem? (i := 209) rfl)) (hw _ (List.mem_of_getElem? (i := 210) rfl)) (hw _ (List.mem_of_getElem? (i := 214) rfl)) (hw _ (List.mem_of_getElem? (i := 213) rfl)) (by decide) (al := []) (b := a1) (rm_init_30 l Z a0 g_COMPACT_STRINGS g_SIOOBE_FORMATTER g_DEFAULTCAPACITY_EMPTY_ELEMENTDATA g_EMPTY g_EMPTY_LIST gk_DEFAULTCAPACITY_EMPTY_ELEMENTDATA g_NONE g_mir hW a1 h0 O0) 0 (by decide) (by decide) e0 (by decide) (by decide) (by rw [hml]; rfl) (lenOf pd__28_29V rfl) rfl (rest := []) (by show 2 * 0 + _ ≤ _; exact Nat.le_of_eq rfl) (hb hby d34_1) ?_
  intro v1 T1 L1 X1 hQ1
  obtain ⟨rfl, Nq1, e1⟩ := hQ1
  have N1 := Fr.app N0 Nq1
  show own_Go p e below Φ T1 (mkF m 4 #[.val (.ref a1), .val (.ref a2)] [])
  refine own_k (T' := T1) (g' := (mkF m 5 #[.val (.ref a1), .val (.ref a2)] [(.ref a1)])) (fun _ k_ => XS.aloadN X1.here hx rfl (hb hby d34_4) rfl rfl  k_) ?_
  refine own_k (T' := T1) (g' := (mkF m 6 #[.val (.ref a1), .val (.ref a2)] [(.ref a2), (.ref a1)])) (fun _ k_ => XS.aloadN X1.here hx rfl (hb hby d34_5) rfl rfl  k_) ?_
  refine own_callS X1 hx hZ (y := (⟨"java/util/Objects", "requireNonNull", "(Ljava/lang/Object;)Ljava/lang/Object;"⟩ : MethodName)) hown (hw _ (List.mem_of_getElem? (i := 223) rfl)) (hw _ (List.mem_of_getElem? (i := 224) rfl)) (hw _ (List.mem_of_getElem? (i := 225) rfl)) (hw _ (List.mem_of_getElem? (i := 226) rfl)) (by decide) (al := [(.ref a2)]) (rm_requireNonNull_31 l Z a0 g_COMPACT_STRINGS g_SIOOBE_FORMATTER g_DEFAULTCAPACITY_EMPTY_ELEMENTDATA g_EMPTY g_EMPTY_LIST gk_DEFAULTCAPACITY_EMPTY_ELEMENTDATA g_NONE g_mir hW a2 h0 O0) 1 (by decide) (by decide) e1 (by decide) (by decide) (by rw [hml]; rfl) (lenOf pd__28Ljava_2flang_2fObject_3b_29Ljava_2flang_2fObject_3b rfl) rfl (rest := [(.ref a1)]) (by show 2 * 0 + _ ≤ _; exact Nat.le_of_eq rfl) (hb hby d34_6) ?_
  intro v2 T2 L2 X2 hQ2
  obtain ⟨rfl, Nq2, e2⟩ := hQ2
  have N2 := Fr.app N1 Nq2
  show own_Go p e below Φ T2 (mkF m 9 #[.val (.ref a1), .val (.ref a2)] [(.ref a2), (.ref a1)])
  obtain ⟨T3, h3, X3, e3, W3, st3⟩ := putF X2 hx hZ hown (host := "") (Or.inl (hw _ (List.mem_of_getElem? (i := 227) rfl))) Via.refl e2 h_1 h_2 (Or.inr ⟨(hw _ (List.mem_of_getElem? (i := 228) rfl)), rfl, hnm⟩) (hw _ (List.mem_of_getElem? (i := 203) rfl)) (ty := (.object "java/lang/Object")) (by decide) rfl rfl (g := (mkF m 9 #[.val (.ref a1), .val (.ref a2)] [(.ref a2), (.ref a1)])) rfl rfl (hb hby d34_9)
  have w3 := Fld.same W3 h_1
  have O3' := O0.wr W3 h_3
  have N3 := Fr.snoc X3 N2 h_3
  refine own_k (T' := T3) (g' := (mkF m 12 #[.val (.ref a1), .val (.ref a2)] [])) st3 ?_
  refine own_k (T' := T3) (g' := (mkF m 13 #[.val (.ref a1), .val (.ref a2)] [(.ref a1)])) (fun _ k_ => XS.aloadN X3.here hx rfl (hb hby d34_12) rfl rfl  k_) ?_
  obtain ⟨T4, X4, e4, st4⟩ := getS2 X3 hx hZ hown (Or.inr (hw _ (List.mem_of_getElem? (i := 229) rfl))) Via.refl e3 (S_g_EMPTY.ext O3'.2) (g := (mkF m 13 #[.val (.ref a1), .val (.ref a2)] [(.ref a1)])) rfl (hb hby d34_13)
  refine own_k (T' := T4) (g' := (mkF m 16 #[.val (.ref a1), .val (.ref a2)] [(.ref g_EMPTY), (.ref a1)])) st4 ?_
  have f5 := (h_4.other W3 (Or.inr (slot_ne (Or.inr (hw _ (List.mem_of_getElem? (i := 231) rfl))) (Or.inr (hw _ (List.mem_of_getElem? (i := 228) rfl))) (by decide) (t := (.object "java/lang/Object")) (t' := (.object "java/lang/Object")) (by decide) (by decide))))
  obtain ⟨T6, h6, X6, e6, W6, st6⟩ := putF X4 hx hZ hown (host := "") (Or.inl (hw _ (List.mem_of_getElem? (i := 230) rfl))) Via.refl e4 f5 (h_2.wr W3) (Or.inr ⟨(hw _ (List.mem_of_getElem? (i := 231) rfl)), rfl, hnm⟩) (hw _ (List.mem_of_getElem? (i := 203) rfl)) (ty := (.object "java/lang/Object")) (by decide) rfl rfl (g := (mkF m 16 #[.val (.ref a1), .val (.ref a2)] [(.ref g_EMPTY), (.ref a1)])) rfl rfl (hb hby d34_16)
  have w6 := Fld.same W6 f5
  have O6' := O3'.wr W6 h_3
  have N6 := Fr.snoc X6 N3 h_3
  refine own_k (T' := T6) (g' := (mkF m 19 #[.val (.ref a1), .val (.ref a2)] [])) st6 ?_
  have kp0 : Keep h0 h0 [a1] := Keep.refl h0 [a1]
  have kp1 : Keep h0 h3 [a1] := kp0.wr W3 (Or.inl (List.mem_of_getElem? (i := 0) rfl))
  have kp2 : Keep h0 h6 [a1] := kp1.wr W6 (Or.inl (List.mem_of_getElem? (i := 0) rfl))
  have f7 := (w3.other W6 (Or.inr (slot_ne (Or.inr (hw _ (List.mem_of_getElem? (i := 228) rfl))) (Or.inr (hw _ (List.mem_of_getElem? (i := 231) rfl))) (by decide) (t := (.object "java/lang/Object")) (t' := (.object "java/lang/Object")) (by decide) (by decide))))
  exact own_ret0 X6 hx hret hlk (hb hby d34_19) hF (by rw [e6]; exact ⟨rfl, N6, kp2, ((h_2.wr W3).wr W6), f7, w6⟩) (by decide) (by decide)
theorem d33_44 : decode jdk_40_method_47_code 44 = .ok (.areturn, 1) := by decide +kernel
set_option maxRecDepth 65536 in
set_option maxHeartbeats 40000000 in
theorem rm_of_33 (l : Launch) (Z : State) (a0 : Array Value) (g_COMPACT_STRINGS : Int32) (g_SIOOBE_FORMATTER : Value) (g_DEFAULTCAPACITY_EMPTY_ELEMENTDATA : Addr) (g_EMPTY : Addr) (g_EMPTY_LIST : Addr) (gk_DEFAULTCAPACITY_EMPTY_ELEMENTDATA : ClassId) (g_NONE : Addr) (g_mir : Addr) (hW : own_W Z a0 g_COMPACT_STRINGS g_SIOOBE_FORMATTER g_DEFAULTCAPACITY_EMPTY_ELEMENTDATA g_EMPTY g_EMPTY_LIST gk_DEFAULTCAPACITY_EMPTY_ELEMENTDATA g_NONE g_mir) (a1 : Addr) (q2 : ClassId) (a3 : Addr) (h0 : Heap) (O0 : Old Z Z.heap.size h0) (h_1 : Arv Z h0 a1 q2 (.object "java/lang/Object") (1 : Int32) [(.ref a3)] .null) :
    own_Met l Z (⟨"java/util/List", "of", "([Ljava/lang/Object;)Ljava/util/List;"⟩ : MethodName) jdk_40_method_47_code 2 (some (.object "java/util/List")) ({ frames := 5, cells := 1, slots := 2, locals := 62 } : Room) #[(.ref a1)] h0 (fun v h L => ∃ (b1 : Addr), v = some (.ref b1) ∧ Fr Z.heap.size L ∧ Keep h0 h [] ∧ h0.size ≤ b1 ∧ Exa Z h b1 "java/util/ImmutableCollections$List12" ∧ Fld Z h b1 "java/util/ImmutableCollections$List12" "e0" "Ljava/lang/Object;" (.ref a3) ∧ Fld Z h b1 "java/util/ImmutableCollections$List12" "e1" "Ljava/lang/Object;" (.ref g_EMPTY)) := by
  have hW_ := hW
  obtain ⟨hw, S_g_COMPACT_STRINGS, P_g_COMPACT_STRINGS, R_g_SIOOBE_FORMATTER, S_g_SIOOBE_FORMATTER, S_g__assertionsDisabled, S_g_DEFAULTCAPACITY_EMPTY_ELEMENTDATA, E_g_DEFAULTCAPACITY_EMPTY_ELEMENTDATA, S_g_EMPTY, E_g_EMPTY, S_g_EMPTY_LIST, E_g_EMPTY_LIST, V_g_DEFAULTCAPACITY_EMPTY_ELEMENTDATA, F_g_EMPTY_LIST_allowNulls, S_g_NONE, E_g_NONE, F_g_NONE_owner, M_mir⟩ := hW_
  refine own_met (plainFor_of_name pn_java_util_List) ?_
  intro p e s m below meth cc_ s₁ Φ hF X0 hx hby hml hZ hown hnm hret hlk e0
  have N0 := Fr.nil Z.heap.size
  refine own_k (T' := s₁) (g' := (mkF m 0 #[.val (.ref a1), .unset] [])) (fun _ k_ => castTop (ef_33_R m a1) k_) ?_
  refine own_k (T' := s₁) (g' := (mkF m 1 #[.val (.ref a1), .unset] [(.ref a1)])) (fun _ k_ => XS.aloadN X0.here hx rfl (hb hby d33_0) rfl rfl  k_) ?_
  refine own_len X0 hx hZ e0 h_1 (hb hby d33_1) ?_
  show own_Go p e below Φ s₁ (mkF m 2 #[.val (.ref a1), .unset] [(.int (1 : Int32))])
  refine own_k (T' := s₁) (g' := (mkF m 34 #[.val (.ref a1), .unset] [])) (fun _ k_ => XS.tswIn X0.here hx rfl (pc0 := 2) (pc' := 34) (o := 32) rfl (hb hby d33_2) rfl (by decide) (by decide) (by decide) (by decide) k_) ?_
  obtain ⟨T1, h1, X1, e1, E1, A1, D1, -, st1⟩ := newO X0 hx hZ hown (hw _ (List.mem_of_getElem? (i := 202) rfl)) (hw _ (List.mem_of_getElem? (i := 203) rfl)) (hw _ (List.mem_of_getElem? (i := 204) rfl)) e0 (g := (mkF m 34 #[.val (.ref a1), .unset] [])) rfl (hb hby d33_34) (by decide) (by decide)
  obtain ⟨b1, g1⟩ : ∃ z, z = h0.size := ⟨_, rfl⟩
  rw [← g1] at A1 D1 st1
  have O1' := O0.ext E1
  have F1_e0 : Fld Z h1 b1 "java/util/ImmutableCollections$List12" "e0" "Ljava/lang/Object;" .null := D1 (Or.inr (hw _ (List.mem_of_getElem? (i := 228) rfl))) (ty := (.object "java/lang/Object")) (by decide)
  have F1_e1 : Fld Z h1 b1 "java/util/ImmutableCollections$List12" "e1" "Ljava/lang/Object;" .null := D1 (Or.inr (hw _ (List.mem_of_getElem? (i := 231) rfl))) (ty := (.object "java/lang/Object")) (by decide)
  refine own_k (T' := T1) (g' := (mkF m 37 #[.val (.ref a1), .unset] [(.ref b1)])) st1 ?_
  refine own_k (T' := T1) (g' := (mkF m 38 #[.val (.ref a1), .unset] [(.ref b1), (.ref b1)])) (fun _ k_ => XS.dup X1.here hx rfl (hb hby d33_37) rfl rfl k_) ?_
  refine own_k (T' := T1) (g' := (mkF m 39 #[.val (.ref a1), .unset] [(.ref a1), (.ref b1), (.ref b1)])) (fun _ k_ => XS.aloadN X1.here hx rfl (hb hby d33_38) rfl rfl  k_) ?_
  refine own_k (T' := T1) (g' := (mkF m 40 #[.val (.ref a1), .unset] [(.int (0 : Int32)), (.ref a1), (.ref b1), (.ref b1)])) (fun _ k_ => XS.iconst X1.here hx rfl (hb hby d33_39) k_) ?_
  refine own_aaload X1 hx hZ e1 (h_1.ext E1) rfl (j := (0 : Int32)) ⟨by decide, by decide⟩ (v := (.ref a3)) rfl (hb hby d33_40) ?_
  show own_Go p e below Φ T1 (mkF m 41 #[.val (.ref a1), .unset] [(.ref a3), (.ref b1), (.ref b1)])
  refine own_callN X1 hx hZ (y := (⟨"java/util/ImmutableCollections$List12", "<init>", "(Ljava/lang/Object;)V"⟩ : MethodName)) rfl hown (hw _ (List.mem_of_getElem? (i := 205) rfl)) (hw _ (List.mem_of_getElem? (i := 206) rfl)) (hw _ (List.mem_of_getElem? (i := 208) rfl)) (hw _ (List.mem_of_getElem? (i := 204) rfl)) (by decide) (al := [(.ref a3)]) (b := b1) (rm_init_32 l Z a0 g_COMPACT_STRINGS g_SIOOBE_FORMATTER g_DEFAULTCAPACITY_EMPTY_ELEMENTDATA g_EMPTY g_EMPTY_LIST gk_DEFAULTCAPACITY_EMPTY_ELEMENTDATA g_NONE g_mir hW b1 a3 h1 O1' F1_e0 A1 (Nat.le_trans O0.2.1 (Nat.le_of_eq g1.symm)) F1_e1) 1 (by decide) (by decide) e1 (by decide) (by decide) (by rw [hml]; rfl) (lenOf pd__28Ljava_2flang_2fObject_3b_29V rfl) rfl (rest := [(.ref b1)]) (by show 2 * 0 + _ ≤ _; exact Nat.le_of_eq rfl) (hb hby d33_41) ?_
  intro v2 T2 L2 X2 hQ2
  obtain ⟨rfl, Nq2, K2, q2_0, q2_1, q2_2⟩ := hQ2
  have N2 := Fr.app N0 Nq2
  have O2' := O1'.keep K2 (allS (Nat.le_trans O0.2.1 (Nat.le_of_eq g1.symm)) all0)
  show own_Go p e below Φ T2 (mkF m 44 #[.val (.ref a1), .unset] [(.ref b1)])
  have kp0 : Keep h0 h0 [] := Keep.refl h0 []
  have kp1 : Keep h0 h1 [] := kp0.ext E1
  have kp2 : Keep h0 T2.heap [] := kp1.trans K2 (allS (Or.inr (Nat.le_trans kp0.1 (Nat.le_of_eq g1.symm))) all0)
  exact own_retA X2 hx hret rfl rfl hlk (hb hby d33_44) hF (⟨b1, rfl, N2, kp2, (Nat.le_trans kp0.1 (Nat.le_of_eq g1.symm)), q2_0, q2_1, q2_2⟩) (by decide) (by decide)
theorem d27_53 : decode jdk_56_method_3_code 53 = .ok (.areturn, 1) := by decide +kernel
set_option maxRecDepth 65536 in
set_option maxHeartbeats 40000000 in
theorem rm_listCopy_34 (l : Launch) (Z : State) (a0 : Array Value) (g_COMPACT_STRINGS : Int32) (g_SIOOBE_FORMATTER : Value) (g_DEFAULTCAPACITY_EMPTY_ELEMENTDATA : Addr) (g_EMPTY : Addr) (g_EMPTY_LIST : Addr) (gk_DEFAULTCAPACITY_EMPTY_ELEMENTDATA : ClassId) (g_NONE : Addr) (g_mir : Addr) (hW : own_W Z a0 g_COMPACT_STRINGS g_SIOOBE_FORMATTER g_DEFAULTCAPACITY_EMPTY_ELEMENTDATA g_EMPTY g_EMPTY_LIST gk_DEFAULTCAPACITY_EMPTY_ELEMENTDATA g_NONE g_mir) (a1 : Addr) (a2 : Addr) (q3 : ClassId) (a4 : Addr) (h0 : Heap) (O0 : Old Z Z.heap.size h0) (h_1 : Exa Z h0 a1 "java/util/ArrayList") (h_2 : Fld Z h0 a1 "java/util/ArrayList" "size" "I" (.int (1 : Int32))) (h_3 : Fld Z h0 a1 "java/util/ArrayList" "elementData" "[Ljava/lang/Object;" (.ref a2)) (h_4 : Exa Z h0 a2 "[Ljava/lang/Object;") (h_5 : Arv Z h0 a2 q3 (.object "java/lang/Object") (10 : Int32) [(.ref a4), .null, .null, .null, .null, .null, .null, .null, .null, .null] .null) (h_6 : Exa Z h0 a4 "java/lang/String") :
    own_Met l Z (⟨"java/util/ImmutableCollections", "listCopy", "(Ljava/util/Collection;)Ljava/util/List;"⟩ : MethodName) jdk_56_method_3_code 2 (some (.object "java/util/List")) ({ frames := 6, cells := 2, slots := 3, locals := 75 } : Room) #[(.ref a1)] h0 (fun v h L => ∃ (b5_0 : Addr), v = some (.ref b5_0) ∧ Fr Z.heap.size L ∧ Keep h0 h [] ∧ h0.size ≤ b5_0 ∧ Exa Z h b5_0 "java/util/ImmutableCollections$List12" ∧ Fld Z h b5_0 "java/util/ImmutableCollections$List12" "e0" "Ljava/lang/Object;" (.ref a4) ∧ Fld Z h b5_0 "java/util/ImmutableCollections$List12" "e1" "Ljava/lang/Object;" (.ref g_EMPTY)) := by
  have hW_ := hW
  obtain ⟨hw, S_g_COMPACT_STRINGS, P_g_COMPACT_STRINGS, R_g_SIOOBE_FORMATTER, S_g_SIOOBE_FORMATTER, S_g__assertionsDisabled, S_g_DEFAULTCAPACITY_EMPTY_ELEMENTDATA, E_g_DEFAULTCAPACITY_EMPTY_ELEMENTDATA, S_g_EMPTY, E_g_EMPTY, S_g_EMPTY_LIST, E_g_EMPTY_LIST, V_g_DEFAULTCAPACITY_EMPTY_ELEMENTDATA, F_g_EMPTY_LIST_allowNulls, S_g_NONE, E_g_NONE, F_g_NONE_owner, M_mir⟩ := hW_
  refine own_met (plainFor_of_name pn_java_util_ImmutableCollections) ?_
  intro p e s m below meth cc_ s₁ Φ hF X0 hx hby hml hZ hown hnm hret hlk e0
  have N0 := Fr.nil Z.heap.size
  refine own_k (T' := s₁) (g' := (mkF m 0 #[.val (.ref a1), .unset] [])) (fun _ k_ => castTop (ef_27_R m a1) k_) ?_
  refine own_k (T' := s₁) (g' := (mkF m 1 #[.val (.ref a1), .unset] [(.ref a1)])) (fun _ k_ => XS.aloadN X0.here hx rfl (hb hby d27_0) rfl rfl  k_) ?_
  obtain ⟨T1, X1, e1, st1⟩ := instNo X0 hx hZ hown (hw _ (List.mem_of_getElem? (i := 154) rfl)) e0 h_1 (own_NSno (hw _ (List.mem_of_getElem? (i := 155) rfl)) (hw _ (List.mem_of_getElem? (i := 203) rfl)) (NS.step (hw _ (List.mem_of_getElem? (i := 155) rfl)) (NS.step (hw _ (List.mem_of_getElem? (i := 156) rfl)) (NS.step (hw _ (List.mem_of_getElem? (i := 157) rfl)) (own_NSroot (hw _ (List.mem_of_getElem? (i := 158) rfl)) (hw _ (List.mem_of_getElem? (i := 203) rfl)) (by decide)) (by decide)) (by decide)) (by decide)) (by decide)) (g := (mkF m 1 #[.val (.ref a1), .unset] [(.ref a1)])) rfl rfl (hb hby d27_1)
  refine own_k (T' := T1) (g' := (mkF m 4 #[.val (.ref a1), .unset] [(.int (0 : Int32))])) st1 ?_
  refine own_k (T' := T1) (g' := (mkF m 7 #[.val (.ref a1), .unset] [])) (fun _ k_ => XS.ifNo X1.here hx rfl (hb hby d27_4) rfl ((if0 _ _).trans (teq (by decide : ((0 : Int32) = (0 : Int32)))).2) k_) ?_
  refine own_k (T' := T1) (g' := (mkF m 8 #[.val (.ref a1), .unset] [(.ref a1)])) (fun _ k_ => XS.aloadN X1.here hx rfl (hb hby d27_7) rfl rfl  k_) ?_
  obtain ⟨T2, X2, e2, st2⟩ := instNo X1 hx hZ hown (hw _ (List.mem_of_getElem? (i := 159) rfl)) e1 h_1 (NS.no (hw _ (List.mem_of_getElem? (i := 155) rfl)) (hw _ (List.mem_of_getElem? (i := 260) rfl)) (NS.step (hw _ (List.mem_of_getElem? (i := 155) rfl)) (NS.step (hw _ (List.mem_of_getElem? (i := 156) rfl)) (NS.step (hw _ (List.mem_of_getElem? (i := 157) rfl)) (NS.root (hw _ (List.mem_of_getElem? (i := 158) rfl)) (hw _ (List.mem_of_getElem? (i := 260) rfl)) (by decide)) (by decide)) (by decide)) (by decide)) (by decide)) (g := (mkF m 8 #[.val (.ref a1), .unset] [(.ref a1)])) rfl rfl (hb hby d27_8)
  refine own_k (T' := T2) (g' := (mkF m 11 #[.val (.ref a1), .unset] [(.int (0 : Int32))])) st2 ?_
  refine own_k (T' := T2) (g' := (mkF m 31 #[.val (.ref a1), .unset] [])) (fun _ k_ => XS.ifYes X2.here hx rfl (pc0 := 11) (pc' := 31) rfl (hb hby d27_11) rfl ((if0 _ _).trans (teq (by decide : ((0 : Int32) = (0 : Int32)))).1) (by decide) (by decide) k_) ?_
  refine own_k (T' := T2) (g' := (mkF m 32 #[.val (.ref a1), .unset] [(.ref a1)])) (fun _ k_ => XS.aloadN X2.here hx rfl (hb hby d27_31) rfl rfl  k_) ?_
  refine own_callF X2 hx hZ (C := "java/util/ArrayList") (y := (⟨"java/util/Collection", "isEmpty", "()Z"⟩ : MethodName)) (z := (⟨"java/util/ArrayList", "isEmpty", "()Z"⟩ : MethodName)) hown (hw _ (List.mem_of_getElem? (i := 160) rfl)) (hw _ (List.mem_of_getElem? (i := 161) rfl)) (hw _ (List.mem_of_getElem? (i := 162) rfl)) (hw _ (List.mem_of_getElem? (i := 163) rfl)) (hw _ (List.mem_of_getElem? (i := 164) rfl)) (hw _ (List.mem_of_getElem? (i := 165) rfl)) (hw _ (List.mem_of_getElem? (i := 166) rfl)) (hw _ (List.mem_of_getElem? (i := 167) rfl)) (hw _ (List.mem_of_getElem? (i := 168) rfl)) (hw _ (List.mem_of_getElem? (i := 81) rfl)) (by decide) (al := []) h_1 (rm_isEmpty_24 l Z a0 g_COMPACT_STRINGS g_SIOOBE_FORMATTER g_DEFAULTCAPACITY_EMPTY_ELEMENTDATA g_EMPTY g_EMPTY_LIST gk_DEFAULTCAPACITY_EMPTY_ELEMENTDATA g_NONE g_mir hW a1 h0 O0 h_2) 0 (by decide) (by decide) e2 (by decide) (by decide) (by rw [hml]; rfl) (lenOf pd__28_29Z rfl) rfl (rest := []) (by show 2 * 0 + _ ≤ _; exact Nat.le_of_eq rfl) (hb hby d27_32) ?_
  intro v3 T3 L3 X3 hQ3
  obtain ⟨rfl, Nq3, e3⟩ := hQ3
  have N3 := Fr.app N0 Nq3
  show own_Go p e below Φ T3 (mkF m 37 #[.val (.ref a1), .unset] [(.int (0 : Int32))])
  refine own_k (T' := T3) (g' := (mkF m 44 #[.val (.ref a1), .unset] [])) (fun _ k_ => XS.ifYes X3.here hx rfl (pc0 := 37) (pc' := 44) rfl (hb hby d27_37) rfl ((if0 _ _).trans (teq (by decide : ((0 : Int32) = (0 : Int32)))).1) (by decide) (by decide) k_) ?_
  refine own_k (T' := T3) (g' := (mkF m 45 #[.val (.ref a1), .unset] [(.ref a1)])) (fun _ k_ => XS.aloadN X3.here hx rfl (hb hby d27_44) rfl rfl  k_) ?_
  refine own_callF X3 hx hZ (C := "java/util/ArrayList") (y := (⟨"java/util/Collection", "toArray", "()[Ljava/lang/Object;"⟩ : MethodName)) (z := (⟨"java/util/ArrayList", "toArray", "()[Ljava/lang/Object;"⟩ : MethodName)) hown (hw _ (List.mem_of_getElem? (i := 169) rfl)) (hw _ (List.mem_of_getElem? (i := 170) rfl)) (hw _ (List.mem_of_getElem? (i := 171) rfl)) (hw _ (List.mem_of_getElem? (i := 172) rfl)) (hw _ (List.mem_of_getElem? (i := 173) rfl)) (hw _ (List.mem_of_getElem? (i := 174) rfl)) (hw _ (List.mem_of_getElem? (i := 175) rfl)) (hw _ (List.mem_of_getElem? (i := 167) rfl)) (hw _ (List.mem_of_getElem? (i := 176) rfl)) (hw _ (List.mem_of_getElem? (i := 81) rfl)) (by decide) (al := []) h_1 (rm_toArray_28 l Z a0 g_COMPACT_STRINGS g_SIOOBE_FORMATTER g_DEFAULTCAPACITY_EMPTY_ELEMENTDATA g_EMPTY g_EMPTY_LIST gk_DEFAULTCAPACITY_EMPTY_ELEMENTDATA g_NONE g_mir hW a1 a2 q3 a4 h0 O0 h_3 h_2 h_4 h_5 h_6) 0 (by decide) (by decide) e3 (by decide) (by decide) (by rw [hml]; rfl) (lenOf pd__28_29_5bLjava_2flang_2fObject_3b rfl) rfl (rest := []) (by show 2 * 0 + _ ≤ _; exact Nat.le_of_eq rfl) (hb hby d27_45) ?_
  intro v4 T4 L4 X4 hQ4
  obtain ⟨b4_0, k4_1, rfl, Nq4, K4, ge4_0, q4_0, q4_1, q4_2⟩ := hQ4
  have N4 := Fr.app N3 Nq4
  have O4' := O0.keep K4 all0
  show own_Go p e below Φ T4 (mkF m 50 #[.val (.ref a1), .unset] [(.ref b4_0)])
  refine own_callS X4 hx hZ (y := (⟨"java/util/List", "of", "([Ljava/lang/Object;)Ljava/util/List;"⟩ : MethodName)) hown (hw _ (List.mem_of_getElem? (i := 199) rfl)) (hw _ (List.mem_of_getElem? (i := 200) rfl)) (hw _ (List.mem_of_getElem? (i := 148) rfl)) (hw _ (List.mem_of_getElem? (i := 201) rfl)) (by decide) (al := [(.ref b4_0)]) (rm_of_33 l Z a0 g_COMPACT_STRINGS g_SIOOBE_FORMATTER g_DEFAULTCAPACITY_EMPTY_ELEMENTDATA g_EMPTY g_EMPTY_LIST gk_DEFAULTCAPACITY_EMPTY_ELEMENTDATA g_NONE g_mir hW b4_0 k4_1 a4 T4.heap O4' q4_0) 0 (by decide) (by decide) rfl (by decide) (by decide) (by rw [hml]; rfl) (lenOf pd__28_5bLjava_2flang_2fObject_3b_29Ljava_2futil_2fList_3b rfl) rfl (rest := []) (by show 2 * 0 + _ ≤ _; exact Nat.le_of_eq rfl) (hb hby d27_50) ?_
  intro v5 T5 L5 X5 hQ5
  obtain ⟨b5_0, rfl, Nq5, K5, ge5_0, q5_0, q5_1, q5_2⟩ := hQ5
  have N5 := Fr.app N4 Nq5
  have O5' := O4'.keep K5 all0
  show own_Go p e below Φ T5 (mkF m 53 #[.val (.ref a1), .unset] [(.ref b5_0)])
  have kp0 : Keep h0 h0 [] := Keep.refl h0 []
  have kp1 : Keep h0 T4.heap [] := kp0.trans K4 all0
  have kp2 : Keep h0 T5.heap [] := kp1.trans K5 all0
  exact own_retA X5 hx hret rfl rfl hlk (hb hby d27_53) hF (⟨b5_0, rfl, N5, kp2, (Nat.le_trans kp1.1 ge5_0), q5_0, q5_1, q5_2⟩) (by decide) (by decide)
theorem d26_4 : decode jdk_40_method_48_code 4 = .ok (.areturn, 1) := by decide +kernel
set_option maxRecDepth 65536 in
set_option maxHeartbeats 40000000 in
theorem rm_copyOf_35 (l : Launch) (Z : State) (a0 : Array Value) (g_COMPACT_STRINGS : Int32) (g_SIOOBE_FORMATTER : Value) (g_DEFAULTCAPACITY_EMPTY_ELEMENTDATA : Addr) (g_EMPTY : Addr) (g_EMPTY_LIST : Addr) (gk_DEFAULTCAPACITY_EMPTY_ELEMENTDATA : ClassId) (g_NONE : Addr) (g_mir : Addr) (hW : own_W Z a0 g_COMPACT_STRINGS g_SIOOBE_FORMATTER g_DEFAULTCAPACITY_EMPTY_ELEMENTDATA g_EMPTY g_EMPTY_LIST gk_DEFAULTCAPACITY_EMPTY_ELEMENTDATA g_NONE g_mir) (a1 : Addr) (a2 : Addr) (q3 : ClassId) (a4 : Addr) (h0 : Heap) (O0 : Old Z Z.heap.size h0) (h_1 : Exa Z h0 a1 "java/util/ArrayList") (h_2 : Fld Z h0 a1 "java/util/ArrayList" "size" "I" (.int (1 : Int32))) (h_3 : Fld Z h0 a1 "java/util/ArrayList" "elementData" "[Ljava/lang/Object;" (.ref a2)) (h_4 : Exa Z h0 a2 "[Ljava/lang/Object;") (h_5 : Arv Z h0 a2 q3 (.object "java/lang/Object") (10 : Int32) [(.ref a4), .null, .null, .null, .null, .null, .null, .null, .null, .null] .null) (h_6 : Exa Z h0 a4 "java/lang/String") :
    own_Met l Z (⟨"java/util/List", "copyOf", "(Ljava/util/Collection;)Ljava/util/List;"⟩ : MethodName) jdk_40_method_48_code 1 (some (.object "java/util/List")) ({ frames := 7, cells := 2, slots := 3, locals := 88 } : Room) #[(.ref a1)] h0 (fun v h L => ∃ (b1_0 : Addr), v = some (.ref b1_0) ∧ Fr Z.heap.size L ∧ Keep h0 h [] ∧ h0.size ≤ b1_0 ∧ Exa Z h b1_0 "java/util/ImmutableCollections$List12" ∧ Fld Z h b1_0 "java/util/ImmutableCollections$List12" "e0" "Ljava/lang/Object;" (.ref a4) ∧ Fld Z h b1_0 "java/util/ImmutableCollections$List12" "e1" "Ljava/lang/Object;" (.ref g_EMPTY)) := by
  have hW_ := hW
  obtain ⟨hw, S_g_COMPACT_STRINGS, P_g_COMPACT_STRINGS, R_g_SIOOBE_FORMATTER, S_g_SIOOBE_FORMATTER, S_g__assertionsDisabled, S_g_DEFAULTCAPACITY_EMPTY_ELEMENTDATA, E_g_DEFAULTCAPACITY_EMPTY_ELEMENTDATA, S_g_EMPTY, E_g_EMPTY, S_g_EMPTY_LIST, E_g_EMPTY_LIST, V_g_DEFAULTCAPACITY_EMPTY_ELEMENTDATA, F_g_EMPTY_LIST_allowNulls, S_g_NONE, E_g_NONE, F_g_NONE_owner, M_mir⟩ := hW_
  refine own_met (plainFor_of_name pn_java_util_List) ?_
  intro p e s m below meth cc_ s₁ Φ hF X0 hx hby hml hZ hown hnm hret hlk e0
  have N0 := Fr.nil Z.heap.size
  refine own_k (T' := s₁) (g' := (mkF m 0 #[.val (.ref a1)] [])) (fun _ k_ => castTop (ef_26_R m a1) k_) ?_
  refine own_k (T' := s₁) (g' := (mkF m 1 #[.val (.ref a1)] [(.ref a1)])) (fun _ k_ => XS.aloadN X0.here hx rfl (hb hby d26_0) rfl rfl  k_) ?_
  refine own_callS X0 hx hZ (y := (⟨"java/util/ImmutableCollections", "listCopy", "(Ljava/util/Collection;)Ljava/util/List;"⟩ : MethodName)) hown (hw _ (List.mem_of_getElem? (i := 150) rfl)) (hw _ (List.mem_of_getElem? (i := 151) rfl)) (hw _ (List.mem_of_getElem? (i := 152) rfl)) (hw _ (List.mem_of_getElem? (i := 153) rfl)) (by decide) (al := [(.ref a1)]) (rm_listCopy_34 l Z a0 g_COMPACT_STRINGS g_SIOOBE_FORMATTER g_DEFAULTCAPACITY_EMPTY_ELEMENTDATA g_EMPTY g_EMPTY_LIST gk_DEFAULTCAPACITY_EMPTY_ELEMENTDATA g_NONE g_mir hW a1 a2 q3 a4 h0 O0 h_1 h_2 h_3 h_4 h_5 h_6) 0 (by decide) (by decide) e0 (by decide) (by decide) (by rw [hml]; rfl) (lenOf pd__28Ljava_2futil_2fCollection_3b_29Ljava_2futil_2fList_3b rfl) rfl (rest := []) (by show 2 * 0 + _ ≤ _; exact Nat.le_of_eq rfl) (hb hby d26_1) ?_
  intro v1 T1 L1 X1 hQ1
  obtain ⟨b1_0, rfl, Nq1, K1, ge1_0, q1_0, q1_1, q1_2⟩ := hQ1
  have N1 := Fr.app N0 Nq1
  have O1' := O0.keep K1 all0
  show own_Go p e below Φ T1 (mkF m 4 #[.val (.ref a1)] [(.ref b1_0)])
  have kp0 : Keep h0 h0 [] := Keep.refl h0 []
  have kp1 : Keep h0 T1.heap [] := kp0.trans K1 all0
  exact own_retA X1 hx hret rfl rfl hlk (hb hby d26_4) hF (⟨b1_0, rfl, N1, kp1, (Nat.le_trans kp0.1 ge1_0), q1_0, q1_1, q1_2⟩) (by decide) (by decide)
theorem d24_8 : decode prog_21_method_1_code 8 = .ok (.astore_n 2, 1) := by decide +kernel
theorem d24_9 : decode prog_21_method_1_code 9 = .ok (.aload_n 0, 1) := by decide +kernel
theorem d24_10 : decode prog_21_method_1_code 10 = .ok (.aload_n 1, 1) := by decide +kernel
theorem d24_11 : decode prog_21_method_1_code 11 = .ok (.putfield 13, 3) := by decide +kernel
theorem d24_14 : decode prog_21_method_1_code 14 = .ok (.aload_n 0, 1) := by decide +kernel
theorem d24_15 : decode prog_21_method_1_code 15 = .ok (.aload_n 2, 1) := by decide +kernel
theorem d24_16 : decode prog_21_method_1_code 16 = .ok (.putfield 19, 3) := by decide +kernel
theorem d24_19 : decode prog_21_method_1_code 19 = .ok (.return_, 1) := by decide +kernel
set_option maxRecDepth 65536 in
set_option maxHeartbeats 40000000 in
theorem rm_init_36 (l : Launch) (Z : State) (a0 : Array Value) (g_COMPACT_STRINGS : Int32) (g_SIOOBE_FORMATTER : Value) (g_DEFAULTCAPACITY_EMPTY_ELEMENTDATA : Addr) (g_EMPTY : Addr) (g_EMPTY_LIST : Addr) (gk_DEFAULTCAPACITY_EMPTY_ELEMENTDATA : ClassId) (g_NONE : Addr) (g_mir : Addr) (hW : own_W Z a0 g_COMPACT_STRINGS g_SIOOBE_FORMATTER g_DEFAULTCAPACITY_EMPTY_ELEMENTDATA g_EMPTY g_EMPTY_LIST gk_DEFAULTCAPACITY_EMPTY_ELEMENTDATA g_NONE g_mir) (a1 : Addr) (a2 : Addr) (a3 : Addr) (a4 : Addr) (q5 : ClassId) (a6 : Addr) (h0 : Heap) (O0 : Old Z Z.heap.size h0) (h_1 : Exa Z h0 a3 "java/util/ArrayList") (h_2 : Fld Z h0 a3 "java/util/ArrayList" "size" "I" (.int (1 : Int32))) (h_3 : Fld Z h0 a3 "java/util/ArrayList" "elementData" "[Ljava/lang/Object;" (.ref a4)) (h_4 : Exa Z h0 a4 "[Ljava/lang/Object;") (h_5 : Arv Z h0 a4 q5 (.object "java/lang/Object") (10 : Int32) [(.ref a6), .null, .null, .null, .null, .null, .null, .null, .null, .null] .null) (h_6 : Exa Z h0 a6 "java/lang/String") (h_7 : Fld Z h0 a1 "com/example/restoral/restoral/engine/RowName" "output" "Ljava/lang/String;" .null) (h_8 : Exa Z h0 a1 "com/example/restoral/restoral/engine/RowName") (h_9 : Z.heap.size ≤ a1) (h_10 : Fld Z h0 a1 "com/example/restoral/restoral/engine/RowName" "key" "Ljava/util/List;" .null) :
    own_Met l Z (⟨"com/example/restoral/restoral/engine/RowName", "<init>", "(Ljava/lang/String;Ljava/util/List;)V"⟩ : MethodName) prog_21_method_1_code 3 none ({ frames := 8, cells := 2, slots := 3, locals := 100 } : Room) #[(.ref a1), (.ref a2), (.ref a3)] h0 (fun v h L => ∃ (b2_0 : Addr), v = none ∧ Fr Z.heap.size L ∧ Keep h0 h [a1] ∧ h0.size ≤ b2_0 ∧ Exa Z h a1 "com/example/restoral/restoral/engine/RowName" ∧ Fld Z h a1 "com/example/restoral/restoral/engine/RowName" "output" "Ljava/lang/String;" (.ref a2) ∧ Fld Z h a1 "com/example/restoral/restoral/engine/RowName" "key" "Ljava/util/List;" (.ref b2_0) ∧ Exa Z h b2_0 "java/util/ImmutableCollections$List12" ∧ Fld Z h b2_0 "java/util/ImmutableCollections$List12" "e0" "Ljava/lang/Object;" (.ref a6) ∧ Fld Z h b2_0 "java/util/ImmutableCollections$List12" "e1" "Ljava/lang/Object;" (.ref g_EMPTY)) := by
  have hW_ := hW
  obtain ⟨hw, S_g_COMPACT_STRINGS, P_g_COMPACT_STRINGS, R_g_SIOOBE_FORMATTER, S_g_SIOOBE_FORMATTER, S_g__assertionsDisabled, S_g_DEFAULTCAPACITY_EMPTY_ELEMENTDATA, E_g_DEFAULTCAPACITY_EMPTY_ELEMENTDATA, S_g_EMPTY, E_g_EMPTY, S_g_EMPTY_LIST, E_g_EMPTY_LIST, V_g_DEFAULTCAPACITY_EMPTY_ELEMENTDATA, F_g_EMPTY_LIST_allowNulls, S_g_NONE, E_g_NONE, F_g_NONE_owner, M_mir⟩ := hW_
  refine own_met (plainFor_of_name pn_com_example_restoral_restoral_engine_RowName) ?_
  intro p e s m below meth cc_ s₁ Φ hF X0 hx hby hml hZ hown hnm hret hlk e0
  have N0 := Fr.nil Z.heap.size
  refine own_k (T' := s₁) (g' := (mkF m 0 #[.val (.ref a1), .val (.ref a2), .val (.ref a3)] [])) (fun _ k_ => castTop (ef_24_RRR m a1 a2 a3) k_) ?_
  refine own_k (T' := s₁) (g' := (mkF m 1 #[.val (.ref a1), .val (.ref a2), .val (.ref a3)] [(.ref a1)])) (fun _ k_ => XS.aloadN X0.here hx rfl (hb hby d24_0) rfl rfl  k_) ?_
  refine own_callN X0 hx hZ (y := (⟨"java/lang/Record", "<init>", "()V"⟩ : MethodName)) rfl hown (hw _ (List.mem_of_getElem? (i := 140) rfl)) (hw _ (List.mem_of_getElem? (i := 141) rfl)) (hw _ (List.mem_of_getElem? (i := 144) rfl)) (hw _ (List.mem_of_getElem? (i := 143) rfl)) (by decide) (al := []) (b := a1) (rm_init_23 l Z a0 g_COMPACT_STRINGS g_SIOOBE_FORMATTER g_DEFAULTCAPACITY_EMPTY_ELEMENTDATA g_EMPTY g_EMPTY_LIST gk_DEFAULTCAPACITY_EMPTY_ELEMENTDATA g_NONE g_mir hW a1 h0 O0) 0 (by decide) (by decide) e0 (by decide) (by decide) (by rw [hml]; rfl) (lenOf pd__28_29V rfl) rfl (rest := []) (by show 2 * 0 + _ ≤ _; exact Nat.le_of_eq rfl) (hb hby d24_1) ?_
  intro v1 T1 L1 X1 hQ1
  obtain ⟨rfl, Nq1, e1⟩ := hQ1
  have N1 := Fr.app N0 Nq1
  show own_Go p e below Φ T1 (mkF m 4 #[.val (.ref a1), .val (.ref a2), .val (.ref a3)] [])
  refine own_k (T' := T1) (g' := (mkF m 5 #[.val (.ref a1), .val (.ref a2), .val (.ref a3)] [(.ref a3)])) (fun _ k_ => XS.aloadN X1.here hx rfl (hb hby d24_4) rfl rfl  k_) ?_
  refine own_callS X1 hx hZ (y := (⟨"java/util/List", "copyOf", "(Ljava/util/Collection;)Ljava/util/List;"⟩ : MethodName)) hown (hw _ (List.mem_of_getElem? (i := 146) rfl)) (hw _ (List.mem_of_getElem? (i := 147) rfl)) (hw _ (List.mem_of_getElem? (i := 148) rfl)) (hw _ (List.mem_of_getElem? (i := 149) rfl)) (by decide) (al := [(.ref a3)]) (rm_copyOf_35 l Z a0 g_COMPACT_STRINGS g_SIOOBE_FORMATTER g_DEFAULTCAPACITY_EMPTY_ELEMENTDATA g_EMPTY g_EMPTY_LIST gk_DEFAULTCAPACITY_EMPTY_ELEMENTDATA g_NONE g_mir hW a3 a4 q5 a6 h0 O0 h_1 h_2 h_3 h_4 h_5 h_6) 0 (by decide) (by decide) e1 (by decide) (by decide) (by rw [hml]; rfl) (lenOf pd__28Ljava_2futil_2fCollection_3b_29Ljava_2futil_2fList_3b rfl) rfl (rest := []) (by show 2 * 0 + _ ≤ _; exact Nat.le_of_eq rfl) (hb hby d24_5) ?_
  intro v2 T2 L2 X2 hQ2
  obtain ⟨b2_0, rfl, Nq2, K2, ge2_0, q2_0, q2_1, q2_2⟩ := hQ2
  have N2 := Fr.app N1 Nq2
  have O2' := O0.keep K2 all0
  show own_Go p e below Φ T2 (mkF m 8 #[.val (.ref a1), .val (.ref a2), .val (.ref a3)] [(.ref b2_0)])
  refine own_k (T' := T2) (g' := (mkF m 9 #[.val (.ref a1), .val (.ref a2), .val (.ref b2_0)] [])) (fun _ k_ => XS.astoreN X2.here hx rfl (hb hby d24_8) rfl rfl (l' := #[.val (.ref a1), .val (.ref a2), .val (.ref b2_0)]) rfl k_) ?_
  refine own_k (T' := T2) (g' := (mkF m 10 #[.val (.ref a1), .val (.ref a2), .val (.ref b2_0)] [(.ref a1)])) (fun _ k_ => XS.aloadN X2.here hx rfl (hb hby d24_9) rfl rfl  k_) ?_
  refine own_k (T' := T2) (g' := (mkF m 11 #[.val (.ref a1), .val (.ref a2), .val (.ref b2_0)] [(.ref a2), (.ref a1)])) (fun _ k_ => XS.aloadN X2.here hx rfl (hb hby d24_10) rfl rfl  k_) ?_
  obtain ⟨T3, h3, X3, e3, W3, st3⟩ := putF X2 hx hZ hown (host := "") (Or.inl (hw _ (List.mem_of_getElem? (i := 232) rfl))) Via.refl rfl (h_7.keep K2 nin0) (h_8.keep K2) (Or.inr ⟨(hw _ (List.mem_of_getElem? (i := 233) rfl)), rfl, hnm⟩) (hw _ (List.mem_of_getElem? (i := 135) rfl)) (ty := (.object "java/lang/String")) (by decide) rfl rfl (g := (mkF m 11 #[.val (.ref a1), .val (.ref a2), .val (.ref b2_0)] [(.ref a2), (.ref a1)])) rfl rfl (hb hby d24_11)
  have w3 := Fld.same W3 (h_7.keep K2 nin0)
  have O3' := O2'.wr W3 h_9
  have N3 := Fr.snoc X3 N2 h_9
  refine own_k (T' := T3) (g' := (mkF m 14 #[.val (.ref a1), .val (.ref a2), .val (.ref b2_0)] [])) st3 ?_
  refine own_k (T' := T3) (g' := (mkF m 15 #[.val (.ref a1), .val (.ref a2), .val (.ref b2_0)] [(.ref a1)])) (fun _ k_ => XS.aloadN X3.here hx rfl (hb hby d24_14) rfl rfl  k_) ?_
  refine own_k (T' := T3) (g' := (mkF m 16 #[.val (.ref a1), .val (.ref a2), .val (.ref b2_0)] [(.ref b2_0), (.ref a1)])) (fun _ k_ => XS.aloadN X3.here hx rfl (hb hby d24_15) rfl rfl  k_) ?_
  have f4 := ((h_10.keep K2 nin0).other W3 (Or.inr (slot_ne (Or.inr (hw _ (List.mem_of_getElem? (i := 235) rfl))) (Or.inr (hw _ (List.mem_of_getElem? (i := 233) rfl))) (by decide) (t := (.object "java/util/List")) (t' := (.object "java/lang/String")) (by decide) (by decide))))
  obtain ⟨T5, h5, X5, e5, W5, st5⟩ := putF X3 hx hZ hown (host := "") (Or.inl (hw _ (List.mem_of_getElem? (i := 234) rfl))) Via.refl e3 f4 ((h_8.keep K2).wr W3) (Or.inr ⟨(hw _ (List.mem_of_getElem? (i := 235) rfl)), rfl, hnm⟩) (hw _ (List.mem_of_getElem? (i := 135) rfl)) (ty := (.object "java/util/List")) (by decide) rfl rfl (g := (mkF m 16 #[.val (.ref a1), .val (.ref a2), .val (.ref b2_0)] [(.ref b2_0), (.ref a1)])) rfl rfl (hb hby d24_16)
  have w5 := Fld.same W5 f4
  have O5' := O3'.wr W5 h_9
  have N5 := Fr.snoc X5 N3 h_9
  refine own_k (T' := T5) (g' := (mkF m 19 #[.val (.ref a1), .val (.ref a2), .val (.ref b2_0)] [])) st5 ?_
  have kp0 : Keep h0 h0 [a1] := Keep.refl h0 [a1]
  have kp1 : Keep h0 T2.heap [a1] := kp0.trans K2 all0
  have kp2 : Keep h0 h3 [a1] := kp1.wr W3 (Or.inl (List.mem_of_getElem? (i := 0) rfl))
  have kp3 : Keep h0 h5 [a1] := kp2.wr W5 (Or.inl (List.mem_of_getElem? (i := 0) rfl))
  have f6 := (w3.other W5 (Or.inr (slot_ne (Or.inr (hw _ (List.mem_of_getElem? (i := 233) rfl))) (Or.inr (hw _ (List.mem_of_getElem? (i := 235) rfl))) (by decide) (t := (.object "java/lang/String")) (t' := (.object "java/util/List")) (by decide) (by decide))))
  have f7 := ((q2_1.other W3 (Or.inl (Ne.symm (Nat.ne_of_lt (Nat.lt_of_lt_of_le h_8.lt ge2_0))))).other W5 (Or.inl (Ne.symm (Nat.ne_of_lt (Nat.lt_of_lt_of_le h_8.lt ge2_0)))))
  have f8 := ((q2_2.other W3 (Or.inl (Ne.symm (Nat.ne_of_lt (Nat.lt_of_lt_of_le h_8.lt ge2_0))))).other W5 (Or.inl (Ne.symm (Nat.ne_of_lt (Nat.lt_of_lt_of_le h_8.lt ge2_0)))))
  exact own_ret0 X5 hx hret hlk (hb hby d24_19) hF (by rw [e5]; exact ⟨b2_0, rfl, N5, kp3, (Nat.le_trans kp0.1 ge2_0), (((h_8.keep K2).wr W3).wr W5), f6, w5, ((q2_0.wr W3).wr W5), f7, f8⟩) (by decide) (by decide)
theorem ef_11_RRN (m : MethodId) (x0 : Addr) (x1 : Addr)  : entryFrame m #[(.ref x0), (.ref x1), .null] 3 = mkF m 0 #[.val (.ref x0), .val (.ref x1), .val .null] [] := by first | (simp [entryFrame, mkF, argsToLocals, Value.category]; done) | rfl
set_option maxRecDepth 65536 in
set_option maxHeartbeats 40000000 in
theorem rm_init_37 (l : Launch) (Z : State) (a0 : Array Value) (g_COMPACT_STRINGS : Int32) (g_SIOOBE_FORMATTER : Value) (g_DEFAULTCAPACITY_EMPTY_ELEMENTDATA : Addr) (g_EMPTY : Addr) (g_EMPTY_LIST : Addr) (gk_DEFAULTCAPACITY_EMPTY_ELEMENTDATA : ClassId) (g_NONE : Addr) (g_mir : Addr) (hW : own_W Z a0 g_COMPACT_STRINGS g_SIOOBE_FORMATTER g_DEFAULTCAPACITY_EMPTY_ELEMENTDATA g_EMPTY g_EMPTY_LIST gk_DEFAULTCAPACITY_EMPTY_ELEMENTDATA g_NONE g_mir) (a1 : Addr) (a2 : Addr) (h0 : Heap) (O0 : Old Z Z.heap.size h0) (h_1 : Fld Z h0 a1 "com/example/restoral/restoral/engine/Steps" "owner" "Lcom/example/restoral/restoral/engine/RowName;" .null) (h_2 : Exa Z h0 a1 "com/example/restoral/restoral/engine/Steps") (h_3 : Z.heap.size ≤ a1) (h_4 : Fld Z h0 a1 "com/example/restoral/restoral/engine/Steps" "figures" "Ljava/util/Map;" .null) (h_5 : Fld Z h0 a1 "com/example/restoral/restoral/engine/Steps" "last" "Lcom/example/restoral/restoral/engine/Step;" .null) :
    own_Met l Z (⟨"com/example/restoral/restoral/engine/Steps", "<init>", "(Lcom/example/restoral/restoral/engine/RowName;Ljava/util/Map;)V"⟩ : MethodName) prog_26_method_1_code 3 none ({ frames := 1, cells := 0, slots := 0, locals := 12 } : Room) #[(.ref a1), (.ref a2), .null] h0 (fun v h L => v = none ∧ Fr Z.heap.size L ∧ Keep h0 h [a1] ∧ Exa Z h a1 "com/example/restoral/restoral/engine/Steps" ∧ Fld Z h a1 "com/example/restoral/restoral/engine/Steps" "owner" "Lcom/example/restoral/restoral/engine/RowName;" (.ref a2) ∧ Fld Z h a1 "com/example/restoral/restoral/engine/Steps" "figures" "Ljava/util/Map;" .null ∧ Fld Z h a1 "com/example/restoral/restoral/engine/Steps" "last" "Lcom/example/restoral/restoral/engine/Step;" .null) := by
  have hW_ := hW
  obtain ⟨hw, S_g_COMPACT_STRINGS, P_g_COMPACT_STRINGS, R_g_SIOOBE_FORMATTER, S_g_SIOOBE_FORMATTER, S_g__assertionsDisabled, S_g_DEFAULTCAPACITY_EMPTY_ELEMENTDATA, E_g_DEFAULTCAPACITY_EMPTY_ELEMENTDATA, S_g_EMPTY, E_g_EMPTY, S_g_EMPTY_LIST, E_g_EMPTY_LIST, V_g_DEFAULTCAPACITY_EMPTY_ELEMENTDATA, F_g_EMPTY_LIST_allowNulls, S_g_NONE, E_g_NONE, F_g_NONE_owner, M_mir⟩ := hW_
  refine own_met (plainFor_of_name pn_com_example_restoral_restoral_engine_Steps) ?_
  intro p e s m below meth cc_ s₁ Φ hF X0 hx hby hml hZ hown hnm hret hlk e0
  have N0 := Fr.nil Z.heap.size
  refine own_k (T' := s₁) (g' := (mkF m 0 #[.val (.ref a1), .val (.ref a2), .val .null] [])) (fun _ k_ => castTop (ef_11_RRN m a1 a2) k_) ?_
  refine own_k (T' := s₁) (g' := (mkF m 1 #[.val (.ref a1), .val (.ref a2), .val .null] [(.ref a1)])) (fun _ k_ => XS.aloadN X0.here hx rfl (hb hby d11_0) rfl rfl  k_) ?_
  obtain ⟨T1, X1, e1, st1⟩ := initO X0 hx hZ hown (hw _ (List.mem_of_getElem? (i := 50) rfl)) (hw _ (List.mem_of_getElem? (i := 12) rfl)) (hw _ (List.mem_of_getElem? (i := 13) rfl)) e0 (g := (mkF m 1 #[.val (.ref a1), .val (.ref a2), .val .null] [(.ref a1)])) rfl (by rw [hml]; rfl) rfl (hb hby d11_1) (by decide) (W := 0) (by show 2 * 0 + _ ≤ _; exact Nat.le_of_eq rfl) (by decide)
  refine own_k (T' := T1) (g' := (mkF m 4 #[.val (.ref a1), .val (.ref a2), .val .null] [])) st1 ?_
  refine own_k (T' := T1) (g' := (mkF m 5 #[.val (.ref a1), .val (.ref a2), .val .null] [(.ref a1)])) (fun _ k_ => XS.aloadN X1.here hx rfl (hb hby d11_4) rfl rfl  k_) ?_
  refine own_k (T' := T1) (g' := (mkF m 6 #[.val (.ref a1), .val (.ref a2), .val .null] [(.ref a2), (.ref a1)])) (fun _ k_ => XS.aloadN X1.here hx rfl (hb hby d11_5) rfl rfl  k_) ?_
  obtain ⟨T2, h2, X2, e2, W2, st2⟩ := putF X1 hx hZ hown (host := "") (Or.inl (hw _ (List.mem_of_getElem? (i := 51) rfl))) Via.refl e1 h_1 h_2 (Or.inr ⟨(hw _ (List.mem_of_getElem? (i := 52) rfl)), rfl, hnm⟩) (hw _ (List.mem_of_getElem? (i := 45) rfl)) (ty := (.object "com/example/restoral/restoral/engine/RowName")) (by decide) rfl rfl (g := (mkF m 6 #[.val (.ref a1), .val (.ref a2), .val .null] [(.ref a2), (.ref a1)])) rfl rfl (hb hby d11_6)
  have w2 := Fld.same W2 h_1
  have O2' := O0.wr W2 h_3
  have N2 := Fr.snoc X2 N0 h_3
  refine own_k (T' := T2) (g' := (mkF m 9 #[.val (.ref a1), .val (.ref a2), .val .null] [])) st2 ?_
  refine own_k (T' := T2) (g' := (mkF m 10 #[.val (.ref a1), .val (.ref a2), .val .null] [(.ref a1)])) (fun _ k_ => XS.aloadN X2.here hx rfl (hb hby d11_9) rfl rfl  k_) ?_
  refine own_k (T' := T2) (g' := (mkF m 11 #[.val (.ref a1), .val (.ref a2), .val .null] [.null, (.ref a1)])) (fun _ k_ => XS.aloadN X2.here hx rfl (hb hby d11_10) rfl rfl  k_) ?_
  have f3 := (h_4.other W2 (Or.inr (slot_ne (Or.inr (hw _ (List.mem_of_getElem? (i := 54) rfl))) (Or.inr (hw _ (List.mem_of_getElem? (i := 52) rfl))) (by decide) (t := (.object "java/util/Map")) (t' := (.object "com/example/restoral/restoral/engine/RowName")) (by decide) (by decide))))
  obtain ⟨T4, h4, X4, e4, W4, st4⟩ := putF X2 hx hZ hown (host := "") (Or.inl (hw _ (List.mem_of_getElem? (i := 53) rfl))) Via.refl e2 f3 (h_2.wr W2) (Or.inr ⟨(hw _ (List.mem_of_getElem? (i := 54) rfl)), rfl, hnm⟩) (hw _ (List.mem_of_getElem? (i := 45) rfl)) (ty := (.object "java/util/Map")) (by decide) rfl rfl (g := (mkF m 11 #[.val (.ref a1), .val (.ref a2), .val .null] [.null, (.ref a1)])) rfl rfl (hb hby d11_11)
  have w4 := Fld.same W4 f3
  have O4' := O2'.wr W4 h_3
  have N4 := Fr.snoc X4 N2 h_3
  refine own_k (T' := T4) (g' := (mkF m 14 #[.val (.ref a1), .val (.ref a2), .val .null] [])) st4 ?_
  have kp0 : Keep h0 h0 [a1] := Keep.refl h0 [a1]
  have kp1 : Keep h0 h2 [a1] := kp0.wr W2 (Or.inl (List.mem_of_getElem? (i := 0) rfl))
  have kp2 : Keep h0 h4 [a1] := kp1.wr W4 (Or.inl (List.mem_of_getElem? (i := 0) rfl))
  have f5 := (w2.other W4 (Or.inr (slot_ne (Or.inr (hw _ (List.mem_of_getElem? (i := 52) rfl))) (Or.inr (hw _ (List.mem_of_getElem? (i := 54) rfl))) (by decide) (t := (.object "com/example/restoral/restoral/engine/RowName")) (t' := (.object "java/util/Map")) (by decide) (by decide))))
  have f6 := ((h_5.other W2 (Or.inr (slot_ne (Or.inl (hw _ (List.mem_of_getElem? (i := 78) rfl))) (Or.inr (hw _ (List.mem_of_getElem? (i := 52) rfl))) (by decide) (t := (.object "com/example/restoral/restoral/engine/Step")) (t' := (.object "com/example/restoral/restoral/engine/RowName")) (by decide) (by decide)))).other W4 (Or.inr (slot_ne (Or.inl (hw _ (List.mem_of_getElem? (i := 78) rfl))) (Or.inr (hw _ (List.mem_of_getElem? (i := 54) rfl))) (by decide) (t := (.object "com/example/restoral/restoral/engine/Step")) (t' := (.object "java/util/Map")) (by decide) (by decide))))
  exact own_ret0 X4 hx hret hlk (hb hby d11_14) hF (by rw [e4]; exact ⟨rfl, N4, kp2, ((h_2.wr W2).wr W4), f5, w4, f6⟩) (by decide) (by decide)
theorem d12_7 : decode prog_26_method_2_code 7 = .ok (.iconst 1, 1) := by decide +kernel
theorem d12_8 : decode prog_26_method_2_code 8 = .ok (.goto 4, 3) := by decide +kernel
set_option maxRecDepth 65536 in
set_option maxHeartbeats 40000000 in
theorem rm_on_38 (l : Launch) (Z : State) (a0 : Array Value) (g_COMPACT_STRINGS : Int32) (g_SIOOBE_FORMATTER : Value) (g_DEFAULTCAPACITY_EMPTY_ELEMENTDATA : Addr) (g_EMPTY : Addr) (g_EMPTY_LIST : Addr) (gk_DEFAULTCAPACITY_EMPTY_ELEMENTDATA : ClassId) (g_NONE : Addr) (g_mir : Addr) (hW : own_W Z a0 g_COMPACT_STRINGS g_SIOOBE_FORMATTER g_DEFAULTCAPACITY_EMPTY_ELEMENTDATA g_EMPTY g_EMPTY_LIST gk_DEFAULTCAPACITY_EMPTY_ELEMENTDATA g_NONE g_mir) (a1 : Addr) (a2 : Addr) (h0 : Heap) (O0 : Old Z Z.heap.size h0) (h_1 : Fld Z h0 a1 "com/example/restoral/restoral/engine/Steps" "owner" "Lcom/example/restoral/restoral/engine/RowName;" (.ref a2)) :
    own_Met l Z (⟨"com/example/restoral/restoral/engine/Steps", "on", "()Z"⟩ : MethodName) prog_26_method_2_code 1 (some .boolean) ({ frames := 0, cells := 0, slots := 0, locals := 0 } : Room) #[(.ref a1)] h0 (fun v h L => v = some (.int (1 : Int32)) ∧ Fr Z.heap.size L ∧ h = h0) := by
  have hW_ := hW
  obtain ⟨hw, S_g_COMPACT_STRINGS, P_g_COMPACT_STRINGS, R_g_SIOOBE_FORMATTER, S_g_SIOOBE_FORMATTER, S_g__assertionsDisabled, S_g_DEFAULTCAPACITY_EMPTY_ELEMENTDATA, E_g_DEFAULTCAPACITY_EMPTY_ELEMENTDATA, S_g_EMPTY, E_g_EMPTY, S_g_EMPTY_LIST, E_g_EMPTY_LIST, V_g_DEFAULTCAPACITY_EMPTY_ELEMENTDATA, F_g_EMPTY_LIST_allowNulls, S_g_NONE, E_g_NONE, F_g_NONE_owner, M_mir⟩ := hW_
  refine own_met (plainFor_of_name pn_com_example_restoral_restoral_engine_Steps) ?_
  intro p e s m below meth cc_ s₁ Φ hF X0 hx hby hml hZ hown hnm hret hlk e0
  have N0 := Fr.nil Z.heap.size
  refine own_k (T' := s₁) (g' := (mkF m 0 #[.val (.ref a1)] [])) (fun _ k_ => castTop (ef_12_R m a1) k_) ?_
  refine own_k (T' := s₁) (g' := (mkF m 1 #[.val (.ref a1)] [(.ref a1)])) (fun _ k_ => XS.aloadN X0.here hx rfl (hb hby d12_0) rfl rfl  k_) ?_
  obtain ⟨T1, X1, e1, st1⟩ := getF X0 hx hZ hown (host := "") (Or.inl (hw _ (List.mem_of_getElem? (i := 51) rfl))) Via.refl e0 h_1 (g := (mkF m 1 #[.val (.ref a1)] [(.ref a1)])) rfl rfl (hb hby d12_1)
  refine own_k (T' := T1) (g' := (mkF m 4 #[.val (.ref a1)] [(.ref a2)])) st1 ?_
  refine own_k (T' := T1) (g' := (mkF m 7 #[.val (.ref a1)] [])) (fun _ k_ => XS.ifnullNo X1.here hx rfl (hb hby d12_4) rfl k_) ?_
  refine own_k (T' := T1) (g' := (mkF m 8 #[.val (.ref a1)] [(.int (1 : Int32))])) (fun _ k_ => XS.iconst X1.here hx rfl (hb hby d12_7) k_) ?_
  refine own_k (T' := T1) (g' := (mkF m 12 #[.val (.ref a1)] [(.int (1 : Int32))])) (fun _ k_ => XS.goto X1.here hx rfl (pc0 := 8) (pc' := 12) rfl (hb hby d12_8) (by decide) (by decide) k_) ?_
  exact own_retN X1 hx (t := .boolean) hret (by simp) hlk (hb hby d12_12) hF (by rw [e1]; exact ⟨by rw [show nar .boolean (1 : Int32) = (1 : Int32) from by decide], N0, rfl⟩) (by decide) (by decide)
theorem d13_8 : decode prog_26_method_8_code 8 = .ok (.new 59, 3) := by decide +kernel
theorem d13_11 : decode prog_26_method_8_code 11 = .ok (.dup, 1) := by decide +kernel
theorem d13_12 : decode prog_26_method_8_code 12 = .ok (.aload_n 0, 1) := by decide +kernel
theorem d13_13 : decode prog_26_method_8_code 13 = .ok (.getfield 7, 3) := by decide +kernel
theorem d13_16 : decode prog_26_method_8_code 16 = .ok (.aload_n 1, 1) := by decide +kernel
theorem d13_17 : decode prog_26_method_8_code 17 = .ok (.aload_n 2, 1) := by decide +kernel
theorem d13_18 : decode prog_26_method_8_code 18 = .ok (.aload_n 3, 1) := by decide +kernel
theorem d13_19 : decode prog_26_method_8_code 19 = .ok (.aload 4, 2) := by decide +kernel
theorem d13_21 : decode prog_26_method_8_code 21 = .ok (.aconst_null, 1) := by decide +kernel
theorem d13_22 : decode prog_26_method_8_code 22 = .ok (.invokestatic 61, 3) := by decide +kernel
theorem pd__28_29Ljava_2futil_2fList_3b : parseMethodDescriptor "()Ljava/util/List;" = some ⟨[], some (.object "java/util/List")⟩ := by decide +kernel
theorem ef_38_ (m : MethodId)   : entryFrame m #[] 0 = mkF m 0 #[] [] := by first | (simp [entryFrame, mkF, argsToLocals, Value.category]; done) | rfl
theorem d38_0 : decode jdk_40_method_36_code 0 = .ok (.getstatic 90, 3) := by decide +kernel
theorem d38_3 : decode jdk_40_method_36_code 3 = .ok (.areturn, 1) := by decide +kernel
set_option maxRecDepth 65536 in
set_option maxHeartbeats 40000000 in
theorem rm_of_39 (l : Launch) (Z : State) (a0 : Array Value) (g_COMPACT_STRINGS : Int32) (g_SIOOBE_FORMATTER : Value) (g_DEFAULTCAPACITY_EMPTY_ELEMENTDATA : Addr) (g_EMPTY : Addr) (g_EMPTY_LIST : Addr) (gk_DEFAULTCAPACITY_EMPTY_ELEMENTDATA : ClassId) (g_NONE : Addr) (g_mir : Addr) (hW : own_W Z a0 g_COMPACT_STRINGS g_SIOOBE_FORMATTER g_DEFAULTCAPACITY_EMPTY_ELEMENTDATA g_EMPTY g_EMPTY_LIST gk_DEFAULTCAPACITY_EMPTY_ELEMENTDATA g_NONE g_mir)  (h0 : Heap) (O0 : Old Z Z.heap.size h0)  :
    own_Met l Z (⟨"java/util/List", "of", "()Ljava/util/List;"⟩ : MethodName) jdk_40_method_36_code 0 (some (.object "java/util/List")) ({ frames := 0, cells := 0, slots := 0, locals := 0 } : Room) #[] h0 (fun v h L => v = some (.ref g_EMPTY_LIST) ∧ Fr Z.heap.size L ∧ h = h0) := by
  have hW_ := hW
  obtain ⟨hw, S_g_COMPACT_STRINGS, P_g_COMPACT_STRINGS, R_g_SIOOBE_FORMATTER, S_g_SIOOBE_FORMATTER, S_g__assertionsDisabled, S_g_DEFAULTCAPACITY_EMPTY_ELEMENTDATA, E_g_DEFAULTCAPACITY_EMPTY_ELEMENTDATA, S_g_EMPTY, E_g_EMPTY, S_g_EMPTY_LIST, E_g_EMPTY_LIST, V_g_DEFAULTCAPACITY_EMPTY_ELEMENTDATA, F_g_EMPTY_LIST_allowNulls, S_g_NONE, E_g_NONE, F_g_NONE_owner, M_mir⟩ := hW_
  refine own_met (plainFor_of_name pn_java_util_List) ?_
  intro p e s m below meth cc_ s₁ Φ hF X0 hx hby hml hZ hown hnm hret hlk e0
  have N0 := Fr.nil Z.heap.size
  refine own_k (T' := s₁) (g' := (mkF m 0 #[] [])) (fun _ k_ => castTop (ef_38_ m ) k_) ?_
  obtain ⟨T1, X1, e1, st1⟩ := getS2 X0 hx hZ hown (host := "") (Or.inl (hw _ (List.mem_of_getElem? (i := 242) rfl))) Via.refl e0 (S_g_EMPTY_LIST.ext O0.2) (g := (mkF m 0 #[] [])) rfl (hb hby d38_0)
  refine own_k (T' := T1) (g' := (mkF m 3 #[] [(.ref g_EMPTY_LIST)])) st1 ?_
  exact own_retA X1 hx hret rfl rfl hlk (hb hby d38_3) hF (by rw [e1]; exact ⟨rfl, N0, rfl⟩) (by decide) (by decide)
theorem d13_25 : decode prog_26_method_8_code 25 = .ok (.aconst_null, 1) := by decide +kernel
theorem d13_26 : decode prog_26_method_8_code 26 = .ok (.aconst_null, 1) := by decide +kernel
theorem d13_27 : decode prog_26_method_8_code 27 = .ok (.invokespecial 67, 3) := by decide +kernel
theorem pd__28Lcom_2fexample_2frestoral_2frestoral_2fengine_2fRowName_3bLjava_2flang_2fString_3bLjava_2flang_2fObject_3bLjava_2flang_2fString_3bLjava_2flang_2fString_3bLjava_2flang_2fString_3bLjava_2futil_2fList_3bLcom_2fexample_2frestoral_2frestoral_2fengine_2fRowName_3bLjava_2flang_2fString_3b_29V : parseMethodDescriptor "(Lcom/example/restoral/restoral/engine/RowName;Ljava/lang/String;Ljava/lang/Object;Ljava/lang/String;Ljava/lang/String;Ljava/lang/String;Ljava/util/List;Lcom/example/restoral/restoral/engine/RowName;Ljava/lang/String;)V" = some ⟨[(.object "com/example/restoral/restoral/engine/RowName"), (.object "java/lang/String"), (.object "java/lang/Object"), (.object "java/lang/String"), (.object "java/lang/String"), (.object "java/lang/String"), (.object "java/util/List"), (.object "com/example/restoral/restoral/engine/RowName"), (.object "java/lang/String")], none⟩ := by decide +kernel
theorem ef_39_RRRRRRNRNN (m : MethodId) (x0 : Addr) (x1 : Addr) (x2 : Addr) (x3 : Addr) (x4 : Addr) (x5 : Addr) (x7 : Addr)  : entryFrame m #[(.ref x0), (.ref x1), (.ref x2), (.ref x3), (.ref x4), (.ref x5), .null, (.ref x7), .null, .null] 10 = mkF m 0 #[.val (.ref x0), .val (.ref x1), .val (.ref x2), .val (.ref x3), .val (.ref x4), .val (.ref x5), .val .null, .val (.ref x7), .val .null, .val .null] [] := by first | (simp [entryFrame, mkF, argsToLocals, Value.category]; done) | rfl
theorem pn_com_example_restoral_restoral_engine_Step : plainName "com/example/restoral/restoral/engine/Step" = true := by first | (simp [plainName, overriddenIn]; done) | decide +kernel
theorem d39_0 : decode prog_25_method_1_code 0 = .ok (.aload_n 0, 1) := by decide +kernel
theorem d39_1 : decode prog_25_method_1_code 1 = .ok (.invokespecial 1, 3) := by decide +kernel
theorem d39_4 : decode prog_25_method_1_code 4 = .ok (.aload_n 0, 1) := by decide +kernel
theorem d39_5 : decode prog_25_method_1_code 5 = .ok (.aload_n 1, 1) := by decide +kernel
theorem d39_6 : decode prog_25_method_1_code 6 = .ok (.putfield 7, 3) := by decide +kernel
theorem d39_9 : decode prog_25_method_1_code 9 = .ok (.aload_n 0, 1) := by decide +kernel
theorem d39_10 : decode prog_25_method_1_code 10 = .ok (.aload_n 2, 1) := by decide +kernel
theorem d39_11 : decode prog_25_method_1_code 11 = .ok (.putfield 13, 3) := by decide +kernel
theorem d39_14 : decode prog_25_method_1_code 14 = .ok (.aload_n 0, 1) := by decide +kernel
theorem d39_15 : decode prog_25_method_1_code 15 = .ok (.aload_n 3, 1) := by decide +kernel
theorem d39_16 : decode prog_25_method_1_code 16 = .ok (.putfield 17, 3) := by decide +kernel
theorem d39_19 : decode prog_25_method_1_code 19 = .ok (.aload_n 0, 1) := by decide +kernel
theorem d39_20 : decode prog_25_method_1_code 20 = .ok (.aload 4, 2) := by decide +kernel
theorem d39_22 : decode prog_25_method_1_code 22 = .ok (.putfield 21, 3) := by decide +kernel
theorem d39_25 : decode prog_25_method_1_code 25 = .ok (.aload_n 0, 1) := by decide +kernel
theorem d39_26 : decode prog_25_method_1_code 26 = .ok (.aload 5, 2) := by decide +kernel
theorem d39_28 : decode prog_25_method_1_code 28 = .ok (.putfield 24, 3) := by decide +kernel
theorem d39_31 : decode prog_25_method_1_code 31 = .ok (.aload_n 0, 1) := by decide +kernel
theorem d39_32 : decode prog_25_method_1_code 32 = .ok (.aload 6, 2) := by decide +kernel
theorem d39_34 : decode prog_25_method_1_code 34 = .ok (.putfield 27, 3) := by decide +kernel
theorem d39_37 : decode prog_25_method_1_code 37 = .ok (.aload_n 0, 1) := by decide +kernel
theorem d39_38 : decode prog_25_method_1_code 38 = .ok (.aload 7, 2) := by decide +kernel
theorem d39_40 : decode prog_25_method_1_code 40 = .ok (.invokestatic 30, 3) := by decide +kernel
theorem d27_14 : decode jdk_56_method_3_code 14 = .ok (.aload_n 0, 1) := by decide +kernel
theorem d27_15 : decode jdk_56_method_3_code 15 = .ok (.checkcast 12, 3) := by decide +kernel
theorem d27_18 : decode jdk_56_method_3_code 18 = .ok (.astore_n 1, 1) := by decide +kernel
theorem d27_19 : decode jdk_56_method_3_code 19 = .ok (.aload_n 1, 1) := by decide +kernel
theorem d27_20 : decode jdk_56_method_3_code 20 = .ok (.getfield 14, 3) := by decide +kernel
theorem d27_23 : decode jdk_56_method_3_code 23 = .ok (.ifCond .ne 8, 3) := by decide +kernel
theorem d27_26 : decode jdk_56_method_3_code 26 = .ok (.aload_n 0, 1) := by decide +kernel
theorem d27_27 : decode jdk_56_method_3_code 27 = .ok (.checkcast 18, 3) := by decide +kernel
theorem d27_30 : decode jdk_56_method_3_code 30 = .ok (.areturn, 1) := by decide +kernel
set_option maxRecDepth 65536 in
set_option maxHeartbeats 40000000 in
theorem rm_listCopy_40 (l : Launch) (Z : State) (a0 : Array Value) (g_COMPACT_STRINGS : Int32) (g_SIOOBE_FORMATTER : Value) (g_DEFAULTCAPACITY_EMPTY_ELEMENTDATA : Addr) (g_EMPTY : Addr) (g_EMPTY_LIST : Addr) (gk_DEFAULTCAPACITY_EMPTY_ELEMENTDATA : ClassId) (g_NONE : Addr) (g_mir : Addr) (hW : own_W Z a0 g_COMPACT_STRINGS g_SIOOBE_FORMATTER g_DEFAULTCAPACITY_EMPTY_ELEMENTDATA g_EMPTY g_EMPTY_LIST gk_DEFAULTCAPACITY_EMPTY_ELEMENTDATA g_NONE g_mir)  (h0 : Heap) (O0 : Old Z Z.heap.size h0)  :
    own_Met l Z (⟨"java/util/ImmutableCollections", "listCopy", "(Ljava/util/Collection;)Ljava/util/List;"⟩ : MethodName) jdk_56_method_3_code 2 (some (.object "java/util/List")) ({ frames := 0, cells := 0, slots := 0, locals := 0 } : Room) #[(.ref g_EMPTY_LIST)] h0 (fun v h L => v = some (.ref g_EMPTY_LIST) ∧ Fr Z.heap.size L ∧ h = h0) := by
  have hW_ := hW
  obtain ⟨hw, S_g_COMPACT_STRINGS, P_g_COMPACT_STRINGS, R_g_SIOOBE_FORMATTER, S_g_SIOOBE_FORMATTER, S_g__assertionsDisabled, S_g_DEFAULTCAPACITY_EMPTY_ELEMENTDATA, E_g_DEFAULTCAPACITY_EMPTY_ELEMENTDATA, S_g_EMPTY, E_g_EMPTY, S_g_EMPTY_LIST, E_g_EMPTY_LIST, V_g_DEFAULTCAPACITY_EMPTY_ELEMENTDATA, F_g_EMPTY_LIST_allowNulls, S_g_NONE, E_g_NONE, F_g_NONE_owner, M_mir⟩ := hW_
  refine own_met (plainFor_of_name pn_java_util_ImmutableCollections) ?_
  intro p e s m below meth cc_ s₁ Φ hF X0 hx hby hml hZ hown hnm hret hlk e0
  have N0 := Fr.nil Z.heap.size
  refine own_k (T' := s₁) (g' := (mkF m 0 #[.val (.ref g_EMPTY_LIST), .unset] [])) (fun _ k_ => castTop (ef_27_R m g_EMPTY_LIST) k_) ?_
  refine own_k (T' := s₁) (g' := (mkF m 1 #[.val (.ref g_EMPTY_LIST), .unset] [(.ref g_EMPTY_LIST)])) (fun _ k_ => XS.aloadN X0.here hx rfl (hb hby d27_0) rfl rfl  k_) ?_
  obtain ⟨T1, X1, e1, st1⟩ := instNo X0 hx hZ hown (hw _ (List.mem_of_getElem? (i := 154) rfl)) e0 (E_g_EMPTY_LIST.ext O0.2) (own_NSno (hw _ (List.mem_of_getElem? (i := 260) rfl)) (hw _ (List.mem_of_getElem? (i := 203) rfl)) (NS.step (hw _ (List.mem_of_getElem? (i := 260) rfl)) (NS.step (hw _ (List.mem_of_getElem? (i := 261) rfl)) (NS.step (hw _ (List.mem_of_getElem? (i := 262) rfl)) (NS.step (hw _ (List.mem_of_getElem? (i := 157) rfl)) (own_NSroot (hw _ (List.mem_of_getElem? (i := 158) rfl)) (hw _ (List.mem_of_getElem? (i := 203) rfl)) (by decide)) (by decide)) (by decide)) (by decide)) (by decide)) (by decide)) (g := (mkF m 1 #[.val (.ref g_EMPTY_LIST), .unset] [(.ref g_EMPTY_LIST)])) rfl rfl (hb hby d27_1)
  refine own_k (T' := T1) (g' := (mkF m 4 #[.val (.ref g_EMPTY_LIST), .unset] [(.int (0 : Int32))])) st1 ?_
  refine own_k (T' := T1) (g' := (mkF m 7 #[.val (.ref g_EMPTY_LIST), .unset] [])) (fun _ k_ => XS.ifNo X1.here hx rfl (hb hby d27_4) rfl ((if0 _ _).trans (teq (by decide : ((0 : Int32) = (0 : Int32)))).2) k_) ?_
  refine own_k (T' := T1) (g' := (mkF m 8 #[.val (.ref g_EMPTY_LIST), .unset] [(.ref g_EMPTY_LIST)])) (fun _ k_ => XS.aloadN X1.here hx rfl (hb hby d27_7) rfl rfl  k_) ?_
  obtain ⟨T2, X2, e2, st2⟩ := instY X1 hx hZ hown (hw _ (List.mem_of_getElem? (i := 159) rfl)) e1 (Ins.self (E_g_EMPTY_LIST.ext O0.2)) (g := (mkF m 8 #[.val (.ref g_EMPTY_LIST), .unset] [(.ref g_EMPTY_LIST)])) rfl rfl (hb hby d27_8)
  refine own_k (T' := T2) (g' := (mkF m 11 #[.val (.ref g_EMPTY_LIST), .unset] [(.int (1 : Int32))])) st2 ?_
  refine own_k (T' := T2) (g' := (mkF m 14 #[.val (.ref g_EMPTY_LIST), .unset] [])) (fun _ k_ => XS.ifNo X2.here hx rfl (hb hby d27_11) rfl ((if0 _ _).trans (feq (by decide : ¬ ((1 : Int32) = (0 : Int32)))).1) k_) ?_
  refine own_k (T' := T2) (g' := (mkF m 15 #[.val (.ref g_EMPTY_LIST), .unset] [(.ref g_EMPTY_LIST)])) (fun _ k_ => XS.aloadN X2.here hx rfl (hb hby d27_14) rfl rfl  k_) ?_
  obtain ⟨T3, X3, e3, st3⟩ := castY X2 hx hZ hown (hw _ (List.mem_of_getElem? (i := 159) rfl)) e2 (Ins.self (E_g_EMPTY_LIST.ext O0.2)) (g := (mkF m 15 #[.val (.ref g_EMPTY_LIST), .unset] [(.ref g_EMPTY_LIST)])) rfl rfl (hb hby d27_15)
  refine own_k (T' := T3) (g' := (mkF m 18 #[.val (.ref g_EMPTY_LIST), .unset] [(.ref g_EMPTY_LIST)])) st3 ?_
  refine own_k (T' := T3) (g' := (mkF m 19 #[.val (.ref g_EMPTY_LIST), .val (.ref g_EMPTY_LIST)] [])) (fun _ k_ => XS.astoreN X3.here hx rfl (hb hby d27_18) rfl rfl (l' := #[.val (.ref g_EMPTY_LIST), .val (.ref g_EMPTY_LIST)]) rfl k_) ?_
  refine own_k (T' := T3) (g' := (mkF m 20 #[.val (.ref g_EMPTY_LIST), .val (.ref g_EMPTY_LIST)] [(.ref g_EMPTY_LIST)])) (fun _ k_ => XS.aloadN X3.here hx rfl (hb hby d27_19) rfl rfl  k_) ?_
  obtain ⟨T4, X4, e4, st4⟩ := getF X3 hx hZ hown (Or.inr (hw _ (List.mem_of_getElem? (i := 264) rfl))) Via.refl e3 (F_g_EMPTY_LIST_allowNulls.ext O0.2) (g := (mkF m 20 #[.val (.ref g_EMPTY_LIST), .val (.ref g_EMPTY_LIST)] [(.ref g_EMPTY_LIST)])) rfl rfl (hb hby d27_20)
  refine own_k (T' := T4) (g' := (mkF m 23 #[.val (.ref g_EMPTY_LIST), .val (.ref g_EMPTY_LIST)] [(.int (0 : Int32))])) st4 ?_
  refine own_k (T' := T4) (g' := (mkF m 26 #[.val (.ref g_EMPTY_LIST), .val (.ref g_EMPTY_LIST)] [])) (fun _ k_ => XS.ifNo X4.here hx rfl (hb hby d27_23) rfl ((if0 _ _).trans (teq (by decide : ((0 : Int32) = (0 : Int32)))).2) k_) ?_
  refine own_k (T' := T4) (g' := (mkF m 27 #[.val (.ref g_EMPTY_LIST), .val (.ref g_EMPTY_LIST)] [(.ref g_EMPTY_LIST)])) (fun _ k_ => XS.aloadN X4.here hx rfl (hb hby d27_26) rfl rfl  k_) ?_
  obtain ⟨T5, X5, e5, st5⟩ := castY X4 hx hZ hown (hw _ (List.mem_of_getElem? (i := 266) rfl)) e4 (Ins.of_exa (E_g_EMPTY_LIST.ext O0.2) (hw _ (List.mem_of_getElem? (i := 267) rfl))) (g := (mkF m 27 #[.val (.ref g_EMPTY_LIST), .val (.ref g_EMPTY_LIST)] [(.ref g_EMPTY_LIST)])) rfl rfl (hb hby d27_27)
  refine own_k (T' := T5) (g' := (mkF m 30 #[.val (.ref g_EMPTY_LIST), .val (.ref g_EMPTY_LIST)] [(.ref g_EMPTY_LIST)])) st5 ?_
  exact own_retA X5 hx hret rfl rfl hlk (hb hby d27_30) hF (by rw [e5]; exact ⟨rfl, N0, rfl⟩) (by decide) (by decide)
set_option maxRecDepth 65536 in
set_option maxHeartbeats 40000000 in
theorem rm_copyOf_41 (l : Launch) (Z : State) (a0 : Array Value) (g_COMPACT_STRINGS : Int32) (g_SIOOBE_FORMATTER : Value) (g_DEFAULTCAPACITY_EMPTY_ELEMENTDATA : Addr) (g_EMPTY : Addr) (g_EMPTY_LIST : Addr) (gk_DEFAULTCAPACITY_EMPTY_ELEMENTDATA : ClassId) (g_NONE : Addr) (g_mir : Addr) (hW : own_W Z a0 g_COMPACT_STRINGS g_SIOOBE_FORMATTER g_DEFAULTCAPACITY_EMPTY_ELEMENTDATA g_EMPTY g_EMPTY_LIST gk_DEFAULTCAPACITY_EMPTY_ELEMENTDATA g_NONE g_mir)  (h0 : Heap) (O0 : Old Z Z.heap.size h0)  :
    own_Met l Z (⟨"java/util/List", "copyOf", "(Ljava/util/Collection;)Ljava/util/List;"⟩ : MethodName) jdk_40_method_48_code 1 (some (.object "java/util/List")) ({ frames := 1, cells := 0, slots := 0, locals := 13 } : Room) #[(.ref g_EMPTY_LIST)] h0 (fun v h L => v = some (.ref g_EMPTY_LIST) ∧ Fr Z.heap.size L ∧ h = h0) := by
  have hW_ := hW
  obtain ⟨hw, S_g_COMPACT_STRINGS, P_g_COMPACT_STRINGS, R_g_SIOOBE_FORMATTER, S_g_SIOOBE_FORMATTER, S_g__assertionsDisabled, S_g_DEFAULTCAPACITY_EMPTY_ELEMENTDATA, E_g_DEFAULTCAPACITY_EMPTY_ELEMENTDATA, S_g_EMPTY, E_g_EMPTY, S_g_EMPTY_LIST, E_g_EMPTY_LIST, V_g_DEFAULTCAPACITY_EMPTY_ELEMENTDATA, F_g_EMPTY_LIST_allowNulls, S_g_NONE, E_g_NONE, F_g_NONE_owner, M_mir⟩ := hW_
  refine own_met (plainFor_of_name pn_java_util_List) ?_
  intro p e s m below meth cc_ s₁ Φ hF X0 hx hby hml hZ hown hnm hret hlk e0
  have N0 := Fr.nil Z.heap.size
  refine own_k (T' := s₁) (g' := (mkF m 0 #[.val (.ref g_EMPTY_LIST)] [])) (fun _ k_ => castTop (ef_26_R m g_EMPTY_LIST) k_) ?_
  refine own_k (T' := s₁) (g' := (mkF m 1 #[.val (.ref g_EMPTY_LIST)] [(.ref g_EMPTY_LIST)])) (fun _ k_ => XS.aloadN X0.here hx rfl (hb hby d26_0) rfl rfl  k_) ?_
  refine own_callS X0 hx hZ (y := (⟨"java/util/ImmutableCollections", "listCopy", "(Ljava/util/Collection;)Ljava/util/List;"⟩ : MethodName)) hown (hw _ (List.mem_of_getElem? (i := 150) rfl)) (hw _ (List.mem_of_getElem? (i := 151) rfl)) (hw _ (List.mem_of_getElem? (i := 152) rfl)) (hw _ (List.mem_of_getElem? (i := 153) rfl)) (by decide) (al := [(.ref g_EMPTY_LIST)]) (rm_listCopy_40 l Z a0 g_COMPACT_STRINGS g_SIOOBE_FORMATTER g_DEFAULTCAPACITY_EMPTY_ELEMENTDATA g_EMPTY g_EMPTY_LIST gk_DEFAULTCAPACITY_EMPTY_ELEMENTDATA g_NONE g_mir hW h0 O0) 0 (by decide) (by decide) e0 (by decide) (by decide) (by rw [hml]; rfl) (lenOf pd__28Ljava_2futil_2fCollection_3b_29Ljava_2futil_2fList_3b rfl) rfl (rest := []) (by show 2 * 0 + _ ≤ _; exact Nat.le_of_eq rfl) (hb hby d26_1) ?_
  intro v1 T1 L1 X1 hQ1
  obtain ⟨rfl, Nq1, e1⟩ := hQ1
  have N1 := Fr.app N0 Nq1
  show own_Go p e below Φ T1 (mkF m 4 #[.val (.ref g_EMPTY_LIST)] [(.ref g_EMPTY_LIST)])
  exact own_retA X1 hx hret rfl rfl hlk (hb hby d26_4) hF (by rw [e1]; exact ⟨rfl, N1, rfl⟩) (by decide) (by decide)
theorem d39_43 : decode prog_25_method_1_code 43 = .ok (.putfield 36, 3) := by decide +kernel
theorem d39_46 : decode prog_25_method_1_code 46 = .ok (.aload_n 0, 1) := by decide +kernel
theorem d39_47 : decode prog_25_method_1_code 47 = .ok (.aload 8, 2) := by decide +kernel
theorem d39_49 : decode prog_25_method_1_code 49 = .ok (.putfield 40, 3) := by decide +kernel
theorem d39_52 : decode prog_25_method_1_code 52 = .ok (.aload_n 0, 1) := by decide +kernel
theorem d39_53 : decode prog_25_method_1_code 53 = .ok (.aload 9, 2) := by decide +kernel
theorem d39_55 : decode prog_25_method_1_code 55 = .ok (.putfield 43, 3) := by decide +kernel
theorem d39_58 : decode prog_25_method_1_code 58 = .ok (.return_, 1) := by decide +kernel
set_option maxRecDepth 65536 in
set_option maxHeartbeats 40000000 in
theorem rm_init_42 (l : Launch) (Z : State) (a0 : Array Value) (g_COMPACT_STRINGS : Int32) (g_SIOOBE_FORMATTER : Value) (g_DEFAULTCAPACITY_EMPTY_ELEMENTDATA : Addr) (g_EMPTY : Addr) (g_EMPTY_LIST : Addr) (gk_DEFAULTCAPACITY_EMPTY_ELEMENTDATA : ClassId) (g_NONE : Addr) (g_mir : Addr) (hW : own_W Z a0 g_COMPACT_STRINGS g_SIOOBE_FORMATTER g_DEFAULTCAPACITY_EMPTY_ELEMENTDATA g_EMPTY g_EMPTY_LIST gk_DEFAULTCAPACITY_EMPTY_ELEMENTDATA g_NONE g_mir) (a1 : Addr) (a2 : Addr) (a3 : Addr) (a4 : Addr) (h0 : Heap) (O0 : Old Z Z.heap.size h0) (h_1 : Fld Z h0 a1 "com/example/restoral/restoral/engine/Step" "owner" "Lcom/example/restoral/restoral/engine/RowName;" .null) (h_2 : Exa Z h0 a1 "com/example/restoral/restoral/engine/Step") (h_3 : Z.heap.size ≤ a1) (h_4 : Fld Z h0 a1 "com/example/restoral/restoral/engine/Step" "term" "Ljava/lang/String;" .null) (h_5 : Fld Z h0 a1 "com/example/restoral/restoral/engine/Step" "value" "Ljava/lang/Object;" .null) (h_6 : Fld Z h0 a1 "com/example/restoral/restoral/engine/Step" "section" "Ljava/lang/String;" .null) (h_7 : Fld Z h0 a1 "com/example/restoral/restoral/engine/Step" "source" "Ljava/lang/String;" .null) (h_8 : Fld Z h0 a1 "com/example/restoral/restoral/engine/Step" "formula" "Ljava/lang/String;" .null) (h_9 : Fld Z h0 a1 "com/example/restoral/restoral/engine/Step" "operands" "Ljava/util/List;" .null) (h_10 : Fld Z h0 a1 "com/example/restoral/restoral/engine/Step" "row" "Lcom/example/restoral/restoral/engine/RowName;" .null) (h_11 : Fld Z h0 a1 "com/example/restoral/restoral/engine/Step" "column" "Ljava/lang/String;" .null) :
    own_Met l Z (⟨"com/example/restoral/restoral/engine/Step", "<init>", "(Lcom/example/restoral/restoral/engine/RowName;Ljava/lang/String;Ljava/lang/Object;Ljava/lang/String;Ljava/lang/String;Ljava/lang/String;Ljava/util/List;Lcom/example/restoral/restoral/engine/RowName;Ljava/lang/String;)V"⟩ : MethodName) prog_25_method_1_code 10 none ({ frames := 2, cells := 0, slots := 0, locals := 26 } : Room) #[(.ref a1), (.ref a2), (.ref a3), (.ref a4), (.ref a4), (.ref a3), .null, (.ref g_EMPTY_LIST), .null, .null] h0 (fun v h L => v = none ∧ Fr Z.heap.size L ∧ Keep h0 h [a1] ∧ Exa Z h a1 "com/example/restoral/restoral/engine/Step" ∧ Fld Z h a1 "com/example/restoral/restoral/engine/Step" "owner" "Lcom/example/restoral/restoral/engine/RowName;" (.ref a2) ∧ Fld Z h a1 "com/example/restoral/restoral/engine/Step" "term" "Ljava/lang/String;" (.ref a3) ∧ Fld Z h a1 "com/example/restoral/restoral/engine/Step" "value" "Ljava/lang/Object;" (.ref a4) ∧ Fld Z h a1 "com/example/restoral/restoral/engine/Step" "section" "Ljava/lang/String;" (.ref a4) ∧ Fld Z h a1 "com/example/restoral/restoral/engine/Step" "source" "Ljava/lang/String;" (.ref a3) ∧ Fld Z h a1 "com/example/restoral/restoral/engine/Step" "formula" "Ljava/lang/String;" .null ∧ Fld Z h a1 "com/example/restoral/restoral/engine/Step" "operands" "Ljava/util/List;" (.ref g_EMPTY_LIST) ∧ Fld Z h a1 "com/example/restoral/restoral/engine/Step" "row" "Lcom/example/restoral/restoral/engine/RowName;" .null ∧ Fld Z h a1 "com/example/restoral/restoral/engine/Step" "column" "Ljava/lang/String;" .null) := by
  have hW_ := hW
  obtain ⟨hw, S_g_COMPACT_STRINGS, P_g_COMPACT_STRINGS, R_g_SIOOBE_FORMATTER, S_g_SIOOBE_FORMATTER, S_g__assertionsDisabled, S_g_DEFAULTCAPACITY_EMPTY_ELEMENTDATA, E_g_DEFAULTCAPACITY_EMPTY_ELEMENTDATA, S_g_EMPTY, E_g_EMPTY, S_g_EMPTY_LIST, E_g_EMPTY_LIST, V_g_DEFAULTCAPACITY_EMPTY_ELEMENTDATA, F_g_EMPTY_LIST_allowNulls, S_g_NONE, E_g_NONE, F_g_NONE_owner, M_mir⟩ := hW_
  refine own_met (plainFor_of_name pn_com_example_restoral_restoral_engine_Step) ?_
  intro p e s m below meth cc_ s₁ Φ hF X0 hx hby hml hZ hown hnm hret hlk e0
  have N0 := Fr.nil Z.heap.size
  refine own_k (T' := s₁) (g' := (mkF m 0 #[.val (.ref a1), .val (.ref a2), .val (.ref a3), .val (.ref a4), .val (.ref a4), .val (.ref a3), .val .null, .val (.ref g_EMPTY_LIST), .val .null, .val .null] [])) (fun _ k_ => castTop (ef_39_RRRRRRNRNN m a1 a2 a3 a4 a4 a3 g_EMPTY_LIST) k_) ?_
  refine own_k (T' := s₁) (g' := (mkF m 1 #[.val (.ref a1), .val (.ref a2), .val (.ref a3), .val (.ref a4), .val (.ref a4), .val (.ref a3), .val .null, .val (.ref g_EMPTY_LIST), .val .null, .val .null] [(.ref a1)])) (fun _ k_ => XS.aloadN X0.here hx rfl (hb hby d39_0) rfl rfl  k_) ?_
  obtain ⟨T1, X1, e1, st1⟩ := initO X0 hx hZ hown (hw _ (List.mem_of_getElem? (i := 246) rfl)) (hw _ (List.mem_of_getElem? (i := 12) rfl)) (hw _ (List.mem_of_getElem? (i := 13) rfl)) e0 (g := (mkF m 1 #[.val (.ref a1), .val (.ref a2), .val (.ref a3), .val (.ref a4), .val (.ref a4), .val (.ref a3), .val .null, .val (.ref g_EMPTY_LIST), .val .null, .val .null] [(.ref a1)])) rfl (by rw [hml]; rfl) rfl (hb hby d39_1) (by decide) (W := 0) (by show 2 * 0 + _ ≤ _; exact Nat.le_of_eq rfl) (by decide)
  refine own_k (T' := T1) (g' := (mkF m 4 #[.val (.ref a1), .val (.ref a2), .val (.ref a3), .val (.ref a4), .val (.ref a4), .val (.ref a3), .val .null, .val (.ref g_EMPTY_LIST), .val .null, .val .null] [])) st1 ?_
  refine own_k (T' := T1) (g' := (mkF m 5 #[.val (.ref a1), .val (.ref a2), .val (.ref a3), .val (.ref a4), .val (.ref a4), .val (.ref a3), .val .null, .val (.ref g_EMPTY_LIST), .val .null, .val .null] [(.ref a1)])) (fun _ k_ => XS.aloadN X1.here hx rfl (hb hby d39_4) rfl rfl  k_) ?_
  refine own_k (T' := T1) (g' := (mkF m 6 #[.val (.ref a1), .val (.ref a2), .val (.ref a3), .val (.ref a4), .val (.ref a4), .val (.ref a3), .val .null, .val (.ref g_EMPTY_LIST), .val .null, .val .null] [(.ref a2), (.ref a1)])) (fun _ k_ => XS.aloadN X1.here hx rfl (hb hby d39_5) rfl rfl  k_) ?_
  obtain ⟨T2, h2, X2, e2, W2, st2⟩ := putF X1 hx hZ hown (host := "") (Or.inl (hw _ (List.mem_of_getElem? (i := 247) rfl))) Via.refl e1 h_1 h_2 (Or.inr ⟨(hw _ (List.mem_of_getElem? (i := 248) rfl)), rfl, hnm⟩) (hw _ (List.mem_of_getElem? (i := 237) rfl)) (ty := (.object "com/example/restoral/restoral/engine/RowName")) (by decide) rfl rfl (g := (mkF m 6 #[.val (.ref a1), .val (.ref a2), .val (.ref a3), .val (.ref a4), .val (.ref a4), .val (.ref a3), .val .null, .val (.ref g_EMPTY_LIST), .val .null, .val .null] [(.ref a2), (.ref a1)])) rfl rfl (hb hby d39_6)
  have w2 := Fld.same W2 h_1
  have O2' := O0.wr W2 h_3
  have N2 := Fr.snoc X2 N0 h_3
  refine own_k (T' := T2) (g' := (mkF m 9 #[.val (.ref a1), .val (.ref a2), .val (.ref a3), .val (.ref a4), .val (.ref a4), .val (.ref a3), .val .null, .val (.ref g_EMPTY_LIST), .val .null, .val .null] [])) st2 ?_
  refine own_k (T' := T2) (g' := (mkF m 10 #[.val (.ref a1), .val (.ref a2), .val (.ref a3), .val (.ref a4), .val (.ref a4), .val (.ref a3), .val .null, .val (.ref g_EMPTY_LIST), .val .null, .val .null] [(.ref a1)])) (fun _ k_ => XS.aloadN X2.here hx rfl (hb hby d39_9) rfl rfl  k_) ?_
  refine own_k (T' := T2) (g' := (mkF m 11 #[.val (.ref a1), .val (.ref a2), .val (.ref a3), .val (.ref a4), .val (.ref a4), .val (.ref a3), .val .null, .val (.ref g_EMPTY_LIST), .val .null, .val .null] [(.ref a3), (.ref a1)])) (fun _ k_ => XS.aloadN X2.here hx rfl (hb hby d39_10) rfl rfl  k_) ?_
  have f3 := (h_4.other W2 (Or.inr (slot_ne (Or.inr (hw _ (List.mem_of_getElem? (i := 250) rfl))) (Or.inr (hw _ (List.mem_of_getElem? (i := 248) rfl))) (by decide) (t := (.object "java/lang/String")) (t' := (.object "com/example/restoral/restoral/engine/RowName")) (by decide) (by decide))))
  obtain ⟨T4, h4, X4, e4, W4, st4⟩ := putF X2 hx hZ hown (host := "") (Or.inl (hw _ (List.mem_of_getElem? (i := 249) rfl))) Via.refl e2 f3 (h_2.wr W2) (Or.inr ⟨(hw _ (List.mem_of_getElem? (i := 250) rfl)), rfl, hnm⟩) (hw _ (List.mem_of_getElem? (i := 237) rfl)) (ty := (.object "java/lang/String")) (by decide) rfl rfl (g := (mkF m 11 #[.val (.ref a1), .val (.ref a2), .val (.ref a3), .val (.ref a4), .val (.ref a4), .val (.ref a3), .val .null, .val (.ref g_EMPTY_LIST), .val .null, .val .null] [(.ref a3), (.ref a1)])) rfl rfl (hb hby d39_11)
  have w4 := Fld.same W4 f3
  have O4' := O2'.wr W4 h_3
  have N4 := Fr.snoc X4 N2 h_3
  refine own_k (T' := T4) (g' := (mkF m 14 #[.val (.ref a1), .val (.ref a2), .val (.ref a3), .val (.ref a4), .val (.ref a4), .val (.ref a3), .val .null, .val (.ref g_EMPTY_LIST), .val .null, .val .null] [])) st4 ?_
  refine own_k (T' := T4) (g' := (mkF m 15 #[.val (.ref a1), .val (.ref a2), .val (.ref a3), .val (.ref a4), .val (.ref a4), .val (.ref a3), .val .null, .val (.ref g_EMPTY_LIST), .val .null, .val .null] [(.ref a1)])) (fun _ k_ => XS.aloadN X4.here hx rfl (hb hby d39_14) rfl rfl  k_) ?_
  refine own_k (T' := T4) (g' := (mkF m 16 #[.val (.ref a1), .val (.ref a2), .val (.ref a3), .val (.ref a4), .val (.ref a4), .val (.ref a3), .val .null, .val (.ref g_EMPTY_LIST), .val .null, .val .null] [(.ref a4), (.ref a1)])) (fun _ k_ => XS.aloadN X4.here hx rfl (hb hby d39_15) rfl rfl  k_) ?_
  have f5 := ((h_5.other W2 (Or.inr (slot_ne (Or.inr (hw _ (List.mem_of_getElem? (i := 252) rfl))) (Or.inr (hw _ (List.mem_of_getElem? (i := 248) rfl))) (by decide) (t := (.object "java/lang/Object")) (t' := (.object "com/example/restoral/restoral/engine/RowName")) (by decide) (by decide)))).other W4 (Or.inr (slot_ne (Or.inr (hw _ (List.mem_of_getElem? (i := 252) rfl))) (Or.inr (hw _ (List.mem_of_getElem? (i := 250) rfl))) (by decide) (t := (.object "java/lang/Object")) (t' := (.object "java/lang/String")) (by decide) (by decide))))
  obtain ⟨T6, h6, X6, e6, W6, st6⟩ := putF X4 hx hZ hown (host := "") (Or.inl (hw _ (List.mem_of_getElem? (i := 251) rfl))) Via.refl e4 f5 ((h_2.wr W2).wr W4) (Or.inr ⟨(hw _ (List.mem_of_getElem? (i := 252) rfl)), rfl, hnm⟩) (hw _ (List.mem_of_getElem? (i := 237) rfl)) (ty := (.object "java/lang/Object")) (by decide) rfl rfl (g := (mkF m 16 #[.val (.ref a1), .val (.ref a2), .val (.ref a3), .val (.ref a4), .val (.ref a4), .val (.ref a3), .val .null, .val (.ref g_EMPTY_LIST), .val .null, .val .null] [(.ref a4), (.ref a1)])) rfl rfl (hb hby d39_16)
  have w6 := Fld.same W6 f5
  have O6' := O4'.wr W6 h_3
  have N6 := Fr.snoc X6 N4 h_3
  refine own_k (T' := T6) (g' := (mkF m 19 #[.val (.ref a1), .val (.ref a2), .val (.ref a3), .val (.ref a4), .val (.ref a4), .val (.ref a3), .val .null, .val (.ref g_EMPTY_LIST), .val .null, .val .null] [])) st6 ?_
  refine own_k (T' := T6) (g' := (mkF m 20 #[.val (.ref a1), .val (.ref a2), .val (.ref a3), .val (.ref a4), .val (.ref a4), .val (.ref a3), .val .null, .val (.ref g_EMPTY_LIST), .val .null, .val .null] [(.ref a1)])) (fun _ k_ => XS.aloadN X6.here hx rfl (hb hby d39_19) rfl rfl  k_) ?_
  refine own_k (T' := T6) (g' := (mkF m 22 #[.val (.ref a1), .val (.ref a2), .val (.ref a3), .val (.ref a4), .val (.ref a4), .val (.ref a3), .val .null, .val (.ref g_EMPTY_LIST), .val .null, .val .null] [(.ref a4), (.ref a1)])) (fun _ k_ => XS.aload X6.here hx rfl (hb hby d39_20) rfl rfl  k_) ?_
  have f7 := (((h_6.other W2 (Or.inr (slot_ne (Or.inr (hw _ (List.mem_of_getElem? (i := 254) rfl))) (Or.inr (hw _ (List.mem_of_getElem? (i := 248) rfl))) (by decide) (t := (.object "java/lang/String")) (t' := (.object "com/example/restoral/restoral/engine/RowName")) (by decide) (by decide)))).other W4 (Or.inr (slot_ne (Or.inr (hw _ (List.mem_of_getElem? (i := 254) rfl))) (Or.inr (hw _ (List.mem_of_getElem? (i := 250) rfl))) (by decide) (t := (.object "java/lang/String")) (t' := (.object "java/lang/String")) (by decide) (by decide)))).other W6 (Or.inr (slot_ne (Or.inr (hw _ (List.mem_of_getElem? (i := 254) rfl))) (Or.inr (hw _ (List.mem_of_getElem? (i := 252) rfl))) (by decide) (t := (.object "java/lang/String")) (t' := (.object "java/lang/Object")) (by decide) (by decide))))
  obtain ⟨T8, h8, X8, e8, W8, st8⟩ := putF X6 hx hZ hown (host := "") (Or.inl (hw _ (List.mem_of_getElem? (i := 253) rfl))) Via.refl e6 f7 (((h_2.wr W2).wr W4).wr W6) (Or.inr ⟨(hw _ (List.mem_of_getElem? (i := 254) rfl)), rfl, hnm⟩) (hw _ (List.mem_of_getElem? (i := 237) rfl)) (ty := (.object "java/lang/String")) (by decide) rfl rfl (g := (mkF m 22 #[.val (.ref a1), .val (.ref a2), .val (.ref a3), .val (.ref a4), .val (.ref a4), .val (.ref a3), .val .null, .val (.ref g_EMPTY_LIST), .val .null, .val .null] [(.ref a4), (.ref a1)])) rfl rfl (hb hby d39_22)
  have w8 := Fld.same W8 f7
  have O8' := O6'.wr W8 h_3
  have N8 := Fr.snoc X8 N6 h_3
  refine own_k (T' := T8) (g' := (mkF m 25 #[.val (.ref a1), .val (.ref a2), .val (.ref a3), .val (.ref a4), .val (.ref a4), .val (.ref a3), .val .null, .val (.ref g_EMPTY_LIST), .val .null, .val .null] [])) st8 ?_
  refine own_k (T' := T8) (g' := (mkF m 26 #[.val (.ref a1), .val (.ref a2), .val (.ref a3), .val (.ref a4), .val (.ref a4), .val (.ref a3), .val .null, .val (.ref g_EMPTY_LIST), .val .null, .val .null] [(.ref a1)])) (fun _ k_ => XS.aloadN X8.here hx rfl (hb hby d39_25) rfl rfl  k_) ?_
  refine own_k (T' := T8) (g' := (mkF m 28 #[.val (.ref a1), .val (.ref a2), .val (.ref a3), .val (.ref a4), .val (.ref a4), .val (.ref a3), .val .null, .val (.ref g_EMPTY_LIST), .val .null, .val .null] [(.ref a3), (.ref a1)])) (fun _ k_ => XS.aload X8.here hx rfl (hb hby d39_26) rfl rfl  k_) ?_
  have f9 := ((((h_7.other W2 (Or.inr (slot_ne (Or.inr (hw _ (List.mem_of_getElem? (i := 256) rfl))) (Or.inr (hw _ (List.mem_of_getElem? (i := 248) rfl))) (by decide) (t := (.object "java/lang/String")) (t' := (.object "com/example/restoral/restoral/engine/RowName")) (by decide) (by decide)))).other W4 (Or.inr (slot_ne (Or.inr (hw _ (List.mem_of_getElem? (i := 256) rfl))) (Or.inr (hw _ (List.mem_of_getElem? (i := 250) rfl))) (by decide) (t := (.object "java/lang/String")) (t' := (.object "java/lang/String")) (by decide) (by decide)))).other W6 (Or.inr (slot_ne (Or.inr (hw _ (List.mem_of_getElem? (i := 256) rfl))) (Or.inr (hw _ (List.mem_of_getElem? (i := 252) rfl))) (by decide) (t := (.object "java/lang/String")) (t' := (.object "java/lang/Object")) (by decide) (by decide)))).other W8 (Or.inr (slot_ne (Or.inr (hw _ (List.mem_of_getElem? (i := 256) rfl))) (Or.inr (hw _ (List.mem_of_getElem? (i := 254) rfl))) (by decide) (t := (.object "java/lang/String")) (t' := (.object "java/lang/String")) (by decide) (by decide))))
  obtain ⟨T10, h10, X10, e10, W10, st10⟩ := putF X8 hx hZ hown (host := "") (Or.inl (hw _ (List.mem_of_getElem? (i := 255) rfl))) Via.refl e8 f9 ((((h_2.wr W2).wr W4).wr W6).wr W8) (Or.inr ⟨(hw _ (List.mem_of_getElem? (i := 256) rfl)), rfl, hnm⟩) (hw _ (List.mem_of_getElem? (i := 237) rfl)) (ty := (.object "java/lang/String")) (by decide) rfl rfl (g := (mkF m 28 #[.val (.ref a1), .val (.ref a2), .val (.ref a3), .val (.ref a4), .val (.ref a4), .val (.ref a3), .val .null, .val (.ref g_EMPTY_LIST), .val .null, .val .null] [(.ref a3), (.ref a1)])) rfl rfl (hb hby d39_28)
  have w10 := Fld.same W10 f9
  have O10' := O8'.wr W10 h_3
  have N10 := Fr.snoc X10 N8 h_3
  refine own_k (T' := T10) (g' := (mkF m 31 #[.val (.ref a1), .val (.ref a2), .val (.ref a3), .val (.ref a4), .val (.ref a4), .val (.ref a3), .val .null, .val (.ref g_EMPTY_LIST), .val .null, .val .null] [])) st10 ?_
  refine own_k (T' := T10) (g' := (mkF m 32 #[.val (.ref a1), .val (.ref a2), .val (.ref a3), .val (.ref a4), .val (.ref a4), .val (.ref a3), .val .null, .val (.ref g_EMPTY_LIST), .val .null, .val .null] [(.ref a1)])) (fun _ k_ => XS.aloadN X10.here hx rfl (hb hby d39_31) rfl rfl  k_) ?_
  refine own_k (T' := T10) (g' := (mkF m 34 #[.val (.ref a1), .val (.ref a2), .val (.ref a3), .val (.ref a4), .val (.ref a4), .val (.ref a3), .val .null, .val (.ref g_EMPTY_LIST), .val .null, .val .null] [.null, (.ref a1)])) (fun _ k_ => XS.aload X10.here hx rfl (hb hby d39_32) rfl rfl  k_) ?_
  have f11 := (((((h_8.other W2 (Or.inr (slot_ne (Or.inr (hw _ (List.mem_of_getElem? (i := 258) rfl))) (Or.inr (hw _ (List.mem_of_getElem? (i := 248) rfl))) (by decide) (t := (.object "java/lang/String")) (t' := (.object "com/example/restoral/restoral/engine/RowName")) (by decide) (by decide)))).other W4 (Or.inr (slot_ne (Or.inr (hw _ (List.mem_of_getElem? (i := 258) rfl))) (Or.inr (hw _ (List.mem_of_getElem? (i := 250) rfl))) (by decide) (t := (.object "java/lang/String")) (t' := (.object "java/lang/String")) (by decide) (by decide)))).other W6 (Or.inr (slot_ne (Or.inr (hw _ (List.mem_of_getElem? (i := 258) rfl))) (Or.inr (hw _ (List.mem_of_getElem? (i := 252) rfl))) (by decide) (t := (.object "java/lang/String")) (t' := (.object "java/lang/Object")) (by decide) (by decide)))).other W8 (Or.inr (slot_ne (Or.inr (hw _ (List.mem_of_getElem? (i := 258) rfl))) (Or.inr (hw _ (List.mem_of_getElem? (i := 254) rfl))) (by decide) (t := (.object "java/lang/String")) (t' := (.object "java/lang/String")) (by decide) (by decide)))).other W10 (Or.inr (slot_ne (Or.inr (hw _ (List.mem_of_getElem? (i := 258) rfl))) (Or.inr (hw _ (List.mem_of_getElem? (i := 256) rfl))) (by decide) (t := (.object "java/lang/String")) (t' := (.object "java/lang/String")) (by decide) (by decide))))
  obtain ⟨T12, h12, X12, e12, W12, st12⟩ := putF X10 hx hZ hown (host := "") (Or.inl (hw _ (List.mem_of_getElem? (i := 257) rfl))) Via.refl e10 f11 (((((h_2.wr W2).wr W4).wr W6).wr W8).wr W10) (Or.inr ⟨(hw _ (List.mem_of_getElem? (i := 258) rfl)), rfl, hnm⟩) (hw _ (List.mem_of_getElem? (i := 237) rfl)) (ty := (.object "java/lang/String")) (by decide) rfl rfl (g := (mkF m 34 #[.val (.ref a1), .val (.ref a2), .val (.ref a3), .val (.ref a4), .val (.ref a4), .val (.ref a3), .val .null, .val (.ref g_EMPTY_LIST), .val .null, .val .null] [.null, (.ref a1)])) rfl rfl (hb hby d39_34)
  have w12 := Fld.same W12 f11
  have O12' := O10'.wr W12 h_3
  have N12 := Fr.snoc X12 N10 h_3
  refine own_k (T' := T12) (g' := (mkF m 37 #[.val (.ref a1), .val (.ref a2), .val (.ref a3), .val (.ref a4), .val (.ref a4), .val (.ref a3), .val .null, .val (.ref g_EMPTY_LIST), .val .null, .val .null] [])) st12 ?_
  refine own_k (T' := T12) (g' := (mkF m 38 #[.val (.ref a1), .val (.ref a2), .val (.ref a3), .val (.ref a4), .val (.ref a4), .val (.ref a3), .val .null, .val (.ref g_EMPTY_LIST), .val .null, .val .null] [(.ref a1)])) (fun _ k_ => XS.aloadN X12.here hx rfl (hb hby d39_37) rfl rfl  k_) ?_
  refine own_k (T' := T12) (g' := (mkF m 40 #[.val (.ref a1), .val (.ref a2), .val (.ref a3), .val (.ref a4), .val (.ref a4), .val (.ref a3), .val .null, .val (.ref g_EMPTY_LIST), .val .null, .val .null] [(.ref g_EMPTY_LIST), (.ref a1)])) (fun _ k_ => XS.aload X12.here hx rfl (hb hby d39_38) rfl rfl  k_) ?_
  refine own_callS X12 hx hZ (y := (⟨"java/util/List", "copyOf", "(Ljava/util/Collection;)Ljava/util/List;"⟩ : MethodName)) hown (hw _ (List.mem_of_getElem? (i := 259) rfl)) (hw _ (List.mem_of_getElem? (i := 147) rfl)) (hw _ (List.mem_of_getElem? (i := 148) rfl)) (hw _ (List.mem_of_getElem? (i := 149) rfl)) (by decide) (al := [(.ref g_EMPTY_LIST)]) (rm_copyOf_41 l Z a0 g_COMPACT_STRINGS g_SIOOBE_FORMATTER g_DEFAULTCAPACITY_EMPTY_ELEMENTDATA g_EMPTY g_EMPTY_LIST gk_DEFAULTCAPACITY_EMPTY_ELEMENTDATA g_NONE g_mir hW h12 O12') 1 (by decide) (by decide) e12 (by decide) (by decide) (by rw [hml]; rfl) (lenOf pd__28Ljava_2futil_2fCollection_3b_29Ljava_2futil_2fList_3b rfl) rfl (rest := [(.ref a1)]) (by show 2 * 0 + _ ≤ _; exact Nat.le_of_eq rfl) (hb hby d39_40) ?_
  intro v13 T13 L13 X13 hQ13
  obtain ⟨rfl, Nq13, e13⟩ := hQ13
  have N13 := Fr.app N12 Nq13
  show own_Go p e below Φ T13 (mkF m 43 #[.val (.ref a1), .val (.ref a2), .val (.ref a3), .val (.ref a4), .val (.ref a4), .val (.ref a3), .val .null, .val (.ref g_EMPTY_LIST), .val .null, .val .null] [(.ref g_EMPTY_LIST), (.ref a1)])
  have f14 := ((((((h_9.other W2 (Or.inr (slot_ne (Or.inr (hw _ (List.mem_of_getElem? (i := 269) rfl))) (Or.inr (hw _ (List.mem_of_getElem? (i := 248) rfl))) (by decide) (t := (.object "java/util/List")) (t' := (.object "com/example/restoral/restoral/engine/RowName")) (by decide) (by decide)))).other W4 (Or.inr (slot_ne (Or.inr (hw _ (List.mem_of_getElem? (i := 269) rfl))) (Or.inr (hw _ (List.mem_of_getElem? (i := 250) rfl))) (by decide) (t := (.object "java/util/List")) (t' := (.object "java/lang/String")) (by decide) (by decide)))).other W6 (Or.inr (slot_ne (Or.inr (hw _ (List.mem_of_getElem? (i := 269) rfl))) (Or.inr (hw _ (List.mem_of_getElem? (i := 252) rfl))) (by decide) (t := (.object "java/util/List")) (t' := (.object "java/lang/Object")) (by decide) (by decide)))).other W8 (Or.inr (slot_ne (Or.inr (hw _ (List.mem_of_getElem? (i := 269) rfl))) (Or.inr (hw _ (List.mem_of_getElem? (i := 254) rfl))) (by decide) (t := (.object "java/util/List")) (t' := (.object "java/lang/String")) (by decide) (by decide)))).other W10 (Or.inr (slot_ne (Or.inr (hw _ (List.mem_of_getElem? (i := 269) rfl))) (Or.inr (hw _ (List.mem_of_getElem? (i := 256) rfl))) (by decide) (t := (.object "java/util/List")) (t' := (.object "java/lang/String")) (by decide) (by decide)))).other W12 (Or.inr (slot_ne (Or.inr (hw _ (List.mem_of_getElem? (i := 269) rfl))) (Or.inr (hw _ (List.mem_of_getElem? (i := 258) rfl))) (by decide) (t := (.object "java/util/List")) (t' := (.object "java/lang/String")) (by decide) (by decide))))
  obtain ⟨T15, h15, X15, e15, W15, st15⟩ := putF X13 hx hZ hown (host := "") (Or.inl (hw _ (List.mem_of_getElem? (i := 268) rfl))) Via.refl e13 f14 ((((((h_2.wr W2).wr W4).wr W6).wr W8).wr W10).wr W12) (Or.inr ⟨(hw _ (List.mem_of_getElem? (i := 269) rfl)), rfl, hnm⟩) (hw _ (List.mem_of_getElem? (i := 237) rfl)) (ty := (.object "java/util/List")) (by decide) rfl rfl (g := (mkF m 43 #[.val (.ref a1), .val (.ref a2), .val (.ref a3), .val (.ref a4), .val (.ref a4), .val (.ref a3), .val .null, .val (.ref g_EMPTY_LIST), .val .null, .val .null] [(.ref g_EMPTY_LIST), (.ref a1)])) rfl rfl (hb hby d39_43)
  have w15 := Fld.same W15 f14
  have O15' := O12'.wr W15 h_3
  have N15 := Fr.snoc X15 N13 h_3
  refine own_k (T' := T15) (g' := (mkF m 46 #[.val (.ref a1), .val (.ref a2), .val (.ref a3), .val (.ref a4), .val (.ref a4), .val (.ref a3), .val .null, .val (.ref g_EMPTY_LIST), .val .null, .val .null] [])) st15 ?_
  refine own_k (T' := T15) (g' := (mkF m 47 #[.val (.ref a1), .val (.ref a2), .val (.ref a3), .val (.ref a4), .val (.ref a4), .val (.ref a3), .val .null, .val (.ref g_EMPTY_LIST), .val .null, .val .null] [(.ref a1)])) (fun _ k_ => XS.aloadN X15.here hx rfl (hb hby d39_46) rfl rfl  k_) ?_
  refine own_k (T' := T15) (g' := (mkF m 49 #[.val (.ref a1), .val (.ref a2), .val (.ref a3), .val (.ref a4), .val (.ref a4), .val (.ref a3), .val .null, .val (.ref g_EMPTY_LIST), .val .null, .val .null] [.null, (.ref a1)])) (fun _ k_ => XS.aload X15.here hx rfl (hb hby d39_47) rfl rfl  k_) ?_
  have f16 := (((((((h_10.other W2 (Or.inr (slot_ne (Or.inr (hw _ (List.mem_of_getElem? (i := 271) rfl))) (Or.inr (hw _ (List.mem_of_getElem? (i := 248) rfl))) (by decide) (t := (.object "com/example/restoral/restoral/engine/RowName")) (t' := (.object "com/example/restoral/restoral/engine/RowName")) (by decide) (by decide)))).other W4 (Or.inr (slot_ne (Or.inr (hw _ (List.mem_of_getElem? (i := 271) rfl))) (Or.inr (hw _ (List.mem_of_getElem? (i := 250) rfl))) (by decide) (t := (.object "com/example/restoral/restoral/engine/RowName")) (t' := (.object "java/lang/String")) (by decide) (by decide)))).other W6 (Or.inr (slot_ne (Or.inr (hw _ (List.mem_of_getElem? (i := 271) rfl))) (Or.inr (hw _ (List.mem_of_getElem? (i := 252) rfl))) (by decide) (t := (.object "com/example/restoral/restoral/engine/RowName")) (t' := (.object "java/lang/Object")) (by decide) (by decide)))).other W8 (Or.inr (slot_ne (Or.inr (hw _ (List.mem_of_getElem? (i := 271) rfl))) (Or.inr (hw _ (List.mem_of_getElem? (i := 254) rfl))) (by decide) (t := (.object "com/example/restoral/restoral/engine/RowName")) (t' := (.object "java/lang/String")) (by decide) (by decide)))).other W10 (Or.inr (slot_ne (Or.inr (hw _ (List.mem_of_getElem? (i := 271) rfl))) (Or.inr (hw _ (List.mem_of_getElem? (i := 256) rfl))) (by decide) (t := (.object "com/example/restoral/restoral/engine/RowName")) (t' := (.object "java/lang/String")) (by decide) (by decide)))).other W12 (Or.inr (slot_ne (Or.inr (hw _ (List.mem_of_getElem? (i := 271) rfl))) (Or.inr (hw _ (List.mem_of_getElem? (i := 258) rfl))) (by decide) (t := (.object "com/example/restoral/restoral/engine/RowName")) (t' := (.object "java/lang/String")) (by decide) (by decide)))).other W15 (Or.inr (slot_ne (Or.inr (hw _ (List.mem_of_getElem? (i := 271) rfl))) (Or.inr (hw _ (List.mem_of_getElem? (i := 269) rfl))) (by decide) (t := (.object "com/example/restoral/restoral/engine/RowName")) (t' := (.object "java/util/List")) (by decide) (by decide))))
  have f17 := (((((((h_2.wr W2).wr W4).wr W6).wr W8).wr W10).wr W12).wr W15)
  obtain ⟨T18, h18, X18, e18, W18, st18⟩ := putF X15 hx hZ hown (host := "") (Or.inl (hw _ (List.mem_of_getElem? (i := 270) rfl))) Via.refl e15 f16 f17 (Or.inr ⟨(hw _ (List.mem_of_getElem? (i := 271) rfl)), rfl, hnm⟩) (hw _ (List.mem_of_getElem? (i := 237) rfl)) (ty := (.object "com/example/restoral/restoral/engine/RowName")) (by decide) rfl rfl (g := (mkF m 49 #[.val (.ref a1), .val (.ref a2), .val (.ref a3), .val (.ref a4), .val (.ref a4), .val (.ref a3), .val .null, .val (.ref g_EMPTY_LIST), .val .null, .val .null] [.null, (.ref a1)])) rfl rfl (hb hby d39_49)
  have w18 := Fld.same W18 f16
  have O18' := O15'.wr W18 h_3
  have N18 := Fr.snoc X18 N15 h_3
  refine own_k (T' := T18) (g' := (mkF m 52 #[.val (.ref a1), .val (.ref a2), .val (.ref a3), .val (.ref a4), .val (.ref a4), .val (.ref a3), .val .null, .val (.ref g_EMPTY_LIST), .val .null, .val .null] [])) st18 ?_
  refine own_k (T' := T18) (g' := (mkF m 53 #[.val (.ref a1), .val (.ref a2), .val (.ref a3), .val (.ref a4), .val (.ref a4), .val (.ref a3), .val .null, .val (.ref g_EMPTY_LIST), .val .null, .val .null] [(.ref a1)])) (fun _ k_ => XS.aloadN X18.here hx rfl (hb hby d39_52) rfl rfl  k_) ?_
  refine own_k (T' := T18) (g' := (mkF m 55 #[.val (.ref a1), .val (.ref a2), .val (.ref a3), .val (.ref a4), .val (.ref a4), .val (.ref a3), .val .null, .val (.ref g_EMPTY_LIST), .val .null, .val .null] [.null, (.ref a1)])) (fun _ k_ => XS.aload X18.here hx rfl (hb hby d39_53) rfl rfl  k_) ?_
  have f19 := ((((((((h_11.other W2 (Or.inr (slot_ne (Or.inr (hw _ (List.mem_of_getElem? (i := 273) rfl))) (Or.inr (hw _ (List.mem_of_getElem? (i := 248) rfl))) (by decide) (t := (.object "java/lang/String")) (t' := (.object "com/example/restoral/restoral/engine/RowName")) (by decide) (by decide)))).other W4 (Or.inr (slot_ne (Or.inr (hw _ (List.mem_of_getElem? (i := 273) rfl))) (Or.inr (hw _ (List.mem_of_getElem? (i := 250) rfl))) (by decide) (t := (.object "java/lang/String")) (t' := (.object "java/lang/String")) (by decide) (by decide)))).other W6 (Or.inr (slot_ne (Or.inr (hw _ (List.mem_of_getElem? (i := 273) rfl))) (Or.inr (hw _ (List.mem_of_getElem? (i := 252) rfl))) (by decide) (t := (.object "java/lang/String")) (t' := (.object "java/lang/Object")) (by decide) (by decide)))).other W8 (Or.inr (slot_ne (Or.inr (hw _ (List.mem_of_getElem? (i := 273) rfl))) (Or.inr (hw _ (List.mem_of_getElem? (i := 254) rfl))) (by decide) (t := (.object "java/lang/String")) (t' := (.object "java/lang/String")) (by decide) (by decide)))).other W10 (Or.inr (slot_ne (Or.inr (hw _ (List.mem_of_getElem? (i := 273) rfl))) (Or.inr (hw _ (List.mem_of_getElem? (i := 256) rfl))) (by decide) (t := (.object "java/lang/String")) (t' := (.object "java/lang/String")) (by decide) (by decide)))).other W12 (Or.inr (slot_ne (Or.inr (hw _ (List.mem_of_getElem? (i := 273) rfl))) (Or.inr (hw _ (List.mem_of_getElem? (i := 258) rfl))) (by decide) (t := (.object "java/lang/String")) (t' := (.object "java/lang/String")) (by decide) (by decide)))).other W15 (Or.inr (slot_ne (Or.inr (hw _ (List.mem_of_getElem? (i := 273) rfl))) (Or.inr (hw _ (List.mem_of_getElem? (i := 269) rfl))) (by decide) (t := (.object "java/lang/String")) (t' := (.object "java/util/List")) (by decide) (by decide)))).other W18 (Or.inr (slot_ne (Or.inr (hw _ (List.mem_of_getElem? (i := 273) rfl))) (Or.inr (hw _ (List.mem_of_getElem? (i := 271) rfl))) (by decide) (t := (.object "java/lang/String")) (t' := (.object "com/example/restoral/restoral/engine/RowName")) (by decide) (by decide))))
  obtain ⟨T20, h20, X20, e20, W20, st20⟩ := putF X18 hx hZ hown (host := "") (Or.inl (hw _ (List.mem_of_getElem? (i := 272) rfl))) Via.refl e18 f19 (f17.wr W18) (Or.inr ⟨(hw _ (List.mem_of_getElem? (i := 273) rfl)), rfl, hnm⟩) (hw _ (List.mem_of_getElem? (i := 237) rfl)) (ty := (.object "java/lang/String")) (by decide) rfl rfl (g := (mkF m 55 #[.val (.ref a1), .val (.ref a2), .val (.ref a3), .val (.ref a4), .val (.ref a4), .val (.ref a3), .val .null, .val (.ref g_EMPTY_LIST), .val .null, .val .null] [.null, (.ref a1)])) rfl rfl (hb hby d39_55)
  have w20 := Fld.same W20 f19
  have O20' := O18'.wr W20 h_3
  have N20 := Fr.snoc X20 N18 h_3
  refine own_k (T' := T20) (g' := (mkF m 58 #[.val (.ref a1), .val (.ref a2), .val (.ref a3), .val (.ref a4), .val (.ref a4), .val (.ref a3), .val .null, .val (.ref g_EMPTY_LIST), .val .null, .val .null] [])) st20 ?_
  have kp0 : Keep h0 h0 [a1] := Keep.refl h0 [a1]
  have kp1 : Keep h0 h2 [a1] := kp0.wr W2 (Or.inl (List.mem_of_getElem? (i := 0) rfl))
  have kp2 : Keep h0 h4 [a1] := kp1.wr W4 (Or.inl (List.mem_of_getElem? (i := 0) rfl))
  have kp3 : Keep h0 h6 [a1] := kp2.wr W6 (Or.inl (List.mem_of_getElem? (i := 0) rfl))
  have kp4 : Keep h0 h8 [a1] := kp3.wr W8 (Or.inl (List.mem_of_getElem? (i := 0) rfl))
  have kp5 : Keep h0 h10 [a1] := kp4.wr W10 (Or.inl (List.mem_of_getElem? (i := 0) rfl))
  have kp6 : Keep h0 h12 [a1] := kp5.wr W12 (Or.inl (List.mem_of_getElem? (i := 0) rfl))
  have kp7 : Keep h0 h15 [a1] := kp6.wr W15 (Or.inl (List.mem_of_getElem? (i := 0) rfl))
  have kp8 : Keep h0 h18 [a1] := kp7.wr W18 (Or.inl (List.mem_of_getElem? (i := 0) rfl))
  have kp9 : Keep h0 h20 [a1] := kp8.wr W20 (Or.inl (List.mem_of_getElem? (i := 0) rfl))
  have f21 := ((((((((w2.other W4 (Or.inr (slot_ne (Or.inr (hw _ (List.mem_of_getElem? (i := 248) rfl))) (Or.inr (hw _ (List.mem_of_getElem? (i := 250) rfl))) (by decide) (t := (.object "com/example/restoral/restoral/engine/RowName")) (t' := (.object "java/lang/String")) (by decide) (by decide)))).other W6 (Or.inr (slot_ne (Or.inr (hw _ (List.mem_of_getElem? (i := 248) rfl))) (Or.inr (hw _ (List.mem_of_getElem? (i := 252) rfl))) (by decide) (t := (.object "com/example/restoral/restoral/engine/RowName")) (t' := (.object "java/lang/Object")) (by decide) (by decide)))).other W8 (Or.inr (slot_ne (Or.inr (hw _ (List.mem_of_getElem? (i := 248) rfl))) (Or.inr (hw _ (List.mem_of_getElem? (i := 254) rfl))) (by decide) (t := (.object "com/example/restoral/restoral/engine/RowName")) (t' := (.object "java/lang/String")) (by decide) (by decide)))).other W10 (Or.inr (slot_ne (Or.inr (hw _ (List.mem_of_getElem? (i := 248) rfl))) (Or.inr (hw _ (List.mem_of_getElem? (i := 256) rfl))) (by decide) (t := (.object "com/example/restoral/restoral/engine/RowName")) (t' := (.object "java/lang/String")) (by decide) (by decide)))).other W12 (Or.inr (slot_ne (Or.inr (hw _ (List.mem_of_getElem? (i := 248) rfl))) (Or.inr (hw _ (List.mem_of_getElem? (i := 258) rfl))) (by decide) (t := (.object "com/example/restoral/restoral/engine/RowName")) (t' := (.object "java/lang/String")) (by decide) (by decide)))).other W15 (Or.inr (slot_ne (Or.inr (hw _ (List.mem_of_getElem? (i := 248) rfl))) (Or.inr (hw _ (List.mem_of_getElem? (i := 269) rfl))) (by decide) (t := (.object "com/example/restoral/restoral/engine/RowName")) (t' := (.object "java/util/List")) (by decide) (by decide)))).other W18 (Or.inr (slot_ne (Or.inr (hw _ (List.mem_of_getElem? (i := 248) rfl))) (Or.inr (hw _ (List.mem_of_getElem? (i := 271) rfl))) (by decide) (t := (.object "com/example/restoral/restoral/engine/RowName")) (t' := (.object "com/example/restoral/restoral/engine/RowName")) (by decide) (by decide)))).other W20 (Or.inr (slot_ne (Or.inr (hw _ (List.mem_of_getElem? (i := 248) rfl))) (Or.inr (hw _ (List.mem_of_getElem? (i := 273) rfl))) (by decide) (t := (.object "com/example/restoral/restoral/engine/RowName")) (t' := (.object "java/lang/String")) (by decide) (by decide))))
  have f22 := (((((((w4.other W6 (Or.inr (slot_ne (Or.inr (hw _ (List.mem_of_getElem? (i := 250) rfl))) (Or.inr (hw _ (List.mem_of_getElem? (i := 252) rfl))) (by decide) (t := (.object "java/lang/String")) (t' := (.object "java/lang/Object")) (by decide) (by decide)))).other W8 (Or.inr (slot_ne (Or.inr (hw _ (List.mem_of_getElem? (i := 250) rfl))) (Or.inr (hw _ (List.mem_of_getElem? (i := 254) rfl))) (by decide) (t := (.object "java/lang/String")) (t' := (.object "java/lang/String")) (by decide) (by decide)))).other W10 (Or.inr (slot_ne (Or.inr (hw _ (List.mem_of_getElem? (i := 250) rfl))) (Or.inr (hw _ (List.mem_of_getElem? (i := 256) rfl))) (by decide) (t := (.object "java/lang/String")) (t' := (.object "java/lang/String")) (by decide) (by decide)))).other W12 (Or.inr (slot_ne (Or.inr (hw _ (List.mem_of_getElem? (i := 250) rfl))) (Or.inr (hw _ (List.mem_of_getElem? (i := 258) rfl))) (by decide) (t := (.object "java/lang/String")) (t' := (.object "java/lang/String")) (by decide) (by decide)))).other W15 (Or.inr (slot_ne (Or.inr (hw _ (List.mem_of_getElem? (i := 250) rfl))) (Or.inr (hw _ (List.mem_of_getElem? (i := 269) rfl))) (by decide) (t := (.object "java/lang/String")) (t' := (.object "java/util/List")) (by decide) (by decide)))).other W18 (Or.inr (slot_ne (Or.inr (hw _ (List.mem_of_getElem? (i := 250) rfl))) (Or.inr (hw _ (List.mem_of_getElem? (i := 271) rfl))) (by decide) (t := (.object "java/lang/String")) (t' := (.object "com/example/restoral/restoral/engine/RowName")) (by decide) (by decide)))).other W20 (Or.inr (slot_ne (Or.inr (hw _ (List.mem_of_getElem? (i := 250) rfl))) (Or.inr (hw _ (List.mem_of_getElem? (i := 273) rfl))) (by decide) (t := (.object "java/lang/String")) (t' := (.object "java/lang/String")) (by decide) (by decide))))
  have f23 := ((((((w6.other W8 (Or.inr (slot_ne (Or.inr (hw _ (List.mem_of_getElem? (i := 252) rfl))) (Or.inr (hw _ (List.mem_of_getElem? (i := 254) rfl))) (by decide) (t := (.object "java/lang/Object")) (t' := (.object "java/lang/String")) (by decide) (by decide)))).other W10 (Or.inr (slot_ne (Or.inr (hw _ (List.mem_of_getElem? (i := 252) rfl))) (Or.inr (hw _ (List.mem_of_getElem? (i := 256) rfl))) (by decide) (t := (.object "java/lang/Object")) (t' := (.object "java/lang/String")) (by decide) (by decide)))).other W12 (Or.inr (slot_ne (Or.inr (hw _ (List.mem_of_getElem? (i := 252) rfl))) (Or.inr (hw _ (List.mem_of_getElem? (i := 258) rfl))) (by decide) (t := (.object "java/lang/Object")) (t' := (.object "java/lang/String")) (by decide) (by decide)))).other W15 (Or.inr (slot_ne (Or.inr (hw _ (List.mem_of_getElem? (i := 252) rfl))) (Or.inr (hw _ (List.mem_of_getElem? (i := 269) rfl))) (by decide) (t := (.object "java/lang/Object")) (t' := (.object "java/util/List")) (by decide) (by decide)))).other W18 (Or.inr (slot_ne (Or.inr (hw _ (List.mem_of_getElem? (i := 252) rfl))) (Or.inr (hw _ (List.mem_of_getElem? (i := 271) rfl))) (by decide) (t := (.object "java/lang/Object")) (t' := (.object "com/example/restoral/restoral/engine/RowName")) (by decide) (by decide)))).other W20 (Or.inr (slot_ne (Or.inr (hw _ (List.mem_of_getElem? (i := 252) rfl))) (Or.inr (hw _ (List.mem_of_getElem? (i := 273) rfl))) (by decide) (t := (.object "java/lang/Object")) (t' := (.object "java/lang/String")) (by decide) (by decide))))
  have f24 := (((((w8.other W10 (Or.inr (slot_ne (Or.inr (hw _ (List.mem_of_getElem? (i := 254) rfl))) (Or.inr (hw _ (List.mem_of_getElem? (i := 256) rfl))) (by decide) (t := (.object "java/lang/String")) (t' := (.object "java/lang/String")) (by decide) (by decide)))).other W12 (Or.inr (slot_ne (Or.inr (hw _ (List.mem_of_getElem? (i := 254) rfl))) (Or.inr (hw _ (List.mem_of_getElem? (i := 258) rfl))) (by decide) (t := (.object "java/lang/String")) (t' := (.object "java/lang/String")) (by decide) (by decide)))).other W15 (Or.inr (slot_ne (Or.inr (hw _ (List.mem_of_getElem? (i := 254) rfl))) (Or.inr (hw _ (List.mem_of_getElem? (i := 269) rfl))) (by decide) (t := (.object "java/lang/String")) (t' := (.object "java/util/List")) (by decide) (by decide)))).other W18 (Or.inr (slot_ne (Or.inr (hw _ (List.mem_of_getElem? (i := 254) rfl))) (Or.inr (hw _ (List.mem_of_getElem? (i := 271) rfl))) (by decide) (t := (.object "java/lang/String")) (t' := (.object "com/example/restoral/restoral/engine/RowName")) (by decide) (by decide)))).other W20 (Or.inr (slot_ne (Or.inr (hw _ (List.mem_of_getElem? (i := 254) rfl))) (Or.inr (hw _ (List.mem_of_getElem? (i := 273) rfl))) (by decide) (t := (.object "java/lang/String")) (t' := (.object "java/lang/String")) (by decide) (by decide))))
  have f25 := ((((w10.other W12 (Or.inr (slot_ne (Or.inr (hw _ (List.mem_of_getElem? (i := 256) rfl))) (Or.inr (hw _ (List.mem_of_getElem? (i := 258) rfl))) (by decide) (t := (.object "java/lang/String")) (t' := (.object "java/lang/String")) (by decide) (by decide)))).other W15 (Or.inr (slot_ne (Or.inr (hw _ (List.mem_of_getElem? (i := 256) rfl))) (Or.inr (hw _ (List.mem_of_getElem? (i := 269) rfl))) (by decide) (t := (.object "java/lang/String")) (t' := (.object "java/util/List")) (by decide) (by decide)))).other W18 (Or.inr (slot_ne (Or.inr (hw _ (List.mem_of_getElem? (i := 256) rfl))) (Or.inr (hw _ (List.mem_of_getElem? (i := 271) rfl))) (by decide) (t := (.object "java/lang/String")) (t' := (.object "com/example/restoral/restoral/engine/RowName")) (by decide) (by decide)))).other W20 (Or.inr (slot_ne (Or.inr (hw _ (List.mem_of_getElem? (i := 256) rfl))) (Or.inr (hw _ (List.mem_of_getElem? (i := 273) rfl))) (by decide) (t := (.object "java/lang/String")) (t' := (.object "java/lang/String")) (by decide) (by decide))))
  have f26 := (((w12.other W15 (Or.inr (slot_ne (Or.inr (hw _ (List.mem_of_getElem? (i := 258) rfl))) (Or.inr (hw _ (List.mem_of_getElem? (i := 269) rfl))) (by decide) (t := (.object "java/lang/String")) (t' := (.object "java/util/List")) (by decide) (by decide)))).other W18 (Or.inr (slot_ne (Or.inr (hw _ (List.mem_of_getElem? (i := 258) rfl))) (Or.inr (hw _ (List.mem_of_getElem? (i := 271) rfl))) (by decide) (t := (.object "java/lang/String")) (t' := (.object "com/example/restoral/restoral/engine/RowName")) (by decide) (by decide)))).other W20 (Or.inr (slot_ne (Or.inr (hw _ (List.mem_of_getElem? (i := 258) rfl))) (Or.inr (hw _ (List.mem_of_getElem? (i := 273) rfl))) (by decide) (t := (.object "java/lang/String")) (t' := (.object "java/lang/String")) (by decide) (by decide))))
  have f27 := ((w15.other W18 (Or.inr (slot_ne (Or.inr (hw _ (List.mem_of_getElem? (i := 269) rfl))) (Or.inr (hw _ (List.mem_of_getElem? (i := 271) rfl))) (by decide) (t := (.object "java/util/List")) (t' := (.object "com/example/restoral/restoral/engine/RowName")) (by decide) (by decide)))).other W20 (Or.inr (slot_ne (Or.inr (hw _ (List.mem_of_getElem? (i := 269) rfl))) (Or.inr (hw _ (List.mem_of_getElem? (i := 273) rfl))) (by decide) (t := (.object "java/util/List")) (t' := (.object "java/lang/String")) (by decide) (by decide))))
  have f28 := (w18.other W20 (Or.inr (slot_ne (Or.inr (hw _ (List.mem_of_getElem? (i := 271) rfl))) (Or.inr (hw _ (List.mem_of_getElem? (i := 273) rfl))) (by decide) (t := (.object "com/example/restoral/restoral/engine/RowName")) (t' := (.object "java/lang/String")) (by decide) (by decide))))
  exact own_ret0 X20 hx hret hlk (hb hby d39_58) hF (by rw [e20]; exact ⟨rfl, N20, kp9, ((f17.wr W18).wr W20), f21, f22, f23, f24, f25, f26, f27, f28, w20⟩) (by decide) (by decide)
theorem d13_30 : decode prog_26_method_8_code 30 = .ok (.goto 4, 3) := by decide +kernel
theorem ef_14_RR (m : MethodId) (x0 : Addr) (x1 : Addr)  : entryFrame m #[(.ref x0), (.ref x1)] 2 = mkF m 0 #[.val (.ref x0), .val (.ref x1)] [] := by first | (simp [entryFrame, mkF, argsToLocals, Value.category]; done) | rfl
theorem d14_4 : decode prog_26_method_13_code 4 = .ok (.aload_n 0, 1) := by decide +kernel
theorem d14_5 : decode prog_26_method_13_code 5 = .ok (.aload_n 1, 1) := by decide +kernel
theorem d14_6 : decode prog_26_method_13_code 6 = .ok (.putfield 91, 3) := by decide +kernel
set_option maxRecDepth 65536 in
set_option maxHeartbeats 40000000 in
theorem rm_taken_43 (l : Launch) (Z : State) (a0 : Array Value) (g_COMPACT_STRINGS : Int32) (g_SIOOBE_FORMATTER : Value) (g_DEFAULTCAPACITY_EMPTY_ELEMENTDATA : Addr) (g_EMPTY : Addr) (g_EMPTY_LIST : Addr) (gk_DEFAULTCAPACITY_EMPTY_ELEMENTDATA : ClassId) (g_NONE : Addr) (g_mir : Addr) (hW : own_W Z a0 g_COMPACT_STRINGS g_SIOOBE_FORMATTER g_DEFAULTCAPACITY_EMPTY_ELEMENTDATA g_EMPTY g_EMPTY_LIST gk_DEFAULTCAPACITY_EMPTY_ELEMENTDATA g_NONE g_mir) (a1 : Addr) (a2 : Addr) (a3 : Addr) (h0 : Heap) (O0 : Old Z Z.heap.size h0) (h_1 : Fld Z h0 a1 "com/example/restoral/restoral/engine/Steps" "last" "Lcom/example/restoral/restoral/engine/Step;" .null) (h_2 : Exa Z h0 a1 "com/example/restoral/restoral/engine/Steps") (h_3 : Z.heap.size ≤ a1) (h_4 : Fld Z h0 a1 "com/example/restoral/restoral/engine/Steps" "figures" "Ljava/util/Map;" .null) (h_5 : Fld Z h0 a1 "com/example/restoral/restoral/engine/Steps" "owner" "Lcom/example/restoral/restoral/engine/RowName;" (.ref a3)) :
    own_Met l Z (⟨"com/example/restoral/restoral/engine/Steps", "taken", "(Lcom/example/restoral/restoral/engine/Step;)Lcom/example/restoral/restoral/engine/Step;"⟩ : MethodName) prog_26_method_13_code 2 (some (.object "com/example/restoral/restoral/engine/Step")) ({ frames := 0, cells := 0, slots := 0, locals := 0 } : Room) #[(.ref a1), (.ref a2)] h0 (fun v h L => v = some (.ref a2) ∧ Fr Z.heap.size L ∧ Keep h0 h [a1] ∧ Exa Z h a1 "com/example/restoral/restoral/engine/Steps" ∧ Fld Z h a1 "com/example/restoral/restoral/engine/Steps" "last" "Lcom/example/restoral/restoral/engine/Step;" (.ref a2) ∧ Fld Z h a1 "com/example/restoral/restoral/engine/Steps" "figures" "Ljava/util/Map;" .null ∧ Fld Z h a1 "com/example/restoral/restoral/engine/Steps" "owner" "Lcom/example/restoral/restoral/engine/RowName;" (.ref a3)) := by
  have hW_ := hW
  obtain ⟨hw, S_g_COMPACT_STRINGS, P_g_COMPACT_STRINGS, R_g_SIOOBE_FORMATTER, S_g_SIOOBE_FORMATTER, S_g__assertionsDisabled, S_g_DEFAULTCAPACITY_EMPTY_ELEMENTDATA, E_g_DEFAULTCAPACITY_EMPTY_ELEMENTDATA, S_g_EMPTY, E_g_EMPTY, S_g_EMPTY_LIST, E_g_EMPTY_LIST, V_g_DEFAULTCAPACITY_EMPTY_ELEMENTDATA, F_g_EMPTY_LIST_allowNulls, S_g_NONE, E_g_NONE, F_g_NONE_owner, M_mir⟩ := hW_
  refine own_met (plainFor_of_name pn_com_example_restoral_restoral_engine_Steps) ?_
  intro p e s m below meth cc_ s₁ Φ hF X0 hx hby hml hZ hown hnm hret hlk e0
  have N0 := Fr.nil Z.heap.size
  refine own_k (T' := s₁) (g' := (mkF m 0 #[.val (.ref a1), .val (.ref a2)] [])) (fun _ k_ => castTop (ef_14_RR m a1 a2) k_) ?_
  refine own_k (T' := s₁) (g' := (mkF m 1 #[.val (.ref a1), .val (.ref a2)] [(.ref a2)])) (fun _ k_ => XS.aloadN X0.here hx rfl (hb hby d14_0) rfl rfl  k_) ?_
  refine own_k (T' := s₁) (g' := (mkF m 4 #[.val (.ref a1), .val (.ref a2)] [])) (fun _ k_ => XS.ifnullNo X0.here hx rfl (hb hby d14_1) rfl k_) ?_
  refine own_k (T' := s₁) (g' := (mkF m 5 #[.val (.ref a1), .val (.ref a2)] [(.ref a1)])) (fun _ k_ => XS.aloadN X0.here hx rfl (hb hby d14_4) rfl rfl  k_) ?_
  refine own_k (T' := s₁) (g' := (mkF m 6 #[.val (.ref a1), .val (.ref a2)] [(.ref a2), (.ref a1)])) (fun _ k_ => XS.aloadN X0.here hx rfl (hb hby d14_5) rfl rfl  k_) ?_
  obtain ⟨T1, h1, X1, e1, W1, st1⟩ := putF X0 hx hZ hown (host := "") (Or.inl (hw _ (List.mem_of_getElem? (i := 77) rfl))) Via.refl e0 h_1 h_2 (Or.inl (hw _ (List.mem_of_getElem? (i := 78) rfl))) (hw _ (List.mem_of_getElem? (i := 45) rfl)) (ty := (.object "com/example/restoral/restoral/engine/Step")) (by decide) rfl rfl (g := (mkF m 6 #[.val (.ref a1), .val (.ref a2)] [(.ref a2), (.ref a1)])) rfl rfl (hb hby d14_6)
  have w1 := Fld.same W1 h_1
  have O1' := O0.wr W1 h_3
  have N1 := Fr.snoc X1 N0 h_3
  refine own_k (T' := T1) (g' := (mkF m 9 #[.val (.ref a1), .val (.ref a2)] [])) st1 ?_
  refine own_k (T' := T1) (g' := (mkF m 10 #[.val (.ref a1), .val (.ref a2)] [(.ref a2)])) (fun _ k_ => XS.aloadN X1.here hx rfl (hb hby d14_9) rfl rfl  k_) ?_
  have kp0 : Keep h0 h0 [a1] := Keep.refl h0 [a1]
  have kp1 : Keep h0 h1 [a1] := kp0.wr W1 (Or.inl (List.mem_of_getElem? (i := 0) rfl))
  have f2 := (h_4.other W1 (Or.inr (slot_ne (Or.inr (hw _ (List.mem_of_getElem? (i := 54) rfl))) (Or.inl (hw _ (List.mem_of_getElem? (i := 78) rfl))) (by decide) (t := (.object "java/util/Map")) (t' := (.object "com/example/restoral/restoral/engine/Step")) (by decide) (by decide))))
  have f3 := (h_5.other W1 (Or.inr (slot_ne (Or.inr (hw _ (List.mem_of_getElem? (i := 52) rfl))) (Or.inl (hw _ (List.mem_of_getElem? (i := 78) rfl))) (by decide) (t := (.object "com/example/restoral/restoral/engine/RowName")) (t' := (.object "com/example/restoral/restoral/engine/Step")) (by decide) (by decide))))
  exact own_retA X1 hx hret rfl rfl hlk (hb hby d14_10) hF (by rw [e1]; exact ⟨rfl, N1, kp1, (h_2.wr W1), w1, f2, f3⟩) (by decide) (by decide)
set_option maxRecDepth 65536 in
set_option maxHeartbeats 40000000 in
theorem rm_fact_44 (l : Launch) (Z : State) (a0 : Array Value) (g_COMPACT_STRINGS : Int32) (g_SIOOBE_FORMATTER : Value) (g_DEFAULTCAPACITY_EMPTY_ELEMENTDATA : Addr) (g_EMPTY : Addr) (g_EMPTY_LIST : Addr) (gk_DEFAULTCAPACITY_EMPTY_ELEMENTDATA : ClassId) (g_NONE : Addr) (g_mir : Addr) (hW : own_W Z a0 g_COMPACT_STRINGS g_SIOOBE_FORMATTER g_DEFAULTCAPACITY_EMPTY_ELEMENTDATA g_EMPTY g_EMPTY_LIST gk_DEFAULTCAPACITY_EMPTY_ELEMENTDATA g_NONE g_mir) (a1 : Addr) (a2 : Addr) (a3 : Addr) (a4 : Addr) (h0 : Heap) (O0 : Old Z Z.heap.size h0) (h_1 : Fld Z h0 a1 "com/example/restoral/restoral/engine/Steps" "owner" "Lcom/example/restoral/restoral/engine/RowName;" (.ref a4)) (h_2 : Exa Z h0 a1 "com/example/restoral/restoral/engine/Steps") (h_3 : Fld Z h0 a1 "com/example/restoral/restoral/engine/Steps" "last" "Lcom/example/restoral/restoral/engine/Step;" .null) (h_4 : Z.heap.size ≤ a1) (h_5 : Fld Z h0 a1 "com/example/restoral/restoral/engine/Steps" "figures" "Ljava/util/Map;" .null) :
    own_Met l Z (⟨"com/example/restoral/restoral/engine/Steps", "fact", "(Ljava/lang/String;Ljava/lang/Object;Ljava/lang/String;Ljava/lang/String;)Lcom/example/restoral/restoral/engine/Step;"⟩ : MethodName) prog_26_method_8_code 5 (some (.object "com/example/restoral/restoral/engine/Step")) ({ frames := 3, cells := 1, slots := 9, locals := 49 } : Room) #[(.ref a1), (.ref a2), (.ref a3), (.ref a3), (.ref a2)] h0 (fun v h L => ∃ (b2 : Addr), v = some (.ref b2) ∧ Fr Z.heap.size L ∧ Keep h0 h [a1] ∧ h0.size ≤ b2 ∧ Exa Z h a1 "com/example/restoral/restoral/engine/Steps" ∧ Fld Z h a1 "com/example/restoral/restoral/engine/Steps" "last" "Lcom/example/restoral/restoral/engine/Step;" (.ref b2) ∧ Fld Z h a1 "com/example/restoral/restoral/engine/Steps" "figures" "Ljava/util/Map;" .null ∧ Fld Z h a1 "com/example/restoral/restoral/engine/Steps" "owner" "Lcom/example/restoral/restoral/engine/RowName;" (.ref a4) ∧ Exa Z h b2 "com/example/restoral/restoral/engine/Step" ∧ Fld Z h b2 "com/example/restoral/restoral/engine/Step" "owner" "Lcom/example/restoral/restoral/engine/RowName;" (.ref a4) ∧ Fld Z h b2 "com/example/restoral/restoral/engine/Step" "term" "Ljava/lang/String;" (.ref a2) ∧ Fld Z h b2 "com/example/restoral/restoral/engine/Step" "value" "Ljava/lang/Object;" (.ref a3) ∧ Fld Z h b2 "com/example/restoral/restoral/engine/Step" "section" "Ljava/lang/String;" (.ref a3) ∧ Fld Z h b2 "com/example/restoral/restoral/engine/Step" "source" "Ljava/lang/String;" (.ref a2) ∧ Fld Z h b2 "com/example/restoral/restoral/engine/Step" "formula" "Ljava/lang/String;" .null ∧ Fld Z h b2 "com/example/restoral/restoral/engine/Step" "operands" "Ljava/util/List;" (.ref g_EMPTY_LIST) ∧ Fld Z h b2 "com/example/restoral/restoral/engine/Step" "row" "Lcom/example/restoral/restoral/engine/RowName;" .null ∧ Fld Z h b2 "com/example/restoral/restoral/engine/Step" "column" "Ljava/lang/String;" .null) := by
  have hW_ := hW
  obtain ⟨hw, S_g_COMPACT_STRINGS, P_g_COMPACT_STRINGS, R_g_SIOOBE_FORMATTER, S_g_SIOOBE_FORMATTER, S_g__assertionsDisabled, S_g_DEFAULTCAPACITY_EMPTY_ELEMENTDATA, E_g_DEFAULTCAPACITY_EMPTY_ELEMENTDATA, S_g_EMPTY, E_g_EMPTY, S_g_EMPTY_LIST, E_g_EMPTY_LIST, V_g_DEFAULTCAPACITY_EMPTY_ELEMENTDATA, F_g_EMPTY_LIST_allowNulls, S_g_NONE, E_g_NONE, F_g_NONE_owner, M_mir⟩ := hW_
  refine own_met (plainFor_of_name pn_com_example_restoral_restoral_engine_Steps) ?_
  intro p e s m below meth cc_ s₁ Φ hF X0 hx hby hml hZ hown hnm hret hlk e0
  have N0 := Fr.nil Z.heap.size
  refine own_k (T' := s₁) (g' := (mkF m 0 #[.val (.ref a1), .val (.ref a2), .val (.ref a3), .val (.ref a3), .val (.ref a2)] [])) (fun _ k_ => castTop (ef_13_RRRRR m a1 a2 a3 a3 a2) k_) ?_
  refine own_k (T' := s₁) (g' := (mkF m 1 #[.val (.ref a1), .val (.ref a2), .val (.ref a3), .val (.ref a3), .val (.ref a2)] [(.ref a1)])) (fun _ k_ => XS.aloadN X0.here hx rfl (hb hby d13_0) rfl rfl  k_) ?_
  refine own_k (T' := s₁) (g' := (mkF m 2 #[.val (.ref a1), .val (.ref a2), .val (.ref a3), .val (.ref a3), .val (.ref a2)] [(.ref a1), (.ref a1)])) (fun _ k_ => XS.aloadN X0.here hx rfl (hb hby d13_1) rfl rfl  k_) ?_
  refine own_callV X0 hx hZ (C := "com/example/restoral/restoral/engine/Steps") (y := (⟨"com/example/restoral/restoral/engine/Steps", "on", "()Z"⟩ : MethodName)) (z := (⟨"com/example/restoral/restoral/engine/Steps", "on", "()Z"⟩ : MethodName)) hown (hw _ (List.mem_of_getElem? (i := 67) rfl)) (hw _ (List.mem_of_getElem? (i := 56) rfl)) (notFace_of_selects (args := #[]) (mvT hZ (hw _ (List.mem_of_getElem? (i := 58) rfl)))) (hw _ (List.mem_of_getElem? (i := 58) rfl)) (hw _ (List.mem_of_getElem? (i := 57) rfl)) (hw _ (List.mem_of_getElem? (i := 59) rfl)) (hw _ (List.mem_of_getElem? (i := 46) rfl)) (by decide) (al := []) h_2 (rm_on_38 l Z a0 g_COMPACT_STRINGS g_SIOOBE_FORMATTER g_DEFAULTCAPACITY_EMPTY_ELEMENTDATA g_EMPTY g_EMPTY_LIST gk_DEFAULTCAPACITY_EMPTY_ELEMENTDATA g_NONE g_mir hW a1 a4 h0 O0 h_1) 1 (by decide) (by decide) e0 (by decide) (by decide) (by rw [hml]; rfl) (lenOf pd__28_29Z rfl) rfl (rest := [(.ref a1)]) (by show 2 * 0 + _ ≤ _; exact Nat.le_of_eq rfl) (hb hby d13_2) ?_
  intro v1 T1 L1 X1 hQ1
  obtain ⟨rfl, Nq1, e1⟩ := hQ1
  have N1 := Fr.app N0 Nq1
  show own_Go p e below Φ T1 (mkF m 5 #[.val (.ref a1), .val (.ref a2), .val (.ref a3), .val (.ref a3), .val (.ref a2)] [(.int (1 : Int32)), (.ref a1)])
  refine own_k (T' := T1) (g' := (mkF m 8 #[.val (.ref a1), .val (.ref a2), .val (.ref a3), .val (.ref a3), .val (.ref a2)] [(.ref a1)])) (fun _ k_ => XS.ifNo X1.here hx rfl (hb hby d13_5) rfl ((if0 _ _).trans (feq (by decide : ¬ ((1 : Int32) = (0 : Int32)))).1) k_) ?_
  obtain ⟨T2, h2, X2, e2, E2, A2, D2, -, st2⟩ := newO X1 hx hZ hown (hw _ (List.mem_of_getElem? (i := 236) rfl)) (hw _ (List.mem_of_getElem? (i := 237) rfl)) (hw _ (List.mem_of_getElem? (i := 238) rfl)) e1 (g := (mkF m 8 #[.val (.ref a1), .val (.ref a2), .val (.ref a3), .val (.ref a3), .val (.ref a2)] [(.ref a1)])) rfl (hb hby d13_8) (by decide) (by decide)
  obtain ⟨b2, g2⟩ : ∃ z, z = h0.size := ⟨_, rfl⟩
  rw [← g2] at A2 D2 st2
  have O2' := O0.ext E2
  have F2_owner : Fld Z h2 b2 "com/example/restoral/restoral/engine/Step" "owner" "Lcom/example/restoral/restoral/engine/RowName;" .null := D2 (Or.inr (hw _ (List.mem_of_getElem? (i := 248) rfl))) (ty := (.object "com/example/restoral/restoral/engine/RowName")) (by decide)
  have F2_term : Fld Z h2 b2 "com/example/restoral/restoral/engine/Step" "term" "Ljava/lang/String;" .null := D2 (Or.inr (hw _ (List.mem_of_getElem? (i := 250) rfl))) (ty := (.object "java/lang/String")) (by decide)
  have F2_value : Fld Z h2 b2 "com/example/restoral/restoral/engine/Step" "value" "Ljava/lang/Object;" .null := D2 (Or.inr (hw _ (List.mem_of_getElem? (i := 252) rfl))) (ty := (.object "java/lang/Object")) (by decide)
  have F2_section : Fld Z h2 b2 "com/example/restoral/restoral/engine/Step" "section" "Ljava/lang/String;" .null := D2 (Or.inr (hw _ (List.mem_of_getElem? (i := 254) rfl))) (ty := (.object "java/lang/String")) (by decide)
  have F2_source : Fld Z h2 b2 "com/example/restoral/restoral/engine/Step" "source" "Ljava/lang/String;" .null := D2 (Or.inr (hw _ (List.mem_of_getElem? (i := 256) rfl))) (ty := (.object "java/lang/String")) (by decide)
  have F2_formula : Fld Z h2 b2 "com/example/restoral/restoral/engine/Step" "formula" "Ljava/lang/String;" .null := D2 (Or.inr (hw _ (List.mem_of_getElem? (i := 258) rfl))) (ty := (.object "java/lang/String")) (by decide)
  have F2_operands : Fld Z h2 b2 "com/example/restoral/restoral/engine/Step" "operands" "Ljava/util/List;" .null := D2 (Or.inr (hw _ (List.mem_of_getElem? (i := 269) rfl))) (ty := (.object "java/util/List")) (by decide)
  have F2_row : Fld Z h2 b2 "com/example/restoral/restoral/engine/Step" "row" "Lcom/example/restoral/restoral/engine/RowName;" .null := D2 (Or.inr (hw _ (List.mem_of_getElem? (i := 271) rfl))) (ty := (.object "com/example/restoral/restoral/engine/RowName")) (by decide)
  have F2_column : Fld Z h2 b2 "com/example/restoral/restoral/engine/Step" "column" "Ljava/lang/String;" .null := D2 (Or.inr (hw _ (List.mem_of_getElem? (i := 273) rfl))) (ty := (.object "java/lang/String")) (by decide)
  refine own_k (T' := T2) (g' := (mkF m 11 #[.val (.ref a1), .val (.ref a2), .val (.ref a3), .val (.ref a3), .val (.ref a2)] [(.ref b2), (.ref a1)])) st2 ?_
  refine own_k (T' := T2) (g' := (mkF m 12 #[.val (.ref a1), .val (.ref a2), .val (.ref a3), .val (.ref a3), .val (.ref a2)] [(.ref b2), (.ref b2), (.ref a1)])) (fun _ k_ => XS.dup X2.here hx rfl (hb hby d13_11) rfl rfl k_) ?_
  refine own_k (T' := T2) (g' := (mkF m 13 #[.val (.ref a1), .val (.ref a2), .val (.ref a3), .val (.ref a3), .val (.ref a2)] [(.ref a1), (.ref b2), (.ref b2), (.ref a1)])) (fun _ k_ => XS.aloadN X2.here hx rfl (hb hby d13_12) rfl rfl  k_) ?_
  obtain ⟨T3, X3, e3, st3⟩ := getF X2 hx hZ hown (host := "") (Or.inl (hw _ (List.mem_of_getElem? (i := 51) rfl))) Via.refl e2 (h_1.ext E2) (g := (mkF m 13 #[.val (.ref a1), .val (.ref a2), .val (.ref a3), .val (.ref a3), .val (.ref a2)] [(.ref a1), (.ref b2), (.ref b2), (.ref a1)])) rfl rfl (hb hby d13_13)
  refine own_k (T' := T3) (g' := (mkF m 16 #[.val (.ref a1), .val (.ref a2), .val (.ref a3), .val (.ref a3), .val (.ref a2)] [(.ref a4), (.ref b2), (.ref b2), (.ref a1)])) st3 ?_
  refine own_k (T' := T3) (g' := (mkF m 17 #[.val (.ref a1), .val (.ref a2), .val (.ref a3), .val (.ref a3), .val (.ref a2)] [(.ref a2), (.ref a4), (.ref b2), (.ref b2), (.ref a1)])) (fun _ k_ => XS.aloadN X3.here hx rfl (hb hby d13_16) rfl rfl  k_) ?_
  refine own_k (T' := T3) (g' := (mkF m 18 #[.val (.ref a1), .val (.ref a2), .val (.ref a3), .val (.ref a3), .val (.ref a2)] [(.ref a3), (.ref a2), (.ref a4), (.ref b2), (.ref b2), (.ref a1)])) (fun _ k_ => XS.aloadN X3.here hx rfl (hb hby d13_17) rfl rfl  k_) ?_
  refine own_k (T' := T3) (g' := (mkF m 19 #[.val (.ref a1), .val (.ref a2), .val (.ref a3), .val (.ref a3), .val (.ref a2)] [(.ref a3), (.ref a3), (.ref a2), (.ref a4), (.ref b2), (.ref b2), (.ref a1)])) (fun _ k_ => XS.aloadN X3.here hx rfl (hb hby d13_18) rfl rfl  k_) ?_
  refine own_k (T' := T3) (g' := (mkF m 21 #[.val (.ref a1), .val (.ref a2), .val (.ref a3), .val (.ref a3), .val (.ref a2)] [(.ref a2), (.ref a3), (.ref a3), (.ref a2), (.ref a4), (.ref b2), (.ref b2), (.ref a1)])) (fun _ k_ => XS.aload X3.here hx rfl (hb hby d13_19) rfl rfl  k_) ?_
  refine own_k (T' := T3) (g' := (mkF m 22 #[.val (.ref a1), .val (.ref a2), .val (.ref a3), .val (.ref a3), .val (.ref a2)] [.null, (.ref a2), (.ref a3), (.ref a3), (.ref a2), (.ref a4), (.ref b2), (.ref b2), (.ref a1)])) (fun _ k_ => XS.aconstNull X3.here hx rfl (hb hby d13_21) k_) ?_
  refine own_callS X3 hx hZ (y := (⟨"java/util/List", "of", "()Ljava/util/List;"⟩ : MethodName)) hown (hw _ (List.mem_of_getElem? (i := 239) rfl)) (hw _ (List.mem_of_getElem? (i := 240) rfl)) (hw _ (List.mem_of_getElem? (i := 148) rfl)) (hw _ (List.mem_of_getElem? (i := 241) rfl)) (by decide) (al := []) (rm_of_39 l Z a0 g_COMPACT_STRINGS g_SIOOBE_FORMATTER g_DEFAULTCAPACITY_EMPTY_ELEMENTDATA g_EMPTY g_EMPTY_LIST gk_DEFAULTCAPACITY_EMPTY_ELEMENTDATA g_NONE g_mir hW h2 O2') 9 (by decide) (by decide) e3 (by decide) (by decide) (by rw [hml]; rfl) (lenOf pd__28_29Ljava_2futil_2fList_3b rfl) rfl (rest := [.null, (.ref a2), (.ref a3), (.ref a3), (.ref a2), (.ref a4), (.ref b2), (.ref b2), (.ref a1)]) (by show 2 * 0 + _ ≤ _; exact Nat.le_of_eq rfl) (hb hby d13_22) ?_
  intro v4 T4 L4 X4 hQ4
  obtain ⟨rfl, Nq4, e4⟩ := hQ4
  have N4 := Fr.app N1 Nq4
  show own_Go p e below Φ T4 (mkF m 25 #[.val (.ref a1), .val (.ref a2), .val (.ref a3), .val (.ref a3), .val (.ref a2)] [(.ref g_EMPTY_LIST), .null, (.ref a2), (.ref a3), (.ref a3), (.ref a2), (.ref a4), (.ref b2), (.ref b2), (.ref a1)])
  refine own_k (T' := T4) (g' := (mkF m 26 #[.val (.ref a1), .val (.ref a2), .val (.ref a3), .val (.ref a3), .val (.ref a2)] [.null, (.ref g_EMPTY_LIST), .null, (.ref a2), (.ref a3), (.ref a3), (.ref a2), (.ref a4), (.ref b2), (.ref b2), (.ref a1)])) (fun _ k_ => XS.aconstNull X4.here hx rfl (hb hby d13_25) k_) ?_
  refine own_k (T' := T4) (g' := (mkF m 27 #[.val (.ref a1), .val (.ref a2), .val (.ref a3), .val (.ref a3), .val (.ref a2)] [.null, .null, (.ref g_EMPTY_LIST), .null, (.ref a2), (.ref a3), (.ref a3), (.ref a2), (.ref a4), (.ref b2), (.ref b2), (.ref a1)])) (fun _ k_ => XS.aconstNull X4.here hx rfl (hb hby d13_26) k_) ?_
  refine own_callN X4 hx hZ (y := (⟨"com/example/restoral/restoral/engine/Step", "<init>", "(Lcom/example/restoral/restoral/engine/RowName;Ljava/lang/String;Ljava/lang/Object;Ljava/lang/String;Ljava/lang/String;Ljava/lang/String;Ljava/util/List;Lcom/example/restoral/restoral/engine/RowName;Ljava/lang/String;)V"⟩ : MethodName)) rfl hown (hw _ (List.mem_of_getElem? (i := 243) rfl)) (hw _ (List.mem_of_getElem? (i := 244) rfl)) (hw _ (List.mem_of_getElem? (i := 245) rfl)) (hw _ (List.mem_of_getElem? (i := 238) rfl)) (by decide) (al := [(.ref a4), (.ref a2), (.ref a3), (.ref a3), (.ref a2), .null, (.ref g_EMPTY_LIST), .null, .null]) (b := b2) (rm_init_42 l Z a0 g_COMPACT_STRINGS g_SIOOBE_FORMATTER g_DEFAULTCAPACITY_EMPTY_ELEMENTDATA g_EMPTY g_EMPTY_LIST gk_DEFAULTCAPACITY_EMPTY_ELEMENTDATA g_NONE g_mir hW b2 a4 a2 a3 h2 O2' F2_owner A2 (Nat.le_trans O0.2.1 (Nat.le_of_eq g2.symm)) F2_term F2_value F2_section F2_source F2_formula F2_operands F2_row F2_column) 2 (by decide) (by decide) e4 (by decide) (by decide) (by rw [hml]; rfl) (lenOf pd__28Lcom_2fexample_2frestoral_2frestoral_2fengine_2fRowName_3bLjava_2flang_2fString_3bLjava_2flang_2fObject_3bLjava_2flang_2fString_3bLjava_2flang_2fString_3bLjava_2flang_2fString_3bLjava_2futil_2fList_3bLcom_2fexample_2frestoral_2frestoral_2fengine_2fRowName_3bLjava_2flang_2fString_3b_29V rfl) rfl (rest := [(.ref b2), (.ref a1)]) (by show 2 * 0 + _ ≤ _; exact Nat.le_of_eq rfl) (hb hby d13_27) ?_
  intro v5 T5 L5 X5 hQ5
  obtain ⟨rfl, Nq5, K5, q5_0, q5_1, q5_2, q5_3, q5_4, q5_5, q5_6, q5_7, q5_8, q5_9⟩ := hQ5
  have N5 := Fr.app N4 Nq5
  have O5' := O2'.keep K5 (allS (Nat.le_trans O0.2.1 (Nat.le_of_eq g2.symm)) all0)
  show own_Go p e below Φ T5 (mkF m 30 #[.val (.ref a1), .val (.ref a2), .val (.ref a3), .val (.ref a3), .val (.ref a2)] [(.ref b2), (.ref a1)])
  refine own_k (T' := T5) (g' := (mkF m 34 #[.val (.ref a1), .val (.ref a2), .val (.ref a3), .val (.ref a3), .val (.ref a2)] [(.ref b2), (.ref a1)])) (fun _ k_ => XS.goto X5.here hx rfl (pc0 := 30) (pc' := 34) rfl (hb hby d13_30) (by decide) (by decide) k_) ?_
  have f7 := ((h_3.ext E2).keep K5 (ninS (Nat.ne_of_lt (Nat.lt_of_lt_of_le h_2.lt (Nat.le_of_eq g2.symm))) nin0))
  have f8 := ((h_5.ext E2).keep K5 (ninS (Nat.ne_of_lt (Nat.lt_of_lt_of_le h_2.lt (Nat.le_of_eq g2.symm))) nin0))
  have f9 := ((h_1.ext E2).keep K5 (ninS (Nat.ne_of_lt (Nat.lt_of_lt_of_le h_2.lt (Nat.le_of_eq g2.symm))) nin0))
  refine own_callP X5 hx hZ (y := (⟨"com/example/restoral/restoral/engine/Steps", "taken", "(Lcom/example/restoral/restoral/engine/Step;)Lcom/example/restoral/restoral/engine/Step;"⟩ : MethodName)) hown (hw _ (List.mem_of_getElem? (i := 68) rfl)) (hw _ (List.mem_of_getElem? (i := 69) rfl)) (hw _ (List.mem_of_getElem? (i := 70) rfl)) (hw _ (List.mem_of_getElem? (i := 71) rfl)) (hw _ (List.mem_of_getElem? (i := 46) rfl)) (hw _ (List.mem_of_getElem? (i := 45) rfl)) (by decide) (al := [(.ref b2)]) ((h_2.ext E2).keep K5) (rm_taken_43 l Z a0 g_COMPACT_STRINGS g_SIOOBE_FORMATTER g_DEFAULTCAPACITY_EMPTY_ELEMENTDATA g_EMPTY g_EMPTY_LIST gk_DEFAULTCAPACITY_EMPTY_ELEMENTDATA g_NONE g_mir hW a1 b2 a4 T5.heap O5' f7 ((h_2.ext E2).keep K5) h_4 f8 f9) 0 (by decide) (by decide) rfl (by decide) (by decide) (by rw [hml]; rfl) (lenOf pd__28Lcom_2fexample_2frestoral_2frestoral_2fengine_2fStep_3b_29Lcom_2fexample_2frestoral_2frestoral_2fengine_2fStep_3b rfl) rfl (rest := []) (by show 2 * 0 + _ ≤ _; exact Nat.le_of_eq rfl) (hb hby d13_34) ?_
  intro v6 T6 L6 X6 hQ6
  obtain ⟨rfl, Nq6, K6, q6_0, q6_1, q6_2, q6_3⟩ := hQ6
  have N6 := Fr.app N5 Nq6
  have O6' := O5'.keep K6 (allS h_4 all0)
  show own_Go p e below Φ T6 (mkF m 37 #[.val (.ref a1), .val (.ref a2), .val (.ref a3), .val (.ref a3), .val (.ref a2)] [(.ref b2)])
  have kp0 : Keep h0 h0 [a1] := Keep.refl h0 [a1]
  have kp1 : Keep h0 h2 [a1] := kp0.ext E2
  have kp2 : Keep h0 T5.heap [a1] := kp1.trans K5 (allS (Or.inr (Nat.le_trans kp0.1 (Nat.le_of_eq g2.symm))) all0)
  have kp3 : Keep h0 T6.heap [a1] := kp2.trans K6 (allS (Or.inl (List.mem_of_getElem? (i := 0) rfl)) all0)
  have f10 := (q5_1.keep K6 (ninS (Ne.symm (Nat.ne_of_lt (Nat.lt_of_lt_of_le h_2.lt (Nat.le_of_eq g2.symm)))) nin0))
  have f11 := (q5_2.keep K6 (ninS (Ne.symm (Nat.ne_of_lt (Nat.lt_of_lt_of_le h_2.lt (Nat.le_of_eq g2.symm)))) nin0))
  have f12 := (q5_3.keep K6 (ninS (Ne.symm (Nat.ne_of_lt (Nat.lt_of_lt_of_le h_2.lt (Nat.le_of_eq g2.symm)))) nin0))
  have f13 := (q5_4.keep K6 (ninS (Ne.symm (Nat.ne_of_lt (Nat.lt_of_lt_of_le h_2.lt (Nat.le_of_eq g2.symm)))) nin0))
  have f14 := (q5_5.keep K6 (ninS (Ne.symm (Nat.ne_of_lt (Nat.lt_of_lt_of_le h_2.lt (Nat.le_of_eq g2.symm)))) nin0))
  have f15 := (q5_6.keep K6 (ninS (Ne.symm (Nat.ne_of_lt (Nat.lt_of_lt_of_le h_2.lt (Nat.le_of_eq g2.symm)))) nin0))
  have f16 := (q5_7.keep K6 (ninS (Ne.symm (Nat.ne_of_lt (Nat.lt_of_lt_of_le h_2.lt (Nat.le_of_eq g2.symm)))) nin0))
  have f17 := (q5_8.keep K6 (ninS (Ne.symm (Nat.ne_of_lt (Nat.lt_of_lt_of_le h_2.lt (Nat.le_of_eq g2.symm)))) nin0))
  have f18 := (q5_9.keep K6 (ninS (Ne.symm (Nat.ne_of_lt (Nat.lt_of_lt_of_le h_2.lt (Nat.le_of_eq g2.symm)))) nin0))
  exact own_retA X6 hx hret rfl rfl hlk (hb hby d13_37) hF (⟨b2, rfl, N6, kp3, (Nat.le_trans kp0.1 (Nat.le_of_eq g2.symm)), q6_0, q6_1, q6_2, q6_3, (q5_0.keep K6), f10, f11, f12, f13, f14, f15, f16, f17, f18⟩) (by decide) (by decide)
set_option maxRecDepth 65536 in
set_option maxHeartbeats 40000000 in
theorem rm_last_45 (l : Launch) (Z : State) (a0 : Array Value) (g_COMPACT_STRINGS : Int32) (g_SIOOBE_FORMATTER : Value) (g_DEFAULTCAPACITY_EMPTY_ELEMENTDATA : Addr) (g_EMPTY : Addr) (g_EMPTY_LIST : Addr) (gk_DEFAULTCAPACITY_EMPTY_ELEMENTDATA : ClassId) (g_NONE : Addr) (g_mir : Addr) (hW : own_W Z a0 g_COMPACT_STRINGS g_SIOOBE_FORMATTER g_DEFAULTCAPACITY_EMPTY_ELEMENTDATA g_EMPTY g_EMPTY_LIST gk_DEFAULTCAPACITY_EMPTY_ELEMENTDATA g_NONE g_mir) (a1 : Addr) (a2 : Addr) (h0 : Heap) (O0 : Old Z Z.heap.size h0) (h_1 : Fld Z h0 a1 "com/example/restoral/restoral/engine/Steps" "last" "Lcom/example/restoral/restoral/engine/Step;" (.ref a2)) :
    own_Met l Z (⟨"com/example/restoral/restoral/engine/Steps", "last", "()Lcom/example/restoral/restoral/engine/Step;"⟩ : MethodName) prog_26_method_12_code 1 (some (.object "com/example/restoral/restoral/engine/Step")) ({ frames := 0, cells := 0, slots := 0, locals := 0 } : Room) #[(.ref a1)] h0 (fun v h L => v = some (.ref a2) ∧ Fr Z.heap.size L ∧ h = h0) := by
  have hW_ := hW
  obtain ⟨hw, S_g_COMPACT_STRINGS, P_g_COMPACT_STRINGS, R_g_SIOOBE_FORMATTER, S_g_SIOOBE_FORMATTER, S_g__assertionsDisabled, S_g_DEFAULTCAPACITY_EMPTY_ELEMENTDATA, E_g_DEFAULTCAPACITY_EMPTY_ELEMENTDATA, S_g_EMPTY, E_g_EMPTY, S_g_EMPTY_LIST, E_g_EMPTY_LIST, V_g_DEFAULTCAPACITY_EMPTY_ELEMENTDATA, F_g_EMPTY_LIST_allowNulls, S_g_NONE, E_g_NONE, F_g_NONE_owner, M_mir⟩ := hW_
  refine own_met (plainFor_of_name pn_com_example_restoral_restoral_engine_Steps) ?_
  intro p e s m below meth cc_ s₁ Φ hF X0 hx hby hml hZ hown hnm hret hlk e0
  have N0 := Fr.nil Z.heap.size
  refine own_k (T' := s₁) (g' := (mkF m 0 #[.val (.ref a1)] [])) (fun _ k_ => castTop (ef_15_R m a1) k_) ?_
  refine own_k (T' := s₁) (g' := (mkF m 1 #[.val (.ref a1)] [(.ref a1)])) (fun _ k_ => XS.aloadN X0.here hx rfl (hb hby d15_0) rfl rfl  k_) ?_
  obtain ⟨T1, X1, e1, st1⟩ := getF X0 hx hZ hown (host := "") (Or.inl (hw _ (List.mem_of_getElem? (i := 77) rfl))) Via.refl e0 h_1 (g := (mkF m 1 #[.val (.ref a1)] [(.ref a1)])) rfl rfl (hb hby d15_1)
  refine own_k (T' := T1) (g' := (mkF m 4 #[.val (.ref a1)] [(.ref a2)])) st1 ?_
  exact own_retA X1 hx hret rfl rfl hlk (hb hby d15_4) hF (by rw [e1]; exact ⟨rfl, N0, rfl⟩) (by decide) (by decide)
theorem pd__28_29Lcom_2fexample_2frestoral_2frestoral_2fengine_2fRowName_3b : parseMethodDescriptor "()Lcom/example/restoral/restoral/engine/RowName;" = some ⟨[], some (.object "com/example/restoral/restoral/engine/RowName")⟩ := by decide +kernel
theorem ef_40_R (m : MethodId) (x0 : Addr)  : entryFrame m #[(.ref x0)] 1 = mkF m 0 #[.val (.ref x0)] [] := by first | (simp [entryFrame, mkF, argsToLocals, Value.category]; done) | rfl
theorem d40_0 : decode prog_25_method_2_code 0 = .ok (.aload_n 0, 1) := by decide +kernel
theorem d40_1 : decode prog_25_method_2_code 1 = .ok (.getfield 7, 3) := by decide +kernel
theorem d40_4 : decode prog_25_method_2_code 4 = .ok (.areturn, 1) := by decide +kernel
set_option maxRecDepth 65536 in
set_option maxHeartbeats 40000000 in
theorem rm_owner_46 (l : Launch) (Z : State) (a0 : Array Value) (g_COMPACT_STRINGS : Int32) (g_SIOOBE_FORMATTER : Value) (g_DEFAULTCAPACITY_EMPTY_ELEMENTDATA : Addr) (g_EMPTY : Addr) (g_EMPTY_LIST : Addr) (gk_DEFAULTCAPACITY_EMPTY_ELEMENTDATA : ClassId) (g_NONE : Addr) (g_mir : Addr) (hW : own_W Z a0 g_COMPACT_STRINGS g_SIOOBE_FORMATTER g_DEFAULTCAPACITY_EMPTY_ELEMENTDATA g_EMPTY g_EMPTY_LIST gk_DEFAULTCAPACITY_EMPTY_ELEMENTDATA g_NONE g_mir) (a1 : Addr) (a2 : Addr) (h0 : Heap) (O0 : Old Z Z.heap.size h0) (h_1 : Fld Z h0 a1 "com/example/restoral/restoral/engine/Step" "owner" "Lcom/example/restoral/restoral/engine/RowName;" (.ref a2)) :
    own_Met l Z (⟨"com/example/restoral/restoral/engine/Step", "owner", "()Lcom/example/restoral/restoral/engine/RowName;"⟩ : MethodName) prog_25_method_2_code 1 (some (.object "com/example/restoral/restoral/engine/RowName")) ({ frames := 0, cells := 0, slots := 0, locals := 0 } : Room) #[(.ref a1)] h0 (fun v h L => v = some (.ref a2) ∧ Fr Z.heap.size L ∧ h = h0) := by
  have hW_ := hW
  obtain ⟨hw, S_g_COMPACT_STRINGS, P_g_COMPACT_STRINGS, R_g_SIOOBE_FORMATTER, S_g_SIOOBE_FORMATTER, S_g__assertionsDisabled, S_g_DEFAULTCAPACITY_EMPTY_ELEMENTDATA, E_g_DEFAULTCAPACITY_EMPTY_ELEMENTDATA, S_g_EMPTY, E_g_EMPTY, S_g_EMPTY_LIST, E_g_EMPTY_LIST, V_g_DEFAULTCAPACITY_EMPTY_ELEMENTDATA, F_g_EMPTY_LIST_allowNulls, S_g_NONE, E_g_NONE, F_g_NONE_owner, M_mir⟩ := hW_
  refine own_met (plainFor_of_name pn_com_example_restoral_restoral_engine_Step) ?_
  intro p e s m below meth cc_ s₁ Φ hF X0 hx hby hml hZ hown hnm hret hlk e0
  have N0 := Fr.nil Z.heap.size
  refine own_k (T' := s₁) (g' := (mkF m 0 #[.val (.ref a1)] [])) (fun _ k_ => castTop (ef_40_R m a1) k_) ?_
  refine own_k (T' := s₁) (g' := (mkF m 1 #[.val (.ref a1)] [(.ref a1)])) (fun _ k_ => XS.aloadN X0.here hx rfl (hb hby d40_0) rfl rfl  k_) ?_
  obtain ⟨T1, X1, e1, st1⟩ := getF X0 hx hZ hown (host := "") (Or.inl (hw _ (List.mem_of_getElem? (i := 247) rfl))) Via.refl e0 h_1 (g := (mkF m 1 #[.val (.ref a1)] [(.ref a1)])) rfl rfl (hb hby d40_1)
  refine own_k (T' := T1) (g' := (mkF m 4 #[.val (.ref a1)] [(.ref a2)])) st1 ?_
  exact own_retA X1 hx hret rfl rfl hlk (hb hby d40_4) hF (by rw [e1]; exact ⟨rfl, N0, rfl⟩) (by decide) (by decide)
set_option maxRecDepth 65536 in
set_option maxHeartbeats 40000000 in
theorem own_law (l : Launch) (Z : State) (a0 : Array Value) (g_COMPACT_STRINGS : Int32) (g_SIOOBE_FORMATTER : Value) (g_DEFAULTCAPACITY_EMPTY_ELEMENTDATA : Addr) (g_EMPTY : Addr) (g_EMPTY_LIST : Addr) (gk_DEFAULTCAPACITY_EMPTY_ELEMENTDATA : ClassId) (g_NONE : Addr) (g_mir : Addr) (hW : own_W Z a0 g_COMPACT_STRINGS g_SIOOBE_FORMATTER g_DEFAULTCAPACITY_EMPTY_ELEMENTDATA g_EMPTY g_EMPTY_LIST gk_DEFAULTCAPACITY_EMPTY_ELEMENTDATA g_NONE g_mir) (p0 : Int32) (p1 : Int32) (p2 : Int32) (h0 : Heap) (O0 : Old Z Z.heap.size h0)  :
    own_Met l Z x code maxLocals ret room_1 #[(.int p0), (.int p1), (.int p2)] h0 (fun v h L => v = some (.int (1 : Int32)) ∧ Fr Z.heap.size L ∧ True) := by
  have hW_ := hW
  obtain ⟨hw, S_g_COMPACT_STRINGS, P_g_COMPACT_STRINGS, R_g_SIOOBE_FORMATTER, S_g_SIOOBE_FORMATTER, S_g__assertionsDisabled, S_g_DEFAULTCAPACITY_EMPTY_ELEMENTDATA, E_g_DEFAULTCAPACITY_EMPTY_ELEMENTDATA, S_g_EMPTY, E_g_EMPTY, S_g_EMPTY_LIST, E_g_EMPTY_LIST, V_g_DEFAULTCAPACITY_EMPTY_ELEMENTDATA, F_g_EMPTY_LIST_allowNulls, S_g_NONE, E_g_NONE, F_g_NONE_owner, M_mir⟩ := hW_
  refine own_met (plainFor_of_name pn_com_example_restoral_restoral_engine_StepsOnPinLaw) ?_
  intro p e s m below meth cc_ s₁ Φ hF X0 hx hby hml hZ hown hnm hret hlk e0
  have N0 := Fr.nil Z.heap.size
  refine own_k (T' := s₁) (g' := (mkF m 0 #[.val (.int p0), .val (.int p1), .val (.int p2), .unset, .unset, .unset, .unset, .unset, .unset, .unset, .unset] [])) (fun _ k_ => castTop (ef_0_III m p0 p1 p2) k_) ?_
  refine own_k (T' := s₁) (g' := (mkF m 1 #[.val (.int p0), .val (.int p1), .val (.int p2), .unset, .unset, .unset, .unset, .unset, .unset, .unset, .unset] [(.int p0)])) (fun _ k_ => XS.iloadN X0.here hx rfl (hb hby at_0) rfl  k_) ?_
  refine own_k (T' := s₁) (g' := (mkF m 2 #[.val (.int p0), .val (.int p1), .val (.int p2), .unset, .unset, .unset, .unset, .unset, .unset, .unset, .unset] [(.int (1 : Int32)), (.int p0)])) (fun _ k_ => XS.iconst X0.here hx rfl (hb hby at_1) k_) ?_
  refine own_k (T' := s₁) (g' := (mkF m 3 #[.val (.int p0), .val (.int p1), .val (.int p2), .unset, .unset, .unset, .unset, .unset, .unset, .unset, .unset] [(.int (p0 &&& (1 : Int32)))])) (fun _ k_ => XS.iand X0.here hx rfl (hb hby at_2) rfl k_) ?_
  by_cases hc1 : (p0 &&& (1 : Int32)) = (0 : Int32)
  · refine own_k (T' := s₁) (g' := (mkF m 10 #[.val (.int p0), .val (.int p1), .val (.int p2), .unset, .unset, .unset, .unset, .unset, .unset, .unset, .unset] [])) (fun _ k_ => XS.ifYes X0.here hx rfl (pc0 := 3) (pc' := 10) rfl (hb hby at_3) rfl ((if0 _ _).trans (teq hc1).1) (by decide) (by decide) k_) ?_
    refine own_k (T' := s₁) (g' := (mkF m 11 #[.val (.int p0), .val (.int p1), .val (.int p2), .unset, .unset, .unset, .unset, .unset, .unset, .unset, .unset] [(.int (0 : Int32))])) (fun _ k_ => XS.iconst X0.here hx rfl (hb hby at_10) k_) ?_
    refine own_k (T' := s₁) (g' := (mkF m 12 #[.val (.int p0), .val (.int p1), .val (.int p2), .val (.int (0 : Int32)), .unset, .unset, .unset, .unset, .unset, .unset, .unset] [])) (fun _ k_ => XS.istoreN X0.here hx rfl (hb hby at_11) rfl (l' := #[.val (.int p0), .val (.int p1), .val (.int p2), .val (.int (0 : Int32)), .unset, .unset, .unset, .unset, .unset, .unset, .unset]) rfl k_) ?_
    refine own_k (T' := s₁) (g' := (mkF m 13 #[.val (.int p0), .val (.int p1), .val (.int p2), .val (.int (0 : Int32)), .unset, .unset, .unset, .unset, .unset, .unset, .unset] [(.int (1 : Int32))])) (fun _ k_ => XS.iconst X0.here hx rfl (hb hby at_12) k_) ?_
    obtain ⟨T2, h2, k2, X2, e2, E2, V2, A2, st2⟩ := own_newarr (pc := 13) (Ls := #[.val (.int p0), .val (.int p1), .val (.int p2), .val (.int (0 : Int32)), .unset, .unset, .unset, .unset, .unset, .unset, .unset]) (rest := []) X0 hx hZ (hw _ (List.mem_of_getElem? (i := 0) rfl)) e0 (hb hby at_13) (n := (1 : Int32)) (by decide) (cap := 1) (by decide) (by decide) (by decide) (by decide) (ad := "[C") (by decide)
    obtain ⟨b2, g2⟩ : ∃ z, z = h0.size := ⟨_, rfl⟩
    rw [← g2] at V2 A2 st2
    have O2' := O0.ext E2
    have V2 : Arv Z h2 b2 k2 .char (1 : Int32) [(.int (0 : Int32))] (.int (0 : Int32)) := V2
    refine own_k (T' := T2) (g' := (mkF m 15 #[.val (.int p0), .val (.int p1), .val (.int p2), .val (.int (0 : Int32)), .unset, .unset, .unset, .unset, .unset, .unset, .unset] [(.ref b2)])) st2 ?_
    refine own_k (T' := T2) (g' := (mkF m 16 #[.val (.int p0), .val (.int p1), .val (.int p2), .val (.int (0 : Int32)), .unset, .unset, .unset, .unset, .unset, .unset, .unset] [(.ref b2), (.ref b2)])) (fun _ k_ => XS.dup X2.here hx rfl (hb hby at_15) rfl rfl k_) ?_
    refine own_k (T' := T2) (g' := (mkF m 17 #[.val (.int p0), .val (.int p1), .val (.int p2), .val (.int (0 : Int32)), .unset, .unset, .unset, .unset, .unset, .unset, .unset] [(.int (0 : Int32)), (.ref b2), (.ref b2)])) (fun _ k_ => XS.iconst X2.here hx rfl (hb hby at_16) k_) ?_
    refine own_k (T' := T2) (g' := (mkF m 18 #[.val (.int p0), .val (.int p1), .val (.int p2), .val (.int (0 : Int32)), .unset, .unset, .unset, .unset, .unset, .unset, .unset] [(.int p1), (.int (0 : Int32)), (.ref b2), (.ref b2)])) (fun _ k_ => XS.iloadN X2.here hx rfl (hb hby at_17) rfl  k_) ?_
    refine own_k (T' := T2) (g' := (mkF m 21 #[.val (.int p0), .val (.int p1), .val (.int p2), .val (.int (0 : Int32)), .unset, .unset, .unset, .unset, .unset, .unset, .unset] [(.int (255 : Int32)), (.int p1), (.int (0 : Int32)), (.ref b2), (.ref b2)])) (fun _ k_ => XS.sipush X2.here hx rfl (hb hby at_18) k_) ?_
    refine own_k (T' := T2) (g' := (mkF m 22 #[.val (.int p0), .val (.int p1), .val (.int p2), .val (.int (0 : Int32)), .unset, .unset, .unset, .unset, .unset, .unset, .unset] [(.int (p1 &&& (255 : Int32))), (.int (0 : Int32)), (.ref b2), (.ref b2)])) (fun _ k_ => XS.iand X2.here hx rfl (hb hby at_21) rfl k_) ?_
    refine own_k (T' := T2) (g' := (mkF m 23 #[.val (.int p0), .val (.int p1), .val (.int p2), .val (.int (0 : Int32)), .unset, .unset, .unset, .unset, .unset, .unset, .unset] [(.int ((p1 &&& (255 : Int32)).toUInt32.toUInt16.toUInt32.toInt32)), (.int (0 : Int32)), (.ref b2), (.ref b2)])) (fun _ k_ => XS.i2c X2.here hx rfl (hb hby at_22) rfl k_) ?_
    obtain ⟨T3, h3, X3, e3, W3, V3, st3⟩ := own_castore (pc := 23) (Ls := #[.val (.int p0), .val (.int p1), .val (.int p2), .val (.int (0 : Int32)), .unset, .unset, .unset, .unset, .unset, .unset, .unset]) (rest := [(.ref b2)]) X2 hx hZ e2 V2 (j := (0 : Int32)) (x := ((p1 &&& (255 : Int32)).toUInt32.toUInt16.toUInt32.toInt32)) ⟨by decide, by decide⟩ 0 rfl (Nat.le_of_ble_eq_true rfl) (hb hby at_23)
    have V3 : Arv Z h3 b2 k2 .char (1 : Int32) [(.int (nar .char ((p1 &&& (255 : Int32)).toUInt32.toUInt16.toUInt32.toInt32)))] (.int (0 : Int32)) := V3
    rw [show nar .char ((p1 &&& (255 : Int32)).toUInt32.toUInt16.toUInt32.toInt32) = ((p1 &&& (255 : Int32)).toUInt32.toUInt16.toUInt32.toInt32) from own_nar_char _] at V3
    have O3' := O2'.wr W3 (Nat.le_trans O0.2.1 (Nat.le_of_eq g2.symm))
    have N3 := Fr.snoc X3 N0 (Nat.le_trans O0.2.1 (Nat.le_of_eq g2.symm))
    refine own_k (T' := T3) (g' := (mkF m 24 #[.val (.int p0), .val (.int p1), .val (.int p2), .val (.int (0 : Int32)), .unset, .unset, .unset, .unset, .unset, .unset, .unset] [(.ref b2)])) st3 ?_
    refine own_k (T' := T3) (g' := (mkF m 26 #[.val (.int p0), .val (.int p1), .val (.int p2), .val (.int (0 : Int32)), .val (.ref b2), .unset, .unset, .unset, .unset, .unset, .unset] [])) (fun _ k_ => XS.astore X3.here hx rfl (hb hby at_24) rfl rfl (l' := #[.val (.int p0), .val (.int p1), .val (.int p2), .val (.int (0 : Int32)), .val (.ref b2), .unset, .unset, .unset, .unset, .unset, .unset]) rfl k_) ?_
    obtain ⟨T4, h4, X4, e4, E4, A4, D4, -, st4⟩ := newO X3 hx hZ hown (hw _ (List.mem_of_getElem? (i := 1) rfl)) (hw _ (List.mem_of_getElem? (i := 2) rfl)) (hw _ (List.mem_of_getElem? (i := 3) rfl)) e3 (g := (mkF m 26 #[.val (.int p0), .val (.int p1), .val (.int p2), .val (.int (0 : Int32)), .val (.ref b2), .unset, .unset, .unset, .unset, .unset, .unset] [])) rfl (hb hby at_26) (by decide) (by decide)
    obtain ⟨b4, g4⟩ : ∃ z, z = h3.size := ⟨_, rfl⟩
    rw [← g4] at A4 D4 st4
    have O4' := O3'.ext E4
    have F4_coder : Fld Z h4 b4 "java/lang/String" "coder" "B" (.int (0 : Int32)) := D4 (Or.inr (hw _ (List.mem_of_getElem? (i := 27) rfl))) (ty := .byte) (by decide)
    have F4_value : Fld Z h4 b4 "java/lang/String" "value" "[B" .null := D4 (Or.inr (hw _ (List.mem_of_getElem? (i := 29) rfl))) (ty := (.array .byte)) (by decide)
    refine own_k (T' := T4) (g' := (mkF m 29 #[.val (.int p0), .val (.int p1), .val (.int p2), .val (.int (0 : Int32)), .val (.ref b2), .unset, .unset, .unset, .unset, .unset, .unset] [(.ref b4)])) st4 ?_
    refine own_k (T' := T4) (g' := (mkF m 30 #[.val (.int p0), .val (.int p1), .val (.int p2), .val (.int (0 : Int32)), .val (.ref b2), .unset, .unset, .unset, .unset, .unset, .unset] [(.ref b4), (.ref b4)])) (fun _ k_ => XS.dup X4.here hx rfl (hb hby at_29) rfl rfl k_) ?_
    refine own_k (T' := T4) (g' := (mkF m 32 #[.val (.int p0), .val (.int p1), .val (.int p2), .val (.int (0 : Int32)), .val (.ref b2), .unset, .unset, .unset, .unset, .unset, .unset] [(.ref b2), (.ref b4), (.ref b4)])) (fun _ k_ => XS.aload X4.here hx rfl (hb hby at_30) rfl rfl  k_) ?_
    refine own_callN X4 hx hZ (y := (⟨"java/lang/String", "<init>", "([C)V"⟩ : MethodName)) rfl hown (hw _ (List.mem_of_getElem? (i := 4) rfl)) (hw _ (List.mem_of_getElem? (i := 5) rfl)) (hw _ (List.mem_of_getElem? (i := 6) rfl)) (hw _ (List.mem_of_getElem? (i := 3) rfl)) (by decide) (al := [(.ref b2)]) (b := b4) (rm_init_4 l Z a0 g_COMPACT_STRINGS g_SIOOBE_FORMATTER g_DEFAULTCAPACITY_EMPTY_ELEMENTDATA g_EMPTY g_EMPTY_LIST gk_DEFAULTCAPACITY_EMPTY_ELEMENTDATA g_NONE g_mir hW b4 b2 k2 ((p1 &&& (255 : Int32)).toUInt32.toUInt16.toUInt32.toInt32) h4 O4' (V3.ext E4) (own_lat p1) F4_coder A4 (Nat.le_trans O3'.2.1 (Nat.le_of_eq g4.symm)) F4_value) 1 (by decide) (by decide) e4 (by decide) (by decide) (by rw [hml]; rfl) (lenOf pd__28_5bC_29V rfl) rfl (rest := [(.ref b4)]) (by show 2 * 0 + _ ≤ _; exact Nat.le_of_eq rfl) (hb hby at_32) ?_
    intro v5 T5 L5 X5 hQ5
    obtain ⟨b5_0, k5_1, rfl, Nq5, K5, ge5_0, q5_0, q5_1, q5_2, q5_3, q5_4⟩ := hQ5
    have N5 := Fr.app N3 Nq5
    have O5' := O4'.keep K5 (allS (Nat.le_trans O3'.2.1 (Nat.le_of_eq g4.symm)) all0)
    show own_Go p e below Φ T5 (mkF m 35 #[.val (.int p0), .val (.int p1), .val (.int p2), .val (.int (0 : Int32)), .val (.ref b2), .unset, .unset, .unset, .unset, .unset, .unset] [(.ref b4)])
    refine own_k (T' := T5) (g' := (mkF m 37 #[.val (.int p0), .val (.int p1), .val (.int p2), .val (.int (0 : Int32)), .val (.ref b2), .val (.ref b4), .unset, .unset, .unset, .unset, .unset] [])) (fun _ k_ => XS.astore X5.here hx rfl (hb hby at_35) rfl rfl (l' := #[.val (.int p0), .val (.int p1), .val (.int p2), .val (.int (0 : Int32)), .val (.ref b2), .val (.ref b4), .unset, .unset, .unset, .unset, .unset]) rfl k_) ?_
    refine own_k (T' := T5) (g' := (mkF m 38 #[.val (.int p0), .val (.int p1), .val (.int p2), .val (.int (0 : Int32)), .val (.ref b2), .val (.ref b4), .unset, .unset, .unset, .unset, .unset] [(.int p2)])) (fun _ k_ => XS.iloadN X5.here hx rfl (hb hby at_37) rfl  k_) ?_
    refine own_k (T' := T5) (g' := (mkF m 41 #[.val (.int p0), .val (.int p1), .val (.int p2), .val (.int (0 : Int32)), .val (.ref b2), .val (.ref b4), .unset, .unset, .unset, .unset, .unset] [(.int (255 : Int32)), (.int p2)])) (fun _ k_ => XS.sipush X5.here hx rfl (hb hby at_38) k_) ?_
    refine own_k (T' := T5) (g' := (mkF m 42 #[.val (.int p0), .val (.int p1), .val (.int p2), .val (.int (0 : Int32)), .val (.ref b2), .val (.ref b4), .unset, .unset, .unset, .unset, .unset] [(.int (p2 &&& (255 : Int32)))])) (fun _ k_ => XS.iand X5.here hx rfl (hb hby at_41) rfl k_) ?_
    refine own_k (T' := T5) (g' := (mkF m 43 #[.val (.int p0), .val (.int p1), .val (.int p2), .val (.int (0 : Int32)), .val (.ref b2), .val (.ref b4), .unset, .unset, .unset, .unset, .unset] [(.int ((p2 &&& (255 : Int32)).toUInt32.toUInt16.toUInt32.toInt32))])) (fun _ k_ => XS.i2c X5.here hx rfl (hb hby at_42) rfl k_) ?_
    refine own_callS X5 hx hZ (y := (⟨"java/lang/String", "valueOf", "(C)Ljava/lang/String;"⟩ : MethodName)) hown (hw _ (List.mem_of_getElem? (i := 30) rfl)) (hw _ (List.mem_of_getElem? (i := 31) rfl)) (hw _ (List.mem_of_getElem? (i := 3) rfl)) (hw _ (List.mem_of_getElem? (i := 32) rfl)) (by decide) (al := [(.int ((p2 &&& (255 : Int32)).toUInt32.toUInt16.toUInt32.toInt32))]) (rm_valueOf_8 l Z a0 g_COMPACT_STRINGS g_SIOOBE_FORMATTER g_DEFAULTCAPACITY_EMPTY_ELEMENTDATA g_EMPTY g_EMPTY_LIST gk_DEFAULTCAPACITY_EMPTY_ELEMENTDATA g_NONE g_mir hW ((p2 &&& (255 : Int32)).toUInt32.toUInt16.toUInt32.toInt32) T5.heap O5' (own_lat p2)) 0 (by decide) (by decide) rfl (by decide) (by decide) (by rw [hml]; rfl) (lenOf pd__28C_29Ljava_2flang_2fString_3b rfl) rfl (rest := []) (by show 2 * 0 + _ ≤ _; exact Nat.le_of_eq rfl) (hb hby at_43) ?_
    intro v6 T6 L6 X6 hQ6
    obtain ⟨b6_0, b6_1, k6_2, rfl, Nq6, K6, ge6_0, ge6_1, nn6_0, q6_0, q6_1, q6_2, q6_3, q6_4⟩ := hQ6
    have N6 := Fr.app N5 Nq6
    have O6' := O5'.keep K6 all0
    show own_Go p e below Φ T6 (mkF m 46 #[.val (.int p0), .val (.int p1), .val (.int p2), .val (.int (0 : Int32)), .val (.ref b2), .val (.ref b4), .unset, .unset, .unset, .unset, .unset] [(.ref b6_0)])
    refine own_k (T' := T6) (g' := (mkF m 48 #[.val (.int p0), .val (.int p1), .val (.int p2), .val (.int (0 : Int32)), .val (.ref b2), .val (.ref b4), .val (.ref b6_0), .unset, .unset, .unset, .unset] [])) (fun _ k_ => XS.astore X6.here hx rfl (hb hby at_46) rfl rfl (l' := #[.val (.int p0), .val (.int p1), .val (.int p2), .val (.int (0 : Int32)), .val (.ref b2), .val (.ref b4), .val (.ref b6_0), .unset, .unset, .unset, .unset]) rfl k_) ?_
    refine own_k (T' := T6) (g' := (mkF m 49 #[.val (.int p0), .val (.int p1), .val (.int p2), .val (.int (0 : Int32)), .val (.ref b2), .val (.ref b4), .val (.ref b6_0), .unset, .unset, .unset, .unset] [.null])) (fun _ k_ => XS.aconstNull X6.here hx rfl (hb hby at_48) k_) ?_
    refine own_k (T' := T6) (g' := (mkF m 51 #[.val (.int p0), .val (.int p1), .val (.int p2), .val (.int (0 : Int32)), .val (.ref b2), .val (.ref b4), .val (.ref b6_0), .val .null, .unset, .unset, .unset] [])) (fun _ k_ => XS.astore X6.here hx rfl (hb hby at_49) rfl rfl (l' := #[.val (.int p0), .val (.int p1), .val (.int p2), .val (.int (0 : Int32)), .val (.ref b2), .val (.ref b4), .val (.ref b6_0), .val .null, .unset, .unset, .unset]) rfl k_) ?_
    refine own_k (T' := T6) (g' := (mkF m 52 #[.val (.int p0), .val (.int p1), .val (.int p2), .val (.int (0 : Int32)), .val (.ref b2), .val (.ref b4), .val (.ref b6_0), .val .null, .unset, .unset, .unset] [(.int (0 : Int32))])) (fun _ k_ => XS.iloadN X6.here hx rfl (hb hby at_51) rfl  k_) ?_
    refine own_k (T' := T6) (g' := (mkF m 85 #[.val (.int p0), .val (.int p1), .val (.int p2), .val (.int (0 : Int32)), .val (.ref b2), .val (.ref b4), .val (.ref b6_0), .val .null, .unset, .unset, .unset] [])) (fun _ k_ => XS.ifYes X6.here hx rfl (pc0 := 52) (pc' := 85) rfl (hb hby at_52) rfl ((if0 _ _).trans (teq (by decide : ((0 : Int32) = (0 : Int32)))).1) (by decide) (by decide) k_) ?_
    obtain ⟨T7, h7, X7, e7, E7, A7, D7, -, st7⟩ := newO X6 hx hZ hown (hw _ (List.mem_of_getElem? (i := 44) rfl)) (hw _ (List.mem_of_getElem? (i := 45) rfl)) (hw _ (List.mem_of_getElem? (i := 46) rfl)) rfl (g := (mkF m 85 #[.val (.int p0), .val (.int p1), .val (.int p2), .val (.int (0 : Int32)), .val (.ref b2), .val (.ref b4), .val (.ref b6_0), .val .null, .unset, .unset, .unset] [])) rfl (hb hby at_85) (by decide) (by decide)
    obtain ⟨b7, g7⟩ : ∃ z, z = T6.heap.size := ⟨_, rfl⟩
    rw [← g7] at A7 D7 st7
    have O7' := O6'.ext E7
    have F7_owner : Fld Z h7 b7 "com/example/restoral/restoral/engine/Steps" "owner" "Lcom/example/restoral/restoral/engine/RowName;" .null := D7 (Or.inr (hw _ (List.mem_of_getElem? (i := 52) rfl))) (ty := (.object "com/example/restoral/restoral/engine/RowName")) (by decide)
    have F7_figures : Fld Z h7 b7 "com/example/restoral/restoral/engine/Steps" "figures" "Ljava/util/Map;" .null := D7 (Or.inr (hw _ (List.mem_of_getElem? (i := 54) rfl))) (ty := (.object "java/util/Map")) (by decide)
    have F7_last : Fld Z h7 b7 "com/example/restoral/restoral/engine/Steps" "last" "Lcom/example/restoral/restoral/engine/Step;" .null := D7 (Or.inl (hw _ (List.mem_of_getElem? (i := 78) rfl))) (ty := (.object "com/example/restoral/restoral/engine/Step")) (by decide)
    refine own_k (T' := T7) (g' := (mkF m 88 #[.val (.int p0), .val (.int p1), .val (.int p2), .val (.int (0 : Int32)), .val (.ref b2), .val (.ref b4), .val (.ref b6_0), .val .null, .unset, .unset, .unset] [(.ref b7)])) st7 ?_
    refine own_k (T' := T7) (g' := (mkF m 89 #[.val (.int p0), .val (.int p1), .val (.int p2), .val (.int (0 : Int32)), .val (.ref b2), .val (.ref b4), .val (.ref b6_0), .val .null, .unset, .unset, .unset] [(.ref b7), (.ref b7)])) (fun _ k_ => XS.dup X7.here hx rfl (hb hby at_88) rfl rfl k_) ?_
    refine own_k (T' := T7) (g' := (mkF m 91 #[.val (.int p0), .val (.int p1), .val (.int p2), .val (.int (0 : Int32)), .val (.ref b2), .val (.ref b4), .val (.ref b6_0), .val .null, .unset, .unset, .unset] [.null, (.ref b7), (.ref b7)])) (fun _ k_ => XS.aload X7.here hx rfl (hb hby at_89) rfl rfl  k_) ?_
    refine own_k (T' := T7) (g' := (mkF m 92 #[.val (.int p0), .val (.int p1), .val (.int p2), .val (.int (0 : Int32)), .val (.ref b2), .val (.ref b4), .val (.ref b6_0), .val .null, .unset, .unset, .unset] [.null, .null, (.ref b7), (.ref b7)])) (fun _ k_ => XS.aconstNull X7.here hx rfl (hb hby at_91) k_) ?_
    refine own_callN X7 hx hZ (y := (⟨"com/example/restoral/restoral/engine/Steps", "<init>", "(Lcom/example/restoral/restoral/engine/RowName;Ljava/util/Map;)V"⟩ : MethodName)) rfl hown (hw _ (List.mem_of_getElem? (i := 47) rfl)) (hw _ (List.mem_of_getElem? (i := 48) rfl)) (hw _ (List.mem_of_getElem? (i := 49) rfl)) (hw _ (List.mem_of_getElem? (i := 46) rfl)) (by decide) (al := [.null, .null]) (b := b7) (rm_init_9 l Z a0 g_COMPACT_STRINGS g_SIOOBE_FORMATTER g_DEFAULTCAPACITY_EMPTY_ELEMENTDATA g_EMPTY g_EMPTY_LIST gk_DEFAULTCAPACITY_EMPTY_ELEMENTDATA g_NONE g_mir hW b7 h7 O7' F7_owner A7 (Nat.le_trans O6'.2.1 (Nat.le_of_eq g7.symm)) F7_figures F7_last) 1 (by decide) (by decide) e7 (by decide) (by decide) (by rw [hml]; rfl) (lenOf pd__28Lcom_2fexample_2frestoral_2frestoral_2fengine_2fRowName_3bLjava_2futil_2fMap_3b_29V rfl) rfl (rest := [(.ref b7)]) (by show 2 * 0 + _ ≤ _; exact Nat.le_of_eq rfl) (hb hby at_92) ?_
    intro v8 T8 L8 X8 hQ8
    obtain ⟨rfl, Nq8, K8, q8_0, q8_1, q8_2, q8_3⟩ := hQ8
    have N8 := Fr.app N6 Nq8
    have O8' := O7'.keep K8 (allS (Nat.le_trans O6'.2.1 (Nat.le_of_eq g7.symm)) all0)
    show own_Go p e below Φ T8 (mkF m 95 #[.val (.int p0), .val (.int p1), .val (.int p2), .val (.int (0 : Int32)), .val (.ref b2), .val (.ref b4), .val (.ref b6_0), .val .null, .unset, .unset, .unset] [(.ref b7)])
    refine own_k (T' := T8) (g' := (mkF m 97 #[.val (.int p0), .val (.int p1), .val (.int p2), .val (.int (0 : Int32)), .val (.ref b2), .val (.ref b4), .val (.ref b6_0), .val .null, .val (.ref b7), .unset, .unset] [])) (fun _ k_ => XS.astore X8.here hx rfl (hb hby at_95) rfl rfl (l' := #[.val (.int p0), .val (.int p1), .val (.int p2), .val (.int (0 : Int32)), .val (.ref b2), .val (.ref b4), .val (.ref b6_0), .val .null, .val (.ref b7), .unset, .unset]) rfl k_) ?_
    refine own_k (T' := T8) (g' := (mkF m 99 #[.val (.int p0), .val (.int p1), .val (.int p2), .val (.int (0 : Int32)), .val (.ref b2), .val (.ref b4), .val (.ref b6_0), .val .null, .val (.ref b7), .unset, .unset] [(.ref b7)])) (fun _ k_ => XS.aload X8.here hx rfl (hb hby at_97) rfl rfl  k_) ?_
    refine own_callV X8 hx hZ (C := "com/example/restoral/restoral/engine/Steps") (y := (⟨"com/example/restoral/restoral/engine/Steps", "on", "()Z"⟩ : MethodName)) (z := (⟨"com/example/restoral/restoral/engine/Steps", "on", "()Z"⟩ : MethodName)) hown (hw _ (List.mem_of_getElem? (i := 55) rfl)) (hw _ (List.mem_of_getElem? (i := 56) rfl)) (notFace_of_selects (args := #[]) (mvT hZ (hw _ (List.mem_of_getElem? (i := 58) rfl)))) (hw _ (List.mem_of_getElem? (i := 58) rfl)) (hw _ (List.mem_of_getElem? (i := 57) rfl)) (hw _ (List.mem_of_getElem? (i := 59) rfl)) (hw _ (List.mem_of_getElem? (i := 46) rfl)) (by decide) (al := []) q8_0 (rm_on_10 l Z a0 g_COMPACT_STRINGS g_SIOOBE_FORMATTER g_DEFAULTCAPACITY_EMPTY_ELEMENTDATA g_EMPTY g_EMPTY_LIST gk_DEFAULTCAPACITY_EMPTY_ELEMENTDATA g_NONE g_mir hW b7 T8.heap O8' q8_1) 0 (by decide) (by decide) rfl (by decide) (by decide) (by rw [hml]; rfl) (lenOf pd__28_29Z rfl) rfl (rest := []) (by show 2 * 0 + _ ≤ _; exact Nat.le_of_eq rfl) (hb hby at_99) ?_
    intro v9 T9 L9 X9 hQ9
    obtain ⟨rfl, Nq9, e9⟩ := hQ9
    have N9 := Fr.app N8 Nq9
    show own_Go p e below Φ T9 (mkF m 102 #[.val (.int p0), .val (.int p1), .val (.int p2), .val (.int (0 : Int32)), .val (.ref b2), .val (.ref b4), .val (.ref b6_0), .val .null, .val (.ref b7), .unset, .unset] [(.int (0 : Int32))])
    refine own_k (T' := T9) (g' := (mkF m 104 #[.val (.int p0), .val (.int p1), .val (.int p2), .val (.int (0 : Int32)), .val (.ref b2), .val (.ref b4), .val (.ref b6_0), .val .null, .val (.ref b7), .val (.int (0 : Int32)), .unset] [])) (fun _ k_ => XS.istore X9.here hx rfl (hb hby at_102) rfl (l' := #[.val (.int p0), .val (.int p1), .val (.int p2), .val (.int (0 : Int32)), .val (.ref b2), .val (.ref b4), .val (.ref b6_0), .val .null, .val (.ref b7), .val (.int (0 : Int32)), .unset]) rfl k_) ?_
    refine own_k (T' := T9) (g' := (mkF m 106 #[.val (.int p0), .val (.int p1), .val (.int p2), .val (.int (0 : Int32)), .val (.ref b2), .val (.ref b4), .val (.ref b6_0), .val .null, .val (.ref b7), .val (.int (0 : Int32)), .unset] [(.int (0 : Int32))])) (fun _ k_ => XS.iload X9.here hx rfl (hb hby at_104) rfl  k_) ?_
    refine own_k (T' := T9) (g' := (mkF m 107 #[.val (.int p0), .val (.int p1), .val (.int p2), .val (.int (0 : Int32)), .val (.ref b2), .val (.ref b4), .val (.ref b6_0), .val .null, .val (.ref b7), .val (.int (0 : Int32)), .unset] [(.int (0 : Int32)), (.int (0 : Int32))])) (fun _ k_ => XS.iloadN X9.here hx rfl (hb hby at_106) rfl  k_) ?_
    refine own_k (T' := T9) (g' := (mkF m 112 #[.val (.int p0), .val (.int p1), .val (.int p2), .val (.int (0 : Int32)), .val (.ref b2), .val (.ref b4), .val (.ref b6_0), .val .null, .val (.ref b7), .val (.int (0 : Int32)), .unset] [])) (fun _ k_ => XS.icmpYes X9.here hx rfl (pc0 := 107) (pc' := 112) rfl (hb hby at_107) rfl ((teq (by decide : ((0 : Int32) = (0 : Int32)))).1) (by decide) (by decide) k_) ?_
    obtain ⟨T10, X10, e10, st10⟩ := getS2 X9 hx hZ hown (host := "") (Or.inl (hw _ (List.mem_of_getElem? (i := 60) rfl))) Via.refl e9 (S_g_NONE.ext O8'.2) (g := (mkF m 112 #[.val (.int p0), .val (.int p1), .val (.int p2), .val (.int (0 : Int32)), .val (.ref b2), .val (.ref b4), .val (.ref b6_0), .val .null, .val (.ref b7), .val (.int (0 : Int32)), .unset] [])) rfl (hb hby at_112)
    refine own_k (T' := T10) (g' := (mkF m 115 #[.val (.int p0), .val (.int p1), .val (.int p2), .val (.int (0 : Int32)), .val (.ref b2), .val (.ref b4), .val (.ref b6_0), .val .null, .val (.ref b7), .val (.int (0 : Int32)), .unset] [(.ref g_NONE)])) st10 ?_
    refine own_callV X10 hx hZ (C := "com/example/restoral/restoral/engine/Steps") (y := (⟨"com/example/restoral/restoral/engine/Steps", "on", "()Z"⟩ : MethodName)) (z := (⟨"com/example/restoral/restoral/engine/Steps", "on", "()Z"⟩ : MethodName)) hown (hw _ (List.mem_of_getElem? (i := 55) rfl)) (hw _ (List.mem_of_getElem? (i := 56) rfl)) (notFace_of_selects (args := #[]) (mvT hZ (hw _ (List.mem_of_getElem? (i := 58) rfl)))) (hw _ (List.mem_of_getElem? (i := 58) rfl)) (hw _ (List.mem_of_getElem? (i := 57) rfl)) (hw _ (List.mem_of_getElem? (i := 59) rfl)) (hw _ (List.mem_of_getElem? (i := 46) rfl)) (by decide) (al := []) (E_g_NONE.ext O8'.2) (rm_on_11 l Z a0 g_COMPACT_STRINGS g_SIOOBE_FORMATTER g_DEFAULTCAPACITY_EMPTY_ELEMENTDATA g_EMPTY g_EMPTY_LIST gk_DEFAULTCAPACITY_EMPTY_ELEMENTDATA g_NONE g_mir hW T8.heap O8') 0 (by decide) (by decide) e10 (by decide) (by decide) (by rw [hml]; rfl) (lenOf pd__28_29Z rfl) rfl (rest := []) (by show 2 * 0 + _ ≤ _; exact Nat.le_of_eq rfl) (hb hby at_115) ?_
    intro v11 T11 L11 X11 hQ11
    obtain ⟨rfl, Nq11, e11⟩ := hQ11
    have N11 := Fr.app N9 Nq11
    show own_Go p e below Φ T11 (mkF m 118 #[.val (.int p0), .val (.int p1), .val (.int p2), .val (.int (0 : Int32)), .val (.ref b2), .val (.ref b4), .val (.ref b6_0), .val .null, .val (.ref b7), .val (.int (0 : Int32)), .unset] [(.int (0 : Int32))])
    refine own_k (T' := T11) (g' := (mkF m 123 #[.val (.int p0), .val (.int p1), .val (.int p2), .val (.int (0 : Int32)), .val (.ref b2), .val (.ref b4), .val (.ref b6_0), .val .null, .val (.ref b7), .val (.int (0 : Int32)), .unset] [])) (fun _ k_ => XS.ifYes X11.here hx rfl (pc0 := 118) (pc' := 123) rfl (hb hby at_118) rfl ((if0 _ _).trans (teq (by decide : ((0 : Int32) = (0 : Int32)))).1) (by decide) (by decide) k_) ?_
    refine own_k (T' := T11) (g' := (mkF m 125 #[.val (.int p0), .val (.int p1), .val (.int p2), .val (.int (0 : Int32)), .val (.ref b2), .val (.ref b4), .val (.ref b6_0), .val .null, .val (.ref b7), .val (.int (0 : Int32)), .unset] [(.ref b7)])) (fun _ k_ => XS.aload X11.here hx rfl (hb hby at_123) rfl rfl  k_) ?_
    refine own_k (T' := T11) (g' := (mkF m 127 #[.val (.int p0), .val (.int p1), .val (.int p2), .val (.int (0 : Int32)), .val (.ref b2), .val (.ref b4), .val (.ref b6_0), .val .null, .val (.ref b7), .val (.int (0 : Int32)), .unset] [(.ref b4), (.ref b7)])) (fun _ k_ => XS.aload X11.here hx rfl (hb hby at_125) rfl rfl  k_) ?_
    refine own_k (T' := T11) (g' := (mkF m 129 #[.val (.int p0), .val (.int p1), .val (.int p2), .val (.int (0 : Int32)), .val (.ref b2), .val (.ref b4), .val (.ref b6_0), .val .null, .val (.ref b7), .val (.int (0 : Int32)), .unset] [(.ref b6_0), (.ref b4), (.ref b7)])) (fun _ k_ => XS.aload X11.here hx rfl (hb hby at_127) rfl rfl  k_) ?_
    refine own_k (T' := T11) (g' := (mkF m 131 #[.val (.int p0), .val (.int p1), .val (.int p2), .val (.int (0 : Int32)), .val (.ref b2), .val (.ref b4), .val (.ref b6_0), .val .null, .val (.ref b7), .val (.int (0 : Int32)), .unset] [(.ref b6_0), (.ref b6_0), (.ref b4), (.ref b7)])) (fun _ k_ => XS.aload X11.here hx rfl (hb hby at_129) rfl rfl  k_) ?_
    refine own_k (T' := T11) (g' := (mkF m 133 #[.val (.int p0), .val (.int p1), .val (.int p2), .val (.int (0 : Int32)), .val (.ref b2), .val (.ref b4), .val (.ref b6_0), .val .null, .val (.ref b7), .val (.int (0 : Int32)), .unset] [(.ref b4), (.ref b6_0), (.ref b6_0), (.ref b4), (.ref b7)])) (fun _ k_ => XS.aload X11.here hx rfl (hb hby at_131) rfl rfl  k_) ?_
    refine own_callV X11 hx hZ (C := "com/example/restoral/restoral/engine/Steps") (y := (⟨"com/example/restoral/restoral/engine/Steps", "fact", "(Ljava/lang/String;Ljava/lang/Object;Ljava/lang/String;Ljava/lang/String;)Lcom/example/restoral/restoral/engine/Step;"⟩ : MethodName)) (z := (⟨"com/example/restoral/restoral/engine/Steps", "fact", "(Ljava/lang/String;Ljava/lang/Object;Ljava/lang/String;Ljava/lang/String;)Lcom/example/restoral/restoral/engine/Step;"⟩ : MethodName)) hown (hw _ (List.mem_of_getElem? (i := 62) rfl)) (hw _ (List.mem_of_getElem? (i := 63) rfl)) (notFace_of_selects (args := #[]) (mvT hZ (hw _ (List.mem_of_getElem? (i := 65) rfl)))) (hw _ (List.mem_of_getElem? (i := 65) rfl)) (hw _ (List.mem_of_getElem? (i := 64) rfl)) (hw _ (List.mem_of_getElem? (i := 66) rfl)) (hw _ (List.mem_of_getElem? (i := 46) rfl)) (by decide) (al := [(.ref b4), (.ref b6_0), (.ref b6_0), (.ref b4)]) q8_0 (rm_fact_13 l Z a0 g_COMPACT_STRINGS g_SIOOBE_FORMATTER g_DEFAULTCAPACITY_EMPTY_ELEMENTDATA g_EMPTY g_EMPTY_LIST gk_DEFAULTCAPACITY_EMPTY_ELEMENTDATA g_NONE g_mir hW b7 b4 b6_0 T8.heap O8' q8_1 q8_0) 0 (by decide) (by decide) e11 (by decide) (by decide) (by rw [hml]; rfl) (lenOf pd__28Ljava_2flang_2fString_3bLjava_2flang_2fObject_3bLjava_2flang_2fString_3bLjava_2flang_2fString_3b_29Lcom_2fexample_2frestoral_2frestoral_2fengine_2fStep_3b rfl) rfl (rest := []) (by show 2 * 0 + _ ≤ _; exact Nat.le_of_eq rfl) (hb hby at_133) ?_
    intro v12 T12 L12 X12 hQ12
    obtain ⟨rfl, Nq12, e12⟩ := hQ12
    have N12 := Fr.app N11 Nq12
    show own_Go p e below Φ T12 (mkF m 136 #[.val (.int p0), .val (.int p1), .val (.int p2), .val (.int (0 : Int32)), .val (.ref b2), .val (.ref b4), .val (.ref b6_0), .val .null, .val (.ref b7), .val (.int (0 : Int32)), .unset] [.null])
    refine own_k (T' := T12) (g' := (mkF m 138 #[.val (.int p0), .val (.int p1), .val (.int p2), .val (.int (0 : Int32)), .val (.ref b2), .val (.ref b4), .val (.ref b6_0), .val .null, .val (.ref b7), .val (.int (0 : Int32)), .val .null] [])) (fun _ k_ => XS.astore X12.here hx rfl (hb hby at_136) rfl rfl (l' := #[.val (.int p0), .val (.int p1), .val (.int p2), .val (.int (0 : Int32)), .val (.ref b2), .val (.ref b4), .val (.ref b6_0), .val .null, .val (.ref b7), .val (.int (0 : Int32)), .val .null]) rfl k_) ?_
    refine own_k (T' := T12) (g' := (mkF m 140 #[.val (.int p0), .val (.int p1), .val (.int p2), .val (.int (0 : Int32)), .val (.ref b2), .val (.ref b4), .val (.ref b6_0), .val .null, .val (.ref b7), .val (.int (0 : Int32)), .val .null] [.null])) (fun _ k_ => XS.aload X12.here hx rfl (hb hby at_138) rfl rfl  k_) ?_
    refine own_k (T' := T12) (g' := (mkF m 147 #[.val (.int p0), .val (.int p1), .val (.int p2), .val (.int (0 : Int32)), .val (.ref b2), .val (.ref b4), .val (.ref b6_0), .val .null, .val (.ref b7), .val (.int (0 : Int32)), .val .null] [])) (fun _ k_ => XS.ifnullYes X12.here hx rfl (pc0 := 140) (pc' := 147) rfl (hb hby at_140) rfl (by decide) (by decide) k_) ?_
    refine own_k (T' := T12) (g' := (mkF m 148 #[.val (.int p0), .val (.int p1), .val (.int p2), .val (.int (0 : Int32)), .val (.ref b2), .val (.ref b4), .val (.ref b6_0), .val .null, .val (.ref b7), .val (.int (0 : Int32)), .val .null] [(.int (0 : Int32))])) (fun _ k_ => XS.iconst X12.here hx rfl (hb hby at_147) k_) ?_
    refine own_k (T' := T12) (g' := (mkF m 149 #[.val (.int p0), .val (.int p1), .val (.int p2), .val (.int (0 : Int32)), .val (.ref b2), .val (.ref b4), .val (.ref b6_0), .val .null, .val (.ref b7), .val (.int (0 : Int32)), .val .null] [(.int (0 : Int32)), (.int (0 : Int32))])) (fun _ k_ => XS.iloadN X12.here hx rfl (hb hby at_148) rfl  k_) ?_
    refine own_k (T' := T12) (g' := (mkF m 154 #[.val (.int p0), .val (.int p1), .val (.int p2), .val (.int (0 : Int32)), .val (.ref b2), .val (.ref b4), .val (.ref b6_0), .val .null, .val (.ref b7), .val (.int (0 : Int32)), .val .null] [])) (fun _ k_ => XS.icmpYes X12.here hx rfl (pc0 := 149) (pc' := 154) rfl (hb hby at_149) rfl ((teq (by decide : ((0 : Int32) = (0 : Int32)))).1) (by decide) (by decide) k_) ?_
    refine own_k (T' := T12) (g' := (mkF m 156 #[.val (.int p0), .val (.int p1), .val (.int p2), .val (.int (0 : Int32)), .val (.ref b2), .val (.ref b4), .val (.ref b6_0), .val .null, .val (.ref b7), .val (.int (0 : Int32)), .val .null] [(.ref b7)])) (fun _ k_ => XS.aload X12.here hx rfl (hb hby at_154) rfl rfl  k_) ?_
    refine own_callV X12 hx hZ (C := "com/example/restoral/restoral/engine/Steps") (y := (⟨"com/example/restoral/restoral/engine/Steps", "last", "()Lcom/example/restoral/restoral/engine/Step;"⟩ : MethodName)) (z := (⟨"com/example/restoral/restoral/engine/Steps", "last", "()Lcom/example/restoral/restoral/engine/Step;"⟩ : MethodName)) hown (hw _ (List.mem_of_getElem? (i := 72) rfl)) (hw _ (List.mem_of_getElem? (i := 73) rfl)) (notFace_of_selects (args := #[]) (mvT hZ (hw _ (List.mem_of_getElem? (i := 75) rfl)))) (hw _ (List.mem_of_getElem? (i := 75) rfl)) (hw _ (List.mem_of_getElem? (i := 74) rfl)) (hw _ (List.mem_of_getElem? (i := 76) rfl)) (hw _ (List.mem_of_getElem? (i := 46) rfl)) (by decide) (al := []) q8_0 (rm_last_14 l Z a0 g_COMPACT_STRINGS g_SIOOBE_FORMATTER g_DEFAULTCAPACITY_EMPTY_ELEMENTDATA g_EMPTY g_EMPTY_LIST gk_DEFAULTCAPACITY_EMPTY_ELEMENTDATA g_NONE g_mir hW b7 T8.heap O8' q8_3) 0 (by decide) (by decide) e12 (by decide) (by decide) (by rw [hml]; rfl) (lenOf pd__28_29Lcom_2fexample_2frestoral_2frestoral_2fengine_2fStep_3b rfl) rfl (rest := []) (by show 2 * 0 + _ ≤ _; exact Nat.le_of_eq rfl) (hb hby at_156) ?_
    intro v13 T13 L13 X13 hQ13
    obtain ⟨rfl, Nq13, e13⟩ := hQ13
    have N13 := Fr.app N12 Nq13
    show own_Go p e below Φ T13 (mkF m 159 #[.val (.int p0), .val (.int p1), .val (.int p2), .val (.int (0 : Int32)), .val (.ref b2), .val (.ref b4), .val (.ref b6_0), .val .null, .val (.ref b7), .val (.int (0 : Int32)), .val .null] [.null])
    refine own_k (T' := T13) (g' := (mkF m 161 #[.val (.int p0), .val (.int p1), .val (.int p2), .val (.int (0 : Int32)), .val (.ref b2), .val (.ref b4), .val (.ref b6_0), .val .null, .val (.ref b7), .val (.int (0 : Int32)), .val .null] [.null, .null])) (fun _ k_ => XS.aload X13.here hx rfl (hb hby at_159) rfl rfl  k_) ?_
    refine own_k (T' := T13) (g' := (mkF m 166 #[.val (.int p0), .val (.int p1), .val (.int p2), .val (.int (0 : Int32)), .val (.ref b2), .val (.ref b4), .val (.ref b6_0), .val .null, .val (.ref b7), .val (.int (0 : Int32)), .val .null] [])) (fun _ k_ => Jvm.RoadKit.acmp (g := (mkF m 161 #[.val (.int p0), .val (.int p1), .val (.int p2), .val (.int (0 : Int32)), .val (.ref b2), .val (.ref b4), .val (.ref b6_0), .val .null, .val (.ref b7), .val (.int (0 : Int32)), .val .null] [.null, .null])) X13 hx rfl rfl rfl (pc0 := 161) (pc' := 166) (same := true) rfl (hb hby at_161) rfl (decide_eq_true rfl) (by decide) (by decide) k_) ?_
    refine own_k (T' := T13) (g' := (mkF m 167 #[.val (.int p0), .val (.int p1), .val (.int p2), .val (.int (0 : Int32)), .val (.ref b2), .val (.ref b4), .val (.ref b6_0), .val .null, .val (.ref b7), .val (.int (0 : Int32)), .val .null] [(.int (0 : Int32))])) (fun _ k_ => XS.iloadN X13.here hx rfl (hb hby at_166) rfl  k_) ?_
    refine own_k (T' := T13) (g' := (mkF m 182 #[.val (.int p0), .val (.int p1), .val (.int p2), .val (.int (0 : Int32)), .val (.ref b2), .val (.ref b4), .val (.ref b6_0), .val .null, .val (.ref b7), .val (.int (0 : Int32)), .val .null] [])) (fun _ k_ => XS.ifYes X13.here hx rfl (pc0 := 167) (pc' := 182) rfl (hb hby at_167) rfl ((if0 _ _).trans (teq (by decide : ((0 : Int32) = (0 : Int32)))).1) (by decide) (by decide) k_) ?_
    refine own_k (T' := T13) (g' := (mkF m 184 #[.val (.int p0), .val (.int p1), .val (.int p2), .val (.int (0 : Int32)), .val (.ref b2), .val (.ref b4), .val (.ref b6_0), .val .null, .val (.ref b7), .val (.int (0 : Int32)), .val .null] [(.ref b7)])) (fun _ k_ => XS.aload X13.here hx rfl (hb hby at_182) rfl rfl  k_) ?_
    refine own_callV X13 hx hZ (C := "com/example/restoral/restoral/engine/Steps") (y := (⟨"com/example/restoral/restoral/engine/Steps", "on", "()Z"⟩ : MethodName)) (z := (⟨"com/example/restoral/restoral/engine/Steps", "on", "()Z"⟩ : MethodName)) hown (hw _ (List.mem_of_getElem? (i := 55) rfl)) (hw _ (List.mem_of_getElem? (i := 56) rfl)) (notFace_of_selects (args := #[]) (mvT hZ (hw _ (List.mem_of_getElem? (i := 58) rfl)))) (hw _ (List.mem_of_getElem? (i := 58) rfl)) (hw _ (List.mem_of_getElem? (i := 57) rfl)) (hw _ (List.mem_of_getElem? (i := 59) rfl)) (hw _ (List.mem_of_getElem? (i := 46) rfl)) (by decide) (al := []) q8_0 (rm_on_10 l Z a0 g_COMPACT_STRINGS g_SIOOBE_FORMATTER g_DEFAULTCAPACITY_EMPTY_ELEMENTDATA g_EMPTY g_EMPTY_LIST gk_DEFAULTCAPACITY_EMPTY_ELEMENTDATA g_NONE g_mir hW b7 T8.heap O8' q8_1) 0 (by decide) (by decide) e13 (by decide) (by decide) (by rw [hml]; rfl) (lenOf pd__28_29Z rfl) rfl (rest := []) (by show 2 * 0 + _ ≤ _; exact Nat.le_of_eq rfl) (hb hby at_184) ?_
    intro v14 T14 L14 X14 hQ14
    obtain ⟨rfl, Nq14, e14⟩ := hQ14
    have N14 := Fr.app N13 Nq14
    show own_Go p e below Φ T14 (mkF m 187 #[.val (.int p0), .val (.int p1), .val (.int p2), .val (.int (0 : Int32)), .val (.ref b2), .val (.ref b4), .val (.ref b6_0), .val .null, .val (.ref b7), .val (.int (0 : Int32)), .val .null] [(.int (0 : Int32))])
    refine own_k (T' := T14) (g' := (mkF m 188 #[.val (.int p0), .val (.int p1), .val (.int p2), .val (.int (0 : Int32)), .val (.ref b2), .val (.ref b4), .val (.ref b6_0), .val .null, .val (.ref b7), .val (.int (0 : Int32)), .val .null] [(.int (0 : Int32)), (.int (0 : Int32))])) (fun _ k_ => XS.iloadN X14.here hx rfl (hb hby at_187) rfl  k_) ?_
    refine own_k (T' := T14) (g' := (mkF m 191 #[.val (.int p0), .val (.int p1), .val (.int p2), .val (.int (0 : Int32)), .val (.ref b2), .val (.ref b4), .val (.ref b6_0), .val .null, .val (.ref b7), .val (.int (0 : Int32)), .val .null] [])) (fun _ k_ => XS.icmpNo X14.here hx rfl (hb hby at_188) rfl ((teq (by decide : ((0 : Int32) = (0 : Int32)))).2) k_) ?_
    refine own_k (T' := T14) (g' := (mkF m 192 #[.val (.int p0), .val (.int p1), .val (.int p2), .val (.int (0 : Int32)), .val (.ref b2), .val (.ref b4), .val (.ref b6_0), .val .null, .val (.ref b7), .val (.int (0 : Int32)), .val .null] [(.int (1 : Int32))])) (fun _ k_ => XS.iconst X14.here hx rfl (hb hby at_191) k_) ?_
    refine own_k (T' := T14) (g' := (mkF m 196 #[.val (.int p0), .val (.int p1), .val (.int p2), .val (.int (0 : Int32)), .val (.ref b2), .val (.ref b4), .val (.ref b6_0), .val .null, .val (.ref b7), .val (.int (0 : Int32)), .val .null] [(.int (1 : Int32))])) (fun _ k_ => XS.goto X14.here hx rfl (pc0 := 192) (pc' := 196) rfl (hb hby at_192) (by decide) (by decide) k_) ?_
    exact own_retN X14 hx (t := .boolean) hret (by simp) hlk (hb hby at_196) hF (⟨by rw [show nar .boolean (1 : Int32) = (1 : Int32) from by decide], N14, trivial⟩) (by decide) (by decide)
  · refine own_k (T' := s₁) (g' := (mkF m 6 #[.val (.int p0), .val (.int p1), .val (.int p2), .unset, .unset, .unset, .unset, .unset, .unset, .unset, .unset] [])) (fun _ k_ => XS.ifNo X0.here hx rfl (hb hby at_3) rfl ((if0 _ _).trans (feq hc1).1) k_) ?_
    refine own_k (T' := s₁) (g' := (mkF m 7 #[.val (.int p0), .val (.int p1), .val (.int p2), .unset, .unset, .unset, .unset, .unset, .unset, .unset, .unset] [(.int (1 : Int32))])) (fun _ k_ => XS.iconst X0.here hx rfl (hb hby at_6) k_) ?_
    refine own_k (T' := s₁) (g' := (mkF m 11 #[.val (.int p0), .val (.int p1), .val (.int p2), .unset, .unset, .unset, .unset, .unset, .unset, .unset, .unset] [(.int (1 : Int32))])) (fun _ k_ => XS.goto X0.here hx rfl (pc0 := 7) (pc' := 11) rfl (hb hby at_7) (by decide) (by decide) k_) ?_
    refine own_k (T' := s₁) (g' := (mkF m 12 #[.val (.int p0), .val (.int p1), .val (.int p2), .val (.int (1 : Int32)), .unset, .unset, .unset, .unset, .unset, .unset, .unset] [])) (fun _ k_ => XS.istoreN X0.here hx rfl (hb hby at_11) rfl (l' := #[.val (.int p0), .val (.int p1), .val (.int p2), .val (.int (1 : Int32)), .unset, .unset, .unset, .unset, .unset, .unset, .unset]) rfl k_) ?_
    refine own_k (T' := s₁) (g' := (mkF m 13 #[.val (.int p0), .val (.int p1), .val (.int p2), .val (.int (1 : Int32)), .unset, .unset, .unset, .unset, .unset, .unset, .unset] [(.int (1 : Int32))])) (fun _ k_ => XS.iconst X0.here hx rfl (hb hby at_12) k_) ?_
    obtain ⟨T15, h15, k15, X15, e15, E15, V15, A15, st15⟩ := own_newarr (pc := 13) (Ls := #[.val (.int p0), .val (.int p1), .val (.int p2), .val (.int (1 : Int32)), .unset, .unset, .unset, .unset, .unset, .unset, .unset]) (rest := []) X0 hx hZ (hw _ (List.mem_of_getElem? (i := 0) rfl)) e0 (hb hby at_13) (n := (1 : Int32)) (by decide) (cap := 1) (by decide) (by decide) (by decide) (by decide) (ad := "[C") (by decide)
    obtain ⟨b15, g15⟩ : ∃ z, z = h0.size := ⟨_, rfl⟩
    rw [← g15] at V15 A15 st15
    have O15' := O0.ext E15
    have V15 : Arv Z h15 b15 k15 .char (1 : Int32) [(.int (0 : Int32))] (.int (0 : Int32)) := V15
    refine own_k (T' := T15) (g' := (mkF m 15 #[.val (.int p0), .val (.int p1), .val (.int p2), .val (.int (1 : Int32)), .unset, .unset, .unset, .unset, .unset, .unset, .unset] [(.ref b15)])) st15 ?_
    refine own_k (T' := T15) (g' := (mkF m 16 #[.val (.int p0), .val (.int p1), .val (.int p2), .val (.int (1 : Int32)), .unset, .unset, .unset, .unset, .unset, .unset, .unset] [(.ref b15), (.ref b15)])) (fun _ k_ => XS.dup X15.here hx rfl (hb hby at_15) rfl rfl k_) ?_
    refine own_k (T' := T15) (g' := (mkF m 17 #[.val (.int p0), .val (.int p1), .val (.int p2), .val (.int (1 : Int32)), .unset, .unset, .unset, .unset, .unset, .unset, .unset] [(.int (0 : Int32)), (.ref b15), (.ref b15)])) (fun _ k_ => XS.iconst X15.here hx rfl (hb hby at_16) k_) ?_
    refine own_k (T' := T15) (g' := (mkF m 18 #[.val (.int p0), .val (.int p1), .val (.int p2), .val (.int (1 : Int32)), .unset, .unset, .unset, .unset, .unset, .unset, .unset] [(.int p1), (.int (0 : Int32)), (.ref b15), (.ref b15)])) (fun _ k_ => XS.iloadN X15.here hx rfl (hb hby at_17) rfl  k_) ?_
    refine own_k (T' := T15) (g' := (mkF m 21 #[.val (.int p0), .val (.int p1), .val (.int p2), .val (.int (1 : Int32)), .unset, .unset, .unset, .unset, .unset, .unset, .unset] [(.int (255 : Int32)), (.int p1), (.int (0 : Int32)), (.ref b15), (.ref b15)])) (fun _ k_ => XS.sipush X15.here hx rfl (hb hby at_18) k_) ?_
    refine own_k (T' := T15) (g' := (mkF m 22 #[.val (.int p0), .val (.int p1), .val (.int p2), .val (.int (1 : Int32)), .unset, .unset, .unset, .unset, .unset, .unset, .unset] [(.int (p1 &&& (255 : Int32))), (.int (0 : Int32)), (.ref b15), (.ref b15)])) (fun _ k_ => XS.iand X15.here hx rfl (hb hby at_21) rfl k_) ?_
    refine own_k (T' := T15) (g' := (mkF m 23 #[.val (.int p0), .val (.int p1), .val (.int p2), .val (.int (1 : Int32)), .unset, .unset, .unset, .unset, .unset, .unset, .unset] [(.int ((p1 &&& (255 : Int32)).toUInt32.toUInt16.toUInt32.toInt32)), (.int (0 : Int32)), (.ref b15), (.ref b15)])) (fun _ k_ => XS.i2c X15.here hx rfl (hb hby at_22) rfl k_) ?_
    obtain ⟨T16, h16, X16, e16, W16, V16, st16⟩ := own_castore (pc := 23) (Ls := #[.val (.int p0), .val (.int p1), .val (.int p2), .val (.int (1 : Int32)), .unset, .unset, .unset, .unset, .unset, .unset, .unset]) (rest := [(.ref b15)]) X15 hx hZ e15 V15 (j := (0 : Int32)) (x := ((p1 &&& (255 : Int32)).toUInt32.toUInt16.toUInt32.toInt32)) ⟨by decide, by decide⟩ 0 rfl (Nat.le_of_ble_eq_true rfl) (hb hby at_23)
    have V16 : Arv Z h16 b15 k15 .char (1 : Int32) [(.int (nar .char ((p1 &&& (255 : Int32)).toUInt32.toUInt16.toUInt32.toInt32)))] (.int (0 : Int32)) := V16
    rw [show nar .char ((p1 &&& (255 : Int32)).toUInt32.toUInt16.toUInt32.toInt32) = ((p1 &&& (255 : Int32)).toUInt32.toUInt16.toUInt32.toInt32) from own_nar_char _] at V16
    have O16' := O15'.wr W16 (Nat.le_trans O0.2.1 (Nat.le_of_eq g15.symm))
    have N16 := Fr.snoc X16 N0 (Nat.le_trans O0.2.1 (Nat.le_of_eq g15.symm))
    refine own_k (T' := T16) (g' := (mkF m 24 #[.val (.int p0), .val (.int p1), .val (.int p2), .val (.int (1 : Int32)), .unset, .unset, .unset, .unset, .unset, .unset, .unset] [(.ref b15)])) st16 ?_
    refine own_k (T' := T16) (g' := (mkF m 26 #[.val (.int p0), .val (.int p1), .val (.int p2), .val (.int (1 : Int32)), .val (.ref b15), .unset, .unset, .unset, .unset, .unset, .unset] [])) (fun _ k_ => XS.astore X16.here hx rfl (hb hby at_24) rfl rfl (l' := #[.val (.int p0), .val (.int p1), .val (.int p2), .val (.int (1 : Int32)), .val (.ref b15), .unset, .unset, .unset, .unset, .unset, .unset]) rfl k_) ?_
    obtain ⟨T17, h17, X17, e17, E17, A17, D17, -, st17⟩ := newO X16 hx hZ hown (hw _ (List.mem_of_getElem? (i := 1) rfl)) (hw _ (List.mem_of_getElem? (i := 2) rfl)) (hw _ (List.mem_of_getElem? (i := 3) rfl)) e16 (g := (mkF m 26 #[.val (.int p0), .val (.int p1), .val (.int p2), .val (.int (1 : Int32)), .val (.ref b15), .unset, .unset, .unset, .unset, .unset, .unset] [])) rfl (hb hby at_26) (by decide) (by decide)
    obtain ⟨b17, g17⟩ : ∃ z, z = h16.size := ⟨_, rfl⟩
    rw [← g17] at A17 D17 st17
    have O17' := O16'.ext E17
    have F17_coder : Fld Z h17 b17 "java/lang/String" "coder" "B" (.int (0 : Int32)) := D17 (Or.inr (hw _ (List.mem_of_getElem? (i := 27) rfl))) (ty := .byte) (by decide)
    have F17_value : Fld Z h17 b17 "java/lang/String" "value" "[B" .null := D17 (Or.inr (hw _ (List.mem_of_getElem? (i := 29) rfl))) (ty := (.array .byte)) (by decide)
    refine own_k (T' := T17) (g' := (mkF m 29 #[.val (.int p0), .val (.int p1), .val (.int p2), .val (.int (1 : Int32)), .val (.ref b15), .unset, .unset, .unset, .unset, .unset, .unset] [(.ref b17)])) st17 ?_
    refine own_k (T' := T17) (g' := (mkF m 30 #[.val (.int p0), .val (.int p1), .val (.int p2), .val (.int (1 : Int32)), .val (.ref b15), .unset, .unset, .unset, .unset, .unset, .unset] [(.ref b17), (.ref b17)])) (fun _ k_ => XS.dup X17.here hx rfl (hb hby at_29) rfl rfl k_) ?_
    refine own_k (T' := T17) (g' := (mkF m 32 #[.val (.int p0), .val (.int p1), .val (.int p2), .val (.int (1 : Int32)), .val (.ref b15), .unset, .unset, .unset, .unset, .unset, .unset] [(.ref b15), (.ref b17), (.ref b17)])) (fun _ k_ => XS.aload X17.here hx rfl (hb hby at_30) rfl rfl  k_) ?_
    refine own_callN X17 hx hZ (y := (⟨"java/lang/String", "<init>", "([C)V"⟩ : MethodName)) rfl hown (hw _ (List.mem_of_getElem? (i := 4) rfl)) (hw _ (List.mem_of_getElem? (i := 5) rfl)) (hw _ (List.mem_of_getElem? (i := 6) rfl)) (hw _ (List.mem_of_getElem? (i := 3) rfl)) (by decide) (al := [(.ref b15)]) (b := b17) (rm_init_4 l Z a0 g_COMPACT_STRINGS g_SIOOBE_FORMATTER g_DEFAULTCAPACITY_EMPTY_ELEMENTDATA g_EMPTY g_EMPTY_LIST gk_DEFAULTCAPACITY_EMPTY_ELEMENTDATA g_NONE g_mir hW b17 b15 k15 ((p1 &&& (255 : Int32)).toUInt32.toUInt16.toUInt32.toInt32) h17 O17' (V16.ext E17) (own_lat p1) F17_coder A17 (Nat.le_trans O16'.2.1 (Nat.le_of_eq g17.symm)) F17_value) 1 (by decide) (by decide) e17 (by decide) (by decide) (by rw [hml]; rfl) (lenOf pd__28_5bC_29V rfl) rfl (rest := [(.ref b17)]) (by show 2 * 0 + _ ≤ _; exact Nat.le_of_eq rfl) (hb hby at_32) ?_
    intro v18 T18 L18 X18 hQ18
    obtain ⟨b18_0, k18_1, rfl, Nq18, K18, ge18_0, q18_0, q18_1, q18_2, q18_3, q18_4⟩ := hQ18
    have N18 := Fr.app N16 Nq18
    have O18' := O17'.keep K18 (allS (Nat.le_trans O16'.2.1 (Nat.le_of_eq g17.symm)) all0)
    show own_Go p e below Φ T18 (mkF m 35 #[.val (.int p0), .val (.int p1), .val (.int p2), .val (.int (1 : Int32)), .val (.ref b15), .unset, .unset, .unset, .unset, .unset, .unset] [(.ref b17)])
    refine own_k (T' := T18) (g' := (mkF m 37 #[.val (.int p0), .val (.int p1), .val (.int p2), .val (.int (1 : Int32)), .val (.ref b15), .val (.ref b17), .unset, .unset, .unset, .unset, .unset] [])) (fun _ k_ => XS.astore X18.here hx rfl (hb hby at_35) rfl rfl (l' := #[.val (.int p0), .val (.int p1), .val (.int p2), .val (.int (1 : Int32)), .val (.ref b15), .val (.ref b17), .unset, .unset, .unset, .unset, .unset]) rfl k_) ?_
    refine own_k (T' := T18) (g' := (mkF m 38 #[.val (.int p0), .val (.int p1), .val (.int p2), .val (.int (1 : Int32)), .val (.ref b15), .val (.ref b17), .unset, .unset, .unset, .unset, .unset] [(.int p2)])) (fun _ k_ => XS.iloadN X18.here hx rfl (hb hby at_37) rfl  k_) ?_
    refine own_k (T' := T18) (g' := (mkF m 41 #[.val (.int p0), .val (.int p1), .val (.int p2), .val (.int (1 : Int32)), .val (.ref b15), .val (.ref b17), .unset, .unset, .unset, .unset, .unset] [(.int (255 : Int32)), (.int p2)])) (fun _ k_ => XS.sipush X18.here hx rfl (hb hby at_38) k_) ?_
    refine own_k (T' := T18) (g' := (mkF m 42 #[.val (.int p0), .val (.int p1), .val (.int p2), .val (.int (1 : Int32)), .val (.ref b15), .val (.ref b17), .unset, .unset, .unset, .unset, .unset] [(.int (p2 &&& (255 : Int32)))])) (fun _ k_ => XS.iand X18.here hx rfl (hb hby at_41) rfl k_) ?_
    refine own_k (T' := T18) (g' := (mkF m 43 #[.val (.int p0), .val (.int p1), .val (.int p2), .val (.int (1 : Int32)), .val (.ref b15), .val (.ref b17), .unset, .unset, .unset, .unset, .unset] [(.int ((p2 &&& (255 : Int32)).toUInt32.toUInt16.toUInt32.toInt32))])) (fun _ k_ => XS.i2c X18.here hx rfl (hb hby at_42) rfl k_) ?_
    refine own_callS X18 hx hZ (y := (⟨"java/lang/String", "valueOf", "(C)Ljava/lang/String;"⟩ : MethodName)) hown (hw _ (List.mem_of_getElem? (i := 30) rfl)) (hw _ (List.mem_of_getElem? (i := 31) rfl)) (hw _ (List.mem_of_getElem? (i := 3) rfl)) (hw _ (List.mem_of_getElem? (i := 32) rfl)) (by decide) (al := [(.int ((p2 &&& (255 : Int32)).toUInt32.toUInt16.toUInt32.toInt32))]) (rm_valueOf_8 l Z a0 g_COMPACT_STRINGS g_SIOOBE_FORMATTER g_DEFAULTCAPACITY_EMPTY_ELEMENTDATA g_EMPTY g_EMPTY_LIST gk_DEFAULTCAPACITY_EMPTY_ELEMENTDATA g_NONE g_mir hW ((p2 &&& (255 : Int32)).toUInt32.toUInt16.toUInt32.toInt32) T18.heap O18' (own_lat p2)) 0 (by decide) (by decide) rfl (by decide) (by decide) (by rw [hml]; rfl) (lenOf pd__28C_29Ljava_2flang_2fString_3b rfl) rfl (rest := []) (by show 2 * 0 + _ ≤ _; exact Nat.le_of_eq rfl) (hb hby at_43) ?_
    intro v19 T19 L19 X19 hQ19
    obtain ⟨b19_0, b19_1, k19_2, rfl, Nq19, K19, ge19_0, ge19_1, nn19_0, q19_0, q19_1, q19_2, q19_3, q19_4⟩ := hQ19
    have N19 := Fr.app N18 Nq19
    have O19' := O18'.keep K19 all0
    show own_Go p e below Φ T19 (mkF m 46 #[.val (.int p0), .val (.int p1), .val (.int p2), .val (.int (1 : Int32)), .val (.ref b15), .val (.ref b17), .unset, .unset, .unset, .unset, .unset] [(.ref b19_0)])
    refine own_k (T' := T19) (g' := (mkF m 48 #[.val (.int p0), .val (.int p1), .val (.int p2), .val (.int (1 : Int32)), .val (.ref b15), .val (.ref b17), .val (.ref b19_0), .unset, .unset, .unset, .unset] [])) (fun _ k_ => XS.astore X19.here hx rfl (hb hby at_46) rfl rfl (l' := #[.val (.int p0), .val (.int p1), .val (.int p2), .val (.int (1 : Int32)), .val (.ref b15), .val (.ref b17), .val (.ref b19_0), .unset, .unset, .unset, .unset]) rfl k_) ?_
    refine own_k (T' := T19) (g' := (mkF m 49 #[.val (.int p0), .val (.int p1), .val (.int p2), .val (.int (1 : Int32)), .val (.ref b15), .val (.ref b17), .val (.ref b19_0), .unset, .unset, .unset, .unset] [.null])) (fun _ k_ => XS.aconstNull X19.here hx rfl (hb hby at_48) k_) ?_
    refine own_k (T' := T19) (g' := (mkF m 51 #[.val (.int p0), .val (.int p1), .val (.int p2), .val (.int (1 : Int32)), .val (.ref b15), .val (.ref b17), .val (.ref b19_0), .val .null, .unset, .unset, .unset] [])) (fun _ k_ => XS.astore X19.here hx rfl (hb hby at_49) rfl rfl (l' := #[.val (.int p0), .val (.int p1), .val (.int p2), .val (.int (1 : Int32)), .val (.ref b15), .val (.ref b17), .val (.ref b19_0), .val .null, .unset, .unset, .unset]) rfl k_) ?_
    refine own_k (T' := T19) (g' := (mkF m 52 #[.val (.int p0), .val (.int p1), .val (.int p2), .val (.int (1 : Int32)), .val (.ref b15), .val (.ref b17), .val (.ref b19_0), .val .null, .unset, .unset, .unset] [(.int (1 : Int32))])) (fun _ k_ => XS.iloadN X19.here hx rfl (hb hby at_51) rfl  k_) ?_
    refine own_k (T' := T19) (g' := (mkF m 55 #[.val (.int p0), .val (.int p1), .val (.int p2), .val (.int (1 : Int32)), .val (.ref b15), .val (.ref b17), .val (.ref b19_0), .val .null, .unset, .unset, .unset] [])) (fun _ k_ => XS.ifNo X19.here hx rfl (hb hby at_52) rfl ((if0 _ _).trans (feq (by decide : ¬ ((1 : Int32) = (0 : Int32)))).1) k_) ?_
    obtain ⟨T20, h20, X20, e20, E20, A20, D20, -, st20⟩ := newO X19 hx hZ hown (hw _ (List.mem_of_getElem? (i := 79) rfl)) (hw _ (List.mem_of_getElem? (i := 80) rfl)) (hw _ (List.mem_of_getElem? (i := 81) rfl)) rfl (g := (mkF m 55 #[.val (.int p0), .val (.int p1), .val (.int p2), .val (.int (1 : Int32)), .val (.ref b15), .val (.ref b17), .val (.ref b19_0), .val .null, .unset, .unset, .unset] [])) rfl (hb hby at_55) (by decide) (by decide)
    obtain ⟨b20, g20⟩ : ∃ z, z = T19.heap.size := ⟨_, rfl⟩
    rw [← g20] at A20 D20 st20
    have O20' := O19'.ext E20
    have F20_modCount : Fld Z h20 b20 "java/util/AbstractList" "modCount" "I" (.int (0 : Int32)) := D20 (Or.inl (hw _ (List.mem_of_getElem? (i := 99) rfl))) (ty := .int) (by decide)
    have F20_elementData : Fld Z h20 b20 "java/util/ArrayList" "elementData" "[Ljava/lang/Object;" .null := D20 (Or.inl (hw _ (List.mem_of_getElem? (i := 102) rfl))) (ty := (.array (.object "java/lang/Object"))) (by decide)
    have F20_size : Fld Z h20 b20 "java/util/ArrayList" "size" "I" (.int (0 : Int32)) := D20 (Or.inl (hw _ (List.mem_of_getElem? (i := 111) rfl))) (ty := .int) (by decide)
    refine own_k (T' := T20) (g' := (mkF m 58 #[.val (.int p0), .val (.int p1), .val (.int p2), .val (.int (1 : Int32)), .val (.ref b15), .val (.ref b17), .val (.ref b19_0), .val .null, .unset, .unset, .unset] [(.ref b20)])) st20 ?_
    refine own_k (T' := T20) (g' := (mkF m 59 #[.val (.int p0), .val (.int p1), .val (.int p2), .val (.int (1 : Int32)), .val (.ref b15), .val (.ref b17), .val (.ref b19_0), .val .null, .unset, .unset, .unset] [(.ref b20), (.ref b20)])) (fun _ k_ => XS.dup X20.here hx rfl (hb hby at_58) rfl rfl k_) ?_
    refine own_callN X20 hx hZ (y := (⟨"java/util/ArrayList", "<init>", "()V"⟩ : MethodName)) rfl hown (hw _ (List.mem_of_getElem? (i := 82) rfl)) (hw _ (List.mem_of_getElem? (i := 83) rfl)) (hw _ (List.mem_of_getElem? (i := 84) rfl)) (hw _ (List.mem_of_getElem? (i := 81) rfl)) (by decide) (al := []) (b := b20) (rm_init_17 l Z a0 g_COMPACT_STRINGS g_SIOOBE_FORMATTER g_DEFAULTCAPACITY_EMPTY_ELEMENTDATA g_EMPTY g_EMPTY_LIST gk_DEFAULTCAPACITY_EMPTY_ELEMENTDATA g_NONE g_mir hW b20 h20 O20' F20_modCount A20 (Nat.le_trans O19'.2.1 (Nat.le_of_eq g20.symm)) F20_elementData F20_size) 1 (by decide) (by decide) e20 (by decide) (by decide) (by rw [hml]; rfl) (lenOf pd__28_29V rfl) rfl (rest := [(.ref b20)]) (by show 2 * 0 + _ ≤ _; exact Nat.le_of_eq rfl) (hb hby at_59) ?_
    intro v21 T21 L21 X21 hQ21
    obtain ⟨rfl, Nq21, K21, q21_0, q21_1, q21_2, q21_3⟩ := hQ21
    have N21 := Fr.app N19 Nq21
    have O21' := O20'.keep K21 (allS (Nat.le_trans O19'.2.1 (Nat.le_of_eq g20.symm)) all0)
    show own_Go p e below Φ T21 (mkF m 62 #[.val (.int p0), .val (.int p1), .val (.int p2), .val (.int (1 : Int32)), .val (.ref b15), .val (.ref b17), .val (.ref b19_0), .val .null, .unset, .unset, .unset] [(.ref b20)])
    refine own_k (T' := T21) (g' := (mkF m 64 #[.val (.int p0), .val (.int p1), .val (.int p2), .val (.int (1 : Int32)), .val (.ref b15), .val (.ref b17), .val (.ref b19_0), .val .null, .val (.ref b20), .unset, .unset] [])) (fun _ k_ => XS.astore X21.here hx rfl (hb hby at_62) rfl rfl (l' := #[.val (.int p0), .val (.int p1), .val (.int p2), .val (.int (1 : Int32)), .val (.ref b15), .val (.ref b17), .val (.ref b19_0), .val .null, .val (.ref b20), .unset, .unset]) rfl k_) ?_
    refine own_k (T' := T21) (g' := (mkF m 66 #[.val (.int p0), .val (.int p1), .val (.int p2), .val (.int (1 : Int32)), .val (.ref b15), .val (.ref b17), .val (.ref b19_0), .val .null, .val (.ref b20), .unset, .unset] [(.ref b20)])) (fun _ k_ => XS.aload X21.here hx rfl (hb hby at_64) rfl rfl  k_) ?_
    refine own_k (T' := T21) (g' := (mkF m 68 #[.val (.int p0), .val (.int p1), .val (.int p2), .val (.int (1 : Int32)), .val (.ref b15), .val (.ref b17), .val (.ref b19_0), .val .null, .val (.ref b20), .unset, .unset] [(.ref b19_0), (.ref b20)])) (fun _ k_ => XS.aload X21.here hx rfl (hb hby at_66) rfl rfl  k_) ?_
    refine own_callV X21 hx hZ (C := "java/util/ArrayList") (y := (⟨"java/util/ArrayList", "add", "(Ljava/lang/Object;)Z"⟩ : MethodName)) (z := (⟨"java/util/ArrayList", "add", "(Ljava/lang/Object;)Z"⟩ : MethodName)) hown (hw _ (List.mem_of_getElem? (i := 103) rfl)) (hw _ (List.mem_of_getElem? (i := 104) rfl)) (notFace_of_selects (args := #[]) (mvT hZ (hw _ (List.mem_of_getElem? (i := 106) rfl)))) (hw _ (List.mem_of_getElem? (i := 106) rfl)) (hw _ (List.mem_of_getElem? (i := 105) rfl)) (hw _ (List.mem_of_getElem? (i := 107) rfl)) (hw _ (List.mem_of_getElem? (i := 81) rfl)) (by decide) (al := [(.ref b19_0)]) q21_0 (rm_add_22 l Z a0 g_COMPACT_STRINGS g_SIOOBE_FORMATTER g_DEFAULTCAPACITY_EMPTY_ELEMENTDATA g_EMPTY g_EMPTY_LIST gk_DEFAULTCAPACITY_EMPTY_ELEMENTDATA g_NONE g_mir hW b20 b19_0 T21.heap O21' q21_1 q21_0 (Nat.le_trans O19'.2.1 (Nat.le_of_eq g20.symm)) q21_2 q21_3 ((q19_0.ext E20).keep K21)) 0 (by decide) (by decide) rfl (by decide) (by decide) (by rw [hml]; rfl) (lenOf pd__28Ljava_2flang_2fObject_3b_29Z rfl) rfl (rest := []) (by show 2 * 0 + _ ≤ _; exact Nat.le_of_eq rfl) (hb hby at_68) ?_
    intro v22 T22 L22 X22 hQ22
    obtain ⟨b22_0, k22_1, rfl, Nq22, K22, ge22_0, q22_0, q22_1, q22_2, q22_3, q22_4, q22_5, q22_6⟩ := hQ22
    have N22 := Fr.app N21 Nq22
    have O22' := O21'.keep K22 (allS (Nat.le_trans O19'.2.1 (Nat.le_of_eq g20.symm)) all0)
    show own_Go p e below Φ T22 (mkF m 71 #[.val (.int p0), .val (.int p1), .val (.int p2), .val (.int (1 : Int32)), .val (.ref b15), .val (.ref b17), .val (.ref b19_0), .val .null, .val (.ref b20), .unset, .unset] [(.int (1 : Int32))])
    refine own_k (T' := T22) (g' := (mkF m 72 #[.val (.int p0), .val (.int p1), .val (.int p2), .val (.int (1 : Int32)), .val (.ref b15), .val (.ref b17), .val (.ref b19_0), .val .null, .val (.ref b20), .unset, .unset] [])) (fun _ k_ => XS.pop X22.here hx rfl (hb hby at_71) rfl rfl k_) ?_
    obtain ⟨T23, h23, X23, e23, E23, A23, D23, -, st23⟩ := newO X22 hx hZ hown (hw _ (List.mem_of_getElem? (i := 134) rfl)) (hw _ (List.mem_of_getElem? (i := 135) rfl)) (hw _ (List.mem_of_getElem? (i := 136) rfl)) rfl (g := (mkF m 72 #[.val (.int p0), .val (.int p1), .val (.int p2), .val (.int (1 : Int32)), .val (.ref b15), .val (.ref b17), .val (.ref b19_0), .val .null, .val (.ref b20), .unset, .unset] [])) rfl (hb hby at_72) (by decide) (by decide)
    obtain ⟨b23, g23⟩ : ∃ z, z = T22.heap.size := ⟨_, rfl⟩
    rw [← g23] at A23 D23 st23
    have O23' := O22'.ext E23
    have F23_output : Fld Z h23 b23 "com/example/restoral/restoral/engine/RowName" "output" "Ljava/lang/String;" .null := D23 (Or.inr (hw _ (List.mem_of_getElem? (i := 233) rfl))) (ty := (.object "java/lang/String")) (by decide)
    have F23_key : Fld Z h23 b23 "com/example/restoral/restoral/engine/RowName" "key" "Ljava/util/List;" .null := D23 (Or.inr (hw _ (List.mem_of_getElem? (i := 235) rfl))) (ty := (.object "java/util/List")) (by decide)
    refine own_k (T' := T23) (g' := (mkF m 75 #[.val (.int p0), .val (.int p1), .val (.int p2), .val (.int (1 : Int32)), .val (.ref b15), .val (.ref b17), .val (.ref b19_0), .val .null, .val (.ref b20), .unset, .unset] [(.ref b23)])) st23 ?_
    refine own_k (T' := T23) (g' := (mkF m 76 #[.val (.int p0), .val (.int p1), .val (.int p2), .val (.int (1 : Int32)), .val (.ref b15), .val (.ref b17), .val (.ref b19_0), .val .null, .val (.ref b20), .unset, .unset] [(.ref b23), (.ref b23)])) (fun _ k_ => XS.dup X23.here hx rfl (hb hby at_75) rfl rfl k_) ?_
    refine own_k (T' := T23) (g' := (mkF m 78 #[.val (.int p0), .val (.int p1), .val (.int p2), .val (.int (1 : Int32)), .val (.ref b15), .val (.ref b17), .val (.ref b19_0), .val .null, .val (.ref b20), .unset, .unset] [(.ref b17), (.ref b23), (.ref b23)])) (fun _ k_ => XS.aload X23.here hx rfl (hb hby at_76) rfl rfl  k_) ?_
    refine own_k (T' := T23) (g' := (mkF m 80 #[.val (.int p0), .val (.int p1), .val (.int p2), .val (.int (1 : Int32)), .val (.ref b15), .val (.ref b17), .val (.ref b19_0), .val .null, .val (.ref b20), .unset, .unset] [(.ref b20), (.ref b17), (.ref b23), (.ref b23)])) (fun _ k_ => XS.aload X23.here hx rfl (hb hby at_78) rfl rfl  k_) ?_
    refine own_callN X23 hx hZ (y := (⟨"com/example/restoral/restoral/engine/RowName", "<init>", "(Ljava/lang/String;Ljava/util/List;)V"⟩ : MethodName)) rfl hown (hw _ (List.mem_of_getElem? (i := 137) rfl)) (hw _ (List.mem_of_getElem? (i := 138) rfl)) (hw _ (List.mem_of_getElem? (i := 139) rfl)) (hw _ (List.mem_of_getElem? (i := 136) rfl)) (by decide) (al := [(.ref b17), (.ref b20)]) (b := b23) (rm_init_36 l Z a0 g_COMPACT_STRINGS g_SIOOBE_FORMATTER g_DEFAULTCAPACITY_EMPTY_ELEMENTDATA g_EMPTY g_EMPTY_LIST gk_DEFAULTCAPACITY_EMPTY_ELEMENTDATA g_NONE g_mir hW b23 b17 b20 b22_0 k22_1 b19_0 h23 O23' (q22_0.ext E23) (q22_3.ext E23) (q22_1.ext E23) (q22_6.ext E23) (q22_4.ext E23) ((((q19_0.ext E20).keep K21).keep K22).ext E23) F23_output A23 (Nat.le_trans O22'.2.1 (Nat.le_of_eq g23.symm)) F23_key) 1 (by decide) (by decide) e23 (by decide) (by decide) (by rw [hml]; rfl) (lenOf pd__28Ljava_2flang_2fString_3bLjava_2futil_2fList_3b_29V rfl) rfl (rest := [(.ref b23)]) (by show 2 * 0 + _ ≤ _; exact Nat.le_of_eq rfl) (hb hby at_80) ?_
    intro v24 T24 L24 X24 hQ24
    obtain ⟨b24_0, rfl, Nq24, K24, ge24_0, q24_0, q24_1, q24_2, q24_3, q24_4, q24_5⟩ := hQ24
    have N24 := Fr.app N22 Nq24
    have O24' := O23'.keep K24 (allS (Nat.le_trans O22'.2.1 (Nat.le_of_eq g23.symm)) all0)
    show own_Go p e below Φ T24 (mkF m 83 #[.val (.int p0), .val (.int p1), .val (.int p2), .val (.int (1 : Int32)), .val (.ref b15), .val (.ref b17), .val (.ref b19_0), .val .null, .val (.ref b20), .unset, .unset] [(.ref b23)])
    refine own_k (T' := T24) (g' := (mkF m 85 #[.val (.int p0), .val (.int p1), .val (.int p2), .val (.int (1 : Int32)), .val (.ref b15), .val (.ref b17), .val (.ref b19_0), .val (.ref b23), .val (.ref b20), .unset, .unset] [])) (fun _ k_ => XS.astore X24.here hx rfl (hb hby at_83) rfl rfl (l' := #[.val (.int p0), .val (.int p1), .val (.int p2), .val (.int (1 : Int32)), .val (.ref b15), .val (.ref b17), .val (.ref b19_0), .val (.ref b23), .val (.ref b20), .unset, .unset]) rfl k_) ?_
    obtain ⟨T25, h25, X25, e25, E25, A25, D25, -, st25⟩ := newO X24 hx hZ hown (hw _ (List.mem_of_getElem? (i := 44) rfl)) (hw _ (List.mem_of_getElem? (i := 45) rfl)) (hw _ (List.mem_of_getElem? (i := 46) rfl)) rfl (g := (mkF m 85 #[.val (.int p0), .val (.int p1), .val (.int p2), .val (.int (1 : Int32)), .val (.ref b15), .val (.ref b17), .val (.ref b19_0), .val (.ref b23), .val (.ref b20), .unset, .unset] [])) rfl (hb hby at_85) (by decide) (by decide)
    obtain ⟨b25, g25⟩ : ∃ z, z = T24.heap.size := ⟨_, rfl⟩
    rw [← g25] at A25 D25 st25
    have O25' := O24'.ext E25
    have F25_owner : Fld Z h25 b25 "com/example/restoral/restoral/engine/Steps" "owner" "Lcom/example/restoral/restoral/engine/RowName;" .null := D25 (Or.inr (hw _ (List.mem_of_getElem? (i := 52) rfl))) (ty := (.object "com/example/restoral/restoral/engine/RowName")) (by decide)
    have F25_figures : Fld Z h25 b25 "com/example/restoral/restoral/engine/Steps" "figures" "Ljava/util/Map;" .null := D25 (Or.inr (hw _ (List.mem_of_getElem? (i := 54) rfl))) (ty := (.object "java/util/Map")) (by decide)
    have F25_last : Fld Z h25 b25 "com/example/restoral/restoral/engine/Steps" "last" "Lcom/example/restoral/restoral/engine/Step;" .null := D25 (Or.inl (hw _ (List.mem_of_getElem? (i := 78) rfl))) (ty := (.object "com/example/restoral/restoral/engine/Step")) (by decide)
    refine own_k (T' := T25) (g' := (mkF m 88 #[.val (.int p0), .val (.int p1), .val (.int p2), .val (.int (1 : Int32)), .val (.ref b15), .val (.ref b17), .val (.ref b19_0), .val (.ref b23), .val (.ref b20), .unset, .unset] [(.ref b25)])) st25 ?_
    refine own_k (T' := T25) (g' := (mkF m 89 #[.val (.int p0), .val (.int p1), .val (.int p2), .val (.int (1 : Int32)), .val (.ref b15), .val (.ref b17), .val (.ref b19_0), .val (.ref b23), .val (.ref b20), .unset, .unset] [(.ref b25), (.ref b25)])) (fun _ k_ => XS.dup X25.here hx rfl (hb hby at_88) rfl rfl k_) ?_
    refine own_k (T' := T25) (g' := (mkF m 91 #[.val (.int p0), .val (.int p1), .val (.int p2), .val (.int (1 : Int32)), .val (.ref b15), .val (.ref b17), .val (.ref b19_0), .val (.ref b23), .val (.ref b20), .unset, .unset] [(.ref b23), (.ref b25), (.ref b25)])) (fun _ k_ => XS.aload X25.here hx rfl (hb hby at_89) rfl rfl  k_) ?_
    refine own_k (T' := T25) (g' := (mkF m 92 #[.val (.int p0), .val (.int p1), .val (.int p2), .val (.int (1 : Int32)), .val (.ref b15), .val (.ref b17), .val (.ref b19_0), .val (.ref b23), .val (.ref b20), .unset, .unset] [.null, (.ref b23), (.ref b25), (.ref b25)])) (fun _ k_ => XS.aconstNull X25.here hx rfl (hb hby at_91) k_) ?_
    refine own_callN X25 hx hZ (y := (⟨"com/example/restoral/restoral/engine/Steps", "<init>", "(Lcom/example/restoral/restoral/engine/RowName;Ljava/util/Map;)V"⟩ : MethodName)) rfl hown (hw _ (List.mem_of_getElem? (i := 47) rfl)) (hw _ (List.mem_of_getElem? (i := 48) rfl)) (hw _ (List.mem_of_getElem? (i := 49) rfl)) (hw _ (List.mem_of_getElem? (i := 46) rfl)) (by decide) (al := [(.ref b23), .null]) (b := b25) (rm_init_37 l Z a0 g_COMPACT_STRINGS g_SIOOBE_FORMATTER g_DEFAULTCAPACITY_EMPTY_ELEMENTDATA g_EMPTY g_EMPTY_LIST gk_DEFAULTCAPACITY_EMPTY_ELEMENTDATA g_NONE g_mir hW b25 b23 h25 O25' F25_owner A25 (Nat.le_trans O24'.2.1 (Nat.le_of_eq g25.symm)) F25_figures F25_last) 1 (by decide) (by decide) e25 (by decide) (by decide) (by rw [hml]; rfl) (lenOf pd__28Lcom_2fexample_2frestoral_2frestoral_2fengine_2fRowName_3bLjava_2futil_2fMap_3b_29V rfl) rfl (rest := [(.ref b25)]) (by show 2 * 0 + _ ≤ _; exact Nat.le_of_eq rfl) (hb hby at_92) ?_
    intro v26 T26 L26 X26 hQ26
    obtain ⟨rfl, Nq26, K26, q26_0, q26_1, q26_2, q26_3⟩ := hQ26
    have N26 := Fr.app N24 Nq26
    have O26' := O25'.keep K26 (allS (Nat.le_trans O24'.2.1 (Nat.le_of_eq g25.symm)) all0)
    show own_Go p e below Φ T26 (mkF m 95 #[.val (.int p0), .val (.int p1), .val (.int p2), .val (.int (1 : Int32)), .val (.ref b15), .val (.ref b17), .val (.ref b19_0), .val (.ref b23), .val (.ref b20), .unset, .unset] [(.ref b25)])
    refine own_k (T' := T26) (g' := (mkF m 97 #[.val (.int p0), .val (.int p1), .val (.int p2), .val (.int (1 : Int32)), .val (.ref b15), .val (.ref b17), .val (.ref b19_0), .val (.ref b23), .val (.ref b25), .unset, .unset] [])) (fun _ k_ => XS.astore X26.here hx rfl (hb hby at_95) rfl rfl (l' := #[.val (.int p0), .val (.int p1), .val (.int p2), .val (.int (1 : Int32)), .val (.ref b15), .val (.ref b17), .val (.ref b19_0), .val (.ref b23), .val (.ref b25), .unset, .unset]) rfl k_) ?_
    refine own_k (T' := T26) (g' := (mkF m 99 #[.val (.int p0), .val (.int p1), .val (.int p2), .val (.int (1 : Int32)), .val (.ref b15), .val (.ref b17), .val (.ref b19_0), .val (.ref b23), .val (.ref b25), .unset, .unset] [(.ref b25)])) (fun _ k_ => XS.aload X26.here hx rfl (hb hby at_97) rfl rfl  k_) ?_
    refine own_callV X26 hx hZ (C := "com/example/restoral/restoral/engine/Steps") (y := (⟨"com/example/restoral/restoral/engine/Steps", "on", "()Z"⟩ : MethodName)) (z := (⟨"com/example/restoral/restoral/engine/Steps", "on", "()Z"⟩ : MethodName)) hown (hw _ (List.mem_of_getElem? (i := 55) rfl)) (hw _ (List.mem_of_getElem? (i := 56) rfl)) (notFace_of_selects (args := #[]) (mvT hZ (hw _ (List.mem_of_getElem? (i := 58) rfl)))) (hw _ (List.mem_of_getElem? (i := 58) rfl)) (hw _ (List.mem_of_getElem? (i := 57) rfl)) (hw _ (List.mem_of_getElem? (i := 59) rfl)) (hw _ (List.mem_of_getElem? (i := 46) rfl)) (by decide) (al := []) q26_0 (rm_on_38 l Z a0 g_COMPACT_STRINGS g_SIOOBE_FORMATTER g_DEFAULTCAPACITY_EMPTY_ELEMENTDATA g_EMPTY g_EMPTY_LIST gk_DEFAULTCAPACITY_EMPTY_ELEMENTDATA g_NONE g_mir hW b25 b23 T26.heap O26' q26_1) 0 (by decide) (by decide) rfl (by decide) (by decide) (by rw [hml]; rfl) (lenOf pd__28_29Z rfl) rfl (rest := []) (by show 2 * 0 + _ ≤ _; exact Nat.le_of_eq rfl) (hb hby at_99) ?_
    intro v27 T27 L27 X27 hQ27
    obtain ⟨rfl, Nq27, e27⟩ := hQ27
    have N27 := Fr.app N26 Nq27
    show own_Go p e below Φ T27 (mkF m 102 #[.val (.int p0), .val (.int p1), .val (.int p2), .val (.int (1 : Int32)), .val (.ref b15), .val (.ref b17), .val (.ref b19_0), .val (.ref b23), .val (.ref b25), .unset, .unset] [(.int (1 : Int32))])
    refine own_k (T' := T27) (g' := (mkF m 104 #[.val (.int p0), .val (.int p1), .val (.int p2), .val (.int (1 : Int32)), .val (.ref b15), .val (.ref b17), .val (.ref b19_0), .val (.ref b23), .val (.ref b25), .val (.int (1 : Int32)), .unset] [])) (fun _ k_ => XS.istore X27.here hx rfl (hb hby at_102) rfl (l' := #[.val (.int p0), .val (.int p1), .val (.int p2), .val (.int (1 : Int32)), .val (.ref b15), .val (.ref b17), .val (.ref b19_0), .val (.ref b23), .val (.ref b25), .val (.int (1 : Int32)), .unset]) rfl k_) ?_
    refine own_k (T' := T27) (g' := (mkF m 106 #[.val (.int p0), .val (.int p1), .val (.int p2), .val (.int (1 : Int32)), .val (.ref b15), .val (.ref b17), .val (.ref b19_0), .val (.ref b23), .val (.ref b25), .val (.int (1 : Int32)), .unset] [(.int (1 : Int32))])) (fun _ k_ => XS.iload X27.here hx rfl (hb hby at_104) rfl  k_) ?_
    refine own_k (T' := T27) (g' := (mkF m 107 #[.val (.int p0), .val (.int p1), .val (.int p2), .val (.int (1 : Int32)), .val (.ref b15), .val (.ref b17), .val (.ref b19_0), .val (.ref b23), .val (.ref b25), .val (.int (1 : Int32)), .unset] [(.int (1 : Int32)), (.int (1 : Int32))])) (fun _ k_ => XS.iloadN X27.here hx rfl (hb hby at_106) rfl  k_) ?_
    refine own_k (T' := T27) (g' := (mkF m 112 #[.val (.int p0), .val (.int p1), .val (.int p2), .val (.int (1 : Int32)), .val (.ref b15), .val (.ref b17), .val (.ref b19_0), .val (.ref b23), .val (.ref b25), .val (.int (1 : Int32)), .unset] [])) (fun _ k_ => XS.icmpYes X27.here hx rfl (pc0 := 107) (pc' := 112) rfl (hb hby at_107) rfl ((teq (by decide : ((1 : Int32) = (1 : Int32)))).1) (by decide) (by decide) k_) ?_
    obtain ⟨T28, X28, e28, st28⟩ := getS2 X27 hx hZ hown (host := "") (Or.inl (hw _ (List.mem_of_getElem? (i := 60) rfl))) Via.refl e27 (S_g_NONE.ext O26'.2) (g := (mkF m 112 #[.val (.int p0), .val (.int p1), .val (.int p2), .val (.int (1 : Int32)), .val (.ref b15), .val (.ref b17), .val (.ref b19_0), .val (.ref b23), .val (.ref b25), .val (.int (1 : Int32)), .unset] [])) rfl (hb hby at_112)
    refine own_k (T' := T28) (g' := (mkF m 115 #[.val (.int p0), .val (.int p1), .val (.int p2), .val (.int (1 : Int32)), .val (.ref b15), .val (.ref b17), .val (.ref b19_0), .val (.ref b23), .val (.ref b25), .val (.int (1 : Int32)), .unset] [(.ref g_NONE)])) st28 ?_
    refine own_callV X28 hx hZ (C := "com/example/restoral/restoral/engine/Steps") (y := (⟨"com/example/restoral/restoral/engine/Steps", "on", "()Z"⟩ : MethodName)) (z := (⟨"com/example/restoral/restoral/engine/Steps", "on", "()Z"⟩ : MethodName)) hown (hw _ (List.mem_of_getElem? (i := 55) rfl)) (hw _ (List.mem_of_getElem? (i := 56) rfl)) (notFace_of_selects (args := #[]) (mvT hZ (hw _ (List.mem_of_getElem? (i := 58) rfl)))) (hw _ (List.mem_of_getElem? (i := 58) rfl)) (hw _ (List.mem_of_getElem? (i := 57) rfl)) (hw _ (List.mem_of_getElem? (i := 59) rfl)) (hw _ (List.mem_of_getElem? (i := 46) rfl)) (by decide) (al := []) (E_g_NONE.ext O26'.2) (rm_on_11 l Z a0 g_COMPACT_STRINGS g_SIOOBE_FORMATTER g_DEFAULTCAPACITY_EMPTY_ELEMENTDATA g_EMPTY g_EMPTY_LIST gk_DEFAULTCAPACITY_EMPTY_ELEMENTDATA g_NONE g_mir hW T26.heap O26') 0 (by decide) (by decide) e28 (by decide) (by decide) (by rw [hml]; rfl) (lenOf pd__28_29Z rfl) rfl (rest := []) (by show 2 * 0 + _ ≤ _; exact Nat.le_of_eq rfl) (hb hby at_115) ?_
    intro v29 T29 L29 X29 hQ29
    obtain ⟨rfl, Nq29, e29⟩ := hQ29
    have N29 := Fr.app N27 Nq29
    show own_Go p e below Φ T29 (mkF m 118 #[.val (.int p0), .val (.int p1), .val (.int p2), .val (.int (1 : Int32)), .val (.ref b15), .val (.ref b17), .val (.ref b19_0), .val (.ref b23), .val (.ref b25), .val (.int (1 : Int32)), .unset] [(.int (0 : Int32))])
    refine own_k (T' := T29) (g' := (mkF m 123 #[.val (.int p0), .val (.int p1), .val (.int p2), .val (.int (1 : Int32)), .val (.ref b15), .val (.ref b17), .val (.ref b19_0), .val (.ref b23), .val (.ref b25), .val (.int (1 : Int32)), .unset] [])) (fun _ k_ => XS.ifYes X29.here hx rfl (pc0 := 118) (pc' := 123) rfl (hb hby at_118) rfl ((if0 _ _).trans (teq (by decide : ((0 : Int32) = (0 : Int32)))).1) (by decide) (by decide) k_) ?_
    refine own_k (T' := T29) (g' := (mkF m 125 #[.val (.int p0), .val (.int p1), .val (.int p2), .val (.int (1 : Int32)), .val (.ref b15), .val (.ref b17), .val (.ref b19_0), .val (.ref b23), .val (.ref b25), .val (.int (1 : Int32)), .unset] [(.ref b25)])) (fun _ k_ => XS.aload X29.here hx rfl (hb hby at_123) rfl rfl  k_) ?_
    refine own_k (T' := T29) (g' := (mkF m 127 #[.val (.int p0), .val (.int p1), .val (.int p2), .val (.int (1 : Int32)), .val (.ref b15), .val (.ref b17), .val (.ref b19_0), .val (.ref b23), .val (.ref b25), .val (.int (1 : Int32)), .unset] [(.ref b17), (.ref b25)])) (fun _ k_ => XS.aload X29.here hx rfl (hb hby at_125) rfl rfl  k_) ?_
    refine own_k (T' := T29) (g' := (mkF m 129 #[.val (.int p0), .val (.int p1), .val (.int p2), .val (.int (1 : Int32)), .val (.ref b15), .val (.ref b17), .val (.ref b19_0), .val (.ref b23), .val (.ref b25), .val (.int (1 : Int32)), .unset] [(.ref b19_0), (.ref b17), (.ref b25)])) (fun _ k_ => XS.aload X29.here hx rfl (hb hby at_127) rfl rfl  k_) ?_
    refine own_k (T' := T29) (g' := (mkF m 131 #[.val (.int p0), .val (.int p1), .val (.int p2), .val (.int (1 : Int32)), .val (.ref b15), .val (.ref b17), .val (.ref b19_0), .val (.ref b23), .val (.ref b25), .val (.int (1 : Int32)), .unset] [(.ref b19_0), (.ref b19_0), (.ref b17), (.ref b25)])) (fun _ k_ => XS.aload X29.here hx rfl (hb hby at_129) rfl rfl  k_) ?_
    refine own_k (T' := T29) (g' := (mkF m 133 #[.val (.int p0), .val (.int p1), .val (.int p2), .val (.int (1 : Int32)), .val (.ref b15), .val (.ref b17), .val (.ref b19_0), .val (.ref b23), .val (.ref b25), .val (.int (1 : Int32)), .unset] [(.ref b17), (.ref b19_0), (.ref b19_0), (.ref b17), (.ref b25)])) (fun _ k_ => XS.aload X29.here hx rfl (hb hby at_131) rfl rfl  k_) ?_
    refine own_callV X29 hx hZ (C := "com/example/restoral/restoral/engine/Steps") (y := (⟨"com/example/restoral/restoral/engine/Steps", "fact", "(Ljava/lang/String;Ljava/lang/Object;Ljava/lang/String;Ljava/lang/String;)Lcom/example/restoral/restoral/engine/Step;"⟩ : MethodName)) (z := (⟨"com/example/restoral/restoral/engine/Steps", "fact", "(Ljava/lang/String;Ljava/lang/Object;Ljava/lang/String;Ljava/lang/String;)Lcom/example/restoral/restoral/engine/Step;"⟩ : MethodName)) hown (hw _ (List.mem_of_getElem? (i := 62) rfl)) (hw _ (List.mem_of_getElem? (i := 63) rfl)) (notFace_of_selects (args := #[]) (mvT hZ (hw _ (List.mem_of_getElem? (i := 65) rfl)))) (hw _ (List.mem_of_getElem? (i := 65) rfl)) (hw _ (List.mem_of_getElem? (i := 64) rfl)) (hw _ (List.mem_of_getElem? (i := 66) rfl)) (hw _ (List.mem_of_getElem? (i := 46) rfl)) (by decide) (al := [(.ref b17), (.ref b19_0), (.ref b19_0), (.ref b17)]) q26_0 (rm_fact_44 l Z a0 g_COMPACT_STRINGS g_SIOOBE_FORMATTER g_DEFAULTCAPACITY_EMPTY_ELEMENTDATA g_EMPTY g_EMPTY_LIST gk_DEFAULTCAPACITY_EMPTY_ELEMENTDATA g_NONE g_mir hW b25 b17 b19_0 b23 T26.heap O26' q26_1 q26_0 q26_3 (Nat.le_trans O24'.2.1 (Nat.le_of_eq g25.symm)) q26_2) 0 (by decide) (by decide) e29 (by decide) (by decide) (by rw [hml]; rfl) (lenOf pd__28Ljava_2flang_2fString_3bLjava_2flang_2fObject_3bLjava_2flang_2fString_3bLjava_2flang_2fString_3b_29Lcom_2fexample_2frestoral_2frestoral_2fengine_2fStep_3b rfl) rfl (rest := []) (by show 2 * 0 + _ ≤ _; exact Nat.le_of_eq rfl) (hb hby at_133) ?_
    intro v30 T30 L30 X30 hQ30
    obtain ⟨b30_0, rfl, Nq30, K30, ge30_0, q30_0, q30_1, q30_2, q30_3, q30_4, q30_5, q30_6, q30_7, q30_8, q30_9, q30_10, q30_11, q30_12, q30_13⟩ := hQ30
    have N30 := Fr.app N29 Nq30
    have O30' := O26'.keep K30 (allS (Nat.le_trans O24'.2.1 (Nat.le_of_eq g25.symm)) all0)
    show own_Go p e below Φ T30 (mkF m 136 #[.val (.int p0), .val (.int p1), .val (.int p2), .val (.int (1 : Int32)), .val (.ref b15), .val (.ref b17), .val (.ref b19_0), .val (.ref b23), .val (.ref b25), .val (.int (1 : Int32)), .unset] [(.ref b30_0)])
    refine own_k (T' := T30) (g' := (mkF m 138 #[.val (.int p0), .val (.int p1), .val (.int p2), .val (.int (1 : Int32)), .val (.ref b15), .val (.ref b17), .val (.ref b19_0), .val (.ref b23), .val (.ref b25), .val (.int (1 : Int32)), .val (.ref b30_0)] [])) (fun _ k_ => XS.astore X30.here hx rfl (hb hby at_136) rfl rfl (l' := #[.val (.int p0), .val (.int p1), .val (.int p2), .val (.int (1 : Int32)), .val (.ref b15), .val (.ref b17), .val (.ref b19_0), .val (.ref b23), .val (.ref b25), .val (.int (1 : Int32)), .val (.ref b30_0)]) rfl k_) ?_
    refine own_k (T' := T30) (g' := (mkF m 140 #[.val (.int p0), .val (.int p1), .val (.int p2), .val (.int (1 : Int32)), .val (.ref b15), .val (.ref b17), .val (.ref b19_0), .val (.ref b23), .val (.ref b25), .val (.int (1 : Int32)), .val (.ref b30_0)] [(.ref b30_0)])) (fun _ k_ => XS.aload X30.here hx rfl (hb hby at_138) rfl rfl  k_) ?_
    refine own_k (T' := T30) (g' := (mkF m 143 #[.val (.int p0), .val (.int p1), .val (.int p2), .val (.int (1 : Int32)), .val (.ref b15), .val (.ref b17), .val (.ref b19_0), .val (.ref b23), .val (.ref b25), .val (.int (1 : Int32)), .val (.ref b30_0)] [])) (fun _ k_ => XS.ifnullNo X30.here hx rfl (hb hby at_140) rfl k_) ?_
    refine own_k (T' := T30) (g' := (mkF m 144 #[.val (.int p0), .val (.int p1), .val (.int p2), .val (.int (1 : Int32)), .val (.ref b15), .val (.ref b17), .val (.ref b19_0), .val (.ref b23), .val (.ref b25), .val (.int (1 : Int32)), .val (.ref b30_0)] [(.int (1 : Int32))])) (fun _ k_ => XS.iconst X30.here hx rfl (hb hby at_143) k_) ?_
    refine own_k (T' := T30) (g' := (mkF m 148 #[.val (.int p0), .val (.int p1), .val (.int p2), .val (.int (1 : Int32)), .val (.ref b15), .val (.ref b17), .val (.ref b19_0), .val (.ref b23), .val (.ref b25), .val (.int (1 : Int32)), .val (.ref b30_0)] [(.int (1 : Int32))])) (fun _ k_ => XS.goto X30.here hx rfl (pc0 := 144) (pc' := 148) rfl (hb hby at_144) (by decide) (by decide) k_) ?_
    refine own_k (T' := T30) (g' := (mkF m 149 #[.val (.int p0), .val (.int p1), .val (.int p2), .val (.int (1 : Int32)), .val (.ref b15), .val (.ref b17), .val (.ref b19_0), .val (.ref b23), .val (.ref b25), .val (.int (1 : Int32)), .val (.ref b30_0)] [(.int (1 : Int32)), (.int (1 : Int32))])) (fun _ k_ => XS.iloadN X30.here hx rfl (hb hby at_148) rfl  k_) ?_
    refine own_k (T' := T30) (g' := (mkF m 154 #[.val (.int p0), .val (.int p1), .val (.int p2), .val (.int (1 : Int32)), .val (.ref b15), .val (.ref b17), .val (.ref b19_0), .val (.ref b23), .val (.ref b25), .val (.int (1 : Int32)), .val (.ref b30_0)] [])) (fun _ k_ => XS.icmpYes X30.here hx rfl (pc0 := 149) (pc' := 154) rfl (hb hby at_149) rfl ((teq (by decide : ((1 : Int32) = (1 : Int32)))).1) (by decide) (by decide) k_) ?_
    refine own_k (T' := T30) (g' := (mkF m 156 #[.val (.int p0), .val (.int p1), .val (.int p2), .val (.int (1 : Int32)), .val (.ref b15), .val (.ref b17), .val (.ref b19_0), .val (.ref b23), .val (.ref b25), .val (.int (1 : Int32)), .val (.ref b30_0)] [(.ref b25)])) (fun _ k_ => XS.aload X30.here hx rfl (hb hby at_154) rfl rfl  k_) ?_
    refine own_callV X30 hx hZ (C := "com/example/restoral/restoral/engine/Steps") (y := (⟨"com/example/restoral/restoral/engine/Steps", "last", "()Lcom/example/restoral/restoral/engine/Step;"⟩ : MethodName)) (z := (⟨"com/example/restoral/restoral/engine/Steps", "last", "()Lcom/example/restoral/restoral/engine/Step;"⟩ : MethodName)) hown (hw _ (List.mem_of_getElem? (i := 72) rfl)) (hw _ (List.mem_of_getElem? (i := 73) rfl)) (notFace_of_selects (args := #[]) (mvT hZ (hw _ (List.mem_of_getElem? (i := 75) rfl)))) (hw _ (List.mem_of_getElem? (i := 75) rfl)) (hw _ (List.mem_of_getElem? (i := 74) rfl)) (hw _ (List.mem_of_getElem? (i := 76) rfl)) (hw _ (List.mem_of_getElem? (i := 46) rfl)) (by decide) (al := []) q30_0 (rm_last_45 l Z a0 g_COMPACT_STRINGS g_SIOOBE_FORMATTER g_DEFAULTCAPACITY_EMPTY_ELEMENTDATA g_EMPTY g_EMPTY_LIST gk_DEFAULTCAPACITY_EMPTY_ELEMENTDATA g_NONE g_mir hW b25 b30_0 T30.heap O30' q30_1) 0 (by decide) (by decide) rfl (by decide) (by decide) (by rw [hml]; rfl) (lenOf pd__28_29Lcom_2fexample_2frestoral_2frestoral_2fengine_2fStep_3b rfl) rfl (rest := []) (by show 2 * 0 + _ ≤ _; exact Nat.le_of_eq rfl) (hb hby at_156) ?_
    intro v31 T31 L31 X31 hQ31
    obtain ⟨rfl, Nq31, e31⟩ := hQ31
    have N31 := Fr.app N30 Nq31
    show own_Go p e below Φ T31 (mkF m 159 #[.val (.int p0), .val (.int p1), .val (.int p2), .val (.int (1 : Int32)), .val (.ref b15), .val (.ref b17), .val (.ref b19_0), .val (.ref b23), .val (.ref b25), .val (.int (1 : Int32)), .val (.ref b30_0)] [(.ref b30_0)])
    refine own_k (T' := T31) (g' := (mkF m 161 #[.val (.int p0), .val (.int p1), .val (.int p2), .val (.int (1 : Int32)), .val (.ref b15), .val (.ref b17), .val (.ref b19_0), .val (.ref b23), .val (.ref b25), .val (.int (1 : Int32)), .val (.ref b30_0)] [(.ref b30_0), (.ref b30_0)])) (fun _ k_ => XS.aload X31.here hx rfl (hb hby at_159) rfl rfl  k_) ?_
    refine own_k (T' := T31) (g' := (mkF m 166 #[.val (.int p0), .val (.int p1), .val (.int p2), .val (.int (1 : Int32)), .val (.ref b15), .val (.ref b17), .val (.ref b19_0), .val (.ref b23), .val (.ref b25), .val (.int (1 : Int32)), .val (.ref b30_0)] [])) (fun _ k_ => Jvm.RoadKit.acmp (g := (mkF m 161 #[.val (.int p0), .val (.int p1), .val (.int p2), .val (.int (1 : Int32)), .val (.ref b15), .val (.ref b17), .val (.ref b19_0), .val (.ref b23), .val (.ref b25), .val (.int (1 : Int32)), .val (.ref b30_0)] [(.ref b30_0), (.ref b30_0)])) X31 hx rfl rfl rfl (pc0 := 161) (pc' := 166) (same := true) rfl (hb hby at_161) rfl (decide_eq_true rfl) (by decide) (by decide) k_) ?_
    refine own_k (T' := T31) (g' := (mkF m 167 #[.val (.int p0), .val (.int p1), .val (.int p2), .val (.int (1 : Int32)), .val (.ref b15), .val (.ref b17), .val (.ref b19_0), .val (.ref b23), .val (.ref b25), .val (.int (1 : Int32)), .val (.ref b30_0)] [(.int (1 : Int32))])) (fun _ k_ => XS.iloadN X31.here hx rfl (hb hby at_166) rfl  k_) ?_
    refine own_k (T' := T31) (g' := (mkF m 170 #[.val (.int p0), .val (.int p1), .val (.int p2), .val (.int (1 : Int32)), .val (.ref b15), .val (.ref b17), .val (.ref b19_0), .val (.ref b23), .val (.ref b25), .val (.int (1 : Int32)), .val (.ref b30_0)] [])) (fun _ k_ => XS.ifNo X31.here hx rfl (hb hby at_167) rfl ((if0 _ _).trans (feq (by decide : ¬ ((1 : Int32) = (0 : Int32)))).1) k_) ?_
    refine own_k (T' := T31) (g' := (mkF m 172 #[.val (.int p0), .val (.int p1), .val (.int p2), .val (.int (1 : Int32)), .val (.ref b15), .val (.ref b17), .val (.ref b19_0), .val (.ref b23), .val (.ref b25), .val (.int (1 : Int32)), .val (.ref b30_0)] [(.ref b30_0)])) (fun _ k_ => XS.aload X31.here hx rfl (hb hby at_170) rfl rfl  k_) ?_
    refine own_callV X31 hx hZ (C := "com/example/restoral/restoral/engine/Step") (y := (⟨"com/example/restoral/restoral/engine/Step", "owner", "()Lcom/example/restoral/restoral/engine/RowName;"⟩ : MethodName)) (z := (⟨"com/example/restoral/restoral/engine/Step", "owner", "()Lcom/example/restoral/restoral/engine/RowName;"⟩ : MethodName)) hown (hw _ (List.mem_of_getElem? (i := 274) rfl)) (hw _ (List.mem_of_getElem? (i := 275) rfl)) (notFace_of_selects (args := #[]) (mvT hZ (hw _ (List.mem_of_getElem? (i := 277) rfl)))) (hw _ (List.mem_of_getElem? (i := 277) rfl)) (hw _ (List.mem_of_getElem? (i := 276) rfl)) (hw _ (List.mem_of_getElem? (i := 278) rfl)) (hw _ (List.mem_of_getElem? (i := 238) rfl)) (by decide) (al := []) q30_4 (rm_owner_46 l Z a0 g_COMPACT_STRINGS g_SIOOBE_FORMATTER g_DEFAULTCAPACITY_EMPTY_ELEMENTDATA g_EMPTY g_EMPTY_LIST gk_DEFAULTCAPACITY_EMPTY_ELEMENTDATA g_NONE g_mir hW b30_0 b23 T30.heap O30' q30_5) 0 (by decide) (by decide) e31 (by decide) (by decide) (by rw [hml]; rfl) (lenOf pd__28_29Lcom_2fexample_2frestoral_2frestoral_2fengine_2fRowName_3b rfl) rfl (rest := []) (by show 2 * 0 + _ ≤ _; exact Nat.le_of_eq rfl) (hb hby at_172) ?_
    intro v32 T32 L32 X32 hQ32
    obtain ⟨rfl, Nq32, e32⟩ := hQ32
    have N32 := Fr.app N31 Nq32
    show own_Go p e below Φ T32 (mkF m 175 #[.val (.int p0), .val (.int p1), .val (.int p2), .val (.int (1 : Int32)), .val (.ref b15), .val (.ref b17), .val (.ref b19_0), .val (.ref b23), .val (.ref b25), .val (.int (1 : Int32)), .val (.ref b30_0)] [(.ref b23)])
    refine own_k (T' := T32) (g' := (mkF m 177 #[.val (.int p0), .val (.int p1), .val (.int p2), .val (.int (1 : Int32)), .val (.ref b15), .val (.ref b17), .val (.ref b19_0), .val (.ref b23), .val (.ref b25), .val (.int (1 : Int32)), .val (.ref b30_0)] [(.ref b23), (.ref b23)])) (fun _ k_ => XS.aload X32.here hx rfl (hb hby at_175) rfl rfl  k_) ?_
    refine own_k (T' := T32) (g' := (mkF m 182 #[.val (.int p0), .val (.int p1), .val (.int p2), .val (.int (1 : Int32)), .val (.ref b15), .val (.ref b17), .val (.ref b19_0), .val (.ref b23), .val (.ref b25), .val (.int (1 : Int32)), .val (.ref b30_0)] [])) (fun _ k_ => Jvm.RoadKit.acmp (g := (mkF m 177 #[.val (.int p0), .val (.int p1), .val (.int p2), .val (.int (1 : Int32)), .val (.ref b15), .val (.ref b17), .val (.ref b19_0), .val (.ref b23), .val (.ref b25), .val (.int (1 : Int32)), .val (.ref b30_0)] [(.ref b23), (.ref b23)])) X32 hx rfl rfl rfl (pc0 := 177) (pc' := 182) (same := true) rfl (hb hby at_177) rfl (decide_eq_true rfl) (by decide) (by decide) k_) ?_
    refine own_k (T' := T32) (g' := (mkF m 184 #[.val (.int p0), .val (.int p1), .val (.int p2), .val (.int (1 : Int32)), .val (.ref b15), .val (.ref b17), .val (.ref b19_0), .val (.ref b23), .val (.ref b25), .val (.int (1 : Int32)), .val (.ref b30_0)] [(.ref b25)])) (fun _ k_ => XS.aload X32.here hx rfl (hb hby at_182) rfl rfl  k_) ?_
    refine own_callV X32 hx hZ (C := "com/example/restoral/restoral/engine/Steps") (y := (⟨"com/example/restoral/restoral/engine/Steps", "on", "()Z"⟩ : MethodName)) (z := (⟨"com/example/restoral/restoral/engine/Steps", "on", "()Z"⟩ : MethodName)) hown (hw _ (List.mem_of_getElem? (i := 55) rfl)) (hw _ (List.mem_of_getElem? (i := 56) rfl)) (notFace_of_selects (args := #[]) (mvT hZ (hw _ (List.mem_of_getElem? (i := 58) rfl)))) (hw _ (List.mem_of_getElem? (i := 58) rfl)) (hw _ (List.mem_of_getElem? (i := 57) rfl)) (hw _ (List.mem_of_getElem? (i := 59) rfl)) (hw _ (List.mem_of_getElem? (i := 46) rfl)) (by decide) (al := []) q30_0 (rm_on_38 l Z a0 g_COMPACT_STRINGS g_SIOOBE_FORMATTER g_DEFAULTCAPACITY_EMPTY_ELEMENTDATA g_EMPTY g_EMPTY_LIST gk_DEFAULTCAPACITY_EMPTY_ELEMENTDATA g_NONE g_mir hW b25 b23 T30.heap O30' q30_3) 0 (by decide) (by decide) e32 (by decide) (by decide) (by rw [hml]; rfl) (lenOf pd__28_29Z rfl) rfl (rest := []) (by show 2 * 0 + _ ≤ _; exact Nat.le_of_eq rfl) (hb hby at_184) ?_
    intro v33 T33 L33 X33 hQ33
    obtain ⟨rfl, Nq33, e33⟩ := hQ33
    have N33 := Fr.app N32 Nq33
    show own_Go p e below Φ T33 (mkF m 187 #[.val (.int p0), .val (.int p1), .val (.int p2), .val (.int (1 : Int32)), .val (.ref b15), .val (.ref b17), .val (.ref b19_0), .val (.ref b23), .val (.ref b25), .val (.int (1 : Int32)), .val (.ref b30_0)] [(.int (1 : Int32))])
    refine own_k (T' := T33) (g' := (mkF m 188 #[.val (.int p0), .val (.int p1), .val (.int p2), .val (.int (1 : Int32)), .val (.ref b15), .val (.ref b17), .val (.ref b19_0), .val (.ref b23), .val (.ref b25), .val (.int (1 : Int32)), .val (.ref b30_0)] [(.int (1 : Int32)), (.int (1 : Int32))])) (fun _ k_ => XS.iloadN X33.here hx rfl (hb hby at_187) rfl  k_) ?_
    refine own_k (T' := T33) (g' := (mkF m 191 #[.val (.int p0), .val (.int p1), .val (.int p2), .val (.int (1 : Int32)), .val (.ref b15), .val (.ref b17), .val (.ref b19_0), .val (.ref b23), .val (.ref b25), .val (.int (1 : Int32)), .val (.ref b30_0)] [])) (fun _ k_ => XS.icmpNo X33.here hx rfl (hb hby at_188) rfl ((teq (by decide : ((1 : Int32) = (1 : Int32)))).2) k_) ?_
    refine own_k (T' := T33) (g' := (mkF m 192 #[.val (.int p0), .val (.int p1), .val (.int p2), .val (.int (1 : Int32)), .val (.ref b15), .val (.ref b17), .val (.ref b19_0), .val (.ref b23), .val (.ref b25), .val (.int (1 : Int32)), .val (.ref b30_0)] [(.int (1 : Int32))])) (fun _ k_ => XS.iconst X33.here hx rfl (hb hby at_191) k_) ?_
    refine own_k (T' := T33) (g' := (mkF m 196 #[.val (.int p0), .val (.int p1), .val (.int p2), .val (.int (1 : Int32)), .val (.ref b15), .val (.ref b17), .val (.ref b19_0), .val (.ref b23), .val (.ref b25), .val (.int (1 : Int32)), .val (.ref b30_0)] [(.int (1 : Int32))])) (fun _ k_ => XS.goto X33.here hx rfl (pc0 := 192) (pc' := 196) rfl (hb hby at_192) (by decide) (by decide) k_) ?_
    exact own_retN X33 hx (t := .boolean) hret (by simp) hlk (hb hby at_196) hF (⟨by rw [show nar .boolean (1 : Int32) = (1 : Int32) from by decide], N33, trivial⟩) (by decide) (by decide)
set_option maxRecDepth 65536 in
set_option maxHeartbeats 40000000 in
theorem comes_1 {Post : Tables → Env → Array Value → State → Outcome → State → Prop} (hpost : ∀ tb e args s v u, (limb_1_1.after args s (.returned v) u = true ∧ limb_1_2.after args s (.returned v) u = true ∧ True) → FrameEnd s (.returned v) u (Jvm.fieldLocs frame_1_writes args s ++ Jvm.arrayLocs frame_1_arrays args s ++ Jvm.staticLocs frame_1_statics s) 32 192 → Post tb e args s (.returned v) u) :
    ArmFor flags0 classFile x code maxLocals ret World_1 tables_1 room_1 Calls_1 rest_1 Pre_1 Post := by
  intro l hfl _ _ p e ha hc hk s m args below hf hA hF happ hP
  obtain ⟨hcalls, hrest, hpre⟩ := hP
  obtain ⟨-, -, -, hnamed, -, -, -, hat⟩ := (Spec.applies_iff hf).mp happ
  obtain ⟨hg, hn⟩ := and_e (Cond.before_iff.mp (show (Jvm.Cond.and given_1 narrow_1).before args s = true from hpre))
  obtain ⟨g1, g2⟩ := and_e hg
  obtain ⟨g3, g4⟩ := and_e g2
  obtain ⟨g5, g6⟩ := and_e g4
  obtain ⟨w0, w1, w2, rfl⟩ : ∃ w0 w1 w2 : Value, args = #[w0, w1, w2] := by
    have hs : args.size = 3 := by simpa [Cond.value, given_1] using g1
    obtain ⟨L⟩ := args
    match L, hs with
    | [w0, w1, w2], _ => exact ⟨w0, w1, w2, rfl⟩
  have hw := fun d (hd : d ∈ tables_1) => atoms_spec (ws := Jvm.Cond.code x code maxLocals ret :: tables_1) hat d (List.mem_cons_of_mem _ hd)
  have hfit : Fit s := fun {y c} hc i hi => by
    obtain ⟨ha, rfl⟩ := Array.getElem?_eq_some_iff.mp hc
    have q := List.all_eq_true.mp ((Array.all_eq_true_iff_forall_mem.mp hF) _ (Array.getElem_mem ha)) i (List.mem_range.mpr hi)
    simpa [Array.getElem?_eq_getElem hi] using q
  obtain ⟨hsets, hown0⟩ := atoms_of _ (rest_1_c_eq ▸ (show rest_1_c.before _ s = true from hrest))
  obtain ⟨i0, ei0⟩ := is_v g3
  obtain rfl : w0 = (.int i0) := Option.some.inj ei0
  obtain ⟨i1, ei1⟩ := is_v g5
  obtain rfl : w1 = (.int i1) := Option.some.inj ei1
  obtain ⟨i2, ei2⟩ := is_v g6
  obtain rfl : w2 = (.int i2) := Option.some.inj ei2
  obtain ⟨g_COMPACT_STRINGS, ev_g_COMPACT_STRINGS⟩ := is_v (Cond.before_iff.mp (hsets _ (List.mem_of_getElem? (i := 1) rfl)))
  have S_g_COMPACT_STRINGS := Sta.start ev_g_COMPACT_STRINGS (Or.inl (hsets _ (List.mem_of_getElem? (i := 0) rfl)))
  have P_g_COMPACT_STRINGS : ¬ (g_COMPACT_STRINGS = (0 : Int32)) := gotF (Cond.eq_ints ev_g_COMPACT_STRINGS (Term.int_eval (0))) (not_v (Cond.before_iff.mp (hsets _ (List.mem_of_getElem? (i := 2) rfl))))
  obtain ⟨g_SIOOBE_FORMATTER, ev_g_SIOOBE_FORMATTER, R_g_SIOOBE_FORMATTER⟩ := isR_v (Cond.before_iff.mp (hsets _ (List.mem_of_getElem? (i := 8) rfl)))
  have S_g_SIOOBE_FORMATTER := Sta.start ev_g_SIOOBE_FORMATTER (Or.inl (hsets _ (List.mem_of_getElem? (i := 7) rfl)))
  have S_g__assertionsDisabled := Sta.start (own_eqI (Cond.before_iff.mp (hsets _ (List.mem_of_getElem? (i := 23) rfl)))) (Or.inl (hsets _ (List.mem_of_getElem? (i := 22) rfl)))
  obtain ⟨g_DEFAULTCAPACITY_EMPTY_ELEMENTDATA, ev_g_DEFAULTCAPACITY_EMPTY_ELEMENTDATA⟩ := exa_v (Cond.before_iff.mp (hsets _ (List.mem_of_getElem? (i := 16) rfl)))
  have E_g_DEFAULTCAPACITY_EMPTY_ELEMENTDATA := Exa.start ev_g_DEFAULTCAPACITY_EMPTY_ELEMENTDATA (Cond.before_iff.mp (hsets _ (List.mem_of_getElem? (i := 16) rfl)))
  have S_g_DEFAULTCAPACITY_EMPTY_ELEMENTDATA := Sta.start ev_g_DEFAULTCAPACITY_EMPTY_ELEMENTDATA (Or.inr ⟨(hw _ (List.mem_of_getElem? (i := 81) rfl)), (hsets _ (List.mem_of_getElem? (i := 11) rfl))⟩)
  obtain ⟨g_EMPTY, ev_g_EMPTY⟩ := exa_v (Cond.before_iff.mp (hsets _ (List.mem_of_getElem? (i := 20) rfl)))
  have E_g_EMPTY := Exa.start ev_g_EMPTY (Cond.before_iff.mp (hsets _ (List.mem_of_getElem? (i := 20) rfl)))
  have S_g_EMPTY := Sta.start ev_g_EMPTY (Or.inl (hsets _ (List.mem_of_getElem? (i := 19) rfl)))
  obtain ⟨g_EMPTY_LIST, ev_g_EMPTY_LIST⟩ := exa_v (Cond.before_iff.mp (hsets _ (List.mem_of_getElem? (i := 26) rfl)))
  have E_g_EMPTY_LIST := Exa.start ev_g_EMPTY_LIST (Cond.before_iff.mp (hsets _ (List.mem_of_getElem? (i := 26) rfl)))
  have S_g_EMPTY_LIST := Sta.start ev_g_EMPTY_LIST (Or.inl (hsets _ (List.mem_of_getElem? (i := 28) rfl)))
  obtain ⟨gk_DEFAULTCAPACITY_EMPTY_ELEMENTDATA, V_g_DEFAULTCAPACITY_EMPTY_ELEMENTDATA⟩ := own_arv0 (dv := .null) hfit ev_g_DEFAULTCAPACITY_EMPTY_ELEMENTDATA (Cond.before_iff.mp (hsets _ (List.mem_of_getElem? (i := 15) rfl))) (Cond.before_iff.mp (hsets _ (List.mem_of_getElem? (i := 17) rfl)))
  have F_g_EMPTY_LIST_allowNulls := own_fldI ev_g_EMPTY_LIST (Cond.before_iff.mp (hsets _ (List.mem_of_getElem? (i := 33) rfl)))
  obtain ⟨n1, n2⟩ := and_e hn
  obtain ⟨g_NONE, ev_g_NONE⟩ := exa_v n1
  have E_g_NONE := Exa.start ev_g_NONE n1
  have S_g_NONE := Sta.start ev_g_NONE (Or.inr ⟨(hw _ (List.mem_of_getElem? (i := 46) rfl)), (hw _ (List.mem_of_getElem? (i := 61) rfl))⟩)
  have F_g_NONE_owner := own_fldN ev_g_NONE n2
  obtain ⟨cM, kM, g_mir, mm1, mm2, mm3, mm4⟩ := hcalls.1
  have M_mir : Mir s "[Ljava/lang/Object;" g_mir := ⟨cM, kM, mm1, mm2, mm3, mm4⟩
  obtain ⟨n, o, h1, h2, h3, _, L, rfl, ⟨rfl, N, -⟩, hq⟩ := own_law l s _ g_COMPACT_STRINGS g_SIOOBE_FORMATTER g_DEFAULTCAPACITY_EMPTY_ELEMENTDATA g_EMPTY g_EMPTY_LIST gk_DEFAULTCAPACITY_EMPTY_ELEMENTDATA g_NONE g_mir ⟨hw, S_g_COMPACT_STRINGS, P_g_COMPACT_STRINGS, R_g_SIOOBE_FORMATTER, S_g_SIOOBE_FORMATTER, S_g__assertionsDisabled, S_g_DEFAULTCAPACITY_EMPTY_ELEMENTDATA, E_g_DEFAULTCAPACITY_EMPTY_ELEMENTDATA, S_g_EMPTY, E_g_EMPTY, S_g_EMPTY_LIST, E_g_EMPTY_LIST, V_g_DEFAULTCAPACITY_EMPTY_ELEMENTDATA, F_g_EMPTY_LIST_allowNulls, S_g_NONE, E_g_NONE, F_g_NONE_owner, M_mir⟩ i0 i1 i2 s.heap (Old.start s)  tables_1 p e ha hc hk s m _ below hf ((Spec.applies_iff_loose hf).mp happ).1 ⟨rfl, State.Warmed39.refl s, rfl⟩ trivial
  refine ⟨n, _, h1, h2, h3, hpost _ _ _ _ _ _ ⟨Cond.after_iff.mpr rfl, Cond.after_iff.mpr (eq_i res_at (Term.int_eval (1)) rfl), trivial⟩ ⟨hq.1, hq.2.1, (hq.2.2.sift fun y hy => Or.inr (N y hy)).mono (by decide) (by decide)⟩⟩
theorem main_1_1 : Claimed_1_1 := comes_1 fun _ _ _ _ _ _ h hF => ⟨h.1, hF⟩
theorem main_1_2 : Claimed_1_2 := comes_1 fun _ _ _ _ _ _ h hF => ⟨h.2.1, hF⟩
end Jvm.Pilot.@@N@@
namespace Jvm.Pilot.@@N@@
open Jvm Jvm.ClassFile Sem Op Lib Jvm.Free Jvm.Stand Jvm.Pilot.@@N@@.Jvm.D
/-! MADE BY PROGRAM (witnessworld.py) out of the Statement's table words and the real class files: 42 classes; the members and pool entries that the words name. The judged class is class 1, her method 1. -/
namespace start1
open Jvm.ClassFile
def u (s : String) : CpInfo := .utf8 (stringToUtf16 s)
/-- a pool by its gaps: so many unusable entries, then the entry; so many at the end -/
def gap : Nat → List CpInfo → List CpInfo
  | 0, r => r
  | n + 1, r => .unusable :: gap n r
def poolList (es : List (Nat × CpInfo)) (last : Nat) : List CpInfo := es.foldr (fun e r => gap e.1 (e.2 :: r)) (gap last [])
def pool (es : List (Nat × CpInfo)) (last : Nat) : Array CpInfo := ⟨poolList es last⟩
def fileOf (pool : Array CpInfo) (this : Nat) (attrs : Array Attribute := #[]) (ms : Array MethodInfo := #[]) (fl : Nat := 33) (sup : Nat := 0) (ifs : Array Nat := #[]) (fds : Array FieldInfo := #[]) : ClassFile where
  minorVersion := 0
  majorVersion := 65
  constantPool := pool
  accessFlags := fl
  thisClass := this
  superClass := sup
  interfaces := ifs
  fields := fds
  methods := ms
  attributes := attrs
def plain (name : String) (sup : Option ClassId) : Class where
  name := name
  kind := .ordinary
  loader := none
  accessFlags := 33
  super := sup
  interfaces := #[]
  cf := none
  fields := #[]
  methods := #[]
  instanceTypes := #[]
  staticTypes := #[]
  resolved := #[]
  callSites := []
  init := .initialized
  statics := none
  mirror := none

def pool0 : Array CpInfo := pool [(5, u "<init>"), (0, u "()V"), (1, .class_ 10), (1, u "java/lang/Object"), (0, u "getClass"), (0, u "()Ljava/lang/Class;")] 111

def k0c0 : Code := { maxStack := 0, maxLocals := 1, code := object_method_1_code, exceptionTable := #[], attributes := #[] }
def k0m0 : Method := { name := "<init>", desc := "()V", sig := { parameters := [], returnType := none }, accessFlags := 1, code := some k0c0 }
def k0m1 : Method := { name := "getClass", desc := "()Ljava/lang/Class;", sig := { parameters := [], returnType := some (.object "java/lang/Class") }, accessFlags := 273, code := none }
/-- java/lang/Object -/
def k0 : Class := { plain "java/lang/Object" none with
  accessFlags := 33
  interfaces := #[]
  cf := some (fileOf pool0 8 #[] #[{ accessFlags := 1, nameIndex := 5, descriptorIndex := 6, attributes := #[] }, { accessFlags := 273, nameIndex := 11, descriptorIndex := 12, attributes := #[] }] 33 0 #[] #[])
  fields := #[]
  methods := #[k0m0, k0m1]
  instanceTypes := #[]
  staticTypes := #[]
  resolved := Array.replicate 124 none
  statics := none }

def pool1 : Array CpInfo := pool [(2, .class_ 4), (0, .nameAndType 5 6), (0, u "java/lang/Object"), (0, u "<init>"), (0, u "()V"), (0, .class_ 8), (0, u "java/lang/String"), (0, .methodref 7 10), (0, .nameAndType 5 11), (0, u "([C)V"), (0, .methodref 7 13), (0, .nameAndType 14 15), (0, u "valueOf"), (0, u "(C)Ljava/lang/String;"), (0, .class_ 17), (0, u "java/util/ArrayList"), (0, .methodref 16 3), (0, .methodref 16 20), (0, .nameAndType 21 22), (0, u "add"), (0, u "(Ljava/lang/Object;)Z"), (0, .class_ 24), (0, u "com/example/restoral/restoral/engine/RowName"), (0, .methodref 23 26), (0, .nameAndType 5 27), (0, u "(Ljava/lang/String;Ljava/util/List;)V"), (0, .class_ 29), (0, u "com/example/restoral/restoral/engine/Steps"), (0, .methodref 28 31), (0, .nameAndType 5 32), (0, u "(Lcom/example/restoral/restoral/engine/RowName;Ljava/util/Map;)V"), (0, .methodref 28 34), (0, .nameAndType 35 36), (0, u "on"), (0, u "()Z"), (0, .fieldref 28 38), (0, .nameAndType 39 40), (0, u "NONE"), (0, u "Lcom/example/restoral/restoral/engine/Steps;"), (0, .methodref 28 42), (0, .nameAndType 43 44), (0, u "fact"), (0, u "(Ljava/lang/String;Ljava/lang/Object;Ljava/lang/String;Ljava/lang/String;)Lcom/example/restoral/restoral/engine/Step;"), (0, .methodref 28 46), (0, .nameAndType 47 48), (0, u "last"), (0, u "()Lcom/example/restoral/restoral/engine/Step;"), (0, .methodref 50 51), (0, .class_ 52), (0, .nameAndType 53 54), (0, u "com/example/restoral/restoral/engine/Step"), (0, u "owner"), (0, u "()Lcom/example/restoral/restoral/engine/RowName;"), (0, .class_ 56), (0, u "com/example/restoral/restoral/engine/StepsOnPinLaw"), (2, u "law"), (0, u "(III)Z")] 5

def k1m0 : Method := { name := "<init>", desc := "()V", sig := { parameters := [], returnType := none }, accessFlags := 1, code := none }
def k1c1 : Code := { maxStack := 5, maxLocals := 11, code := code, exceptionTable := #[], attributes := #[] }
def k1m1 : Method := { name := "law", desc := "(III)Z", sig := { parameters := [.int, .int, .int], returnType := some .boolean }, accessFlags := 9, code := some k1c1 }
/-- com/example/restoral/restoral/engine/StepsOnPinLaw -/
def k1 : Class := { plain "com/example/restoral/restoral/engine/StepsOnPinLaw" (some 0) with
  accessFlags := 49
  interfaces := #[]
  cf := some (fileOf pool1 55 #[] #[{ accessFlags := 1, nameIndex := 5, descriptorIndex := 6, attributes := #[] }, { accessFlags := 9, nameIndex := 59, descriptorIndex := 60, attributes := #[] }] 49 2 #[] #[])
  fields := #[]
  methods := #[k1m0, k1m1]
  instanceTypes := #[]
  staticTypes := #[]
  resolved := Array.replicate 66 none
  statics := none }

def pool2 : Array CpInfo := pool [(1, .class_ 2), (0, u "java/io/Serializable"), (0, .class_ 4), (0, u "java/lang/Object")] 2

/-- java/io/Serializable -/
def k2 : Class := { plain "java/io/Serializable" (some 0) with
  accessFlags := 1537
  interfaces := #[]
  cf := some (fileOf pool2 1 #[] #[] 1537 3 #[] #[])
  fields := #[]
  methods := #[]
  instanceTypes := #[]
  staticTypes := #[]
  resolved := Array.replicate 7 none
  statics := none }

def pool3 : Array CpInfo := pool [(1, .class_ 2), (0, u "java/lang/Comparable"), (0, .class_ 4), (0, u "java/lang/Object")] 7

/-- java/lang/Comparable -/
def k3 : Class := { plain "java/lang/Comparable" (some 0) with
  accessFlags := 1537
  interfaces := #[]
  cf := some (fileOf pool3 1 #[] #[] 1537 3 #[] #[])
  fields := #[]
  methods := #[]
  instanceTypes := #[]
  staticTypes := #[]
  resolved := Array.replicate 12 none
  statics := none }

def pool4 : Array CpInfo := pool [(2, .class_ 4), (1, u "java/lang/CharSequence"), (42, .class_ 48), (0, u "java/lang/CharSequence$1CodePointIterator"), (10, .class_ 60), (0, u "java/lang/CharSequence$1CharIterator"), (5, .class_ 67), (0, u "java/lang/Object")] 63

/-- java/lang/CharSequence -/
def k4 : Class := { plain "java/lang/CharSequence" (some 0) with
  accessFlags := 1537
  interfaces := #[]
  cf := some (fileOf pool4 2 #[.nestMembers #[47, 59]] #[] 1537 66 #[] #[])
  fields := #[]
  methods := #[]
  instanceTypes := #[]
  staticTypes := #[]
  resolved := Array.replicate 131 none
  statics := none }

def pool5 : Array CpInfo := pool [(1, .class_ 2), (0, u "java/lang/constant/Constable"), (0, .class_ 4), (0, u "java/lang/Object")] 6

/-- java/lang/constant/Constable -/
def k5 : Class := { plain "java/lang/constant/Constable" (some 0) with
  accessFlags := 1537
  interfaces := #[]
  cf := some (fileOf pool5 1 #[] #[] 1537 3 #[] #[])
  fields := #[]
  methods := #[]
  instanceTypes := #[]
  staticTypes := #[]
  resolved := Array.replicate 11 none
  statics := none }

def pool6 : Array CpInfo := pool [(1, .class_ 2), (0, u "java/lang/constant/ConstantDesc"), (0, .class_ 4), (0, u "java/lang/Object")] 32

/-- java/lang/constant/ConstantDesc -/
def k6 : Class := { plain "java/lang/constant/ConstantDesc" (some 0) with
  accessFlags := 1537
  interfaces := #[]
  cf := some (fileOf pool6 1 #[] #[] 1537 3 #[] #[])
  fields := #[]
  methods := #[]
  instanceTypes := #[]
  staticTypes := #[]
  resolved := Array.replicate 37 none
  statics := none }

def pool7 : Array CpInfo := pool [(1, .methodref 2 3), (0, .class_ 4), (0, .nameAndType 5 6), (0, u "java/lang/Object"), (0, u "<init>"), (0, u "()V"), (2, .fieldref 10 11), (0, .class_ 12), (0, .nameAndType 13 14), (0, u "java/lang/String"), (0, u "value"), (0, u "[B"), (0, .fieldref 10 16), (0, .nameAndType 17 18), (0, u "coder"), (0, u "B"), (2, u "hash"), (0, u "I"), (2, u "hashIsZero"), (0, u "Z"), (0, .methodref 10 28), (0, .nameAndType 5 29), (0, u "([CIILjava/lang/Void;)V"), (8, .fieldref 10 39), (0, .nameAndType 40 26), (0, u "COMPACT_STRINGS"), (1, .class_ 44), (1, u "java/lang/StringUTF16"), (0, u "compress"), (1, .methodref 42 48), (0, .nameAndType 49 50), (0, u "coderFromArrayLen"), (0, u "([BI)B"), (2, u "toBytes"), (53, .class_ 109), (1, u "java/lang/StringLatin1"), (67, .methodref 42 178), (0, .nameAndType 45 179), (0, u "([CII)[B"), (29, .methodref 10 210), (0, .nameAndType 5 211), (0, u "([BB)V"), (157, u "(C)Z"), (205, .class_ 576), (0, u "java/lang/CharSequence"), (22, u "CASE_INSENSITIVE_ORDER"), (0, u "Ljava/util/Comparator;"), (181, u "valueOf"), (0, u "(C)Ljava/lang/String;"), (226, u "([C)V"), (4, .methodref 107 1016), (0, .nameAndType 1017 369), (0, u "canEncode"), (0, .methodref 107 1019), (0, .nameAndType 53 1020), (0, u "(C)[B"), (80, u "serialPersistentFields"), (0, u "[Ljava/io/ObjectStreamField;"), (0, .class_ 1104), (0, u "java/lang/String$CaseInsensitiveComparator"), (1, .class_ 1107), (0, u "java/io/Serializable"), (0, .class_ 1109), (0, u "java/lang/Comparable"), (0, .class_ 1111), (0, u "java/lang/constant/Constable"), (0, .class_ 1113), (0, u "java/lang/constant/ConstantDesc"), (2, u "serialVersionUID"), (0, u "J"), (3, u "REPL"), (0, u "C"), (2, u "LATIN1"), (1, u "UTF16")] 323

def k7m0 : Method := { name := "<init>", desc := "()V", sig := { parameters := [], returnType := none }, accessFlags := 1, code := none }
def k7c1 : Code := { maxStack := 5, maxLocals := 2, code := jdk_42_method_3_code, exceptionTable := #[], attributes := #[] }
def k7m1 : Method := { name := "<init>", desc := "([C)V", sig := { parameters := [(.array .char)], returnType := none }, accessFlags := 1, code := some k7c1 }
def k7c2 : Code := { maxStack := 4, maxLocals := 1, code := jdk_42_method_139_code, exceptionTable := #[], attributes := #[] }
def k7m2 : Method := { name := "valueOf", desc := "(C)Ljava/lang/String;", sig := { parameters := [.char], returnType := some (.object "java/lang/String") }, accessFlags := 9, code := some k7c2 }
def k7c3 : Code := { maxStack := 4, maxLocals := 6, code := jdk_42_method_149_code, exceptionTable := #[], attributes := #[] }
def k7m3 : Method := { name := "<init>", desc := "([CIILjava/lang/Void;)V", sig := { parameters := [(.array .char), .int, .int, (.object "java/lang/Void")], returnType := none }, accessFlags := 2, code := some k7c3 }
def k7c4 : Code := { maxStack := 2, maxLocals := 3, code := jdk_42_method_151_code, exceptionTable := #[], attributes := #[] }
def k7m4 : Method := { name := "<init>", desc := "([BB)V", sig := { parameters := [(.array .byte), .byte], returnType := none }, accessFlags := 0, code := some k7c4 }
/-- java/lang/String -/
def k7 : Class := { plain "java/lang/String" (some 0) with
  accessFlags := 49
  interfaces := #[2, 3, 4, 5, 6]
  cf := some (fileOf pool7 10 #[.nestMembers #[1103]] #[{ accessFlags := 1, nameIndex := 5, descriptorIndex := 6, attributes := #[] }, { accessFlags := 1, nameIndex := 5, descriptorIndex := 1010, attributes := #[] }, { accessFlags := 9, nameIndex := 782, descriptorIndex := 783, attributes := #[] }, { accessFlags := 2, nameIndex := 5, descriptorIndex := 29, attributes := #[] }, { accessFlags := 0, nameIndex := 5, descriptorIndex := 211, attributes := #[] }] 49 2 #[1106, 1108, 575, 1110, 1112] #[{ accessFlags := 18, nameIndex := 13, descriptorIndex := 14, attributes := #[] }, { accessFlags := 18, nameIndex := 17, descriptorIndex := 18, attributes := #[] }, { accessFlags := 2, nameIndex := 21, descriptorIndex := 22, attributes := #[] }, { accessFlags := 2, nameIndex := 25, descriptorIndex := 26, attributes := #[] }, { accessFlags := 26, nameIndex := 1116, descriptorIndex := 1117, attributes := #[] }, { accessFlags := 24, nameIndex := 40, descriptorIndex := 26, attributes := #[] }, { accessFlags := 26, nameIndex := 1101, descriptorIndex := 1102, attributes := #[] }, { accessFlags := 26, nameIndex := 1121, descriptorIndex := 1122, attributes := #[] }, { accessFlags := 25, nameIndex := 599, descriptorIndex := 600, attributes := #[] }, { accessFlags := 24, nameIndex := 1125, descriptorIndex := 18, attributes := #[] }, { accessFlags := 24, nameIndex := 1127, descriptorIndex := 18, attributes := #[] }])
  fields := #[{ name := "value", type := (.array .byte), accessFlags := 18, slot := 0, constantValue := 0 }, { name := "coder", type := .byte, accessFlags := 18, slot := 1, constantValue := 0 }, { name := "hash", type := .int, accessFlags := 2, slot := 2, constantValue := 0 }, { name := "hashIsZero", type := .boolean, accessFlags := 2, slot := 3, constantValue := 0 }, { name := "serialVersionUID", type := .long, accessFlags := 26, slot := 0, constantValue := 0 }, { name := "COMPACT_STRINGS", type := .boolean, accessFlags := 24, slot := 1, constantValue := 0 }, { name := "serialPersistentFields", type := (.array (.object "java/io/ObjectStreamField")), accessFlags := 26, slot := 2, constantValue := 0 }, { name := "REPL", type := .char, accessFlags := 26, slot := 3, constantValue := 0 }, { name := "CASE_INSENSITIVE_ORDER", type := (.object "java/util/Comparator"), accessFlags := 25, slot := 4, constantValue := 0 }, { name := "LATIN1", type := .byte, accessFlags := 24, slot := 5, constantValue := 0 }, { name := "UTF16", type := .byte, accessFlags := 24, slot := 6, constantValue := 0 }]
  methods := #[k7m0, k7m1, k7m2, k7m3, k7m4]
  instanceTypes := #[(.array .byte), .byte, .int, .boolean]
  staticTypes := #[.long, .boolean, (.array (.object "java/io/ObjectStreamField")), .char, (.object "java/util/Comparator"), .byte, .byte]
  resolved := Array.replicate 1451 none
  statics := some 0 }

def pool8 : Array CpInfo := pool [(6, .class_ 8), (1, u "java/lang/Object"), (0, u "<init>"), (0, u "()V"), (1, .class_ 14), (1, u "java/lang/StringUTF16"), (31, u "$assertionsDisabled"), (0, u "Z"), (13, u "HI_BYTE_SHIFT"), (0, u "I"), (2, u "LO_BYTE_SHIFT"), (49, .methodref 12 116), (0, .nameAndType 117 118), (0, u "compress"), (0, u "([CI[BII)I"), (3, u "([CII)[B"), (138, u "coderFromArrayLen"), (0, u "([BI)B"), (106, .class_ 371), (1, u "java/lang/StringUTF16$LinesSpliterator"), (58, u "MAX_LENGTH"), (196, .class_ 628), (0, u "java/lang/StringUTF16$CodePointsSpliterator"), (0, .class_ 630), (0, u "java/lang/StringUTF16$CharsSpliterator")] 4

def k8m0 : Method := { name := "<init>", desc := "()V", sig := { parameters := [], returnType := none }, accessFlags := 0, code := none }
def k8c1 : Code := { maxStack := 2, maxLocals := 2, code := jdk_52_method_15_code, exceptionTable := #[], attributes := #[] }
def k8m1 : Method := { name := "coderFromArrayLen", desc := "([BI)B", sig := { parameters := [(.array .byte), .int], returnType := some .byte }, accessFlags := 8, code := some k8c1 }
def k8c2 : Code := { maxStack := 5, maxLocals := 6, code := jdk_52_method_16_code, exceptionTable := #[], attributes := #[] }
def k8m2 : Method := { name := "compress", desc := "([CII)[B", sig := { parameters := [(.array .char), .int, .int], returnType := some (.array .byte) }, accessFlags := 9, code := some k8c2 }
def k8c3 : Code := { maxStack := 3, maxLocals := 7, code := jdk_52_method_21_code, exceptionTable := #[], attributes := #[] }
def k8m3 : Method := { name := "compress", desc := "([CI[BII)I", sig := { parameters := [(.array .char), .int, (.array .byte), .int, .int], returnType := some .int }, accessFlags := 9, code := some k8c3 }
/-- java/lang/StringUTF16 -/
def k8 : Class := { plain "java/lang/StringUTF16" (some 0) with
  accessFlags := 48
  interfaces := #[]
  cf := some (fileOf pool8 12 #[.nestMembers #[627, 629, 369]] #[{ accessFlags := 0, nameIndex := 9, descriptorIndex := 10, attributes := #[] }, { accessFlags := 8, nameIndex := 261, descriptorIndex := 262, attributes := #[] }, { accessFlags := 9, nameIndex := 117, descriptorIndex := 122, attributes := #[] }, { accessFlags := 9, nameIndex := 117, descriptorIndex := 118, attributes := #[] }] 48 6 #[] #[{ accessFlags := 26, nameIndex := 61, descriptorIndex := 62, attributes := #[] }, { accessFlags := 26, nameIndex := 65, descriptorIndex := 62, attributes := #[] }, { accessFlags := 24, nameIndex := 430, descriptorIndex := 62, attributes := #[] }, { accessFlags := 4120, nameIndex := 46, descriptorIndex := 47, attributes := #[] }])
  fields := #[{ name := "HI_BYTE_SHIFT", type := .int, accessFlags := 26, slot := 0, constantValue := 0 }, { name := "LO_BYTE_SHIFT", type := .int, accessFlags := 26, slot := 1, constantValue := 0 }, { name := "MAX_LENGTH", type := .int, accessFlags := 24, slot := 2, constantValue := 0 }, { name := "$assertionsDisabled", type := .boolean, accessFlags := 4120, slot := 3, constantValue := 0 }]
  methods := #[k8m0, k8m1, k8m2, k8m3]
  instanceTypes := #[]
  staticTypes := #[.int, .int, .int, .boolean]
  resolved := Array.replicate 635 none
  statics := none }

def pool9 : Array CpInfo := pool [(4, .class_ 6), (1, u "java/lang/Object"), (0, u "<init>"), (0, u "()V"), (5, .class_ 16), (1, u "java/lang/StringLatin1"), (73, u "canEncode"), (14, u "(C)Z"), (15, u "$assertionsDisabled"), (0, u "Z"), (98, .class_ 223), (1, u "java/lang/StringLatin1$LinesSpliterator"), (156, u "toBytes"), (1, u "(C)[B"), (7, .class_ 391), (0, u "java/lang/StringLatin1$CharsSpliterator")] 3

def k9m0 : Method := { name := "<init>", desc := "()V", sig := { parameters := [], returnType := none }, accessFlags := 0, code := none }
def k9c1 : Code := { maxStack := 2, maxLocals := 1, code := jdk_43_method_3_code, exceptionTable := #[], attributes := #[] }
def k9m1 : Method := { name := "canEncode", desc := "(C)Z", sig := { parameters := [.char], returnType := some .boolean }, accessFlags := 9, code := some k9c1 }
def k9c2 : Code := { maxStack := 4, maxLocals := 1, code := jdk_43_method_46_code, exceptionTable := #[], attributes := #[] }
def k9m2 : Method := { name := "toBytes", desc := "(C)[B", sig := { parameters := [.char], returnType := some (.array .byte) }, accessFlags := 9, code := some k9c2 }
/-- java/lang/StringLatin1 -/
def k9 : Class := { plain "java/lang/StringLatin1" (some 0) with
  accessFlags := 48
  interfaces := #[]
  cf := some (fileOf pool9 14 #[.nestMembers #[390, 221]] #[{ accessFlags := 0, nameIndex := 7, descriptorIndex := 8, attributes := #[] }, { accessFlags := 9, nameIndex := 90, descriptorIndex := 105, attributes := #[] }, { accessFlags := 9, nameIndex := 380, descriptorIndex := 382, attributes := #[] }] 48 4 #[] #[{ accessFlags := 4120, nameIndex := 121, descriptorIndex := 122, attributes := #[] }])
  fields := #[{ name := "$assertionsDisabled", type := .boolean, accessFlags := 4120, slot := 0, constantValue := 0 }]
  methods := #[k9m0, k9m1, k9m2]
  instanceTypes := #[]
  staticTypes := #[.boolean]
  resolved := Array.replicate 395 none
  statics := none }

def pool10 : Array CpInfo := pool [(1, .methodref 2 3), (0, .class_ 4), (0, .nameAndType 5 6), (0, u "java/lang/Object"), (0, u "<init>"), (0, u "()V"), (0, .fieldref 8 9), (0, .class_ 10), (0, .nameAndType 11 12), (0, u "com/example/restoral/restoral/engine/Steps"), (0, u "owner"), (0, u "Lcom/example/restoral/restoral/engine/RowName;"), (0, .fieldref 8 14), (0, .nameAndType 15 16), (0, u "figures"), (0, u "Ljava/util/Map;"), (6, u "fact"), (0, u "(Ljava/lang/String;Ljava/lang/Object;Ljava/lang/String;Ljava/lang/String;)Lcom/example/restoral/restoral/engine/Step;"), (0, .methodref 8 26), (0, .nameAndType 27 28), (0, u "on"), (0, u "()Z"), (30, .class_ 60), (0, u "com/example/restoral/restoral/engine/Step"), (0, .interfaceMethodref 62 63), (0, .class_ 64), (0, .nameAndType 65 66), (0, u "java/util/List"), (0, u "of"), (0, u "()Ljava/util/List;"), (0, .methodref 59 68), (0, .nameAndType 5 69), (0, u "(Lcom/example/restoral/restoral/engine/RowName;Ljava/lang/String;Ljava/lang/Object;Ljava/lang/String;Ljava/lang/String;Ljava/lang/String;Ljava/util/List;Lcom/example/restoral/restoral/engine/RowName;Ljava/lang/String;)V"), (0, .methodref 8 71), (0, .nameAndType 72 73), (0, u "taken"), (0, u "(Lcom/example/restoral/restoral/engine/Step;)Lcom/example/restoral/restoral/engine/Step;"), (17, .fieldref 8 92), (0, .nameAndType 93 94), (0, u "last"), (0, u "Lcom/example/restoral/restoral/engine/Step;"), (12, u "(Lcom/example/restoral/restoral/engine/RowName;Ljava/util/Map;)V"), (2, u "NONE"), (0, u "Lcom/example/restoral/restoral/engine/Steps;"), (0, u "ROUNDING"), (0, u "Ljava/lang/String;"), (25, u "()Lcom/example/restoral/restoral/engine/Step;")] 23

def k10c0 : Code := { maxStack := 2, maxLocals := 3, code := prog_26_method_1_code, exceptionTable := #[], attributes := #[] }
def k10m0 : Method := { name := "<init>", desc := "(Lcom/example/restoral/restoral/engine/RowName;Ljava/util/Map;)V", sig := { parameters := [(.object "com/example/restoral/restoral/engine/RowName"), (.object "java/util/Map")], returnType := none }, accessFlags := 0, code := some k10c0 }
def k10c1 : Code := { maxStack := 1, maxLocals := 1, code := prog_26_method_2_code, exceptionTable := #[], attributes := #[] }
def k10m1 : Method := { name := "on", desc := "()Z", sig := { parameters := [], returnType := some .boolean }, accessFlags := 0, code := some k10c1 }
def k10c2 : Code := { maxStack := 12, maxLocals := 5, code := prog_26_method_8_code, exceptionTable := #[], attributes := #[] }
def k10m2 : Method := { name := "fact", desc := "(Ljava/lang/String;Ljava/lang/Object;Ljava/lang/String;Ljava/lang/String;)Lcom/example/restoral/restoral/engine/Step;", sig := { parameters := [(.object "java/lang/String"), (.object "java/lang/Object"), (.object "java/lang/String"), (.object "java/lang/String")], returnType := some (.object "com/example/restoral/restoral/engine/Step") }, accessFlags := 0, code := some k10c2 }
def k10c3 : Code := { maxStack := 1, maxLocals := 1, code := prog_26_method_12_code, exceptionTable := #[], attributes := #[] }
def k10m3 : Method := { name := "last", desc := "()Lcom/example/restoral/restoral/engine/Step;", sig := { parameters := [], returnType := some (.object "com/example/restoral/restoral/engine/Step") }, accessFlags := 0, code := some k10c3 }
def k10c4 : Code := { maxStack := 2, maxLocals := 2, code := prog_26_method_13_code, exceptionTable := #[], attributes := #[] }
def k10m4 : Method := { name := "taken", desc := "(Lcom/example/restoral/restoral/engine/Step;)Lcom/example/restoral/restoral/engine/Step;", sig := { parameters := [(.object "com/example/restoral/restoral/engine/Step")], returnType := some (.object "com/example/restoral/restoral/engine/Step") }, accessFlags := 2, code := some k10c4 }
/-- com/example/restoral/restoral/engine/Steps -/
def k10 : Class := { plain "com/example/restoral/restoral/engine/Steps" (some 0) with
  accessFlags := 48
  interfaces := #[]
  cf := some (fileOf pool10 8 #[] #[{ accessFlags := 0, nameIndex := 5, descriptorIndex := 107, attributes := #[] }, { accessFlags := 0, nameIndex := 27, descriptorIndex := 28, attributes := #[] }, { accessFlags := 0, nameIndex := 23, descriptorIndex := 24, attributes := #[] }, { accessFlags := 0, nameIndex := 93, descriptorIndex := 139, attributes := #[] }, { accessFlags := 2, nameIndex := 72, descriptorIndex := 73, attributes := #[] }] 48 2 #[] #[{ accessFlags := 24, nameIndex := 110, descriptorIndex := 111, attributes := #[] }, { accessFlags := 26, nameIndex := 112, descriptorIndex := 113, attributes := #[] }, { accessFlags := 18, nameIndex := 11, descriptorIndex := 12, attributes := #[] }, { accessFlags := 18, nameIndex := 15, descriptorIndex := 16, attributes := #[] }, { accessFlags := 2, nameIndex := 93, descriptorIndex := 94, attributes := #[] }])
  fields := #[{ name := "NONE", type := (.object "com/example/restoral/restoral/engine/Steps"), accessFlags := 24, slot := 0, constantValue := 0 }, { name := "ROUNDING", type := (.object "java/lang/String"), accessFlags := 26, slot := 1, constantValue := 0 }, { name := "owner", type := (.object "com/example/restoral/restoral/engine/RowName"), accessFlags := 18, slot := 0, constantValue := 0 }, { name := "figures", type := (.object "java/util/Map"), accessFlags := 18, slot := 1, constantValue := 0 }, { name := "last", type := (.object "com/example/restoral/restoral/engine/Step"), accessFlags := 2, slot := 2, constantValue := 0 }]
  methods := #[k10m0, k10m1, k10m2, k10m3, k10m4]
  instanceTypes := #[(.object "com/example/restoral/restoral/engine/RowName"), (.object "java/util/Map"), (.object "com/example/restoral/restoral/engine/Step")]
  staticTypes := #[(.object "com/example/restoral/restoral/engine/Steps"), (.object "java/lang/String")]
  resolved := Array.replicate 163 none
  statics := some 1 }

def pool11 : Array CpInfo := pool [(8, .class_ 10), (1, u "java/lang/Iterable"), (24, .class_ 36), (0, u "java/lang/Object")] 25

/-- java/lang/Iterable -/
def k11 : Class := { plain "java/lang/Iterable" (some 0) with
  accessFlags := 1537
  interfaces := #[]
  cf := some (fileOf pool11 8 #[] #[] 1537 35 #[] #[])
  fields := #[]
  methods := #[]
  instanceTypes := #[]
  staticTypes := #[]
  resolved := Array.replicate 62 none
  statics := none }

def pool12 : Array CpInfo := pool [(10, .class_ 12), (1, u "java/util/Collection"), (0, u "toArray"), (16, u "()Z"), (29, .class_ 61), (0, u "java/lang/Object"), (0, .class_ 63), (0, u "java/lang/Iterable"), (2, u "isEmpty"), (3, u "()[Ljava/lang/Object;")] 44

def k12m0 : Method := { name := "isEmpty", desc := "()Z", sig := { parameters := [], returnType := some .boolean }, accessFlags := 1025, code := none }
def k12m1 : Method := { name := "toArray", desc := "()[Ljava/lang/Object;", sig := { parameters := [], returnType := some (.array (.object "java/lang/Object")) }, accessFlags := 1025, code := none }
/-- java/util/Collection -/
def k12 : Class := { plain "java/util/Collection" (some 0) with
  accessFlags := 1537
  interfaces := #[11]
  cf := some (fileOf pool12 10 #[] #[{ accessFlags := 1025, nameIndex := 66, descriptorIndex := 30, attributes := #[] }, { accessFlags := 1025, nameIndex := 13, descriptorIndex := 70, attributes := #[] }] 1537 60 #[62] #[])
  fields := #[]
  methods := #[k12m0, k12m1]
  instanceTypes := #[]
  staticTypes := #[]
  resolved := Array.replicate 115 none
  statics := none }

def pool13 : Array CpInfo := pool [(1, .methodref 2 3), (0, .class_ 4), (0, .nameAndType 5 6), (0, u "java/lang/Object"), (0, u "<init>"), (0, u "()V"), (1, .class_ 10), (1, u "java/util/AbstractCollection"), (66, .class_ 78), (0, u "java/util/Collection")] 81

def k13c0 : Code := { maxStack := 1, maxLocals := 1, code := jdk_22_method_1_code, exceptionTable := #[], attributes := #[] }
def k13m0 : Method := { name := "<init>", desc := "()V", sig := { parameters := [], returnType := none }, accessFlags := 4, code := some k13c0 }
/-- java/util/AbstractCollection -/
def k13 : Class := { plain "java/util/AbstractCollection" (some 0) with
  accessFlags := 1057
  interfaces := #[12]
  cf := some (fileOf pool13 8 #[] #[{ accessFlags := 4, nameIndex := 5, descriptorIndex := 6, attributes := #[] }] 1057 2 #[77] #[])
  fields := #[]
  methods := #[k13m0]
  instanceTypes := #[]
  staticTypes := #[]
  resolved := Array.replicate 160 none
  statics := none }

def pool14 : Array CpInfo := pool [(8, .class_ 10), (1, u "java/util/SequencedCollection"), (15, .class_ 27), (0, u "java/lang/Object"), (0, .class_ 29), (0, u "java/util/Collection")] 27

/-- java/util/SequencedCollection -/
def k14 : Class := { plain "java/util/SequencedCollection" (some 0) with
  accessFlags := 1537
  interfaces := #[12]
  cf := some (fileOf pool14 8 #[] #[] 1537 26 #[28] #[])
  fields := #[]
  methods := #[]
  instanceTypes := #[]
  staticTypes := #[]
  resolved := Array.replicate 57 none
  statics := none }

def pool15 : Array CpInfo := pool [(8, .class_ 10), (1, u "java/util/List"), (20, u "(Ljava/lang/Object;)V"), (16, u "<init>"), (39, u "of"), (1, .fieldref 91 92), (0, .class_ 93), (0, .nameAndType 94 95), (0, u "java/util/ImmutableCollections"), (0, u "EMPTY_LIST"), (0, u "Ljava/util/ImmutableCollections$ListN;"), (0, .class_ 97), (0, u "java/util/ImmutableCollections$List12"), (0, .methodref 96 99), (0, .nameAndType 48 31), (3, .class_ 104), (0, u "java/lang/Object"), (3, u "([Ljava/lang/Object;)Ljava/util/List;"), (3, .methodref 91 113), (0, .nameAndType 114 115), (0, u "listCopy"), (0, u "(Ljava/util/Collection;)Ljava/util/List;"), (3, u "()Ljava/util/List;"), (0, .class_ 121), (0, u "java/util/SequencedCollection"), (112, u "copyOf")] 16

def k15c0 : Code := { maxStack := 1, maxLocals := 0, code := jdk_40_method_36_code, exceptionTable := #[], attributes := #[] }
def k15m0 : Method := { name := "of", desc := "()Ljava/util/List;", sig := { parameters := [], returnType := some (.object "java/util/List") }, accessFlags := 9, code := some k15c0 }
def k15c1 : Code := { maxStack := 5, maxLocals := 2, code := jdk_40_method_47_code, exceptionTable := #[], attributes := #[] }
def k15m1 : Method := { name := "of", desc := "([Ljava/lang/Object;)Ljava/util/List;", sig := { parameters := [(.array (.object "java/lang/Object"))], returnType := some (.object "java/util/List") }, accessFlags := 137, code := some k15c1 }
def k15c2 : Code := { maxStack := 1, maxLocals := 1, code := jdk_40_method_48_code, exceptionTable := #[], attributes := #[] }
def k15m2 : Method := { name := "copyOf", desc := "(Ljava/util/Collection;)Ljava/util/List;", sig := { parameters := [(.object "java/util/Collection")], returnType := some (.object "java/util/List") }, accessFlags := 9, code := some k15c2 }
/-- java/util/List -/
def k15 : Class := { plain "java/util/List" (some 0) with
  accessFlags := 1537
  interfaces := #[14]
  cf := some (fileOf pool15 8 #[] #[{ accessFlags := 9, nameIndex := 88, descriptorIndex := 119, attributes := #[] }, { accessFlags := 137, nameIndex := 88, descriptorIndex := 108, attributes := #[] }, { accessFlags := 9, nameIndex := 234, descriptorIndex := 115, attributes := #[] }] 1537 103 #[120] #[])
  fields := #[]
  methods := #[k15m0, k15m1, k15m2]
  instanceTypes := #[]
  staticTypes := #[]
  resolved := Array.replicate 251 none
  statics := none }

def pool16 : Array CpInfo := pool [(1, .methodref 2 3), (0, .class_ 4), (0, .nameAndType 5 6), (0, u "java/util/AbstractCollection"), (0, u "<init>"), (0, u "()V"), (0, .fieldref 8 9), (0, .class_ 10), (0, .nameAndType 11 12), (0, u "java/util/AbstractList"), (0, u "modCount"), (0, u "I"), (64, .class_ 78), (0, u "java/util/AbstractList$Itr"), (3, .class_ 83), (0, u "java/util/AbstractList$ListItr"), (9, .class_ 94), (0, u "java/util/AbstractList$RandomAccessSubList"), (3, .class_ 99), (0, u "java/util/AbstractList$SubList"), (33, .class_ 134), (0, u "java/util/List"), (73, .class_ 209), (0, u "java/util/AbstractList$SubList$1"), (0, .class_ 211), (0, u "java/util/AbstractList$RandomAccessSpliterator")] 6

def k16c0 : Code := { maxStack := 2, maxLocals := 1, code := jdk_39_method_1_code, exceptionTable := #[], attributes := #[] }
def k16m0 : Method := { name := "<init>", desc := "()V", sig := { parameters := [], returnType := none }, accessFlags := 4, code := some k16c0 }
/-- java/util/AbstractList -/
def k16 : Class := { plain "java/util/AbstractList" (some 13) with
  accessFlags := 1057
  interfaces := #[15]
  cf := some (fileOf pool16 8 #[.nestMembers #[93, 98, 208, 210, 82, 77]] #[{ accessFlags := 4, nameIndex := 5, descriptorIndex := 6, attributes := #[] }] 1057 2 #[133] #[{ accessFlags := 132, nameIndex := 11, descriptorIndex := 12, attributes := #[] }])
  fields := #[{ name := "modCount", type := .int, accessFlags := 132, slot := 0, constantValue := 0 }]
  methods := #[k16m0]
  instanceTypes := #[.int]
  staticTypes := #[]
  resolved := Array.replicate 218 none
  statics := none }

def pool17 : Array CpInfo := pool [(1, .class_ 2), (0, u "java/util/RandomAccess"), (0, .class_ 4), (0, u "java/lang/Object")] 2

/-- java/util/RandomAccess -/
def k17 : Class := { plain "java/util/RandomAccess" (some 0) with
  accessFlags := 1537
  interfaces := #[]
  cf := some (fileOf pool17 1 #[] #[] 1537 3 #[] #[])
  fields := #[]
  methods := #[]
  instanceTypes := #[]
  staticTypes := #[]
  resolved := Array.replicate 7 none
  statics := none }

def pool18 : Array CpInfo := pool [(1, .class_ 2), (0, u "java/lang/Cloneable"), (0, .class_ 4), (0, u "java/lang/Object")] 2

/-- java/lang/Cloneable -/
def k18 : Class := { plain "java/lang/Cloneable" (some 0) with
  accessFlags := 1537
  interfaces := #[]
  cf := some (fileOf pool18 1 #[] #[] 1537 3 #[] #[])
  fields := #[]
  methods := #[]
  instanceTypes := #[]
  staticTypes := #[]
  resolved := Array.replicate 7 none
  statics := none }

def pool19 : Array CpInfo := pool [(1, .methodref 2 3), (0, .class_ 4), (0, .nameAndType 5 6), (0, u "java/util/AbstractList"), (0, u "<init>"), (0, u "()V"), (0, .class_ 8), (0, u "java/lang/Object"), (0, .fieldref 10 11), (0, .class_ 12), (0, .nameAndType 13 14), (0, u "java/util/ArrayList"), (0, u "elementData"), (0, u "[Ljava/lang/Object;"), (2, u "EMPTY_ELEMENTDATA"), (21, .fieldref 10 40), (0, .nameAndType 41 14), (0, u "DEFAULTCAPACITY_EMPTY_ELEMENTDATA"), (4, u "toArray"), (0, u "()[Ljava/lang/Object;"), (0, .fieldref 10 49), (0, .nameAndType 50 51), (0, u "size"), (0, u "I"), (6, .class_ 60), (1, u "java/util/Arrays"), (0, u "copyOf"), (1, .fieldref 10 64), (0, .nameAndType 65 51), (0, u "modCount"), (0, .methodref 58 67), (0, .nameAndType 61 68), (0, u "([Ljava/lang/Object;I)[Ljava/lang/Object;"), (0, .methodref 10 70), (0, .nameAndType 71 72), (0, u "grow"), (0, u "(I)[Ljava/lang/Object;"), (6, .methodref 80 81), (0, .class_ 82), (0, .nameAndType 83 84), (0, u "java/lang/Math"), (0, u "max"), (0, u "(II)I"), (11, u "(Ljava/lang/Object;)Z"), (32, .methodref 10 130), (0, .nameAndType 71 47), (0, .methodref 10 132), (0, .nameAndType 133 134), (0, u "add"), (0, u "(Ljava/lang/Object;[Ljava/lang/Object;I)V"), (13, .class_ 149), (0, u "java/util/List"), (23, u "()Z"), (88, .class_ 263), (0, u "java/util/ArrayList$ListItr"), (3, .class_ 268), (0, u "java/util/ArrayList$Itr"), (7, .class_ 277), (0, u "java/util/ArrayList$SubList"), (12, .class_ 291), (0, u "java/util/ArrayList$ArrayListSpliterator"), (37, .class_ 330), (0, u "java/util/RandomAccess"), (0, .class_ 332), (0, u "java/lang/Cloneable"), (0, .class_ 334), (0, u "java/io/Serializable"), (0, u "serialVersionUID"), (0, u "J"), (3, u "DEFAULT_CAPACITY"), (22, u "isEmpty"), (136, .class_ 501), (0, u "java/util/ArrayList$SubList$2"), (0, .class_ 503), (0, u "java/util/ArrayList$SubList$1")] 5

def k19c0 : Code := { maxStack := 2, maxLocals := 1, code := jdk_38_method_2_code, exceptionTable := #[], attributes := #[] }
def k19m0 : Method := { name := "<init>", desc := "()V", sig := { parameters := [], returnType := none }, accessFlags := 1, code := some k19c0 }
def k19c1 : Code := { maxStack := 4, maxLocals := 4, code := jdk_38_method_6_code, exceptionTable := #[], attributes := #[] }
def k19m1 : Method := { name := "grow", desc := "(I)[Ljava/lang/Object;", sig := { parameters := [.int], returnType := some (.array (.object "java/lang/Object")) }, accessFlags := 2, code := some k19c1 }
def k19c2 : Code := { maxStack := 3, maxLocals := 1, code := jdk_38_method_7_code, exceptionTable := #[], attributes := #[] }
def k19m2 : Method := { name := "grow", desc := "()[Ljava/lang/Object;", sig := { parameters := [], returnType := some (.array (.object "java/lang/Object")) }, accessFlags := 2, code := some k19c2 }
def k19c3 : Code := { maxStack := 1, maxLocals := 1, code := jdk_38_method_9_code, exceptionTable := #[], attributes := #[] }
def k19m3 : Method := { name := "isEmpty", desc := "()Z", sig := { parameters := [], returnType := some .boolean }, accessFlags := 1, code := some k19c3 }
def k19c4 : Code := { maxStack := 2, maxLocals := 1, code := jdk_38_method_16_code, exceptionTable := #[], attributes := #[] }
def k19m4 : Method := { name := "toArray", desc := "()[Ljava/lang/Object;", sig := { parameters := [], returnType := some (.array (.object "java/lang/Object")) }, accessFlags := 1, code := some k19c4 }
def k19c5 : Code := { maxStack := 3, maxLocals := 4, code := jdk_38_method_24_code, exceptionTable := #[], attributes := #[] }
def k19m5 : Method := { name := "add", desc := "(Ljava/lang/Object;[Ljava/lang/Object;I)V", sig := { parameters := [(.object "java/lang/Object"), (.array (.object "java/lang/Object")), .int], returnType := none }, accessFlags := 2, code := some k19c5 }
def k19c6 : Code := { maxStack := 4, maxLocals := 2, code := jdk_38_method_25_code, exceptionTable := #[], attributes := #[] }
def k19m6 : Method := { name := "add", desc := "(Ljava/lang/Object;)Z", sig := { parameters := [(.object "java/lang/Object")], returnType := some .boolean }, accessFlags := 1, code := some k19c6 }
/-- java/util/ArrayList -/
def k19 : Class := { plain "java/util/ArrayList" (some 16) with
  accessFlags := 33
  interfaces := #[15, 17, 18, 2]
  cf := some (fileOf pool19 10 #[.nestMembers #[290, 276, 500, 502, 262, 267]] #[{ accessFlags := 1, nameIndex := 5, descriptorIndex := 6, attributes := #[] }, { accessFlags := 2, nameIndex := 71, descriptorIndex := 72, attributes := #[] }, { accessFlags := 2, nameIndex := 71, descriptorIndex := 47, attributes := #[] }, { accessFlags := 1, nameIndex := 363, descriptorIndex := 173, attributes := #[] }, { accessFlags := 1, nameIndex := 46, descriptorIndex := 47, attributes := #[] }, { accessFlags := 2, nameIndex := 133, descriptorIndex := 134, attributes := #[] }, { accessFlags := 1, nameIndex := 133, descriptorIndex := 96, attributes := #[] }] 33 2 #[148, 329, 331, 333] #[{ accessFlags := 26, nameIndex := 335, descriptorIndex := 336, attributes := #[] }, { accessFlags := 26, nameIndex := 340, descriptorIndex := 51, attributes := #[] }, { accessFlags := 26, nameIndex := 17, descriptorIndex := 14, attributes := #[] }, { accessFlags := 26, nameIndex := 41, descriptorIndex := 14, attributes := #[] }, { accessFlags := 128, nameIndex := 13, descriptorIndex := 14, attributes := #[] }, { accessFlags := 2, nameIndex := 50, descriptorIndex := 51, attributes := #[] }])
  fields := #[{ name := "serialVersionUID", type := .long, accessFlags := 26, slot := 0, constantValue := 0 }, { name := "DEFAULT_CAPACITY", type := .int, accessFlags := 26, slot := 1, constantValue := 0 }, { name := "EMPTY_ELEMENTDATA", type := (.array (.object "java/lang/Object")), accessFlags := 26, slot := 2, constantValue := 0 }, { name := "DEFAULTCAPACITY_EMPTY_ELEMENTDATA", type := (.array (.object "java/lang/Object")), accessFlags := 26, slot := 3, constantValue := 0 }, { name := "elementData", type := (.array (.object "java/lang/Object")), accessFlags := 128, slot := 1, constantValue := 0 }, { name := "size", type := .int, accessFlags := 2, slot := 2, constantValue := 0 }]
  methods := #[k19m0, k19m1, k19m2, k19m3, k19m4, k19m5, k19m6]
  instanceTypes := #[.int, (.array (.object "java/lang/Object")), .int]
  staticTypes := #[.long, .int, (.array (.object "java/lang/Object")), (.array (.object "java/lang/Object"))]
  resolved := Array.replicate 509 none
  statics := some 2 }

def pool20 : Array CpInfo := pool [(1, .class_ 2), (0, u "java/lang/Math"), (1, .class_ 6), (1, u "java/lang/Object"), (0, u "<init>"), (0, u "()V"), (89, .class_ 100), (1, u "java/lang/Math$RandomNumberGeneratorHolder"), (71, u "negativeZeroFloatBits"), (0, u "J"), (2, u "negativeZeroDoubleBits"), (21, u "max"), (2, u "min"), (43, u "$assertionsDisabled"), (0, u "Z"), (88, u "(II)I"), (2, u "twoToTheDoubleScaleDown"), (0, u "D"), (4, u "twoToTheDoubleScaleUp"), (9, u "E"), (3, u "PI"), (2, u "TAU"), (2, u "DEGREES_TO_RADIANS"), (0, u "RADIANS_TO_DEGREES")] 94

def k20m0 : Method := { name := "<init>", desc := "()V", sig := { parameters := [], returnType := none }, accessFlags := 2, code := none }
def k20c1 : Code := { maxStack := 2, maxLocals := 2, code := jdk_29_method_65_code, exceptionTable := #[], attributes := #[] }
def k20m1 : Method := { name := "max", desc := "(II)I", sig := { parameters := [.int, .int], returnType := some .int }, accessFlags := 9, code := some k20c1 }
def k20c2 : Code := { maxStack := 2, maxLocals := 2, code := jdk_29_method_69_code, exceptionTable := #[], attributes := #[] }
def k20m2 : Method := { name := "min", desc := "(II)I", sig := { parameters := [.int, .int], returnType := some .int }, accessFlags := 9, code := some k20c2 }
/-- java/lang/Math -/
def k20 : Class := { plain "java/lang/Math" (some 0) with
  accessFlags := 49
  interfaces := #[]
  cf := some (fileOf pool20 1 #[.nestMembers #[98]] #[{ accessFlags := 2, nameIndex := 7, descriptorIndex := 8, attributes := #[] }, { accessFlags := 9, nameIndex := 198, descriptorIndex := 335, attributes := #[] }, { accessFlags := 9, nameIndex := 201, descriptorIndex := 335, attributes := #[] }] 49 4 #[] #[{ accessFlags := 25, nameIndex := 354, descriptorIndex := 339, attributes := #[] }, { accessFlags := 25, nameIndex := 358, descriptorIndex := 339, attributes := #[] }, { accessFlags := 25, nameIndex := 361, descriptorIndex := 339, attributes := #[] }, { accessFlags := 26, nameIndex := 364, descriptorIndex := 339, attributes := #[] }, { accessFlags := 26, nameIndex := 365, descriptorIndex := 339, attributes := #[] }, { accessFlags := 26, nameIndex := 172, descriptorIndex := 173, attributes := #[] }, { accessFlags := 26, nameIndex := 176, descriptorIndex := 173, attributes := #[] }, { accessFlags := 8, nameIndex := 344, descriptorIndex := 339, attributes := #[] }, { accessFlags := 8, nameIndex := 338, descriptorIndex := 339, attributes := #[] }, { accessFlags := 4120, nameIndex := 245, descriptorIndex := 246, attributes := #[] }])
  fields := #[{ name := "E", type := .double, accessFlags := 25, slot := 0, constantValue := 0 }, { name := "PI", type := .double, accessFlags := 25, slot := 1, constantValue := 0 }, { name := "TAU", type := .double, accessFlags := 25, slot := 2, constantValue := 0 }, { name := "DEGREES_TO_RADIANS", type := .double, accessFlags := 26, slot := 3, constantValue := 0 }, { name := "RADIANS_TO_DEGREES", type := .double, accessFlags := 26, slot := 4, constantValue := 0 }, { name := "negativeZeroFloatBits", type := .long, accessFlags := 26, slot := 5, constantValue := 0 }, { name := "negativeZeroDoubleBits", type := .long, accessFlags := 26, slot := 6, constantValue := 0 }, { name := "twoToTheDoubleScaleUp", type := .double, accessFlags := 8, slot := 7, constantValue := 0 }, { name := "twoToTheDoubleScaleDown", type := .double, accessFlags := 8, slot := 8, constantValue := 0 }, { name := "$assertionsDisabled", type := .boolean, accessFlags := 4120, slot := 9, constantValue := 0 }]
  methods := #[k20m0, k20m1, k20m2]
  instanceTypes := #[]
  staticTypes := #[.double, .double, .double, .double, .double, .long, .long, .double, .double, .boolean]
  resolved := Array.replicate 460 none
  statics := none }

def pool21 : Array CpInfo := pool [(1, .methodref 2 3), (0, .class_ 4), (0, .nameAndType 5 6), (0, u "java/lang/Object"), (0, u "<init>"), (0, u "()V"), (0, .class_ 8), (0, u "java/lang/Record")] 13

def k21c0 : Code := { maxStack := 1, maxLocals := 1, code := jdk_30_method_1_code, exceptionTable := #[], attributes := #[] }
def k21m0 : Method := { name := "<init>", desc := "()V", sig := { parameters := [], returnType := none }, accessFlags := 4, code := some k21c0 }
/-- java/lang/Record -/
def k21 : Class := { plain "java/lang/Record" (some 0) with
  accessFlags := 1057
  interfaces := #[]
  cf := some (fileOf pool21 7 #[] #[{ accessFlags := 4, nameIndex := 5, descriptorIndex := 6, attributes := #[] }] 1057 2 #[] #[])
  fields := #[]
  methods := #[k21m0]
  instanceTypes := #[]
  staticTypes := #[]
  resolved := Array.replicate 22 none
  statics := none }

def pool22 : Array CpInfo := pool [(1, .methodref 2 3), (0, .class_ 4), (0, .nameAndType 5 6), (0, u "java/lang/Record"), (0, u "<init>"), (0, u "()V"), (0, .interfaceMethodref 8 9), (0, .class_ 10), (0, .nameAndType 11 12), (0, u "java/util/List"), (0, u "copyOf"), (0, u "(Ljava/util/Collection;)Ljava/util/List;"), (0, .fieldref 14 15), (0, .class_ 16), (0, .nameAndType 17 18), (0, u "com/example/restoral/restoral/engine/RowName"), (0, u "output"), (0, u "Ljava/lang/String;"), (0, .fieldref 14 20), (0, .nameAndType 21 22), (0, u "key"), (0, u "Ljava/util/List;"), (8, u "(Ljava/lang/String;Ljava/util/List;)V"), (56, u "LEDGER"), (1, u "PAYOUT"), (0, u "VESTING")] 43

def k22c0 : Code := { maxStack := 2, maxLocals := 3, code := prog_21_method_1_code, exceptionTable := #[], attributes := #[] }
def k22m0 : Method := { name := "<init>", desc := "(Ljava/lang/String;Ljava/util/List;)V", sig := { parameters := [(.object "java/lang/String"), (.object "java/util/List")], returnType := none }, accessFlags := 1, code := some k22c0 }
/-- com/example/restoral/restoral/engine/RowName -/
def k22 : Class := { plain "com/example/restoral/restoral/engine/RowName" (some 21) with
  accessFlags := 49
  interfaces := #[]
  cf := some (fileOf pool22 14 #[] #[{ accessFlags := 1, nameIndex := 5, descriptorIndex := 31, attributes := #[] }] 49 2 #[] #[{ accessFlags := 18, nameIndex := 17, descriptorIndex := 18, attributes := #[] }, { accessFlags := 18, nameIndex := 21, descriptorIndex := 22, attributes := #[] }, { accessFlags := 26, nameIndex := 88, descriptorIndex := 18, attributes := #[] }, { accessFlags := 26, nameIndex := 90, descriptorIndex := 18, attributes := #[] }, { accessFlags := 26, nameIndex := 91, descriptorIndex := 18, attributes := #[] }])
  fields := #[{ name := "output", type := (.object "java/lang/String"), accessFlags := 18, slot := 0, constantValue := 0 }, { name := "key", type := (.object "java/util/List"), accessFlags := 18, slot := 1, constantValue := 0 }, { name := "LEDGER", type := (.object "java/lang/String"), accessFlags := 26, slot := 0, constantValue := 0 }, { name := "PAYOUT", type := (.object "java/lang/String"), accessFlags := 26, slot := 1, constantValue := 0 }, { name := "VESTING", type := (.object "java/lang/String"), accessFlags := 26, slot := 2, constantValue := 0 }]
  methods := #[k22m0]
  instanceTypes := #[(.object "java/lang/String"), (.object "java/util/List")]
  staticTypes := #[(.object "java/lang/String"), (.object "java/lang/String"), (.object "java/lang/String")]
  resolved := Array.replicate 135 none
  statics := none }

def pool23 : Array CpInfo := pool [(2, .class_ 4), (1, u "java/lang/Object"), (0, u "<init>"), (0, u "()V"), (3, .class_ 11), (0, u "java/util/ImmutableCollections$List12"), (0, .class_ 13), (0, u "java/util/ImmutableCollections$ListN"), (0, .fieldref 12 15), (0, .nameAndType 16 17), (0, u "allowNulls"), (0, u "Z"), (0, .class_ 19), (0, u "java/util/List"), (0, .interfaceMethodref 21 22), (0, .class_ 23), (0, .nameAndType 24 25), (0, u "java/util/Collection"), (0, u "isEmpty"), (0, u "()Z"), (2, u "of"), (1, .interfaceMethodref 21 31), (0, .nameAndType 32 33), (0, u "toArray"), (0, u "()[Ljava/lang/Object;"), (0, .interfaceMethodref 18 35), (0, .nameAndType 28 36), (0, u "([Ljava/lang/Object;)Ljava/util/List;"), (10, .class_ 49), (1, u "java/util/ImmutableCollections"), (0, u "$assertionsDisabled"), (5, u "[Ljava/lang/Object;"), (5, u "EMPTY_LIST"), (0, u "Ljava/util/ImmutableCollections$ListN;"), (8, u "EMPTY_LIST_NULLS"), (22, u "SALT32L"), (0, u "J"), (2, u "REVERSE"), (6, u "archivedObjects"), (2, u "EMPTY"), (0, u "Ljava/lang/Object;"), (0, .class_ 112), (0, u "java/util/ImmutableCollections$SetN"), (5, u "EMPTY_SET"), (0, u "Ljava/util/ImmutableCollections$SetN;"), (0, .class_ 121), (0, u "java/util/ImmutableCollections$MapN"), (3, u "EMPTY_MAP"), (0, u "Ljava/util/ImmutableCollections$MapN;"), (4, u "EXPAND_FACTOR"), (0, u "I"), (9, u "listCopy"), (0, u "(Ljava/util/Collection;)Ljava/util/List;"), (25, .class_ 170), (0, u "java/util/ImmutableCollections$MapN$MapNIterator"), (0, .class_ 172), (0, u "java/util/ImmutableCollections$MapN$1"), (0, .class_ 174), (0, u "java/util/ImmutableCollections$Map1"), (0, .class_ 176), (0, u "java/util/ImmutableCollections$AbstractImmutableMap"), (0, .class_ 178), (0, u "java/util/ImmutableCollections$SetN$SetNIterator"), (0, .class_ 180), (0, u "java/util/ImmutableCollections$Set12"), (0, .class_ 182), (0, u "java/util/ImmutableCollections$Set12$1"), (0, .class_ 184), (0, u "java/util/ImmutableCollections$AbstractImmutableSet"), (0, .class_ 186), (0, u "java/util/ImmutableCollections$SubList"), (0, .class_ 188), (0, u "java/util/ImmutableCollections$ListItr"), (0, .class_ 190), (0, u "java/util/ImmutableCollections$AbstractImmutableList"), (0, .class_ 192), (0, u "java/util/ImmutableCollections$AbstractImmutableCollection"), (0, .class_ 194), (0, u "java/util/ImmutableCollections$Access"), (0, .class_ 196), (0, u "java/util/ImmutableCollections$Access$1")] 16

def k23m0 : Method := { name := "<init>", desc := "()V", sig := { parameters := [], returnType := none }, accessFlags := 2, code := none }
def k23c1 : Code := { maxStack := 1, maxLocals := 2, code := jdk_56_method_3_code, exceptionTable := #[], attributes := #[] }
def k23m1 : Method := { name := "listCopy", desc := "(Ljava/util/Collection;)Ljava/util/List;", sig := { parameters := [(.object "java/util/Collection")], returnType := some (.object "java/util/List") }, accessFlags := 8, code := some k23c1 }
/-- java/util/ImmutableCollections -/
def k23 : Class := { plain "java/util/ImmutableCollections" (some 0) with
  accessFlags := 32
  interfaces := #[]
  cf := some (fileOf pool23 47 #[.nestMembers #[120, 169, 171, 173, 175, 111, 177, 179, 181, 183, 12, 10, 185, 187, 189, 191, 193, 195]] #[{ accessFlags := 2, nameIndex := 5, descriptorIndex := 6, attributes := #[] }, { accessFlags := 8, nameIndex := 142, descriptorIndex := 143, attributes := #[] }] 32 2 #[] #[{ accessFlags := 26, nameIndex := 95, descriptorIndex := 96, attributes := #[] }, { accessFlags := 26, nameIndex := 99, descriptorIndex := 17, attributes := #[] }, { accessFlags := 10, nameIndex := 106, descriptorIndex := 56, attributes := #[] }, { accessFlags := 26, nameIndex := 109, descriptorIndex := 110, attributes := #[] }, { accessFlags := 24, nameIndex := 62, descriptorIndex := 63, attributes := #[] }, { accessFlags := 24, nameIndex := 72, descriptorIndex := 63, attributes := #[] }, { accessFlags := 24, nameIndex := 118, descriptorIndex := 119, attributes := #[] }, { accessFlags := 24, nameIndex := 125, descriptorIndex := 126, attributes := #[] }, { accessFlags := 24, nameIndex := 131, descriptorIndex := 132, attributes := #[] }, { accessFlags := 4120, nameIndex := 50, descriptorIndex := 17, attributes := #[] }])
  fields := #[{ name := "SALT32L", type := .long, accessFlags := 26, slot := 0, constantValue := 0 }, { name := "REVERSE", type := .boolean, accessFlags := 26, slot := 1, constantValue := 0 }, { name := "archivedObjects", type := (.array (.object "java/lang/Object")), accessFlags := 10, slot := 2, constantValue := 0 }, { name := "EMPTY", type := (.object "java/lang/Object"), accessFlags := 26, slot := 3, constantValue := 0 }, { name := "EMPTY_LIST", type := (.object "java/util/ImmutableCollections$ListN"), accessFlags := 24, slot := 4, constantValue := 0 }, { name := "EMPTY_LIST_NULLS", type := (.object "java/util/ImmutableCollections$ListN"), accessFlags := 24, slot := 5, constantValue := 0 }, { name := "EMPTY_SET", type := (.object "java/util/ImmutableCollections$SetN"), accessFlags := 24, slot := 6, constantValue := 0 }, { name := "EMPTY_MAP", type := (.object "java/util/ImmutableCollections$MapN"), accessFlags := 24, slot := 7, constantValue := 0 }, { name := "EXPAND_FACTOR", type := .int, accessFlags := 24, slot := 8, constantValue := 0 }, { name := "$assertionsDisabled", type := .boolean, accessFlags := 4120, slot := 9, constantValue := 0 }]
  methods := #[k23m0, k23m1]
  instanceTypes := #[]
  staticTypes := #[.long, .boolean, (.array (.object "java/lang/Object")), (.object "java/lang/Object"), (.object "java/util/ImmutableCollections$ListN"), (.object "java/util/ImmutableCollections$ListN"), (.object "java/util/ImmutableCollections$SetN"), (.object "java/util/ImmutableCollections$MapN"), .int, .boolean]
  resolved := Array.replicate 213 none
  statics := some 3 }

def pool24 : Array CpInfo := pool [(1, .methodref 2 3), (0, .class_ 4), (0, .nameAndType 5 6), (0, u "java/util/AbstractCollection"), (0, u "<init>"), (0, u "()V"), (1, .class_ 10), (1, u "java/util/ImmutableCollections"), (2, .class_ 14), (0, u "java/util/ImmutableCollections$AbstractImmutableCollection")] 41

def k24c0 : Code := { maxStack := 1, maxLocals := 1, code := jdk_47_method_1_code, exceptionTable := #[], attributes := #[] }
def k24m0 : Method := { name := "<init>", desc := "()V", sig := { parameters := [], returnType := none }, accessFlags := 0, code := some k24c0 }
/-- java/util/ImmutableCollections$AbstractImmutableCollection -/
def k24 : Class := { plain "java/util/ImmutableCollections$AbstractImmutableCollection" (some 13) with
  accessFlags := 1056
  interfaces := #[]
  cf := some (fileOf pool24 13 #[.nestHost 8] #[{ accessFlags := 0, nameIndex := 5, descriptorIndex := 6, attributes := #[] }] 1056 2 #[] #[])
  fields := #[]
  methods := #[k24m0]
  instanceTypes := #[]
  staticTypes := #[]
  resolved := Array.replicate 56 none
  statics := none }

def pool25 : Array CpInfo := pool [(1, .methodref 2 3), (0, .class_ 4), (0, .nameAndType 5 6), (0, u "java/util/ImmutableCollections$AbstractImmutableCollection"), (0, u "<init>"), (0, u "()V"), (1, .class_ 10), (1, u "java/util/ImmutableCollections"), (3, .class_ 16), (1, u "java/util/ImmutableCollections$AbstractImmutableList"), (60, .class_ 78), (0, u "java/util/List"), (45, .class_ 125), (0, u "java/util/RandomAccess")] 70

def k25c0 : Code := { maxStack := 1, maxLocals := 1, code := jdk_46_method_1_code, exceptionTable := #[], attributes := #[] }
def k25m0 : Method := { name := "<init>", desc := "()V", sig := { parameters := [], returnType := none }, accessFlags := 0, code := some k25c0 }
/-- java/util/ImmutableCollections$AbstractImmutableList -/
def k25 : Class := { plain "java/util/ImmutableCollections$AbstractImmutableList" (some 24) with
  accessFlags := 1056
  interfaces := #[15, 17]
  cf := some (fileOf pool25 14 #[.nestHost 8] #[{ accessFlags := 0, nameIndex := 5, descriptorIndex := 6, attributes := #[] }] 1056 2 #[77, 124] #[])
  fields := #[]
  methods := #[k25m0]
  instanceTypes := #[]
  staticTypes := #[]
  resolved := Array.replicate 196 none
  statics := none }

def pool26 : Array CpInfo := pool [(1, .methodref 2 3), (0, .class_ 4), (0, .nameAndType 5 6), (0, u "java/util/ImmutableCollections$AbstractImmutableList"), (0, u "<init>"), (0, u "()V"), (0, .methodref 8 9), (0, .class_ 10), (0, .nameAndType 11 12), (0, u "java/util/Objects"), (0, u "requireNonNull"), (0, u "(Ljava/lang/Object;)Ljava/lang/Object;"), (0, .fieldref 14 15), (0, .class_ 16), (0, .nameAndType 17 18), (0, u "java/util/ImmutableCollections$List12"), (0, u "e0"), (0, u "Ljava/lang/Object;"), (0, .fieldref 20 21), (0, .class_ 22), (0, .nameAndType 23 18), (0, u "java/util/ImmutableCollections"), (0, u "EMPTY"), (0, .fieldref 14 25), (0, .nameAndType 26 18), (0, u "e1"), (43, .class_ 71), (0, u "java/io/Serializable"), (4, u "(Ljava/lang/Object;)V")] 48

def k26c0 : Code := { maxStack := 2, maxLocals := 2, code := jdk_44_method_1_code, exceptionTable := #[], attributes := #[] }
def k26m0 : Method := { name := "<init>", desc := "(Ljava/lang/Object;)V", sig := { parameters := [(.object "java/lang/Object")], returnType := none }, accessFlags := 0, code := some k26c0 }
/-- java/util/ImmutableCollections$List12 -/
def k26 : Class := { plain "java/util/ImmutableCollections$List12" (some 25) with
  accessFlags := 48
  interfaces := #[2]
  cf := some (fileOf pool26 14 #[.nestHost 20] #[{ accessFlags := 0, nameIndex := 5, descriptorIndex := 76, attributes := #[] }] 48 2 #[70] #[{ accessFlags := 18, nameIndex := 17, descriptorIndex := 18, attributes := #[] }, { accessFlags := 18, nameIndex := 26, descriptorIndex := 18, attributes := #[] }])
  fields := #[{ name := "e0", type := (.object "java/lang/Object"), accessFlags := 18, slot := 0, constantValue := 0 }, { name := "e1", type := (.object "java/lang/Object"), accessFlags := 18, slot := 1, constantValue := 0 }]
  methods := #[k26m0]
  instanceTypes := #[(.object "java/lang/Object"), (.object "java/lang/Object")]
  staticTypes := #[]
  resolved := Array.replicate 125 none
  statics := none }

def pool27 : Array CpInfo := pool [(2, .class_ 4), (1, u "java/util/ImmutableCollections$AbstractImmutableList"), (3, .class_ 10), (1, u "java/util/ImmutableCollections$ListN"), (0, u "elements"), (0, u "[Ljava/lang/Object;"), (2, u "allowNulls"), (0, u "Z"), (42, .class_ 60), (0, u "java/io/Serializable"), (53, .class_ 115), (0, u "java/util/ImmutableCollections")] 3

/-- java/util/ImmutableCollections$ListN -/
def k27 : Class := { plain "java/util/ImmutableCollections$ListN" (some 25) with
  accessFlags := 48
  interfaces := #[2]
  cf := some (fileOf pool27 8 #[.nestHost 114] #[] 48 2 #[59] #[{ accessFlags := 18, nameIndex := 11, descriptorIndex := 12, attributes := #[] }, { accessFlags := 18, nameIndex := 15, descriptorIndex := 16, attributes := #[] }])
  fields := #[{ name := "elements", type := (.array (.object "java/lang/Object")), accessFlags := 18, slot := 0, constantValue := 0 }, { name := "allowNulls", type := .boolean, accessFlags := 18, slot := 1, constantValue := 0 }]
  methods := #[]
  instanceTypes := #[(.array (.object "java/lang/Object")), .boolean]
  staticTypes := #[]
  resolved := Array.replicate 119 none
  statics := none }

def pool28 : Array CpInfo := pool [(2, .class_ 4), (1, u "java/lang/Object"), (0, u "<init>"), (0, u "()V"), (7, .class_ 16), (1, u "java/util/Arrays"), (57, .class_ 76), (1, u "java/util/Arrays$NaturalOrder"), (9, .methodref 2 87), (0, .nameAndType 88 89), (0, u "getClass"), (0, u "()Ljava/lang/Class;"), (20, .class_ 111), (0, u "[Ljava/lang/Object;"), (1, .class_ 115), (1, u "java/util/Arrays$LegacyMergeSort"), (1, u "Z"), (32, .methodref 151 152), (0, .class_ 153), (0, .nameAndType 154 155), (0, u "java/lang/System"), (0, u "arraycopy"), (0, u "(Ljava/lang/Object;ILjava/lang/Object;II)V"), (144, .methodref 14 301), (0, .nameAndType 302 303), (0, u "copyOf"), (0, u "([Ljava/lang/Object;ILjava/lang/Class;)[Ljava/lang/Object;"), (0, .methodref 305 306), (0, .class_ 307), (0, .nameAndType 308 309), (0, u "java/lang/Math"), (0, u "min"), (0, u "(II)I"), (65, .class_ 376), (0, u "java/util/Arrays$ArrayList"), (68, u "$assertionsDisabled"), (269, u "MIN_ARRAY_SORT_GRAN"), (0, u "I"), (2, u "INSERTIONSORT_THRESHOLD"), (140, u "([Ljava/lang/Object;I)[Ljava/lang/Object;"), (114, .class_ 976), (0, u "java/util/Arrays$ArrayItr")] 52

def k28m0 : Method := { name := "<init>", desc := "()V", sig := { parameters := [], returnType := none }, accessFlags := 2, code := none }
def k28c1 : Code := { maxStack := 3, maxLocals := 2, code := jdk_65_method_119_code, exceptionTable := #[], attributes := #[] }
def k28m1 : Method := { name := "copyOf", desc := "([Ljava/lang/Object;I)[Ljava/lang/Object;", sig := { parameters := [(.array (.object "java/lang/Object")), .int], returnType := some (.array (.object "java/lang/Object")) }, accessFlags := 9, code := some k28c1 }
def k28c2 : Code := { maxStack := 6, maxLocals := 4, code := jdk_65_method_120_code, exceptionTable := #[], attributes := #[] }
def k28m2 : Method := { name := "copyOf", desc := "([Ljava/lang/Object;ILjava/lang/Class;)[Ljava/lang/Object;", sig := { parameters := [(.array (.object "java/lang/Object")), .int, (.object "java/lang/Class")], returnType := some (.array (.object "java/lang/Object")) }, accessFlags := 9, code := some k28c2 }
/-- java/util/Arrays -/
def k28 : Class := { plain "java/util/Arrays" (some 0) with
  accessFlags := 49
  interfaces := #[]
  cf := some (fileOf pool28 14 #[.nestMembers #[975, 375, 113, 74]] #[{ accessFlags := 2, nameIndex := 5, descriptorIndex := 6, attributes := #[] }, { accessFlags := 9, nameIndex := 302, descriptorIndex := 860, attributes := #[] }, { accessFlags := 9, nameIndex := 302, descriptorIndex := 303, attributes := #[] }] 49 2 #[] #[{ accessFlags := 26, nameIndex := 715, descriptorIndex := 716, attributes := #[] }, { accessFlags := 26, nameIndex := 719, descriptorIndex := 716, attributes := #[] }, { accessFlags := 4120, nameIndex := 445, descriptorIndex := 117, attributes := #[] }])
  fields := #[{ name := "MIN_ARRAY_SORT_GRAN", type := .int, accessFlags := 26, slot := 0, constantValue := 0 }, { name := "INSERTIONSORT_THRESHOLD", type := .int, accessFlags := 26, slot := 1, constantValue := 0 }, { name := "$assertionsDisabled", type := .boolean, accessFlags := 4120, slot := 2, constantValue := 0 }]
  methods := #[k28m0, k28m1, k28m2]
  instanceTypes := #[]
  staticTypes := #[.int, .int, .boolean]
  resolved := Array.replicate 1029 none
  statics := none }

def pool29 : Array CpInfo := pool [(2, .class_ 4), (1, u "java/lang/Object"), (0, u "<init>"), (0, u "()V"), (1, .class_ 10), (1, u "java/lang/System"), (0, u "allowSecurityManager"), (0, u "I"), (16, u "cons"), (0, u "Ljava/io/Console;"), (77, .class_ 110), (1, u "java/lang/System$CallersHolder"), (43, u "initialErrStream"), (0, u "Ljava/io/PrintStream;"), (19, u "security"), (0, u "Ljava/lang/SecurityManager;"), (31, .class_ 209), (0, u "java/lang/System$1"), (7, u "props"), (0, u "Ljava/util/Properties;"), (2, u "lineSeparator"), (0, u "Ljava/lang/String;"), (96, .class_ 321), (1, u "java/lang/System$LoggerFinder"), (5, .class_ 328), (0, u "java/lang/System$Logger"), (67, u "err"), (2, u "out"), (91, u "notSupportedJnuEncoding"), (15, u "in"), (17, u "initialIn"), (0, u "Ljava/io/InputStream;"), (35, u "bootLayer"), (0, u "Ljava/lang/ModuleLayer;"), (99, .class_ 664), (0, u "java/lang/System$2"), (9, u "NEVER"), (2, u "MAYBE"), (49, u "arraycopy"), (0, u "(Ljava/lang/Object;ILjava/lang/Object;II)V"), (72, .class_ 802), (0, u "java/lang/System$Logger$Level")] 31

def k29m0 : Method := { name := "<init>", desc := "()V", sig := { parameters := [], returnType := none }, accessFlags := 2, code := none }
def k29m1 : Method := { name := "arraycopy", desc := "(Ljava/lang/Object;ILjava/lang/Object;II)V", sig := { parameters := [(.object "java/lang/Object"), .int, (.object "java/lang/Object"), .int, .int], returnType := none }, accessFlags := 265, code := none }
/-- java/lang/System -/
def k29 : Class := { plain "java/lang/System" (some 0) with
  accessFlags := 49
  interfaces := #[]
  cf := some (fileOf pool29 8 #[.nestMembers #[319, 327, 801, 108, 663, 208]] #[{ accessFlags := 2, nameIndex := 5, descriptorIndex := 6, attributes := #[] }, { accessFlags := 265, nameIndex := 727, descriptorIndex := 728, attributes := #[] }] 49 2 #[] #[{ accessFlags := 25, nameIndex := 507, descriptorIndex := 526, attributes := #[] }, { accessFlags := 25, nameIndex := 399, descriptorIndex := 155, attributes := #[] }, { accessFlags := 25, nameIndex := 396, descriptorIndex := 155, attributes := #[] }, { accessFlags := 10, nameIndex := 525, descriptorIndex := 526, attributes := #[] }, { accessFlags := 26, nameIndex := 674, descriptorIndex := 12, attributes := #[] }, { accessFlags := 26, nameIndex := 677, descriptorIndex := 12, attributes := #[] }, { accessFlags := 10, nameIndex := 11, descriptorIndex := 12, attributes := #[] }, { accessFlags := 74, nameIndex := 175, descriptorIndex := 176, attributes := #[] }, { accessFlags := 10, nameIndex := 491, descriptorIndex := 222, attributes := #[] }, { accessFlags := 74, nameIndex := 29, descriptorIndex := 30, attributes := #[] }, { accessFlags := 74, nameIndex := 154, descriptorIndex := 155, attributes := #[] }, { accessFlags := 10, nameIndex := 217, descriptorIndex := 218, attributes := #[] }, { accessFlags := 10, nameIndex := 221, descriptorIndex := 222, attributes := #[] }, { accessFlags := 8, nameIndex := 562, descriptorIndex := 563, attributes := #[] }])
  fields := #[{ name := "in", type := (.object "java/io/InputStream"), accessFlags := 25, slot := 0, constantValue := 0 }, { name := "out", type := (.object "java/io/PrintStream"), accessFlags := 25, slot := 1, constantValue := 0 }, { name := "err", type := (.object "java/io/PrintStream"), accessFlags := 25, slot := 2, constantValue := 0 }, { name := "initialIn", type := (.object "java/io/InputStream"), accessFlags := 10, slot := 3, constantValue := 0 }, { name := "NEVER", type := .int, accessFlags := 26, slot := 4, constantValue := 0 }, { name := "MAYBE", type := .int, accessFlags := 26, slot := 5, constantValue := 0 }, { name := "allowSecurityManager", type := .int, accessFlags := 10, slot := 6, constantValue := 0 }, { name := "security", type := (.object "java/lang/SecurityManager"), accessFlags := 74, slot := 7, constantValue := 0 }, { name := "notSupportedJnuEncoding", type := (.object "java/lang/String"), accessFlags := 10, slot := 8, constantValue := 0 }, { name := "cons", type := (.object "java/io/Console"), accessFlags := 74, slot := 9, constantValue := 0 }, { name := "initialErrStream", type := (.object "java/io/PrintStream"), accessFlags := 74, slot := 10, constantValue := 0 }, { name := "props", type := (.object "java/util/Properties"), accessFlags := 10, slot := 11, constantValue := 0 }, { name := "lineSeparator", type := (.object "java/lang/String"), accessFlags := 10, slot := 12, constantValue := 0 }, { name := "bootLayer", type := (.object "java/lang/ModuleLayer"), accessFlags := 8, slot := 13, constantValue := 0 }]
  methods := #[k29m0, k29m1]
  instanceTypes := #[]
  staticTypes := #[(.object "java/io/InputStream"), (.object "java/io/PrintStream"), (.object "java/io/PrintStream"), (.object "java/io/InputStream"), .int, .int, .int, (.object "java/lang/SecurityManager"), (.object "java/lang/String"), (.object "java/io/Console"), (.object "java/io/PrintStream"), (.object "java/util/Properties"), (.object "java/lang/String"), (.object "java/lang/ModuleLayer")]
  resolved := Array.replicate 834 none
  statics := none }

def pool30 : Array CpInfo := pool [(2, .class_ 4), (1, u "java/lang/Object"), (0, u "<init>"), (0, u "()V"), (35, .class_ 44), (1, u "java/util/Objects"), (0, u "requireNonNull"), (0, u "(Ljava/lang/Object;)Ljava/lang/Object;")] 137

def k30m0 : Method := { name := "<init>", desc := "()V", sig := { parameters := [], returnType := none }, accessFlags := 2, code := none }
def k30c1 : Code := { maxStack := 2, maxLocals := 1, code := jdk_31_method_10_code, exceptionTable := #[], attributes := #[] }
def k30m1 : Method := { name := "requireNonNull", desc := "(Ljava/lang/Object;)Ljava/lang/Object;", sig := { parameters := [(.object "java/lang/Object")], returnType := some (.object "java/lang/Object") }, accessFlags := 9, code := some k30c1 }
/-- java/util/Objects -/
def k30 : Class := { plain "java/util/Objects" (some 0) with
  accessFlags := 49
  interfaces := #[]
  cf := some (fileOf pool30 42 #[] #[{ accessFlags := 2, nameIndex := 5, descriptorIndex := 6, attributes := #[] }, { accessFlags := 9, nameIndex := 45, descriptorIndex := 46, attributes := #[] }] 49 2 #[] #[])
  fields := #[]
  methods := #[k30m0, k30m1]
  instanceTypes := #[]
  staticTypes := #[]
  resolved := Array.replicate 184 none
  statics := none }

def pool31 : Array CpInfo := pool [(1, .methodref 2 3), (0, .class_ 4), (0, .nameAndType 5 6), (0, u "java/lang/Object"), (0, u "<init>"), (0, u "()V"), (0, .fieldref 8 9), (0, .class_ 10), (0, .nameAndType 11 12), (0, u "com/example/restoral/restoral/engine/Step"), (0, u "owner"), (0, u "Lcom/example/restoral/restoral/engine/RowName;"), (0, .fieldref 8 14), (0, .nameAndType 15 16), (0, u "term"), (0, u "Ljava/lang/String;"), (0, .fieldref 8 18), (0, .nameAndType 19 20), (0, u "value"), (0, u "Ljava/lang/Object;"), (0, .fieldref 8 22), (0, .nameAndType 23 16), (0, u "section"), (0, .fieldref 8 25), (0, .nameAndType 26 16), (0, u "source"), (0, .fieldref 8 28), (0, .nameAndType 29 16), (0, u "formula"), (0, .interfaceMethodref 31 32), (0, .class_ 33), (0, .nameAndType 34 35), (0, u "java/util/List"), (0, u "copyOf"), (0, u "(Ljava/util/Collection;)Ljava/util/List;"), (0, .fieldref 8 37), (0, .nameAndType 38 39), (0, u "operands"), (0, u "Ljava/util/List;"), (0, .fieldref 8 41), (0, .nameAndType 42 12), (0, u "row"), (0, .fieldref 8 44), (0, .nameAndType 45 16), (0, u "column"), (2, u "(Lcom/example/restoral/restoral/engine/RowName;Ljava/lang/String;Ljava/lang/Object;Ljava/lang/String;Ljava/lang/String;Ljava/lang/String;Ljava/util/List;Lcom/example/restoral/restoral/engine/RowName;Ljava/lang/String;)V"), (3, u "()Lcom/example/restoral/restoral/engine/RowName;")] 6

def k31c0 : Code := { maxStack := 2, maxLocals := 10, code := prog_25_method_1_code, exceptionTable := #[], attributes := #[] }
def k31m0 : Method := { name := "<init>", desc := "(Lcom/example/restoral/restoral/engine/RowName;Ljava/lang/String;Ljava/lang/Object;Ljava/lang/String;Ljava/lang/String;Ljava/lang/String;Ljava/util/List;Lcom/example/restoral/restoral/engine/RowName;Ljava/lang/String;)V", sig := { parameters := [(.object "com/example/restoral/restoral/engine/RowName"), (.object "java/lang/String"), (.object "java/lang/Object"), (.object "java/lang/String"), (.object "java/lang/String"), (.object "java/lang/String"), (.object "java/util/List"), (.object "com/example/restoral/restoral/engine/RowName"), (.object "java/lang/String")], returnType := none }, accessFlags := 0, code := some k31c0 }
def k31c1 : Code := { maxStack := 1, maxLocals := 1, code := prog_25_method_2_code, exceptionTable := #[], attributes := #[] }
def k31m1 : Method := { name := "owner", desc := "()Lcom/example/restoral/restoral/engine/RowName;", sig := { parameters := [], returnType := some (.object "com/example/restoral/restoral/engine/RowName") }, accessFlags := 0, code := some k31c1 }
/-- com/example/restoral/restoral/engine/Step -/
def k31 : Class := { plain "com/example/restoral/restoral/engine/Step" (some 0) with
  accessFlags := 48
  interfaces := #[]
  cf := some (fileOf pool31 8 #[] #[{ accessFlags := 0, nameIndex := 5, descriptorIndex := 48, attributes := #[] }, { accessFlags := 0, nameIndex := 11, descriptorIndex := 52, attributes := #[] }] 48 2 #[] #[{ accessFlags := 18, nameIndex := 11, descriptorIndex := 12, attributes := #[] }, { accessFlags := 18, nameIndex := 15, descriptorIndex := 16, attributes := #[] }, { accessFlags := 18, nameIndex := 19, descriptorIndex := 20, attributes := #[] }, { accessFlags := 18, nameIndex := 23, descriptorIndex := 16, attributes := #[] }, { accessFlags := 18, nameIndex := 26, descriptorIndex := 16, attributes := #[] }, { accessFlags := 18, nameIndex := 29, descriptorIndex := 16, attributes := #[] }, { accessFlags := 18, nameIndex := 38, descriptorIndex := 39, attributes := #[] }, { accessFlags := 18, nameIndex := 42, descriptorIndex := 12, attributes := #[] }, { accessFlags := 18, nameIndex := 45, descriptorIndex := 16, attributes := #[] }])
  fields := #[{ name := "owner", type := (.object "com/example/restoral/restoral/engine/RowName"), accessFlags := 18, slot := 0, constantValue := 0 }, { name := "term", type := (.object "java/lang/String"), accessFlags := 18, slot := 1, constantValue := 0 }, { name := "value", type := (.object "java/lang/Object"), accessFlags := 18, slot := 2, constantValue := 0 }, { name := "section", type := (.object "java/lang/String"), accessFlags := 18, slot := 3, constantValue := 0 }, { name := "source", type := (.object "java/lang/String"), accessFlags := 18, slot := 4, constantValue := 0 }, { name := "formula", type := (.object "java/lang/String"), accessFlags := 18, slot := 5, constantValue := 0 }, { name := "operands", type := (.object "java/util/List"), accessFlags := 18, slot := 6, constantValue := 0 }, { name := "row", type := (.object "com/example/restoral/restoral/engine/RowName"), accessFlags := 18, slot := 7, constantValue := 0 }, { name := "column", type := (.object "java/lang/String"), accessFlags := 18, slot := 8, constantValue := 0 }]
  methods := #[k31m0, k31m1]
  instanceTypes := #[(.object "com/example/restoral/restoral/engine/RowName"), (.object "java/lang/String"), (.object "java/lang/Object"), (.object "java/lang/String"), (.object "java/lang/String"), (.object "java/lang/String"), (.object "java/util/List"), (.object "com/example/restoral/restoral/engine/RowName"), (.object "java/lang/String")]
  staticTypes := #[]
  resolved := Array.replicate 59 none
  statics := none }

def pool32 : Array CpInfo := pool [(2, .class_ 4), (1, u "java/lang/Object"), (0, u "<init>"), (0, u "()V"), (17, .class_ 26), (1, u "jdk/internal/util/Preconditions"), (28, .class_ 56), (0, u "jdk/internal/util/Preconditions$4"), (57, .class_ 115), (0, u "jdk/internal/util/Preconditions$1"), (7, u "SIOOBE_FORMATTER"), (0, u "Ljava/util/function/BiFunction;"), (0, .class_ 126), (0, u "jdk/internal/util/Preconditions$2"), (3, u "AIOOBE_FORMATTER"), (0, .class_ 132), (0, u "jdk/internal/util/Preconditions$3"), (3, u "IOOBE_FORMATTER")] 57

def k32m0 : Method := { name := "<init>", desc := "()V", sig := { parameters := [], returnType := none }, accessFlags := 1, code := none }
/-- jdk/internal/util/Preconditions -/
def k32 : Class := { plain "jdk/internal/util/Preconditions" (some 0) with
  accessFlags := 33
  interfaces := #[]
  cf := some (fileOf pool32 24 #[.nestMembers #[55, 131, 125, 114]] #[{ accessFlags := 1, nameIndex := 5, descriptorIndex := 6, attributes := #[] }] 33 2 #[] #[{ accessFlags := 25, nameIndex := 123, descriptorIndex := 124, attributes := #[] }, { accessFlags := 25, nameIndex := 130, descriptorIndex := 124, attributes := #[] }, { accessFlags := 25, nameIndex := 136, descriptorIndex := 124, attributes := #[] }])
  fields := #[{ name := "SIOOBE_FORMATTER", type := (.object "java/util/function/BiFunction"), accessFlags := 25, slot := 0, constantValue := 0 }, { name := "AIOOBE_FORMATTER", type := (.object "java/util/function/BiFunction"), accessFlags := 25, slot := 1, constantValue := 0 }, { name := "IOOBE_FORMATTER", type := (.object "java/util/function/BiFunction"), accessFlags := 25, slot := 2, constantValue := 0 }]
  methods := #[k32m0]
  instanceTypes := #[]
  staticTypes := #[(.object "java/util/function/BiFunction"), (.object "java/util/function/BiFunction"), (.object "java/util/function/BiFunction")]
  resolved := Array.replicate 194 none
  statics := some 4 }

def pool33 : Array CpInfo := pool [(9, u "<init>"), (6, .class_ 18), (1, u "java/lang/Object"), (0, u "()V"), (1, .class_ 23), (1, u "jdk/internal/util/ArraysSupport"), (0, u "LOG2_ARRAY_LONG_INDEX_SCALE"), (0, u "I"), (2, u "U"), (0, u "Ljdk/internal/misc/Unsafe;"), (8, u "BIG_ENDIAN"), (0, u "Z"), (8, u "LOG2_BYTE_BIT_SIZE"), (4, u "LOG2_ARRAY_INT_INDEX_SCALE"), (54, u "JLA"), (0, u "Ljdk/internal/access/JavaLangAccess;"), (11, u "LOG2_ARRAY_BOOLEAN_INDEX_SCALE"), (9, u "LOG2_ARRAY_BYTE_INDEX_SCALE"), (5, u "LOG2_ARRAY_CHAR_INDEX_SCALE"), (5, u "LOG2_ARRAY_SHORT_INDEX_SCALE"), (18, u "LOG2_ARRAY_FLOAT_INDEX_SCALE"), (24, u "LOG2_ARRAY_DOUBLE_INDEX_SCALE"), (89, u "T_BOOLEAN"), (2, u "T_CHAR"), (1, u "T_FLOAT"), (1, u "T_DOUBLE"), (1, u "T_BYTE"), (1, u "T_SHORT"), (1, u "T_INT"), (1, u "T_LONG"), (1, u "SOFT_MAX_ARRAY_LENGTH")] 83

def k33m0 : Method := { name := "<init>", desc := "()V", sig := { parameters := [], returnType := none }, accessFlags := 2, code := none }
/-- jdk/internal/util/ArraysSupport -/
def k33 : Class := { plain "jdk/internal/util/ArraysSupport" (some 0) with
  accessFlags := 33
  interfaces := #[]
  cf := some (fileOf pool33 21 #[] #[{ accessFlags := 2, nameIndex := 9, descriptorIndex := 19, attributes := #[] }] 33 16 #[] #[{ accessFlags := 24, nameIndex := 28, descriptorIndex := 29, attributes := #[] }, { accessFlags := 26, nameIndex := 38, descriptorIndex := 39, attributes := #[] }, { accessFlags := 25, nameIndex := 121, descriptorIndex := 25, attributes := #[] }, { accessFlags := 25, nameIndex := 131, descriptorIndex := 25, attributes := #[] }, { accessFlags := 25, nameIndex := 137, descriptorIndex := 25, attributes := #[] }, { accessFlags := 25, nameIndex := 143, descriptorIndex := 25, attributes := #[] }, { accessFlags := 25, nameIndex := 53, descriptorIndex := 25, attributes := #[] }, { accessFlags := 25, nameIndex := 24, descriptorIndex := 25, attributes := #[] }, { accessFlags := 25, nameIndex := 162, descriptorIndex := 25, attributes := #[] }, { accessFlags := 25, nameIndex := 187, descriptorIndex := 25, attributes := #[] }, { accessFlags := 26, nameIndex := 48, descriptorIndex := 25, attributes := #[] }, { accessFlags := 25, nameIndex := 277, descriptorIndex := 25, attributes := #[] }, { accessFlags := 25, nameIndex := 280, descriptorIndex := 25, attributes := #[] }, { accessFlags := 25, nameIndex := 282, descriptorIndex := 25, attributes := #[] }, { accessFlags := 25, nameIndex := 284, descriptorIndex := 25, attributes := #[] }, { accessFlags := 25, nameIndex := 286, descriptorIndex := 25, attributes := #[] }, { accessFlags := 25, nameIndex := 288, descriptorIndex := 25, attributes := #[] }, { accessFlags := 25, nameIndex := 290, descriptorIndex := 25, attributes := #[] }, { accessFlags := 25, nameIndex := 292, descriptorIndex := 25, attributes := #[] }, { accessFlags := 26, nameIndex := 108, descriptorIndex := 109, attributes := #[] }, { accessFlags := 25, nameIndex := 294, descriptorIndex := 25, attributes := #[] }])
  fields := #[{ name := "U", type := (.object "jdk/internal/misc/Unsafe"), accessFlags := 24, slot := 0, constantValue := 0 }, { name := "BIG_ENDIAN", type := .boolean, accessFlags := 26, slot := 1, constantValue := 0 }, { name := "LOG2_ARRAY_BOOLEAN_INDEX_SCALE", type := .int, accessFlags := 25, slot := 2, constantValue := 0 }, { name := "LOG2_ARRAY_BYTE_INDEX_SCALE", type := .int, accessFlags := 25, slot := 3, constantValue := 0 }, { name := "LOG2_ARRAY_CHAR_INDEX_SCALE", type := .int, accessFlags := 25, slot := 4, constantValue := 0 }, { name := "LOG2_ARRAY_SHORT_INDEX_SCALE", type := .int, accessFlags := 25, slot := 5, constantValue := 0 }, { name := "LOG2_ARRAY_INT_INDEX_SCALE", type := .int, accessFlags := 25, slot := 6, constantValue := 0 }, { name := "LOG2_ARRAY_LONG_INDEX_SCALE", type := .int, accessFlags := 25, slot := 7, constantValue := 0 }, { name := "LOG2_ARRAY_FLOAT_INDEX_SCALE", type := .int, accessFlags := 25, slot := 8, constantValue := 0 }, { name := "LOG2_ARRAY_DOUBLE_INDEX_SCALE", type := .int, accessFlags := 25, slot := 9, constantValue := 0 }, { name := "LOG2_BYTE_BIT_SIZE", type := .int, accessFlags := 26, slot := 10, constantValue := 0 }, { name := "T_BOOLEAN", type := .int, accessFlags := 25, slot := 11, constantValue := 0 }, { name := "T_CHAR", type := .int, accessFlags := 25, slot := 12, constantValue := 0 }, { name := "T_FLOAT", type := .int, accessFlags := 25, slot := 13, constantValue := 0 }, { name := "T_DOUBLE", type := .int, accessFlags := 25, slot := 14, constantValue := 0 }, { name := "T_BYTE", type := .int, accessFlags := 25, slot := 15, constantValue := 0 }, { name := "T_SHORT", type := .int, accessFlags := 25, slot := 16, constantValue := 0 }, { name := "T_INT", type := .int, accessFlags := 25, slot := 17, constantValue := 0 }, { name := "T_LONG", type := .int, accessFlags := 25, slot := 18, constantValue := 0 }, { name := "JLA", type := (.object "jdk/internal/access/JavaLangAccess"), accessFlags := 26, slot := 19, constantValue := 0 }, { name := "SOFT_MAX_ARRAY_LENGTH", type := .int, accessFlags := 25, slot := 20, constantValue := 0 }]
  methods := #[k33m0]
  instanceTypes := #[]
  staticTypes := #[(.object "jdk/internal/misc/Unsafe"), .boolean, .int, .int, .int, .int, .int, .int, .int, .int, .int, .int, .int, .int, .int, .int, .int, .int, .int, (.object "jdk/internal/access/JavaLangAccess"), .int]
  resolved := Array.replicate 378 none
  statics := none }

def pool34 : Array CpInfo := pool [(1, u "java/lang/Class"), (0, .class_ 1), (0, u "java/lang/Object"), (0, .class_ 3)] 0

/-- java/lang/Class -/
def k34 : Class := { plain "java/lang/Class" (some 0) with
  accessFlags := 49
  interfaces := #[]
  cf := some (fileOf pool34 2 #[] #[] 49 4 #[] #[])
  fields := #[]
  methods := #[]
  instanceTypes := #[]
  staticTypes := #[]
  resolved := Array.replicate 5 none
  statics := none }

/-- the primitive byte -/
def k35 : Class := { plain "byte" none with kind := .primitive 'B', accessFlags := 0x411 }
/-- [B -/
def k36 : Class := { plain "[B" (some 0) with kind := .array 35 .byte, interfaces := #[18, 2], accessFlags := 1041 }

/-- the primitive char -/
def k37 : Class := { plain "char" none with kind := .primitive 'C', accessFlags := 0x411 }
/-- [C -/
def k38 : Class := { plain "[C" (some 0) with kind := .array 37 .char, interfaces := #[18, 2], accessFlags := 1041 }

/-- the primitive int -/
def k39 : Class := { plain "int" none with kind := .primitive 'I', accessFlags := 0x411 }
/-- [I -/
def k40 : Class := { plain "[I" (some 0) with kind := .array 39 .int, interfaces := #[18, 2], accessFlags := 1041 }

/-- [Ljava/lang/Object; -/
def k41 : Class := { plain "[Ljava/lang/Object;" (some 0) with kind := .array 0 (.object "java/lang/Object"), interfaces := #[18, 2], accessFlags := 1041, mirror := some 5 }

def heap : Heap := #[{ cls := 7, slots := #[.long 0, .int 1, .null, .int 0, .null, .int 0, .int 0], vm := .statics 7 },
  { cls := 10, slots := #[.ref 7, .null], vm := .statics 10 },
  { cls := 19, slots := #[.long 0, .int 0, .ref 9, .ref 10], vm := .statics 19 },
  { cls := 23, slots := #[.long 0, .int 0, .null, .ref 11, .ref 8, .null, .null, .null, .int 0, .int 1], vm := .statics 23 },
  { cls := 32, slots := #[.null, .null, .null], vm := .statics 32 },
  { cls := 34, slots := #[], vm := .mirror 41 },
  { cls := 41, slots := #[], vm := .none },
  { cls := 10, slots := #[.null, .null, .null], vm := .none },
  { cls := 27, slots := #[.ref 6, .int 0], vm := .none },
  { cls := 41, slots := #[], vm := .none },
  { cls := 41, slots := #[], vm := .none },
  { cls := 0, slots := #[], vm := .none }]
def classes : Array Class := #[k0, k1, k2, k3, k4, k5, k6, k7, k8, k9, k10, k11, k12, k13, k14, k15, k16, k17, k18, k19, k20, k21, k22, k23, k24, k25, k26, k27, k28, k29, k30, k31, k32, k33, k34, k35, k36, k37, k38, k39, k40, k41]
def interned : List (Array UInt16 × Addr) := []
def slotsUsed : Nat := 31
def theMethod : MethodId := ⟨1, 1⟩
def args0 : Array Value := #[.int 5, .int 5, .int 5]
def aboutOver (below : List Frame) : State where
  vm := { classes := classes, interned := interned.toArray }
  heap := heap
  slotsUsed := slotsUsed
  threads := #[{ frames := .invoking theMethod args0 :: below }]
def below0 : List Frame := [.native { method := ⟨0, 0⟩, args := #[] }]
def about1 : State := aboutOver below0
def p0 : Program := .bare "" "" ""
def e0 : Env := launch0.env 0 0 0
theorem w_frames : about1.frames = Frame.invoking theMethod args0 :: below0 := rfl
set_option maxRecDepth 65536 in
theorem w_args : argsFit about1.vm theMethod args0 = true := by decide +kernel
set_option maxRecDepth 65536 in
theorem w_heap : heapFits about1 = true := by decide +kernel
set_option maxRecDepth 65536 in
theorem w_runnable : about1.curStatus? = some .runnable := by decide +kernel
set_option maxRecDepth 65536 in
theorem w_alone : about1.alone = true := by decide +kernel
set_option maxRecDepth 65536 in
theorem w_named : about1.methodNamed? x = some theMethod := by decide +kernel
set_option maxRecDepth 65536 in
theorem w_hears : about1.hears theMethod below0 = true := by decide +kernel
set_option maxRecDepth 65536 in
theorem w_ripe : about1.ripe theMethod args0 below0 = true := by decide +kernel
theorem w_running : about1.status = .running := rfl
set_option maxRecDepth 65536 in
theorem w_room : about1.hasRoom e0.platform room_1 = true :=
  launch0.hasRoom_least _ room_1 (by decide +kernel) (by decide +kernel) (by decide +kernel) (by decide +kernel) (by decide +kernel) (by decide +kernel)
theorem allAtoms_all (ts : List Jvm.Cond) (a : Array Jvm.Value) (st : Jvm.State) : (allAtoms ts).before a st = ts.all (fun c => c.before a st) := by
  induction ts with
  | nil => rfl
  | cons c t ih =>
    show (Jvm.Cond.and c (allAtoms t)).before a st = _
    rw [Jvm.Cond.before_and, ih, List.all_cons]
def words1 : List Jvm.Cond := Jvm.Cond.code x code maxLocals ret :: tables_1
/-- a 'code' word, met by the world's own term for the bytes: nothing is compared byte by byte -/
theorem code_word {y : MethodName} {bytes : ByteArray} {mx : Nat} {rt : Option FieldType} {a : Array Value} {s : State} {m : MethodId} {meth : Method} {c : Code} (h1 : s.methodNamed? y = some m) (h2 : s.vm.method? m = some meth) (h3 : meth.code = some c) (h4 : c.code = bytes)
    (h5 : (c.maxLocals == mx && c.exceptionTable.isEmpty && decide (c.maxStack ≤ mostOperands) && decide (meth.sig.returnType = rt) && !meth.locks && decide (parseMethodDescriptor y.desc = some meth.sig)) = true) : (Jvm.Cond.code y bytes mx rt).before a s = true := by
  simp only [Bool.and_eq_true, beq_iff_eq, Bool.not_eq_true', decide_eq_true_eq] at h5
  obtain ⟨⟨⟨⟨⟨g1, g2⟩, g3⟩, g4⟩, g5⟩, g6⟩ := h5
  simp [Cond.before, Cond.holds, Cond.value, h1, h2, h3, h4, g1, g2, g3, g4, g5, g6]
def isCode : Jvm.Cond → Bool
  | .code _ _ _ _ => true
  | _ => false
theorem all_split {L : List Jvm.Cond} {P : Jvm.Cond → Bool} (h1 : L.all (fun c => isCode c || P c) = true) (h2 : ∀ c ∈ L.filter isCode, P c = true) : L.all P = true := by
  refine List.all_eq_true.mpr fun c hc => ?_
  have h := List.all_eq_true.mp h1 c hc
  rcases Bool.eq_false_or_eq_true (isCode c) with hi | hi
  · exact h2 c (List.mem_filter.mpr ⟨hc, hi⟩)
  · simpa [hi] using h
set_option maxRecDepth 65536 in
theorem w_c0 : (Jvm.Cond.code x code maxLocals ret).before args0 about1 = true := code_word (m := ⟨1, 1⟩) (meth := k1m1) (c := k1c1) (by decide +kernel) rfl rfl rfl (by decide +kernel)
set_option maxRecDepth 65536 in
theorem w_c1 : (Jvm.Cond.code ({ cls := "java/lang/String", name := "<init>", desc := "([C)V" } : Jvm.MethodName) jdk_42_method_3_code (2 : Nat) (Option.none : Option Jvm.ClassFile.FieldType)).before args0 about1 = true := code_word (m := ⟨7, 1⟩) (meth := k7m1) (c := k7c1) (by decide +kernel) rfl rfl rfl (by decide +kernel)
set_option maxRecDepth 65536 in
theorem w_c2 : (Jvm.Cond.code ({ cls := "java/lang/String", name := "<init>", desc := "([CIILjava/lang/Void;)V" } : Jvm.MethodName) jdk_42_method_149_code (6 : Nat) (Option.none : Option Jvm.ClassFile.FieldType)).before args0 about1 = true := code_word (m := ⟨7, 3⟩) (meth := k7m3) (c := k7c3) (by decide +kernel) rfl rfl rfl (by decide +kernel)
set_option maxRecDepth 65536 in
theorem w_c3 : (Jvm.Cond.code ({ cls := "java/lang/Object", name := "<init>", desc := "()V" } : Jvm.MethodName) object_method_1_code (1 : Nat) (Option.none : Option Jvm.ClassFile.FieldType)).before args0 about1 = true := code_word (m := ⟨0, 0⟩) (meth := k0m0) (c := k0c0) (by decide +kernel) rfl rfl rfl (by decide +kernel)
set_option maxRecDepth 65536 in
theorem w_c4 : (Jvm.Cond.code ({ cls := "java/lang/StringUTF16", name := "compress", desc := "([CII)[B" } : Jvm.MethodName) jdk_52_method_16_code (6 : Nat) (Option.some (Jvm.ClassFile.FieldType.array Jvm.ClassFile.FieldType.byte))).before args0 about1 = true := code_word (m := ⟨8, 2⟩) (meth := k8m2) (c := k8c2) (by decide +kernel) rfl rfl rfl (by decide +kernel)
set_option maxRecDepth 65536 in
theorem w_c5 : (Jvm.Cond.code ({ cls := "java/lang/StringUTF16", name := "compress", desc := "([CI[BII)I" } : Jvm.MethodName) jdk_52_method_21_code (7 : Nat) (Option.some Jvm.ClassFile.FieldType.int)).before args0 about1 = true := code_word (m := ⟨8, 3⟩) (meth := k8m3) (c := k8c3) (by decide +kernel) rfl rfl rfl (by decide +kernel)
set_option maxRecDepth 65536 in
theorem w_c6 : (Jvm.Cond.code ({ cls := "java/lang/StringUTF16", name := "coderFromArrayLen", desc := "([BI)B" } : Jvm.MethodName) jdk_52_method_15_code (2 : Nat) (Option.some Jvm.ClassFile.FieldType.byte)).before args0 about1 = true := code_word (m := ⟨8, 1⟩) (meth := k8m1) (c := k8c1) (by decide +kernel) rfl rfl rfl (by decide +kernel)
set_option maxRecDepth 65536 in
theorem w_c7 : (Jvm.Cond.code ({ cls := "java/lang/String", name := "valueOf", desc := "(C)Ljava/lang/String;" } : Jvm.MethodName) jdk_42_method_139_code (1 : Nat) (Option.some (Jvm.ClassFile.FieldType.object "java/lang/String"))).before args0 about1 = true := code_word (m := ⟨7, 2⟩) (meth := k7m2) (c := k7c2) (by decide +kernel) rfl rfl rfl (by decide +kernel)
set_option maxRecDepth 65536 in
theorem w_c8 : (Jvm.Cond.code ({ cls := "java/lang/StringLatin1", name := "canEncode", desc := "(C)Z" } : Jvm.MethodName) jdk_43_method_3_code (1 : Nat) (Option.some Jvm.ClassFile.FieldType.boolean)).before args0 about1 = true := code_word (m := ⟨9, 1⟩) (meth := k9m1) (c := k9c1) (by decide +kernel) rfl rfl rfl (by decide +kernel)
set_option maxRecDepth 65536 in
theorem w_c9 : (Jvm.Cond.code ({ cls := "java/lang/StringLatin1", name := "toBytes", desc := "(C)[B" } : Jvm.MethodName) jdk_43_method_46_code (1 : Nat) (Option.some (Jvm.ClassFile.FieldType.array Jvm.ClassFile.FieldType.byte))).before args0 about1 = true := code_word (m := ⟨9, 2⟩) (meth := k9m2) (c := k9c2) (by decide +kernel) rfl rfl rfl (by decide +kernel)
set_option maxRecDepth 65536 in
theorem w_c10 : (Jvm.Cond.code ({ cls := "java/lang/String", name := "<init>", desc := "([BB)V" } : Jvm.MethodName) jdk_42_method_151_code (3 : Nat) (Option.none : Option Jvm.ClassFile.FieldType)).before args0 about1 = true := code_word (m := ⟨7, 4⟩) (meth := k7m4) (c := k7c4) (by decide +kernel) rfl rfl rfl (by decide +kernel)
set_option maxRecDepth 65536 in
theorem w_c11 : (Jvm.Cond.code ({ cls := "com/example/restoral/restoral/engine/Steps", name := "<init>", desc := "(Lcom/example/restoral/restoral/engine/RowName;Ljava/util/Map;)V" } : Jvm.MethodName) prog_26_method_1_code (3 : Nat) (Option.none : Option Jvm.ClassFile.FieldType)).before args0 about1 = true := code_word (m := ⟨10, 0⟩) (meth := k10m0) (c := k10c0) (by decide +kernel) rfl rfl rfl (by decide +kernel)
set_option maxRecDepth 65536 in
theorem w_c12 : (Jvm.Cond.code ({ cls := "com/example/restoral/restoral/engine/Steps", name := "on", desc := "()Z" } : Jvm.MethodName) prog_26_method_2_code (1 : Nat) (Option.some Jvm.ClassFile.FieldType.boolean)).before args0 about1 = true := code_word (m := ⟨10, 1⟩) (meth := k10m1) (c := k10c1) (by decide +kernel) rfl rfl rfl (by decide +kernel)
set_option maxRecDepth 65536 in
theorem w_c13 : (Jvm.Cond.code ({ cls := "com/example/restoral/restoral/engine/Steps", name := "fact", desc := "(Ljava/lang/String;Ljava/lang/Object;Ljava/lang/String;Ljava/lang/String;)Lcom/example/restoral/restoral/engine/Step;" } : Jvm.MethodName) prog_26_method_8_code (5 : Nat) (Option.some (Jvm.ClassFile.FieldType.object "com/example/restoral/restoral/engine/Step"))).before args0 about1 = true := code_word (m := ⟨10, 2⟩) (meth := k10m2) (c := k10c2) (by decide +kernel) rfl rfl rfl (by decide +kernel)
set_option maxRecDepth 65536 in
theorem w_c14 : (Jvm.Cond.code ({ cls := "com/example/restoral/restoral/engine/Steps", name := "taken", desc := "(Lcom/example/restoral/restoral/engine/Step;)Lcom/example/restoral/restoral/engine/Step;" } : Jvm.MethodName) prog_26_method_13_code (2 : Nat) (Option.some (Jvm.ClassFile.FieldType.object "com/example/restoral/restoral/engine/Step"))).before args0 about1 = true := code_word (m := ⟨10, 4⟩) (meth := k10m4) (c := k10c4) (by decide +kernel) rfl rfl rfl (by decide +kernel)
set_option maxRecDepth 65536 in
theorem w_c15 : (Jvm.Cond.code ({ cls := "com/example/restoral/restoral/engine/Steps", name := "last", desc := "()Lcom/example/restoral/restoral/engine/Step;" } : Jvm.MethodName) prog_26_method_12_code (1 : Nat) (Option.some (Jvm.ClassFile.FieldType.object "com/example/restoral/restoral/engine/Step"))).before args0 about1 = true := code_word (m := ⟨10, 3⟩) (meth := k10m3) (c := k10c3) (by decide +kernel) rfl rfl rfl (by decide +kernel)
set_option maxRecDepth 65536 in
theorem w_c16 : (Jvm.Cond.code ({ cls := "java/util/ArrayList", name := "<init>", desc := "()V" } : Jvm.MethodName) jdk_38_method_2_code (1 : Nat) (Option.none : Option Jvm.ClassFile.FieldType)).before args0 about1 = true := code_word (m := ⟨19, 0⟩) (meth := k19m0) (c := k19c0) (by decide +kernel) rfl rfl rfl (by decide +kernel)
set_option maxRecDepth 65536 in
theorem w_c17 : (Jvm.Cond.code ({ cls := "java/util/AbstractList", name := "<init>", desc := "()V" } : Jvm.MethodName) jdk_39_method_1_code (1 : Nat) (Option.none : Option Jvm.ClassFile.FieldType)).before args0 about1 = true := code_word (m := ⟨16, 0⟩) (meth := k16m0) (c := k16c0) (by decide +kernel) rfl rfl rfl (by decide +kernel)
set_option maxRecDepth 65536 in
theorem w_c18 : (Jvm.Cond.code ({ cls := "java/util/AbstractCollection", name := "<init>", desc := "()V" } : Jvm.MethodName) jdk_22_method_1_code (1 : Nat) (Option.none : Option Jvm.ClassFile.FieldType)).before args0 about1 = true := code_word (m := ⟨13, 0⟩) (meth := k13m0) (c := k13c0) (by decide +kernel) rfl rfl rfl (by decide +kernel)
set_option maxRecDepth 65536 in
theorem w_c19 : (Jvm.Cond.code ({ cls := "java/util/ArrayList", name := "add", desc := "(Ljava/lang/Object;)Z" } : Jvm.MethodName) jdk_38_method_25_code (2 : Nat) (Option.some Jvm.ClassFile.FieldType.boolean)).before args0 about1 = true := code_word (m := ⟨19, 6⟩) (meth := k19m6) (c := k19c6) (by decide +kernel) rfl rfl rfl (by decide +kernel)
set_option maxRecDepth 65536 in
theorem w_c20 : (Jvm.Cond.code ({ cls := "java/util/ArrayList", name := "add", desc := "(Ljava/lang/Object;[Ljava/lang/Object;I)V" } : Jvm.MethodName) jdk_38_method_24_code (4 : Nat) (Option.none : Option Jvm.ClassFile.FieldType)).before args0 about1 = true := code_word (m := ⟨19, 5⟩) (meth := k19m5) (c := k19c5) (by decide +kernel) rfl rfl rfl (by decide +kernel)
set_option maxRecDepth 65536 in
theorem w_c21 : (Jvm.Cond.code ({ cls := "java/util/ArrayList", name := "grow", desc := "()[Ljava/lang/Object;" } : Jvm.MethodName) jdk_38_method_7_code (1 : Nat) (Option.some (Jvm.ClassFile.FieldType.array (Jvm.ClassFile.FieldType.object "java/lang/Object")))).before args0 about1 = true := code_word (m := ⟨19, 2⟩) (meth := k19m2) (c := k19c2) (by decide +kernel) rfl rfl rfl (by decide +kernel)
set_option maxRecDepth 65536 in
theorem w_c22 : (Jvm.Cond.code ({ cls := "java/util/ArrayList", name := "grow", desc := "(I)[Ljava/lang/Object;" } : Jvm.MethodName) jdk_38_method_6_code (4 : Nat) (Option.some (Jvm.ClassFile.FieldType.array (Jvm.ClassFile.FieldType.object "java/lang/Object")))).before args0 about1 = true := code_word (m := ⟨19, 1⟩) (meth := k19m1) (c := k19c1) (by decide +kernel) rfl rfl rfl (by decide +kernel)
set_option maxRecDepth 65536 in
theorem w_c23 : (Jvm.Cond.code ({ cls := "java/lang/Math", name := "max", desc := "(II)I" } : Jvm.MethodName) jdk_29_method_65_code (2 : Nat) (Option.some Jvm.ClassFile.FieldType.int)).before args0 about1 = true := code_word (m := ⟨20, 1⟩) (meth := k20m1) (c := k20c1) (by decide +kernel) rfl rfl rfl (by decide +kernel)
set_option maxRecDepth 65536 in
theorem w_c24 : (Jvm.Cond.code ({ cls := "com/example/restoral/restoral/engine/RowName", name := "<init>", desc := "(Ljava/lang/String;Ljava/util/List;)V" } : Jvm.MethodName) prog_21_method_1_code (3 : Nat) (Option.none : Option Jvm.ClassFile.FieldType)).before args0 about1 = true := code_word (m := ⟨22, 0⟩) (meth := k22m0) (c := k22c0) (by decide +kernel) rfl rfl rfl (by decide +kernel)
set_option maxRecDepth 65536 in
theorem w_c25 : (Jvm.Cond.code ({ cls := "java/lang/Record", name := "<init>", desc := "()V" } : Jvm.MethodName) jdk_30_method_1_code (1 : Nat) (Option.none : Option Jvm.ClassFile.FieldType)).before args0 about1 = true := code_word (m := ⟨21, 0⟩) (meth := k21m0) (c := k21c0) (by decide +kernel) rfl rfl rfl (by decide +kernel)
set_option maxRecDepth 65536 in
theorem w_c26 : (Jvm.Cond.code ({ cls := "java/util/List", name := "copyOf", desc := "(Ljava/util/Collection;)Ljava/util/List;" } : Jvm.MethodName) jdk_40_method_48_code (1 : Nat) (Option.some (Jvm.ClassFile.FieldType.object "java/util/List"))).before args0 about1 = true := code_word (m := ⟨15, 2⟩) (meth := k15m2) (c := k15c2) (by decide +kernel) rfl rfl rfl (by decide +kernel)
set_option maxRecDepth 65536 in
theorem w_c27 : (Jvm.Cond.code ({ cls := "java/util/ImmutableCollections", name := "listCopy", desc := "(Ljava/util/Collection;)Ljava/util/List;" } : Jvm.MethodName) jdk_56_method_3_code (2 : Nat) (Option.some (Jvm.ClassFile.FieldType.object "java/util/List"))).before args0 about1 = true := code_word (m := ⟨23, 1⟩) (meth := k23m1) (c := k23c1) (by decide +kernel) rfl rfl rfl (by decide +kernel)
set_option maxRecDepth 65536 in
theorem w_c28 : (Jvm.Cond.code ({ cls := "java/util/ArrayList", name := "isEmpty", desc := "()Z" } : Jvm.MethodName) jdk_38_method_9_code (1 : Nat) (Option.some Jvm.ClassFile.FieldType.boolean)).before args0 about1 = true := code_word (m := ⟨19, 3⟩) (meth := k19m3) (c := k19c3) (by decide +kernel) rfl rfl rfl (by decide +kernel)
set_option maxRecDepth 65536 in
theorem w_c29 : (Jvm.Cond.code ({ cls := "java/util/ArrayList", name := "toArray", desc := "()[Ljava/lang/Object;" } : Jvm.MethodName) jdk_38_method_16_code (1 : Nat) (Option.some (Jvm.ClassFile.FieldType.array (Jvm.ClassFile.FieldType.object "java/lang/Object")))).before args0 about1 = true := code_word (m := ⟨19, 4⟩) (meth := k19m4) (c := k19c4) (by decide +kernel) rfl rfl rfl (by decide +kernel)
set_option maxRecDepth 65536 in
theorem w_c30 : (Jvm.Cond.code ({ cls := "java/util/Arrays", name := "copyOf", desc := "([Ljava/lang/Object;I)[Ljava/lang/Object;" } : Jvm.MethodName) jdk_65_method_119_code (2 : Nat) (Option.some (Jvm.ClassFile.FieldType.array (Jvm.ClassFile.FieldType.object "java/lang/Object")))).before args0 about1 = true := code_word (m := ⟨28, 1⟩) (meth := k28m1) (c := k28c1) (by decide +kernel) rfl rfl rfl (by decide +kernel)
set_option maxRecDepth 65536 in
theorem w_c31 : (Jvm.Cond.code ({ cls := "java/util/Arrays", name := "copyOf", desc := "([Ljava/lang/Object;ILjava/lang/Class;)[Ljava/lang/Object;" } : Jvm.MethodName) jdk_65_method_120_code (4 : Nat) (Option.some (Jvm.ClassFile.FieldType.array (Jvm.ClassFile.FieldType.object "java/lang/Object")))).before args0 about1 = true := code_word (m := ⟨28, 2⟩) (meth := k28m2) (c := k28c2) (by decide +kernel) rfl rfl rfl (by decide +kernel)
set_option maxRecDepth 65536 in
theorem w_c32 : (Jvm.Cond.code ({ cls := "java/lang/Math", name := "min", desc := "(II)I" } : Jvm.MethodName) jdk_29_method_69_code (2 : Nat) (Option.some Jvm.ClassFile.FieldType.int)).before args0 about1 = true := code_word (m := ⟨20, 2⟩) (meth := k20m2) (c := k20c2) (by decide +kernel) rfl rfl rfl (by decide +kernel)
set_option maxRecDepth 65536 in
theorem w_c33 : (Jvm.Cond.code ({ cls := "java/util/List", name := "of", desc := "([Ljava/lang/Object;)Ljava/util/List;" } : Jvm.MethodName) jdk_40_method_47_code (2 : Nat) (Option.some (Jvm.ClassFile.FieldType.object "java/util/List"))).before args0 about1 = true := code_word (m := ⟨15, 1⟩) (meth := k15m1) (c := k15c1) (by decide +kernel) rfl rfl rfl (by decide +kernel)
set_option maxRecDepth 65536 in
theorem w_c34 : (Jvm.Cond.code ({ cls := "java/util/ImmutableCollections$List12", name := "<init>", desc := "(Ljava/lang/Object;)V" } : Jvm.MethodName) jdk_44_method_1_code (2 : Nat) (Option.none : Option Jvm.ClassFile.FieldType)).before args0 about1 = true := code_word (m := ⟨26, 0⟩) (meth := k26m0) (c := k26c0) (by decide +kernel) rfl rfl rfl (by decide +kernel)
set_option maxRecDepth 65536 in
theorem w_c35 : (Jvm.Cond.code ({ cls := "java/util/ImmutableCollections$AbstractImmutableList", name := "<init>", desc := "()V" } : Jvm.MethodName) jdk_46_method_1_code (1 : Nat) (Option.none : Option Jvm.ClassFile.FieldType)).before args0 about1 = true := code_word (m := ⟨25, 0⟩) (meth := k25m0) (c := k25c0) (by decide +kernel) rfl rfl rfl (by decide +kernel)
set_option maxRecDepth 65536 in
theorem w_c36 : (Jvm.Cond.code ({ cls := "java/util/ImmutableCollections$AbstractImmutableCollection", name := "<init>", desc := "()V" } : Jvm.MethodName) jdk_47_method_1_code (1 : Nat) (Option.none : Option Jvm.ClassFile.FieldType)).before args0 about1 = true := code_word (m := ⟨24, 0⟩) (meth := k24m0) (c := k24c0) (by decide +kernel) rfl rfl rfl (by decide +kernel)
set_option maxRecDepth 65536 in
theorem w_c37 : (Jvm.Cond.code ({ cls := "java/util/Objects", name := "requireNonNull", desc := "(Ljava/lang/Object;)Ljava/lang/Object;" } : Jvm.MethodName) jdk_31_method_10_code (1 : Nat) (Option.some (Jvm.ClassFile.FieldType.object "java/lang/Object"))).before args0 about1 = true := code_word (m := ⟨30, 1⟩) (meth := k30m1) (c := k30c1) (by decide +kernel) rfl rfl rfl (by decide +kernel)
set_option maxRecDepth 65536 in
theorem w_c38 : (Jvm.Cond.code ({ cls := "java/util/List", name := "of", desc := "()Ljava/util/List;" } : Jvm.MethodName) jdk_40_method_36_code (0 : Nat) (Option.some (Jvm.ClassFile.FieldType.object "java/util/List"))).before args0 about1 = true := code_word (m := ⟨15, 0⟩) (meth := k15m0) (c := k15c0) (by decide +kernel) rfl rfl rfl (by decide +kernel)
set_option maxRecDepth 65536 in
theorem w_c39 : (Jvm.Cond.code ({ cls := "com/example/restoral/restoral/engine/Step", name := "<init>", desc := "(Lcom/example/restoral/restoral/engine/RowName;Ljava/lang/String;Ljava/lang/Object;Ljava/lang/String;Ljava/lang/String;Ljava/lang/String;Ljava/util/List;Lcom/example/restoral/restoral/engine/RowName;Ljava/lang/String;)V" } : Jvm.MethodName) prog_25_method_1_code (10 : Nat) (Option.none : Option Jvm.ClassFile.FieldType)).before args0 about1 = true := code_word (m := ⟨31, 0⟩) (meth := k31m0) (c := k31c0) (by decide +kernel) rfl rfl rfl (by decide +kernel)
set_option maxRecDepth 65536 in
theorem w_c40 : (Jvm.Cond.code ({ cls := "com/example/restoral/restoral/engine/Step", name := "owner", desc := "()Lcom/example/restoral/restoral/engine/RowName;" } : Jvm.MethodName) prog_25_method_2_code (1 : Nat) (Option.some (Jvm.ClassFile.FieldType.object "com/example/restoral/restoral/engine/RowName"))).before args0 about1 = true := code_word (m := ⟨31, 1⟩) (meth := k31m1) (c := k31c1) (by decide +kernel) rfl rfl rfl (by decide +kernel)
def codes1 : List Jvm.Cond := [Jvm.Cond.code x code maxLocals ret, Jvm.Cond.code ({ cls := "java/lang/String", name := "<init>", desc := "([C)V" } : Jvm.MethodName) jdk_42_method_3_code (2 : Nat) (Option.none : Option Jvm.ClassFile.FieldType), Jvm.Cond.code ({ cls := "java/lang/String", name := "<init>", desc := "([CIILjava/lang/Void;)V" } : Jvm.MethodName) jdk_42_method_149_code (6 : Nat) (Option.none : Option Jvm.ClassFile.FieldType), Jvm.Cond.code ({ cls := "java/lang/Object", name := "<init>", desc := "()V" } : Jvm.MethodName) object_method_1_code (1 : Nat) (Option.none : Option Jvm.ClassFile.FieldType), Jvm.Cond.code ({ cls := "java/lang/StringUTF16", name := "compress", desc := "([CII)[B" } : Jvm.MethodName) jdk_52_method_16_code (6 : Nat) (Option.some (Jvm.ClassFile.FieldType.array Jvm.ClassFile.FieldType.byte)), Jvm.Cond.code ({ cls := "java/lang/StringUTF16", name := "compress", desc := "([CI[BII)I" } : Jvm.MethodName) jdk_52_method_21_code (7 : Nat) (Option.some Jvm.ClassFile.FieldType.int), Jvm.Cond.code ({ cls := "java/lang/StringUTF16", name := "coderFromArrayLen", desc := "([BI)B" } : Jvm.MethodName) jdk_52_method_15_code (2 : Nat) (Option.some Jvm.ClassFile.FieldType.byte), Jvm.Cond.code ({ cls := "java/lang/String", name := "valueOf", desc := "(C)Ljava/lang/String;" } : Jvm.MethodName) jdk_42_method_139_code (1 : Nat) (Option.some (Jvm.ClassFile.FieldType.object "java/lang/String")), Jvm.Cond.code ({ cls := "java/lang/StringLatin1", name := "canEncode", desc := "(C)Z" } : Jvm.MethodName) jdk_43_method_3_code (1 : Nat) (Option.some Jvm.ClassFile.FieldType.boolean), Jvm.Cond.code ({ cls := "java/lang/StringLatin1", name := "toBytes", desc := "(C)[B" } : Jvm.MethodName) jdk_43_method_46_code (1 : Nat) (Option.some (Jvm.ClassFile.FieldType.array Jvm.ClassFile.FieldType.byte)), Jvm.Cond.code ({ cls := "java/lang/String", name := "<init>", desc := "([BB)V" } : Jvm.MethodName) jdk_42_method_151_code (3 : Nat) (Option.none : Option Jvm.ClassFile.FieldType), Jvm.Cond.code ({ cls := "com/example/restoral/restoral/engine/Steps", name := "<init>", desc := "(Lcom/example/restoral/restoral/engine/RowName;Ljava/util/Map;)V" } : Jvm.MethodName) prog_26_method_1_code (3 : Nat) (Option.none : Option Jvm.ClassFile.FieldType), Jvm.Cond.code ({ cls := "com/example/restoral/restoral/engine/Steps", name := "on", desc := "()Z" } : Jvm.MethodName) prog_26_method_2_code (1 : Nat) (Option.some Jvm.ClassFile.FieldType.boolean), Jvm.Cond.code ({ cls := "com/example/restoral/restoral/engine/Steps", name := "fact", desc := "(Ljava/lang/String;Ljava/lang/Object;Ljava/lang/String;Ljava/lang/String;)Lcom/example/restoral/restoral/engine/Step;" } : Jvm.MethodName) prog_26_method_8_code (5 : Nat) (Option.some (Jvm.ClassFile.FieldType.object "com/example/restoral/restoral/engine/Step")), Jvm.Cond.code ({ cls := "com/example/restoral/restoral/engine/Steps", name := "taken", desc := "(Lcom/example/restoral/restoral/engine/Step;)Lcom/example/restoral/restoral/engine/Step;" } : Jvm.MethodName) prog_26_method_13_code (2 : Nat) (Option.some (Jvm.ClassFile.FieldType.object "com/example/restoral/restoral/engine/Step")), Jvm.Cond.code ({ cls := "com/example/restoral/restoral/engine/Steps", name := "last", desc := "()Lcom/example/restoral/restoral/engine/Step;" } : Jvm.MethodName) prog_26_method_12_code (1 : Nat) (Option.some (Jvm.ClassFile.FieldType.object "com/example/restoral/restoral/engine/Step")), Jvm.Cond.code ({ cls := "java/util/ArrayList", name := "<init>", desc := "()V" } : Jvm.MethodName) jdk_38_method_2_code (1 : Nat) (Option.none : Option Jvm.ClassFile.FieldType), Jvm.Cond.code ({ cls := "java/util/AbstractList", name := "<init>", desc := "()V" } : Jvm.MethodName) jdk_39_method_1_code (1 : Nat) (Option.none : Option Jvm.ClassFile.FieldType), Jvm.Cond.code ({ cls := "java/util/AbstractCollection", name := "<init>", desc := "()V" } : Jvm.MethodName) jdk_22_method_1_code (1 : Nat) (Option.none : Option Jvm.ClassFile.FieldType), Jvm.Cond.code ({ cls := "java/util/ArrayList", name := "add", desc := "(Ljava/lang/Object;)Z" } : Jvm.MethodName) jdk_38_method_25_code (2 : Nat) (Option.some Jvm.ClassFile.FieldType.boolean), Jvm.Cond.code ({ cls := "java/util/ArrayList", name := "add", desc := "(Ljava/lang/Object;[Ljava/lang/Object;I)V" } : Jvm.MethodName) jdk_38_method_24_code (4 : Nat) (Option.none : Option Jvm.ClassFile.FieldType), Jvm.Cond.code ({ cls := "java/util/ArrayList", name := "grow", desc := "()[Ljava/lang/Object;" } : Jvm.MethodName) jdk_38_method_7_code (1 : Nat) (Option.some (Jvm.ClassFile.FieldType.array (Jvm.ClassFile.FieldType.object "java/lang/Object"))), Jvm.Cond.code ({ cls := "java/util/ArrayList", name := "grow", desc := "(I)[Ljava/lang/Object;" } : Jvm.MethodName) jdk_38_method_6_code (4 : Nat) (Option.some (Jvm.ClassFile.FieldType.array (Jvm.ClassFile.FieldType.object "java/lang/Object"))), Jvm.Cond.code ({ cls := "java/lang/Math", name := "max", desc := "(II)I" } : Jvm.MethodName) jdk_29_method_65_code (2 : Nat) (Option.some Jvm.ClassFile.FieldType.int), Jvm.Cond.code ({ cls := "com/example/restoral/restoral/engine/RowName", name := "<init>", desc := "(Ljava/lang/String;Ljava/util/List;)V" } : Jvm.MethodName) prog_21_method_1_code (3 : Nat) (Option.none : Option Jvm.ClassFile.FieldType), Jvm.Cond.code ({ cls := "java/lang/Record", name := "<init>", desc := "()V" } : Jvm.MethodName) jdk_30_method_1_code (1 : Nat) (Option.none : Option Jvm.ClassFile.FieldType), Jvm.Cond.code ({ cls := "java/util/List", name := "copyOf", desc := "(Ljava/util/Collection;)Ljava/util/List;" } : Jvm.MethodName) jdk_40_method_48_code (1 : Nat) (Option.some (Jvm.ClassFile.FieldType.object "java/util/List")), Jvm.Cond.code ({ cls := "java/util/ImmutableCollections", name := "listCopy", desc := "(Ljava/util/Collection;)Ljava/util/List;" } : Jvm.MethodName) jdk_56_method_3_code (2 : Nat) (Option.some (Jvm.ClassFile.FieldType.object "java/util/List")), Jvm.Cond.code ({ cls := "java/util/ArrayList", name := "isEmpty", desc := "()Z" } : Jvm.MethodName) jdk_38_method_9_code (1 : Nat) (Option.some Jvm.ClassFile.FieldType.boolean), Jvm.Cond.code ({ cls := "java/util/ArrayList", name := "toArray", desc := "()[Ljava/lang/Object;" } : Jvm.MethodName) jdk_38_method_16_code (1 : Nat) (Option.some (Jvm.ClassFile.FieldType.array (Jvm.ClassFile.FieldType.object "java/lang/Object"))), Jvm.Cond.code ({ cls := "java/util/Arrays", name := "copyOf", desc := "([Ljava/lang/Object;I)[Ljava/lang/Object;" } : Jvm.MethodName) jdk_65_method_119_code (2 : Nat) (Option.some (Jvm.ClassFile.FieldType.array (Jvm.ClassFile.FieldType.object "java/lang/Object"))), Jvm.Cond.code ({ cls := "java/util/Arrays", name := "copyOf", desc := "([Ljava/lang/Object;ILjava/lang/Class;)[Ljava/lang/Object;" } : Jvm.MethodName) jdk_65_method_120_code (4 : Nat) (Option.some (Jvm.ClassFile.FieldType.array (Jvm.ClassFile.FieldType.object "java/lang/Object"))), Jvm.Cond.code ({ cls := "java/lang/Math", name := "min", desc := "(II)I" } : Jvm.MethodName) jdk_29_method_69_code (2 : Nat) (Option.some Jvm.ClassFile.FieldType.int), Jvm.Cond.code ({ cls := "java/util/List", name := "of", desc := "([Ljava/lang/Object;)Ljava/util/List;" } : Jvm.MethodName) jdk_40_method_47_code (2 : Nat) (Option.some (Jvm.ClassFile.FieldType.object "java/util/List")), Jvm.Cond.code ({ cls := "java/util/ImmutableCollections$List12", name := "<init>", desc := "(Ljava/lang/Object;)V" } : Jvm.MethodName) jdk_44_method_1_code (2 : Nat) (Option.none : Option Jvm.ClassFile.FieldType), Jvm.Cond.code ({ cls := "java/util/ImmutableCollections$AbstractImmutableList", name := "<init>", desc := "()V" } : Jvm.MethodName) jdk_46_method_1_code (1 : Nat) (Option.none : Option Jvm.ClassFile.FieldType), Jvm.Cond.code ({ cls := "java/util/ImmutableCollections$AbstractImmutableCollection", name := "<init>", desc := "()V" } : Jvm.MethodName) jdk_47_method_1_code (1 : Nat) (Option.none : Option Jvm.ClassFile.FieldType), Jvm.Cond.code ({ cls := "java/util/Objects", name := "requireNonNull", desc := "(Ljava/lang/Object;)Ljava/lang/Object;" } : Jvm.MethodName) jdk_31_method_10_code (1 : Nat) (Option.some (Jvm.ClassFile.FieldType.object "java/lang/Object")), Jvm.Cond.code ({ cls := "java/util/List", name := "of", desc := "()Ljava/util/List;" } : Jvm.MethodName) jdk_40_method_36_code (0 : Nat) (Option.some (Jvm.ClassFile.FieldType.object "java/util/List")), Jvm.Cond.code ({ cls := "com/example/restoral/restoral/engine/Step", name := "<init>", desc := "(Lcom/example/restoral/restoral/engine/RowName;Ljava/lang/String;Ljava/lang/Object;Ljava/lang/String;Ljava/lang/String;Ljava/lang/String;Ljava/util/List;Lcom/example/restoral/restoral/engine/RowName;Ljava/lang/String;)V" } : Jvm.MethodName) prog_25_method_1_code (10 : Nat) (Option.none : Option Jvm.ClassFile.FieldType), Jvm.Cond.code ({ cls := "com/example/restoral/restoral/engine/Step", name := "owner", desc := "()Lcom/example/restoral/restoral/engine/RowName;" } : Jvm.MethodName) prog_25_method_2_code (1 : Nat) (Option.some (Jvm.ClassFile.FieldType.object "com/example/restoral/restoral/engine/RowName"))]
set_option maxRecDepth 65536 in
theorem codes_eq : words1.filter isCode = codes1 := rfl
theorem w_codes : ∀ c ∈ words1.filter isCode, c.before args0 about1 = true := by
  rw [codes_eq]
  intro c hc
  simp only [codes1, List.mem_cons, List.not_mem_nil, or_false] at hc
  rcases hc with rfl | rfl | rfl | rfl | rfl | rfl | rfl | rfl | rfl | rfl | rfl | rfl | rfl | rfl | rfl | rfl | rfl | rfl | rfl | rfl | rfl | rfl | rfl | rfl | rfl | rfl | rfl | rfl | rfl | rfl | rfl | rfl | rfl | rfl | rfl | rfl | rfl | rfl | rfl | rfl | rfl
  · exact w_c0
  · exact w_c1
  · exact w_c2
  · exact w_c3
  · exact w_c4
  · exact w_c5
  · exact w_c6
  · exact w_c7
  · exact w_c8
  · exact w_c9
  · exact w_c10
  · exact w_c11
  · exact w_c12
  · exact w_c13
  · exact w_c14
  · exact w_c15
  · exact w_c16
  · exact w_c17
  · exact w_c18
  · exact w_c19
  · exact w_c20
  · exact w_c21
  · exact w_c22
  · exact w_c23
  · exact w_c24
  · exact w_c25
  · exact w_c26
  · exact w_c27
  · exact w_c28
  · exact w_c29
  · exact w_c30
  · exact w_c31
  · exact w_c32
  · exact w_c33
  · exact w_c34
  · exact w_c35
  · exact w_c36
  · exact w_c37
  · exact w_c38
  · exact w_c39
  · exact w_c40
set_option maxRecDepth 65536 in
theorem w_t1 : (words1.take 24).all (fun c => isCode c || c.before args0 about1) = true := by decide +kernel
set_option maxRecDepth 65536 in
theorem w_t2 : ((words1.drop 24).take 24).all (fun c => isCode c || c.before args0 about1) = true := by decide +kernel
set_option maxRecDepth 65536 in
theorem w_t3 : (((words1.drop 24).drop 24).take 24).all (fun c => isCode c || c.before args0 about1) = true := by decide +kernel
set_option maxRecDepth 65536 in
theorem w_t4 : ((((words1.drop 24).drop 24).drop 24).take 24).all (fun c => isCode c || c.before args0 about1) = true := by decide +kernel
set_option maxRecDepth 65536 in
theorem w_t5 : (((((words1.drop 24).drop 24).drop 24).drop 24).take 24).all (fun c => isCode c || c.before args0 about1) = true := by decide +kernel
set_option maxRecDepth 65536 in
theorem w_t6 : ((((((words1.drop 24).drop 24).drop 24).drop 24).drop 24).take 24).all (fun c => isCode c || c.before args0 about1) = true := by decide +kernel
set_option maxRecDepth 65536 in
theorem w_t7 : (((((((words1.drop 24).drop 24).drop 24).drop 24).drop 24).drop 24).take 24).all (fun c => isCode c || c.before args0 about1) = true := by decide +kernel
set_option maxRecDepth 65536 in
theorem w_t8 : ((((((((words1.drop 24).drop 24).drop 24).drop 24).drop 24).drop 24).drop 24).take 24).all (fun c => isCode c || c.before args0 about1) = true := by decide +kernel
set_option maxRecDepth 65536 in
theorem w_t9 : (((((((((words1.drop 24).drop 24).drop 24).drop 24).drop 24).drop 24).drop 24).drop 24).take 24).all (fun c => isCode c || c.before args0 about1) = true := by decide +kernel
set_option maxRecDepth 65536 in
theorem w_t10 : ((((((((((words1.drop 24).drop 24).drop 24).drop 24).drop 24).drop 24).drop 24).drop 24).drop 24).take 24).all (fun c => isCode c || c.before args0 about1) = true := by decide +kernel
set_option maxRecDepth 65536 in
theorem w_t11 : (((((((((((words1.drop 24).drop 24).drop 24).drop 24).drop 24).drop 24).drop 24).drop 24).drop 24).drop 24).take 24).all (fun c => isCode c || c.before args0 about1) = true := by decide +kernel
set_option maxRecDepth 65536 in
theorem w_t12 : (((((((((((words1.drop 24).drop 24).drop 24).drop 24).drop 24).drop 24).drop 24).drop 24).drop 24).drop 24).drop 24).all (fun c => isCode c || c.before args0 about1) = true := by decide +kernel
theorem w_tables : (allAtoms (Jvm.Cond.code x code maxLocals ret :: tables_1)).before args0 about1 = true := by
  rw [allAtoms_all]
  show words1.all (fun c => c.before args0 about1) = true
  refine all_split ?_ w_codes
  rw [← List.take_append_drop 24 words1, List.all_append, w_t1, ← List.take_append_drop 24 (words1.drop 24), List.all_append, w_t2, ← List.take_append_drop 24 ((words1.drop 24).drop 24), List.all_append, w_t3, ← List.take_append_drop 24 (((words1.drop 24).drop 24).drop 24), List.all_append, w_t4, ← List.take_append_drop 24 ((((words1.drop 24).drop 24).drop 24).drop 24), List.all_append, w_t5, ← List.take_append_drop 24 (((((words1.drop 24).drop 24).drop 24).drop 24).drop 24), List.all_append, w_t6, ← List.take_append_drop 24 ((((((words1.drop 24).drop 24).drop 24).drop 24).drop 24).drop 24), List.all_append, w_t7, ← List.take_append_drop 24 (((((((words1.drop 24).drop 24).drop 24).drop 24).drop 24).drop 24).drop 24), List.all_append, w_t8, ← List.take_append_drop 24 ((((((((words1.drop 24).drop 24).drop 24).drop 24).drop 24).drop 24).drop 24).drop 24), List.all_append, w_t9, ← List.take_append_drop 24 (((((((((words1.drop 24).drop 24).drop 24).drop 24).drop 24).drop 24).drop 24).drop 24).drop 24), List.all_append, w_t10, ← List.take_append_drop 24 ((((((((((words1.drop 24).drop 24).drop 24).drop 24).drop 24).drop 24).drop 24).drop 24).drop 24).drop 24), List.all_append, w_t11, w_t12]
  rfl
set_option maxRecDepth 65536 in
theorem w_rest : rest_1_c.before args0 about1 = true := by decide +kernel
set_option maxRecDepth 65536 in
theorem w_case : (Jvm.Cond.and given_1 narrow_1).before args0 about1 = true := by decide +kernel
theorem w_applies : (headSpec (Jvm.Cond.code x code maxLocals ret :: tables_1) room_1).applies x e0.platform about1 = true :=
  (Spec.applies_iff w_frames).mpr ⟨w_running, w_runnable, w_alone, w_named, w_hears, w_ripe, w_room, w_tables⟩
theorem atStart : AtStart classFile x code maxLocals ret World_1 tables_1 room_1 Calls_1 rest_1 Pre_1 launch0 p0 e0 about1 theMethod args0 below0 :=
  ⟨lists_1, trivial, launch0.admits_env _ _ _, launch0.least_env, fairChoices_fair.cas, fairChoices_fair.clock, w_frames, w_args, w_heap, w_applies, ⟨⟨41, k41, 5, by decide +kernel, rfl, rfl, _, rfl, rfl⟩, trivial⟩, w_rest, w_case⟩
end start1
theorem witness_1 : WitnessClaimed_1 := ⟨start1.p0, start1.e0, start1.about1, start1.theMethod, start1.args0, start1.below0, start1.atStart⟩
end Jvm.Pilot.@@N@@
