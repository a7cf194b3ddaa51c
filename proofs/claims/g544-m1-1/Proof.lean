import JvmDerived
import JvmDerived.Pilot.@@N@@Statement
import JvmDerived.Pilot.@@N@@Code
set_option linter.unusedVariables false
set_option linter.unusedSimpArgs false
namespace Jvm.RoadKit
open Sem ClassFile Op Lib Jvm.Stand Jvm.Free Jvm.LawKit
section Own
variable {p : Program} {l : Launch} {e : Env} {R : Room} {s : State} {m : MethodId} {args : Array Value} {below : List Frame} {meth : Method} {c : Code} {T T' : State} {locs : List Loc} {cells slots : Nat} {Z : State} {a0 : Array Value} {h : Heap} {Φ : State → Prop} {g g' : JFrame} {Q : Option Value → Heap → List Loc → Prop} {kc ks pc : Nat} {Ls : Array Slot} {st rest : List Value}
/-- from the frame g of T the run comes to a state of which Φ holds -/
def own_Go (p : Program) (e : Env) (below : List Frame) (Φ : State → Prop) (T : State) (g : JFrame) : Prop := ∃ t, Steps p.tables e below (T.setTop g) t ∧ Φ t
theorem own_k (st : ∀ t, Steps p.tables e below (T'.setTop g') t → Steps p.tables e below (T.setTop g) t) (k : own_Go p e below Φ T' g') : own_Go p e below Φ T g := by
  obtain ⟨t, h1, h2⟩ := k
  exact ⟨t, st t h1, h2⟩
theorem own_s (st : Steps p.tables e below (T.setTop g) (T'.setTop g')) (k : own_Go p e below Φ T' g') : own_Go p e below Φ T g := by
  obtain ⟨t, h1, h2⟩ := k
  exact ⟨t, st.trans h1, h2⟩
def own_Fin (s : State) (below : List Frame) (Q : Option Value → Heap → List Loc → Prop) (kc ks : Nat) (t : State) : Prop := t.status = .running ∧ ∃ v L, Ended t below (.returned v) ∧ Q v t.heap L ∧ FrameEnd s (.returned v) t L kc ks
def own_Met (l : Launch) (Z : State) (y : MethodName) (bytes : ByteArray) (maxL : Nat) (ret : Option FieldType) (rm : Room) (av : Array Value) (h : Heap) (Q : Option Value → Heap → List Loc → Prop) : Prop :=
  ∀ ws : List Jvm.Cond, MetFree l y (head1 (Cond.code y bytes maxL ret :: ws) rm) (fun a U => a = av ∧ Z.Warmed39 U.vm ∧ U.heap = h) (fun _ _ _ _ _ => True) (fun _ U o U' => ∃ v L, o = .returned v ∧ Q v U'.heap L ∧ FrameEnd U o U' L rm.cells rm.slots)
theorem own_met {y : MethodName} {bytes : ByteArray} {maxL : Nat} {ret : Option FieldType} {rm : Room} {av : Array Value} (hpl : plainFor y = true)
    (body : ∀ (p : Program) (e : Env) (s : State) (m : MethodId) (below : List Frame) (meth : Method) (c : Code) (s₁ : State) (Φ : State → Prop), (∀ t, own_Fin s below Q rm.cells rm.slots t → Φ t) → Stand p l e rm s m av below meth c s₁ [] 0 0 → p.tables.exec = Jvm.exec → c.code = bytes → c.maxLocals = maxL → Z.Warmed39 s.vm → s.vm.findClass y.cls = some m.cls → meth.name = y.name → meth.sig.returnType = ret → meth.locks = false → s₁.heap = h →
      own_Go p e below Φ s₁ (entryFrame m av maxL)) : own_Met l Z y bytes maxL ret rm av h Q := by
  intro ws
  refine MetFree.of_bodySF hpl hisR ?_
  intro p e s m args below meth c s₁ Bd hml hP hK
  obtain ⟨rfl, hZ, hh⟩ := hP
  obtain ⟨t, h1, hrun, v, L, h2, h3, h4⟩ := body p e s m below meth c s₁ (own_Fin s below Q rm.cells rm.slots) (fun _ q => q) (Stand.of_body Bd) Bd.exec Bd.bytes hml hZ (findClass_of_methodNamed Bd.named) (name_of_methodNamed Bd.named Bd.method).1 Bd.returns Bd.notSynchronized (by rw [← hh, Bd.state]; rfl)
  exact ⟨t, _, h1, hrun, h2, v, L, rfl, h3, h4⟩
theorem own_fin {v : Option Value} (X : Stand p l e R s m args below meth c T locs cells slots) (hv : meth.sig.returnType = none → v = none) (hlk : meth.locks = false)
    (hs : ∀ fs, (∀ (f : JFrame) (acts : List Action), f.method = m → f.locked = none → f.entered = [] → (doReturn e (T.setTop f) acts v).1 = T.setFrames fs) → Steps p.tables e below (T.setTop g) (T.setFrames fs))
    (hF : ∀ t, own_Fin s below Q kc ks t → Φ t) (hQ : Q v T.heap locs) (hk : cells ≤ kc) (hn : slots ≤ ks) : own_Go p e below Φ T g := by
  obtain ⟨fs, hr, hrun, hended, hW, hsame⟩ := X.leave (v := v) hv hlk
  exact ⟨T.setFrames fs, hs fs hr, hF _ ⟨hrun, v, locs, hended, hQ, ⟨_, rfl⟩, hW, hsame.mono hk hn⟩⟩
theorem own_retI (X : Stand p l e R s m args below meth c T locs cells slots) (hx : p.tables.exec = Jvm.exec) {z : Int32} (hret : meth.sig.returnType = some .int) (hlk : meth.locks = false) (hd : decode c.code pc = .ok (.ireturn, 1)) (hF : ∀ t, own_Fin s below Q kc ks t → Φ t) (hQ : Q (some (.int z)) T.heap locs) (hk : cells ≤ kc) (hn : slots ≤ ks) :
    own_Go p e below Φ T (mkF m pc Ls (.int z :: rest)) :=
  own_fin X (fun q => by rw [hret] at q; cases q) hlk (fun fs hr => retOut X hx hret (narrow_int z) (Or.inl ⟨rfl, Or.inl rfl, z, rfl⟩) hd hr) hF hQ hk hn
where narrow_int (z : Int32) : narrow .int (.int z) = .int z := rfl
theorem own_retN (X : Stand p l e R s m args below meth c T locs cells slots) (hx : p.tables.exec = Jvm.exec) {z : Int32} {t : FieldType} (hret : meth.sig.returnType = some t) (ht : t = .boolean ∨ t = .byte ∨ t = .char ∨ t = .short) (hlk : meth.locks = false) (hd : decode c.code pc = .ok (.ireturn, 1)) (hF : ∀ t, own_Fin s below Q kc ks t → Φ t) (hQ : Q (some (.int (nar t z))) T.heap locs) (hk : cells ≤ kc) (hn : slots ≤ ks) :
    own_Go p e below Φ T (mkF m pc Ls (.int z :: rest)) :=
  own_fin X (fun q => by rw [hret] at q; cases q) hlk (fun fs hr => retN X hx hret ht hd hr) hF hQ hk hn
theorem own_retA (X : Stand p l e R s m args below meth c T locs cells slots) (hx : p.tables.exec = Jvm.exec) {w : Value} {t : FieldType} (hret : meth.sig.returnType = some t) (ht : t.isReference = true) (hw : w.isRef = true) (hlk : meth.locks = false) (hd : decode c.code pc = .ok (.areturn, 1)) (hF : ∀ t, own_Fin s below Q kc ks t → Φ t) (hQ : Q (some w) T.heap locs) (hk : cells ≤ kc) (hn : slots ≤ ks) :
    own_Go p e below Φ T (mkF m pc Ls (w :: rest)) :=
  own_fin X (fun q => by rw [hret] at q; cases q) hlk (fun fs hr => retOut X hx hret (by cases t <;> cases w <;> first | rfl | cases ht | cases hw) (Or.inr (Or.inr (Or.inr (Or.inr ⟨rfl, ht, hw⟩)))) hd hr) hF hQ hk hn
theorem own_retJ (X : Stand p l e R s m args below meth c T locs cells slots) (hx : p.tables.exec = Jvm.exec) {z : Int64} (hret : meth.sig.returnType = some .long) (hlk : meth.locks = false) (hd : decode c.code pc = .ok (.lreturn, 1)) (hF : ∀ t, own_Fin s below Q kc ks t → Φ t) (hQ : Q (some (.long z)) T.heap locs) (hk : cells ≤ kc) (hn : slots ≤ ks) :
    own_Go p e below Φ T (mkF m pc Ls (.long z :: rest)) :=
  own_fin X (fun q => by rw [hret] at q; cases q) hlk (fun fs hr => retOut X hx hret rfl (Or.inr (Or.inl ⟨rfl, rfl, z, rfl⟩)) hd hr) hF hQ hk hn
theorem own_ret0 (X : Stand p l e R s m args below meth c T locs cells slots) (hx : p.tables.exec = Jvm.exec) (hret : meth.sig.returnType = none) (hlk : meth.locks = false) (hd : decode c.code pc = .ok (.return_, 1)) (hF : ∀ t, own_Fin s below Q kc ks t → Φ t) (hQ : Q none T.heap locs) (hk : cells ≤ kc) (hn : slots ≤ ks) :
    own_Go p e below Φ T (mkF m pc Ls []) :=
  own_fin X (fun _ => rfl) hlk (fun fs hr => X.returnOut hx hret hd hr) hF hQ hk hn
theorem own_back {y : MethodName} {bytes : ByteArray} {maxL : Nat} {ret : Option FieldType} {rm : Room} {len W : Nat} {av : Array Value} (hM : own_Met l Z y bytes maxL ret rm av h Q)
    (hZ : Z.Warmed39 s.vm) (wc : (Cond.code y bytes maxL ret).before a0 Z = true) (wz : (Cond.initialized y.cls).before a0 Z = true) (hf : rm.frames + 1 ≤ R.frames) (hl : W + (maxL + 11) + rm.locals ≤ R.locals) :
    Back l R p e below s args y len W (fun A a => a = av ∧ A.U.heap = h ∧ A.cells + rm.cells ≤ R.cells ∧ A.slots + rm.slots ≤ R.slots)
      (fun A _ v B => ∃ L, Q v B.U.heap L ∧ B.locs = A.locs ++ L ∧ B.cells = A.cells + rm.cells ∧ B.slots = A.slots + rm.slots) :=
  backOf (Q := Q) (hM []) hZ wc wz hf hl
theorem own_callS (X : Stand p l e R s m args below meth c T locs cells slots) (hx : p.tables.exec = Jvm.exec) (hZ : Z.Warmed39 s.vm) {own : String} {index : Nat} {y : MethodName} {bytes : ByteArray} {maxL : Nat} {ret : Option FieldType} (hown : s.vm.findClass own = some m.cls)
    (w1 : (Cond.methodLink own index y).before a0 Z = true) (w2 : (Cond.static y).before a0 Z = true) (w3 : (Cond.initialized y.cls).before a0 Z = true) (w4 : (Cond.code y bytes maxL ret).before a0 Z = true) (hy : y.cls ≠ "java/lang/invoke/MethodHandle" ∧ y.cls ≠ "java/lang/invoke/VarHandle")
    {rm : Room} {al : List Value} (hM : own_Met l Z y bytes maxL ret rm al.toArray h Q) (W : Nat) (hf : rm.frames + 1 ≤ R.frames) (hl : W + (maxL + 11) + rm.locals ≤ R.locals) (eT : T.heap = h) (hc : cells + rm.cells ≤ R.cells) (hn : slots + rm.slots ≤ R.slots)
    (hsz : Ls.size = c.maxLocals) (hlen : ∀ sig, parseMethodDescriptor y.desc = some sig → al.length = sig.parameters.length) (hst : st = al.reverse ++ rest) (hW : 2 * 0 + (rest.map fun v => v.category).sum ≤ W) (hd : decode c.code pc = .ok (.invokestatic index, 3))
    (k : ∀ (v : Option Value) (T' : State) (L : List Loc), Stand p l e R s m args below meth c T' (locs ++ L) (cells + rm.cells) (slots + rm.slots) → Q v T'.heap L → own_Go p e below Φ T' (mkF m (pc + 3) Ls (v.toList ++ rest))) : own_Go p e below Φ T (mkF m pc Ls st) := by
  obtain ⟨v, vm₁, ⟨T', L', k', n'⟩, -, X', ⟨L, hQ, l1, l2, l3⟩, st'⟩ := Jvm.LawKit.callS X hx (y := y) hown (mvT hZ w1) (mvT hZ w2) (mvT hZ w3) (mvT hZ w4) hy (own_back (W := W) hM hZ w4 w3 hf hl) (g := mkF m pc Ls st) rfl hsz (argsL := al) (rest := rest) hlen hst hW hd (fun _ _ => ⟨rfl, eT, hc, hn⟩)
  dsimp only [Pt.U, Pt.locs, Pt.cells, Pt.slots] at X' l1 l2 l3 st' hQ
  subst l1 l2 l3
  exact own_k st' (k v T' L X' hQ)
theorem own_callV (X : Stand p l e R s m args below meth c T locs cells slots) (hx : p.tables.exec = Jvm.exec) (hZ : Z.Warmed39 s.vm) {own C : String} {index : Nat} {y z : MethodName} {bytes : ByteArray} {maxL : Nat} {ret : Option FieldType} (hown : s.vm.findClass own = some m.cls)
    (w1 : (Cond.methodLink own index y).before a0 Z = true) (w2 : (Cond.declares y).before a0 Z = true) (hnf : NotFace s y) (w3 : (Cond.selects C y z).before a0 Z = true) (w4 : (Cond.instanceMethod z).before a0 Z = true) (w5 : (Cond.code z bytes maxL ret).before a0 Z = true) (w6 : (Cond.initialized z.cls).before a0 Z = true) (hy : y.cls ≠ "java/lang/invoke/MethodHandle" ∧ y.cls ≠ "java/lang/invoke/VarHandle")
    {rm : Room} {al : List Value} {b : Addr} (E : Exa Z h b C) (hM : own_Met l Z z bytes maxL ret rm (.ref b :: al).toArray h Q) (W : Nat) (hf : rm.frames + 1 ≤ R.frames) (hl : W + (maxL + 11) + rm.locals ≤ R.locals) (eT : T.heap = h) (hc : cells + rm.cells ≤ R.cells) (hn : slots + rm.slots ≤ R.slots)
    (hsz : Ls.size = c.maxLocals) (hlen : ∀ sig, parseMethodDescriptor y.desc = some sig → al.length = sig.parameters.length) (hst : st = al.reverse ++ .ref b :: rest) (hW : 2 * 0 + (rest.map fun v => v.category).sum ≤ W) (hd : decode c.code pc = .ok (.invokevirtual index, 3))
    (k : ∀ (v : Option Value) (T' : State) (L : List Loc), Stand p l e R s m args below meth c T' (locs ++ L) (cells + rm.cells) (slots + rm.slots) → Q v T'.heap L → own_Go p e below Φ T' (mkF m (pc + 3) Ls (v.toList ++ rest))) : own_Go p e below Φ T (mkF m pc Ls st) := by
  obtain ⟨cB, kB, q1, q2, q3⟩ := isOf hZ eT E
  obtain ⟨v, vm₁, ⟨T', L', k', n'⟩, -, X', ⟨L, hQ, l1, l2, l3⟩, st'⟩ := X.virtualBack hx (y := y) (z := z) hown (mvT hZ w1) (mvT hZ w2) hnf (mvT hZ w3) (mvT hZ w4) hy (own_back (W := W) hM hZ w5 w6 hf hl) q1 q3 (g := mkF m pc Ls st) rfl hsz (Steps.refl _) (argsL := al) (rest := rest) hlen hst hW hd (fun _ _ => ⟨rfl, eT, hc, hn⟩)
  dsimp only [Pt.U, Pt.locs, Pt.cells, Pt.slots] at X' l1 l2 l3 st' hQ
  subst l1 l2 l3
  exact own_s st' (k v T' L X' hQ)
theorem own_callU (X : Stand p l e R s m args below meth c T locs cells slots) (hx : p.tables.exec = Jvm.exec) (hZ : Z.Warmed39 s.vm) {own C owner : String} {index : Nat} {y z : MethodName} {bytes : ByteArray} {maxL : Nat} {ret : Option FieldType} (hown : s.vm.findClass own = some m.cls)
    (w1 : (Cond.methodLink own index y).before a0 Z = true) (w2 : (Cond.sameMethod y.cls owner y.name y.desc).before a0 Z = true) (w2' : (Cond.declares ⟨owner, y.name, y.desc⟩).before a0 Z = true) (w3 : (Cond.selects C y z).before a0 Z = true) (w4 : (Cond.instanceMethod z).before a0 Z = true) (w5 : (Cond.code z bytes maxL ret).before a0 Z = true) (w6 : (Cond.initialized z.cls).before a0 Z = true) (hy : owner ≠ "java/lang/invoke/MethodHandle" ∧ owner ≠ "java/lang/invoke/VarHandle")
    {rm : Room} {al : List Value} {b : Addr} (E : Exa Z h b C) (hM : own_Met l Z z bytes maxL ret rm (.ref b :: al).toArray h Q) (W : Nat) (hf : rm.frames + 1 ≤ R.frames) (hl : W + (maxL + 11) + rm.locals ≤ R.locals) (eT : T.heap = h) (hc : cells + rm.cells ≤ R.cells) (hn : slots + rm.slots ≤ R.slots)
    (hsz : Ls.size = c.maxLocals) (hlen : ∀ sig, parseMethodDescriptor y.desc = some sig → al.length = sig.parameters.length) (hst : st = al.reverse ++ .ref b :: rest) (hW : 2 * 0 + (rest.map fun v => v.category).sum ≤ W) (hd : decode c.code pc = .ok (.invokevirtual index, 3))
    (k : ∀ (v : Option Value) (T' : State) (L : List Loc), Stand p l e R s m args below meth c T' (locs ++ L) (cells + rm.cells) (slots + rm.slots) → Q v T'.heap L → own_Go p e below Φ T' (mkF m (pc + 3) Ls (v.toList ++ rest))) : own_Go p e below Φ T (mkF m pc Ls st) := by
  obtain ⟨cB, kB, q1, q2, q3⟩ := isOf hZ eT E
  obtain ⟨v, vm₁, ⟨T', L', k', n'⟩, -, X', ⟨L, hQ, l1, l2, l3⟩, st'⟩ := X.virtualBackUp hx (x := y) (y := z) hown (mvT hZ w1) (mvT hZ w2) (mvT hZ w2') hy (mvT hZ w3) (mvT hZ w4) (own_back (W := W) hM hZ w5 w6 hf hl) q1 q3 (g := mkF m pc Ls st) rfl hsz (Steps.refl _) (argsL := al) (rest := rest) hlen hst hW hd (fun _ _ => ⟨rfl, eT, hc, hn⟩)
  dsimp only [Pt.U, Pt.locs, Pt.cells, Pt.slots] at X' l1 l2 l3 st' hQ
  subst l1 l2 l3
  exact own_s st' (k v T' L X' hQ)
theorem own_callN (X : Stand p l e R s m args below meth c T locs cells slots) (hx : p.tables.exec = Jvm.exec) (hZ : Z.Warmed39 s.vm) {own : String} {index : Nat} {y : MethodName} {bytes : ByteArray} {maxL : Nat} (hy1 : y.name = "<init>") (hown : s.vm.findClass own = some m.cls)
    (w1 : (Cond.methodLink own index y).before a0 Z = true) (w2 : (Cond.instanceMethod y).before a0 Z = true) (w3 : (Cond.code y bytes maxL none).before a0 Z = true) (w4 : (Cond.initialized y.cls).before a0 Z = true) (hy : y.cls ≠ "java/lang/invoke/MethodHandle" ∧ y.cls ≠ "java/lang/invoke/VarHandle")
    {rm : Room} {al : List Value} {b : Addr} (hM : own_Met l Z y bytes maxL none rm (.ref b :: al).toArray h Q) (W : Nat) (hf : rm.frames + 1 ≤ R.frames) (hl : W + (maxL + 11) + rm.locals ≤ R.locals) (eT : T.heap = h) (hc : cells + rm.cells ≤ R.cells) (hn : slots + rm.slots ≤ R.slots)
    (hsz : Ls.size = c.maxLocals) (hlen : ∀ sig, parseMethodDescriptor y.desc = some sig → al.length = sig.parameters.length) (hst : st = al.reverse ++ .ref b :: rest) (hW : 2 * 0 + (rest.map fun v => v.category).sum ≤ W) (hd : decode c.code pc = .ok (.invokespecial index, 3))
    (k : ∀ (v : Option Value) (T' : State) (L : List Loc), Stand p l e R s m args below meth c T' (locs ++ L) (cells + rm.cells) (slots + rm.slots) → Q v T'.heap L → own_Go p e below Φ T' (mkF m (pc + 3) Ls (v.toList ++ rest))) : own_Go p e below Φ T (mkF m pc Ls st) := by
  obtain ⟨v, vm₁, ⟨T', L', k', n'⟩, -, X', ⟨L, hQ, l1, l2, l3⟩, st'⟩ := X.specialBack hx (y := y) hy1 hown (mvT hZ w1) (mvT hZ w2) (mvT hZ w3) hy (own_back (W := W) hM hZ w3 w4 hf hl) (g := mkF m pc Ls st) rfl hsz (Steps.refl _) (a := b) (argsL := al) (rest := rest) hlen hst hW hd (fun _ _ => ⟨rfl, eT, hc, hn⟩)
  dsimp only [Pt.U, Pt.locs, Pt.cells, Pt.slots] at X' l1 l2 l3 st' hQ
  subst l1 l2 l3
  exact own_s st' (k v T' L X' hQ)
theorem own_iaload (X : Stand p l e R s m args below meth c T locs cells slots) (hx : p.tables.exec = Jvm.exec) (hZ : Z.Warmed39 s.vm) (eT : T.heap = h) {a : Addr} {k : ClassId} {n : Int32} {vs : List Value} {d : Value} (V : Arv Z h a k .int n vs d) {j : Int32} (hj : ¬ j < 0 ∧ j < n) {v : Value} (hv : vs.getD j.toNatClampNeg d = v) (hd : decode c.code pc = .ok (.iaload, 1)) (kk : own_Go p e below Φ T (mkF m (pc + 1) Ls (v :: rest))) : own_Go p e below Φ T (mkF m pc Ls (.int j :: .ref a :: rest)) := by
  obtain ⟨cl, A, -, S, N, H, -⟩ := V
  have hin := inb_of S hj
  exact own_k (fun t q => X.iaload hx (j := j) (v := v) (by rw [eT]; exact A.1) (State.isArrayOf_alike hZ.alike A.2.1) A.2.2 hin (H.at hin hv) (g := mkF m pc Ls (.int j :: .ref a :: rest)) rfl rfl hd t q) kk
theorem own_saload (X : Stand p l e R s m args below meth c T locs cells slots) (hx : p.tables.exec = Jvm.exec) (hZ : Z.Warmed39 s.vm) (eT : T.heap = h) {a : Addr} {k : ClassId} {n : Int32} {vs : List Value} {d : Value} (V : Arv Z h a k .short n vs d) {j : Int32} (hj : ¬ j < 0 ∧ j < n) {v : Value} (hv : vs.getD j.toNatClampNeg d = v) (hd : decode c.code pc = .ok (.saload, 1)) (kk : own_Go p e below Φ T (mkF m (pc + 1) Ls (v :: rest))) : own_Go p e below Φ T (mkF m pc Ls (.int j :: .ref a :: rest)) := by
  obtain ⟨cl, A, -, S, N, H, -⟩ := V
  have hin := inb_of S hj
  exact own_k (fun t q => X.saload hx (j := j) (v := v) (by rw [eT]; exact A.1) (State.isArrayOf_alike hZ.alike A.2.1) A.2.2 hin (H.at hin hv) (g := mkF m pc Ls (.int j :: .ref a :: rest)) rfl rfl hd t q) kk
theorem own_caload (X : Stand p l e R s m args below meth c T locs cells slots) (hx : p.tables.exec = Jvm.exec) (hZ : Z.Warmed39 s.vm) (eT : T.heap = h) {a : Addr} {k : ClassId} {n : Int32} {vs : List Value} {d : Value} (V : Arv Z h a k .char n vs d) {j : Int32} (hj : ¬ j < 0 ∧ j < n) {v : Value} (hv : vs.getD j.toNatClampNeg d = v) (hd : decode c.code pc = .ok (.caload, 1)) (kk : own_Go p e below Φ T (mkF m (pc + 1) Ls (v :: rest))) : own_Go p e below Φ T (mkF m pc Ls (.int j :: .ref a :: rest)) := by
  obtain ⟨cl, A, -, S, N, H, -⟩ := V
  have hin := inb_of S hj
  exact own_k (fun t q => X.caload hx (j := j) (v := v) (by rw [eT]; exact A.1) (State.isArrayOf_alike hZ.alike A.2.1) A.2.2 hin (H.at hin hv) (g := mkF m pc Ls (.int j :: .ref a :: rest)) rfl rfl hd t q) kk
theorem own_laload (X : Stand p l e R s m args below meth c T locs cells slots) (hx : p.tables.exec = Jvm.exec) (hZ : Z.Warmed39 s.vm) (eT : T.heap = h) {a : Addr} {k : ClassId} {n : Int32} {vs : List Value} {d : Value} (V : Arv Z h a k .long n vs d) {j : Int32} (hj : ¬ j < 0 ∧ j < n) {v : Value} (hv : vs.getD j.toNatClampNeg d = v) (hd : decode c.code pc = .ok (.laload, 1)) (kk : own_Go p e below Φ T (mkF m (pc + 1) Ls (v :: rest))) : own_Go p e below Φ T (mkF m pc Ls (.int j :: .ref a :: rest)) := by
  obtain ⟨cl, A, -, S, N, H, -⟩ := V
  have hin := inb_of S hj
  exact own_k (fun t q => X.laload hx (j := j) (v := v) (by rw [eT]; exact A.1) (State.isArrayOf_alike hZ.alike A.2.1) A.2.2 hin (H.at hin hv) (g := mkF m pc Ls (.int j :: .ref a :: rest)) rfl rfl hd t q) kk
theorem own_baload (X : Stand p l e R s m args below meth c T locs cells slots) (hx : p.tables.exec = Jvm.exec) (hZ : Z.Warmed39 s.vm) (eT : T.heap = h) {a : Addr} {k : ClassId} {n : Int32} {vs : List Value} {d : Value} (V : Arv Z h a k .byte n vs d) {j : Int32} (hj : ¬ j < 0 ∧ j < n) {v : Value} (hv : vs.getD j.toNatClampNeg d = v) (hd : decode c.code pc = .ok (.baload, 1)) (kk : own_Go p e below Φ T (mkF m (pc + 1) Ls (v :: rest))) : own_Go p e below Φ T (mkF m pc Ls (.int j :: .ref a :: rest)) := by
  obtain ⟨cl, A, -, S, N, H, -⟩ := V
  have hin := inb_of S hj
  exact own_k (fun t q => X.baloadBytes hx (j := j) (v := v) (by rw [eT]; exact A.1) (State.isArrayOf_alike hZ.alike A.2.1) A.2.2 hin (H.at hin hv) (g := mkF m pc Ls (.int j :: .ref a :: rest)) rfl rfl hd t q) kk
theorem own_aaload (X : Stand p l e R s m args below meth c T locs cells slots) (hx : p.tables.exec = Jvm.exec) (hZ : Z.Warmed39 s.vm) (eT : T.heap = h) {a : Addr} {k : ClassId} {n : Int32} {vs : List Value} {d : Value} {ty : FieldType} (V : Arv Z h a k ty n vs d) (ht : ty.isReference = true) {j : Int32} (hj : ¬ j < 0 ∧ j < n) {v : Value} (hv : vs.getD j.toNatClampNeg d = v) (hd : decode c.code pc = .ok (.aaload, 1)) (kk : own_Go p e below Φ T (mkF m (pc + 1) Ls (v :: rest))) : own_Go p e below Φ T (mkF m pc Ls (.int j :: .ref a :: rest)) := by
  obtain ⟨cl, A, -, S, N, H, -⟩ := V
  have hin := inb_of S hj
  exact own_k (fun t q => X.aaload hx (j := j) (v := v) (by rw [eT]; exact A.1) (State.isArrayOf_alike hZ.alike A.2.1) ht A.2.2 hin (H.at hin hv) (g := mkF m pc Ls (.int j :: .ref a :: rest)) rfl rfl hd t q) kk
theorem own_len (X : Stand p l e R s m args below meth c T locs cells slots) (hx : p.tables.exec = Jvm.exec) (hZ : Z.Warmed39 s.vm) (eT : T.heap = h) {a : Addr} {k : ClassId} {n : Int32} {vs : List Value} {d : Value} {ty : FieldType} (V : Arv Z h a k ty n vs d) (hd : decode c.code pc = .ok (.arraylength, 1)) (kk : own_Go p e below Φ T (mkF m (pc + 1) Ls (.int n :: rest))) : own_Go p e below Φ T (mkF m pc Ls (.ref a :: rest)) := by
  obtain ⟨cl, A, -, S, N, H, -⟩ := V
  refine own_k (fun t q => X.arraylength hx (by rw [eT]; exact A.1) (State.isArrayOf_alike hZ.alike A.2.1) (g := mkF m pc Ls (.ref a :: rest)) rfl rfl hd t q) ?_
  rw [len_of S N]
  exact kk
theorem own_iastore (X : Stand p l e R s m args below meth c T locs cells slots) (hx : p.tables.exec = Jvm.exec) (hZ : Z.Warmed39 s.vm) (eT : T.heap = h) {a : Addr} {k : ClassId} {n : Int32} {vs : List Value} {d : Value} (V : Arv Z h a k .int n vs d) {j : Int32} {x : Int32} (hj : ¬ j < 0 ∧ j < n) (i : Nat) (hi : j.toNatClampNeg = i) (hl : i < vs.length) (hd : decode c.code pc = .ok (.iastore, 1)) :
    ∃ T' h', Stand p l e R s m args below meth c T' (locs ++ [⟨a, j.toNatClampNeg⟩]) cells slots ∧ T'.heap = h' ∧ Wr h h' a j.toNatClampNeg (.int x) ∧ Arv Z h' a k .int n (vs.set i (.int x)) d ∧ ∀ t, Steps p.tables e below (T'.setTop (mkF m (pc + 1) Ls rest)) t → Steps p.tables e below (T.setTop (mkF m pc Ls ((.int x) :: .int j :: .ref a :: rest))) t := by
  obtain ⟨cl, A, q, S, N, H, G⟩ := V
  have hin := inb_of S hj
  obtain ⟨T', h', X', e', W, st'⟩ := stI X hx hZ eT A (j := j) (x := x) hin (g := mkF m pc Ls ((.int x) :: .int j :: .ref a :: rest)) rfl rfl hd
  exact ⟨T', h', X', e', W, Arv.set A q S N H G rfl W i hi hl, st'⟩
theorem own_lastore (X : Stand p l e R s m args below meth c T locs cells slots) (hx : p.tables.exec = Jvm.exec) (hZ : Z.Warmed39 s.vm) (eT : T.heap = h) {a : Addr} {k : ClassId} {n : Int32} {vs : List Value} {d : Value} (V : Arv Z h a k .long n vs d) {j : Int32} {x : Int64} (hj : ¬ j < 0 ∧ j < n) (i : Nat) (hi : j.toNatClampNeg = i) (hl : i < vs.length) (hd : decode c.code pc = .ok (.lastore, 1)) :
    ∃ T' h', Stand p l e R s m args below meth c T' (locs ++ [⟨a, j.toNatClampNeg⟩]) cells slots ∧ T'.heap = h' ∧ Wr h h' a j.toNatClampNeg (.long x) ∧ Arv Z h' a k .long n (vs.set i (.long x)) d ∧ ∀ t, Steps p.tables e below (T'.setTop (mkF m (pc + 1) Ls rest)) t → Steps p.tables e below (T.setTop (mkF m pc Ls ((.long x) :: .int j :: .ref a :: rest))) t := by
  obtain ⟨cl, A, q, S, N, H, G⟩ := V
  have hin := inb_of S hj
  obtain ⟨T', h', X', e', W, st'⟩ := stJ X hx hZ eT A (j := j) (x := x) hin (g := mkF m pc Ls ((.long x) :: .int j :: .ref a :: rest)) rfl rfl hd
  exact ⟨T', h', X', e', W, Arv.set A q S N H G rfl W i hi hl, st'⟩
theorem own_castore (X : Stand p l e R s m args below meth c T locs cells slots) (hx : p.tables.exec = Jvm.exec) (hZ : Z.Warmed39 s.vm) (eT : T.heap = h) {a : Addr} {k : ClassId} {n : Int32} {vs : List Value} {d : Value} (V : Arv Z h a k .char n vs d) {j : Int32} {x : Int32} (hj : ¬ j < 0 ∧ j < n) (i : Nat) (hi : j.toNatClampNeg = i) (hl : i < vs.length) (hd : decode c.code pc = .ok (.castore, 1)) :
    ∃ T' h', Stand p l e R s m args below meth c T' (locs ++ [⟨a, j.toNatClampNeg⟩]) cells slots ∧ T'.heap = h' ∧ Wr h h' a j.toNatClampNeg (.int (nar .char x)) ∧ Arv Z h' a k .char n (vs.set i (.int (nar .char x))) d ∧ ∀ t, Steps p.tables e below (T'.setTop (mkF m (pc + 1) Ls rest)) t → Steps p.tables e below (T.setTop (mkF m pc Ls ((.int x) :: .int j :: .ref a :: rest))) t := by
  obtain ⟨cl, A, q, S, N, H, G⟩ := V
  have hin := inb_of S hj
  obtain ⟨T', h', X', e', W, st'⟩ := stC X hx hZ eT A (j := j) (x := x) hin (g := mkF m pc Ls ((.int x) :: .int j :: .ref a :: rest)) rfl rfl hd
  exact ⟨T', h', X', e', W, Arv.set A q S N H G (fits_nar_char x) W i hi hl, st'⟩
theorem own_sastore (X : Stand p l e R s m args below meth c T locs cells slots) (hx : p.tables.exec = Jvm.exec) (hZ : Z.Warmed39 s.vm) (eT : T.heap = h) {a : Addr} {k : ClassId} {n : Int32} {vs : List Value} {d : Value} (V : Arv Z h a k .short n vs d) {j : Int32} {x : Int32} (hj : ¬ j < 0 ∧ j < n) (i : Nat) (hi : j.toNatClampNeg = i) (hl : i < vs.length) (hd : decode c.code pc = .ok (.sastore, 1)) :
    ∃ T' h', Stand p l e R s m args below meth c T' (locs ++ [⟨a, j.toNatClampNeg⟩]) cells slots ∧ T'.heap = h' ∧ Wr h h' a j.toNatClampNeg (.int (nar .short x)) ∧ Arv Z h' a k .short n (vs.set i (.int (nar .short x))) d ∧ ∀ t, Steps p.tables e below (T'.setTop (mkF m (pc + 1) Ls rest)) t → Steps p.tables e below (T.setTop (mkF m pc Ls ((.int x) :: .int j :: .ref a :: rest))) t := by
  obtain ⟨cl, A, q, S, N, H, G⟩ := V
  have hin := inb_of S hj
  obtain ⟨T', h', X', e', W, st'⟩ := stS X hx hZ eT A (j := j) (x := x) hin (g := mkF m pc Ls ((.int x) :: .int j :: .ref a :: rest)) rfl rfl hd
  exact ⟨T', h', X', e', W, Arv.set A q S N H G (fits_nar_short x) W i hi hl, st'⟩
theorem own_bastore (X : Stand p l e R s m args below meth c T locs cells slots) (hx : p.tables.exec = Jvm.exec) (hZ : Z.Warmed39 s.vm) (eT : T.heap = h) {a : Addr} {k : ClassId} {n : Int32} {vs : List Value} {d : Value} (V : Arv Z h a k .byte n vs d) {j : Int32} {x : Int32} (hj : ¬ j < 0 ∧ j < n) (i : Nat) (hi : j.toNatClampNeg = i) (hl : i < vs.length) (hd : decode c.code pc = .ok (.bastore, 1)) :
    ∃ T' h', Stand p l e R s m args below meth c T' (locs ++ [⟨a, j.toNatClampNeg⟩]) cells slots ∧ T'.heap = h' ∧ Wr h h' a j.toNatClampNeg (.int (nar .byte x)) ∧ Arv Z h' a k .byte n (vs.set i (.int (nar .byte x))) d ∧ ∀ t, Steps p.tables e below (T'.setTop (mkF m (pc + 1) Ls rest)) t → Steps p.tables e below (T.setTop (mkF m pc Ls ((.int x) :: .int j :: .ref a :: rest))) t := by
  obtain ⟨cl, A, q, S, N, H, G⟩ := V
  have hin := inb_of S hj
  obtain ⟨T', h', X', e', W, st'⟩ := stB X hx hZ eT A (j := j) (x := x) hin (g := mkF m pc Ls ((.int x) :: .int j :: .ref a :: rest)) rfl rfl hd
  exact ⟨T', h', X', e', W, Arv.set A q S N H G (fits_nar_byte x) W i hi hl, st'⟩
theorem own_aastore (X : Stand p l e R s m args below meth c T locs cells slots) (hx : p.tables.exec = Jvm.exec) (hZ : Z.Warmed39 s.vm) (eT : T.heap = h) {a : Addr} {k : ClassId} {n : Int32} {vs : List Value} {d : Value} {ty : FieldType} (V : Arv Z h a k ty n vs d) (ht : ty.isReference = true) {j : Int32} {v : Value} (hj : ¬ j < 0 ∧ j < n) (hf : fits ty v = true) (F : ∀ cl : Cell, Arr Z h a cl ty → cl.cls = k → Sto Z h a v) (i : Nat) (hi : j.toNatClampNeg = i) (hl : i < vs.length) (hd : decode c.code pc = .ok (.aastore, 1)) :
    ∃ T' h', Stand p l e R s m args below meth c T' (locs ++ [⟨a, j.toNatClampNeg⟩]) cells slots ∧ T'.heap = h' ∧ Wr h h' a j.toNatClampNeg v ∧ Arv Z h' a k ty n (vs.set i v) d ∧ ∀ t, Steps p.tables e below (T'.setTop (mkF m (pc + 1) Ls rest)) t → Steps p.tables e below (T.setTop (mkF m pc Ls (v :: .int j :: .ref a :: rest))) t := by
  obtain ⟨cl, A, q, S, N, H, G⟩ := V
  have hin := inb_of S hj
  obtain ⟨T', h', X', e', W, st'⟩ := stR X hx hZ eT A (j := j) (v := v) hin ht (F cl A q) (g := mkF m pc Ls (v :: .int j :: .ref a :: rest)) rfl rfl hd
  exact ⟨T', h', X', e', W, Arv.set A q S N H G hf W i hi hl, st'⟩
theorem own_newarr (X : Stand p l e R s m args below meth c T locs cells slots) (hx : p.tables.exec = Jvm.exec) (hZ : Z.Warmed39 s.vm) {aty : ArrayType} (w : (Cond.arrayClass (newarray.typeOf aty)).before a0 Z = true) (eT : T.heap = h) (hd : decode c.code pc = .ok (.newarray aty, 2)) {n : Int32} (hn : ¬ n < 0) {cap : Nat} (hcap : n.toNatClampNeg ≤ cap) (hb : cap * 8 ≤ 536870912) (hc : cells + 1 ≤ R.cells) (hl : slots + cap ≤ R.slots) {ad : String} (had : "[" ++ (newarray.typeOf aty).toString = ad) :
    ∃ T' h' cA, Stand p l e R s m args below meth c T' locs (cells + 1) (slots + cap) ∧ T'.heap = h' ∧ Ext h h' ∧ Arv Z h' h.size cA (newarray.typeOf aty) n (List.replicate cap (defaultValue (newarray.typeOf aty))) (defaultValue (newarray.typeOf aty)) ∧ Exa Z h' h.size ad ∧
      ∀ t, Steps p.tables e below (T'.setTop (mkF m (pc + 2) Ls (.ref h.size :: rest))) t → Steps p.tables e below (T.setTop (mkF m pc Ls (.int n :: rest))) t := by
  obtain ⟨T', h', cA, X', e', E', A', C', st'⟩ := newPE X hx hZ w eT (g := mkF m pc Ls (.int n :: rest)) rfl hd rfl hn hcap hb hc hl had
  exact ⟨T', h', cA, X', e', E', (Arv.new A' hn).pad (fun i => by have q := pad_rep [] (defaultValue (newarray.typeOf aty)) cap i; simpa using q), C', st'⟩
theorem own_newref (X : Stand p l e R s m args below meth c T locs cells slots) (hx : p.tables.exec = Jvm.exec) (hZ : Z.Warmed39 s.vm) {own C : String} {index : Nat} (hown : s.vm.findClass own = some m.cls) (w1 : (Cond.classLink own index C).before a0 Z = true) (w2 : (Cond.arrayOver (.object C)).before a0 Z = true) (eT : T.heap = h) (hd : decode c.code pc = .ok (.anewarray index, 3)) {n : Int32} (hn : ¬ n < 0) {cap : Nat} (hcap : n.toNatClampNeg ≤ cap) (hb : cap * 8 ≤ 536870912) (hc : cells + 1 ≤ R.cells) (hl : slots + cap ≤ R.slots) {ad : String} (had : "[" ++ (FieldType.object C).toString = ad) :
    ∃ T' h' cA, Stand p l e R s m args below meth c T' locs (cells + 1) (slots + cap) ∧ T'.heap = h' ∧ Ext h h' ∧ Arv Z h' h.size cA (.object C) n (List.replicate cap .null) .null ∧ Exa Z h' h.size ad ∧ Ovr Z cA C ∧
      ∀ t, Steps p.tables e below (T'.setTop (mkF m (pc + 3) Ls (.ref h.size :: rest))) t → Steps p.tables e below (T.setTop (mkF m pc Ls (.int n :: rest))) t := by
  obtain ⟨T', h', cA, X', e', E', A', C', O', st'⟩ := newRE X hx hZ hown w1 w2 eT (g := mkF m pc Ls (.int n :: rest)) rfl hd rfl hn hcap hb hc hl had
  exact ⟨T', h', cA, X', e', E', (Arv.new A' hn).pad (fun i => by have q := pad_rep [] (.null) cap i; simpa [defaultValue] using q), C', O', st'⟩
theorem own_newarr2 (X : Stand p l e R s m args below meth c T locs cells slots) (hx : p.tables.exec = Jvm.exec) (hZ : Z.Warmed39 s.vm) {own C : String} {ty : FieldType} {index : Nat} (hown : s.vm.findClass own = some m.cls) (hC : (FieldType.array ty).toString = C) (w1 : (Cond.classLink own index C).before a0 Z = true) (w2 : (Cond.arrayOver (.array ty)).before a0 Z = true) (eT : T.heap = h) (hd : decode c.code pc = .ok (.anewarray index, 3)) {n : Int32} (hn : ¬ n < 0) {cap : Nat} (hcap : n.toNatClampNeg ≤ cap) (hb : cap * 8 ≤ 536870912) (hc : cells + 1 ≤ R.cells) (hl : slots + cap ≤ R.slots) {ad : String} (had : "[" ++ C = ad) :
    ∃ T' h' cA, Stand p l e R s m args below meth c T' locs (cells + 1) (slots + cap) ∧ T'.heap = h' ∧ Ext h h' ∧ Arv Z h' h.size cA (.array ty) n (List.replicate cap .null) .null ∧ Exa Z h' h.size ad ∧ OvrA Z cA ty C ∧
      ∀ t, Steps p.tables e below (T'.setTop (mkF m (pc + 3) Ls (.ref h.size :: rest))) t → Steps p.tables e below (T.setTop (mkF m pc Ls (.int n :: rest))) t := by
  obtain ⟨T', h', cA, X', e', E', A', C', O', st'⟩ := newRA X hx hZ hown hC w1 w2 eT (g := mkF m pc Ls (.int n :: rest)) rfl hd rfl hn hcap hb hc hl had
  exact ⟨T', h', cA, X', e', E', (Arv.new A' hn).pad (fun i => by have q := pad_rep [] (.null) cap i; simpa [defaultValue] using q), C', O', st'⟩
theorem own_callP (X : Stand p l e R s m args below meth c T locs cells slots) (hx : p.tables.exec = Jvm.exec) (hZ : Z.Warmed39 s.vm) {own : String} {index kk : Nat} {y : MethodName} {bytes : ByteArray} {maxL : Nat} {ret : Option FieldType} (hown : s.vm.findClass own = some m.cls)
    (w1 : (Cond.methodLink own index y).before a0 Z = true) (w2 : (Cond.instanceMethod y).before a0 Z = true) (w3 : (Cond.privateMethod y).before a0 Z = true) (w4 : (Cond.code y bytes maxL ret).before a0 Z = true) (w5 : (Cond.initialized y.cls).before a0 Z = true) (w6 : (Cond.instantiable y.cls kk).before a0 Z = true) (hy : y.cls ≠ "java/lang/invoke/MethodHandle" ∧ y.cls ≠ "java/lang/invoke/VarHandle")
    {rm : Room} {al : List Value} {b : Addr} {C : String} (E : Exa Z h b C) (hM : own_Met l Z y bytes maxL ret rm (.ref b :: al).toArray h Q) (W : Nat) (hf : rm.frames + 1 ≤ R.frames) (hl : W + (maxL + 11) + rm.locals ≤ R.locals) (eT : T.heap = h) (hc : cells + rm.cells ≤ R.cells) (hn : slots + rm.slots ≤ R.slots)
    (hsz : Ls.size = c.maxLocals) (hlen : ∀ sig, parseMethodDescriptor y.desc = some sig → al.length = sig.parameters.length) (hst : st = al.reverse ++ .ref b :: rest) (hW : 2 * 0 + (rest.map fun v => v.category).sum ≤ W) (hd : decode c.code pc = .ok (.invokevirtual index, 3))
    (k : ∀ (v : Option Value) (T' : State) (L : List Loc), Stand p l e R s m args below meth c T' (locs ++ L) (cells + rm.cells) (slots + rm.slots) → Q v T'.heap L → own_Go p e below Φ T' (mkF m (pc + 3) Ls (v.toList ++ rest))) : own_Go p e below Φ T (mkF m pc Ls st) := by
  obtain ⟨cB, q1, q2⟩ := E.cell
  have hp : s.PrivateAt y := Cond.privateMethod_at (mvP hZ w3 (args := #[]))
  obtain ⟨cc, ki, z1, z2, -, z4, -⟩ := Cond.instantiable_spec (mvT (s := s) (args := args) hZ w6)
  have hsel : (Cond.selects y.cls y y).before args s = true := selects_self_of_private z1 z2 (by simp only [Bool.or_eq_false_iff] at z4; exact z4.1) hp (mvT hZ w2) hy
  obtain ⟨v, vm₁, ⟨T', L', k', n'⟩, -, X', ⟨L, hQ, l1, l2, l3⟩, st'⟩ := X.privateBack hx (y := y) hown (mvT hZ w1) (mvT hZ w2) hsel hp (mvT hZ w4) hy (own_back (W := W) hM hZ w4 w5 hf hl) (g := mkF m pc Ls st) rfl hsz (Steps.refl _) (a := b) (cell := cB) (by rw [eT]; exact q1) q2 (argsL := al) (rest := rest) hlen hst hW hd (fun _ _ => ⟨rfl, eT, hc, hn⟩)
  dsimp only [Pt.U, Pt.locs, Pt.cells, Pt.slots] at X' l1 l2 l3 st' hQ
  subst l1 l2 l3
  exact own_s st' (k v T' L X' hQ)
theorem own_eqI {args : Array Value} {t : Term} {n : Int32} (hq : (Cond.eq t (.int n)).value args Z none Z [] = some true) : t.eval args Z none [] Z = some (.int n) := eqv_i (Term.int_eval n) hq
theorem own_fldI {args : Array Value} {t : Term} {n : Int32} {a : Addr} {C f d : String} (ev : t.eval args Z none [] Z = some (.ref a)) (hq : (Cond.eq (.field t C f d) (.int n)).value args Z none Z [] = some true) : Fld Z Z.heap a C f d (.int n) := by
  have q := own_eqI hq
  rw [fld_at ev] at q
  exact Fld.start q
theorem own_nar_short (x : Int32) : nar .short x.toInt16.toInt32 = x.toInt16.toInt32 := by simp [nar]
theorem own_nar_byte (x : Int32) : nar .byte x.toInt8.toInt32 = x.toInt8.toInt32 := by simp [nar]
theorem own_nar_char (x : Int32) : nar .char x.toUInt32.toUInt16.toUInt32.toInt32 = x.toUInt32.toUInt16.toUInt32.toInt32 := by
  have e1 := c_i2c x
  have e2 := c_i2c (x.toUInt32.toUInt16.toUInt32.toInt32)
  exact Int32.toInt_inj.mp (by show (x.toUInt32.toUInt16.toUInt32.toInt32.toUInt32.toUInt16.toUInt32.toInt32).toInt = _; omega)
end Own
end Jvm.RoadKit
namespace Jvm.Pilot.@@N@@
open Jvm Jvm.ClassFile Sem Op Lib Jvm.Free Jvm.Stand Jvm.LawKit Jvm.RoadKit Bundle Jvm.Pilot.@@N@@.Jvm.D
def own_W (Z : State) (a0 : Array Value) (g_COMPACT_STRINGS : Int32) (g_SIOOBE_FORMATTER : Value) : Prop := (∀ d ∈ tables_1, d.before a0 Z = true) ∧ (Sta Z Z.heap "java/lang/String" "COMPACT_STRINGS" "Z" (.int g_COMPACT_STRINGS)) ∧ (¬ (g_COMPACT_STRINGS = (0 : Int32))) ∧ (g_SIOOBE_FORMATTER.isRef = true) ∧ (Sta Z Z.heap "jdk/internal/util/Preconditions" "SIOOBE_FORMATTER" "Ljava/util/function/BiFunction;" g_SIOOBE_FORMATTER)
theorem own_lat (x : Int32) : ¬ ((255 : Int32) < ((x &&& (255 : Int32)).toUInt32.toUInt16.toUInt32.toInt32)) := by
  rw [i2c_mask, Int32.lt_iff_toInt_lt]
  have e1 : (x &&& 255).toInt = x.toInt % (2 ^ 8 : Nat) := c_mask x 255 8 (by decide) (by decide)
  have e2 : (255 : Int32).toInt = 255 := by decide
  omega
theorem ef_0_IIIIII (m : MethodId) (x0 : Int32) (x1 : Int32) (x2 : Int32) (x3 : Int32) (x4 : Int32) (x5 : Int32)  : entryFrame m #[(.int x0), (.int x1), (.int x2), (.int x3), (.int x4), (.int x5)] maxLocals = mkF m 0 #[.val (.int x0), .val (.int x1), .val (.int x2), .val (.int x3), .val (.int x4), .val (.int x5), .unset, .unset, .unset, .unset, .unset, .unset, .unset, .unset] [] := by first | (simp [entryFrame, mkF, argsToLocals, Value.category, maxLocals]; done) | rfl
theorem pn_com_example_nepean_nepean_mapping_ColumnSettingsSqlTypePinLaw : plainName "com/example/nepean/nepean/mapping/ColumnSettingsSqlTypePinLaw" = true := by first | (simp [plainName, overriddenIn]; done) | decide +kernel
theorem pd__28II_29Ljava_2flang_2fString_3b : parseMethodDescriptor "(II)Ljava/lang/String;" = some ⟨[.int, .int], some (.object "java/lang/String")⟩ := by decide +kernel
theorem ef_1_II (m : MethodId) (x0 : Int32) (x1 : Int32)  : entryFrame m #[(.int x0), (.int x1)] 3 = mkF m 0 #[.val (.int x0), .val (.int x1), .unset] [] := by first | (simp [entryFrame, mkF, argsToLocals, Value.category]; done) | rfl
theorem d1_0 : decode method_3_code 0 = .ok (.iconst 2, 1) := by decide +kernel
theorem d1_1 : decode method_3_code 1 = .ok (.newarray .char, 2) := by decide +kernel
theorem d1_3 : decode method_3_code 3 = .ok (.astore_n 2, 1) := by decide +kernel
theorem d1_4 : decode method_3_code 4 = .ok (.aload_n 2, 1) := by decide +kernel
theorem d1_5 : decode method_3_code 5 = .ok (.iconst 0, 1) := by decide +kernel
theorem d1_6 : decode method_3_code 6 = .ok (.iload_n 0, 1) := by decide +kernel
theorem d1_7 : decode method_3_code 7 = .ok (.sipush 255, 3) := by decide +kernel
theorem d1_10 : decode method_3_code 10 = .ok (.iand, 1) := by decide +kernel
theorem d1_11 : decode method_3_code 11 = .ok (.i2c, 1) := by decide +kernel
theorem d1_12 : decode method_3_code 12 = .ok (.castore, 1) := by decide +kernel
theorem d1_13 : decode method_3_code 13 = .ok (.aload_n 2, 1) := by decide +kernel
theorem d1_14 : decode method_3_code 14 = .ok (.iconst 1, 1) := by decide +kernel
theorem d1_15 : decode method_3_code 15 = .ok (.iload_n 1, 1) := by decide +kernel
theorem d1_16 : decode method_3_code 16 = .ok (.sipush 255, 3) := by decide +kernel
theorem d1_19 : decode method_3_code 19 = .ok (.iand, 1) := by decide +kernel
theorem d1_20 : decode method_3_code 20 = .ok (.i2c, 1) := by decide +kernel
theorem d1_21 : decode method_3_code 21 = .ok (.castore, 1) := by decide +kernel
theorem d1_22 : decode method_3_code 22 = .ok (.new 26, 3) := by decide +kernel
theorem d1_25 : decode method_3_code 25 = .ok (.dup, 1) := by decide +kernel
theorem d1_26 : decode method_3_code 26 = .ok (.aload_n 2, 1) := by decide +kernel
theorem d1_27 : decode method_3_code 27 = .ok (.invokespecial 28, 3) := by decide +kernel
theorem pd__28_5bC_29V : parseMethodDescriptor "([C)V" = some ⟨[(.array .char)], none⟩ := by decide +kernel
theorem ef_2_RR (m : MethodId) (x0 : Addr) (x1 : Addr)  : entryFrame m #[(.ref x0), (.ref x1)] 2 = mkF m 0 #[.val (.ref x0), .val (.ref x1)] [] := by first | (simp [entryFrame, mkF, argsToLocals, Value.category]; done) | rfl
theorem pn_java_lang_String : plainName "java/lang/String" = true := by first | (simp [plainName, overriddenIn]; done) | decide +kernel
theorem d2_0 : decode jdk_42_method_3_code 0 = .ok (.aload_n 0, 1) := by decide +kernel
theorem d2_1 : decode jdk_42_method_3_code 1 = .ok (.aload_n 1, 1) := by decide +kernel
theorem d2_2 : decode jdk_42_method_3_code 2 = .ok (.iconst 0, 1) := by decide +kernel
theorem d2_3 : decode jdk_42_method_3_code 3 = .ok (.aload_n 1, 1) := by decide +kernel
theorem d2_4 : decode jdk_42_method_3_code 4 = .ok (.arraylength, 1) := by decide +kernel
theorem d2_5 : decode jdk_42_method_3_code 5 = .ok (.aconst_null, 1) := by decide +kernel
theorem d2_6 : decode jdk_42_method_3_code 6 = .ok (.invokespecial 27, 3) := by decide +kernel
theorem pd__28_5bCIILjava_2flang_2fVoid_3b_29V : parseMethodDescriptor "([CIILjava/lang/Void;)V" = some ⟨[(.array .char), .int, .int, (.object "java/lang/Void")], none⟩ := by decide +kernel
theorem ef_3_RRIIN (m : MethodId) (x0 : Addr) (x1 : Addr) (x2 : Int32) (x3 : Int32)  : entryFrame m #[(.ref x0), (.ref x1), (.int x2), (.int x3), .null] 6 = mkF m 0 #[.val (.ref x0), .val (.ref x1), .val (.int x2), .val (.int x3), .val .null, .unset] [] := by first | (simp [entryFrame, mkF, argsToLocals, Value.category]; done) | rfl
theorem d3_0 : decode jdk_42_method_149_code 0 = .ok (.aload_n 0, 1) := by decide +kernel
theorem d3_1 : decode jdk_42_method_149_code 1 = .ok (.invokespecial 1, 3) := by decide +kernel
theorem d3_4 : decode jdk_42_method_149_code 4 = .ok (.iload_n 3, 1) := by decide +kernel
theorem d3_5 : decode jdk_42_method_149_code 5 = .ok (.ifCond .ne 22, 3) := by decide +kernel
theorem d3_27 : decode jdk_42_method_149_code 27 = .ok (.getstatic 38, 3) := by decide +kernel
theorem d3_30 : decode jdk_42_method_149_code 30 = .ok (.ifCond .eq 28, 3) := by decide +kernel
theorem d3_33 : decode jdk_42_method_149_code 33 = .ok (.aload_n 1, 1) := by decide +kernel
theorem d3_34 : decode jdk_42_method_149_code 34 = .ok (.iload_n 2, 1) := by decide +kernel
theorem d3_35 : decode jdk_42_method_149_code 35 = .ok (.iload_n 3, 1) := by decide +kernel
theorem d3_36 : decode jdk_42_method_149_code 36 = .ok (.invokestatic 177, 3) := by decide +kernel
theorem pd__28_5bCII_29_5bB : parseMethodDescriptor "([CII)[B" = some ⟨[(.array .char), .int, .int], some (.array .byte)⟩ := by decide +kernel
theorem ef_5_RII (m : MethodId) (x0 : Addr) (x1 : Int32) (x2 : Int32)  : entryFrame m #[(.ref x0), (.int x1), (.int x2)] 6 = mkF m 0 #[.val (.ref x0), .val (.int x1), .val (.int x2), .unset, .unset, .unset] [] := by first | (simp [entryFrame, mkF, argsToLocals, Value.category]; done) | rfl
theorem pn_java_lang_StringUTF16 : plainName "java/lang/StringUTF16" = true := by first | (simp [plainName, overriddenIn]; done) | decide +kernel
theorem d5_0 : decode jdk_52_method_16_code 0 = .ok (.iload_n 2, 1) := by decide +kernel
theorem d5_1 : decode jdk_52_method_16_code 1 = .ok (.newarray .byte, 2) := by decide +kernel
theorem d5_3 : decode jdk_52_method_16_code 3 = .ok (.astore_n 3, 1) := by decide +kernel
theorem d5_4 : decode jdk_52_method_16_code 4 = .ok (.aload_n 0, 1) := by decide +kernel
theorem d5_5 : decode jdk_52_method_16_code 5 = .ok (.iload_n 1, 1) := by decide +kernel
theorem d5_6 : decode jdk_52_method_16_code 6 = .ok (.aload_n 3, 1) := by decide +kernel
theorem d5_7 : decode jdk_52_method_16_code 7 = .ok (.iconst 0, 1) := by decide +kernel
theorem d5_8 : decode jdk_52_method_16_code 8 = .ok (.iload_n 2, 1) := by decide +kernel
theorem d5_9 : decode jdk_52_method_16_code 9 = .ok (.invokestatic 115, 3) := by decide +kernel
theorem pd__28_5bCI_5bBII_29I : parseMethodDescriptor "([CI[BII)I" = some ⟨[(.array .char), .int, (.array .byte), .int, .int], some .int⟩ := by decide +kernel
theorem ef_6_RIRII (m : MethodId) (x0 : Addr) (x1 : Int32) (x2 : Addr) (x3 : Int32) (x4 : Int32)  : entryFrame m #[(.ref x0), (.int x1), (.ref x2), (.int x3), (.int x4)] 7 = mkF m 0 #[.val (.ref x0), .val (.int x1), .val (.ref x2), .val (.int x3), .val (.int x4), .unset, .unset] [] := by first | (simp [entryFrame, mkF, argsToLocals, Value.category]; done) | rfl
theorem d6_0 : decode jdk_52_method_21_code 0 = .ok (.iconst 0, 1) := by decide +kernel
theorem d6_1 : decode jdk_52_method_21_code 1 = .ok (.istore 5, 2) := by decide +kernel
theorem d6_3 : decode jdk_52_method_21_code 3 = .ok (.iload 5, 2) := by decide +kernel
theorem d6_5 : decode jdk_52_method_21_code 5 = .ok (.iload 4, 2) := by decide +kernel
theorem d6_7 : decode jdk_52_method_21_code 7 = .ok (.if_icmp .ge 37, 3) := by decide +kernel
theorem d6_10 : decode jdk_52_method_21_code 10 = .ok (.aload_n 0, 1) := by decide +kernel
theorem d6_11 : decode jdk_52_method_21_code 11 = .ok (.iload_n 1, 1) := by decide +kernel
theorem d6_12 : decode jdk_52_method_21_code 12 = .ok (.caload, 1) := by decide +kernel
theorem d6_13 : decode jdk_52_method_21_code 13 = .ok (.istore 6, 2) := by decide +kernel
theorem d6_15 : decode jdk_52_method_21_code 15 = .ok (.iload 6, 2) := by decide +kernel
theorem d6_17 : decode jdk_52_method_21_code 17 = .ok (.sipush 255, 3) := by decide +kernel
theorem d6_20 : decode jdk_52_method_21_code 20 = .ok (.if_icmp .le 6, 3) := by decide +kernel
theorem d6_26 : decode jdk_52_method_21_code 26 = .ok (.aload_n 2, 1) := by decide +kernel
theorem d6_27 : decode jdk_52_method_21_code 27 = .ok (.iload_n 3, 1) := by decide +kernel
theorem d6_28 : decode jdk_52_method_21_code 28 = .ok (.iload 6, 2) := by decide +kernel
theorem d6_30 : decode jdk_52_method_21_code 30 = .ok (.i2b, 1) := by decide +kernel
theorem d6_31 : decode jdk_52_method_21_code 31 = .ok (.bastore, 1) := by decide +kernel
theorem d6_32 : decode jdk_52_method_21_code 32 = .ok (.iinc 1 1, 3) := by decide +kernel
theorem d6_35 : decode jdk_52_method_21_code 35 = .ok (.iinc 3 1, 3) := by decide +kernel
theorem d6_38 : decode jdk_52_method_21_code 38 = .ok (.iinc 5 1, 3) := by decide +kernel
theorem d6_41 : decode jdk_52_method_21_code 41 = .ok (.goto (-38), 3) := by decide +kernel
theorem d6_44 : decode jdk_52_method_21_code 44 = .ok (.iload 4, 2) := by decide +kernel
theorem d6_46 : decode jdk_52_method_21_code 46 = .ok (.ireturn, 1) := by decide +kernel
set_option maxRecDepth 65536 in
set_option maxHeartbeats 40000000 in
theorem rm_compress_0 (l : Launch) (Z : State) (a0 : Array Value) (g_COMPACT_STRINGS : Int32) (g_SIOOBE_FORMATTER : Value) (hW : own_W Z a0 g_COMPACT_STRINGS g_SIOOBE_FORMATTER) (a1 : Addr) (a2 : Addr) (q3 : ClassId) (i4 : Int32) (i5 : Int32) (q6 : ClassId) (h0 : Heap) (O0 : Old Z Z.heap.size h0) (h_1 : Arv Z h0 a1 q3 .char (2 : Int32) [(.int i4), (.int i5)] (.int (0 : Int32))) (h_2 : ¬ ((255 : Int32) < i4)) (h_3 : Arv Z h0 a2 q6 .byte (2 : Int32) [(.int (0 : Int32)), (.int (0 : Int32))] (.int (0 : Int32))) (h_4 : Z.heap.size ≤ a2) (h_5 : a1 ≠ a2) (h_6 : ¬ ((255 : Int32) < i5)) (h_7 : Exa Z h0 a2 "[B") :
    own_Met l Z (⟨"java/lang/StringUTF16", "compress", "([CI[BII)I"⟩ : MethodName) jdk_52_method_21_code 7 (some .int) ({ frames := 0, cells := 0, slots := 0, locals := 0 } : Room) #[(.ref a1), (.int (0 : Int32)), (.ref a2), (.int (0 : Int32)), (.int (2 : Int32))] h0 (fun v h L => v = some (.int (2 : Int32)) ∧ Fr Z.heap.size L ∧ Keep h0 h [a2] ∧ Arv Z h a2 q6 .byte (2 : Int32) [(.int (i4.toInt8.toInt32)), (.int (i5.toInt8.toInt32))] (.int (0 : Int32)) ∧ Exa Z h a2 "[B") := by
  have hW_ := hW
  obtain ⟨hw, S_g_COMPACT_STRINGS, P_g_COMPACT_STRINGS, R_g_SIOOBE_FORMATTER, S_g_SIOOBE_FORMATTER⟩ := hW_
  refine own_met (plainFor_of_name pn_java_lang_StringUTF16) ?_
  intro p e s m below meth cc_ s₁ Φ hF X0 hx hby hml hZ hown hnm hret hlk e0
  have N0 := Fr.nil Z.heap.size
  refine own_k (T' := s₁) (g' := (mkF m 0 #[.val (.ref a1), .val (.int (0 : Int32)), .val (.ref a2), .val (.int (0 : Int32)), .val (.int (2 : Int32)), .unset, .unset] [])) (fun _ k_ => castTop (ef_6_RIRII m a1 (0 : Int32) a2 (0 : Int32) (2 : Int32)) k_) ?_
  refine own_k (T' := s₁) (g' := (mkF m 1 #[.val (.ref a1), .val (.int (0 : Int32)), .val (.ref a2), .val (.int (0 : Int32)), .val (.int (2 : Int32)), .unset, .unset] [(.int (0 : Int32))])) (fun _ k_ => XS.iconst X0.here hx rfl (hb hby d6_0) k_) ?_
  refine own_k (T' := s₁) (g' := (mkF m 3 #[.val (.ref a1), .val (.int (0 : Int32)), .val (.ref a2), .val (.int (0 : Int32)), .val (.int (2 : Int32)), .val (.int (0 : Int32)), .unset] [])) (fun _ k_ => XS.istore X0.here hx rfl (hb hby d6_1) rfl (l' := #[.val (.ref a1), .val (.int (0 : Int32)), .val (.ref a2), .val (.int (0 : Int32)), .val (.int (2 : Int32)), .val (.int (0 : Int32)), .unset]) rfl k_) ?_
  refine own_k (T' := s₁) (g' := (mkF m 5 #[.val (.ref a1), .val (.int (0 : Int32)), .val (.ref a2), .val (.int (0 : Int32)), .val (.int (2 : Int32)), .val (.int (0 : Int32)), .unset] [(.int (0 : Int32))])) (fun _ k_ => XS.iload X0.here hx rfl (hb hby d6_3) rfl  k_) ?_
  refine own_k (T' := s₁) (g' := (mkF m 7 #[.val (.ref a1), .val (.int (0 : Int32)), .val (.ref a2), .val (.int (0 : Int32)), .val (.int (2 : Int32)), .val (.int (0 : Int32)), .unset] [(.int (2 : Int32)), (.int (0 : Int32))])) (fun _ k_ => XS.iload X0.here hx rfl (hb hby d6_5) rfl  k_) ?_
  refine own_k (T' := s₁) (g' := (mkF m 10 #[.val (.ref a1), .val (.int (0 : Int32)), .val (.ref a2), .val (.int (0 : Int32)), .val (.int (2 : Int32)), .val (.int (0 : Int32)), .unset] [])) (fun _ k_ => XS.icmpNo X0.here hx rfl (hb hby d6_7) rfl ((tlt (by decide : ((0 : Int32) < (2 : Int32)))).2.1) k_) ?_
  refine own_k (T' := s₁) (g' := (mkF m 11 #[.val (.ref a1), .val (.int (0 : Int32)), .val (.ref a2), .val (.int (0 : Int32)), .val (.int (2 : Int32)), .val (.int (0 : Int32)), .unset] [(.ref a1)])) (fun _ k_ => XS.aloadN X0.here hx rfl (hb hby d6_10) rfl rfl  k_) ?_
  refine own_k (T' := s₁) (g' := (mkF m 12 #[.val (.ref a1), .val (.int (0 : Int32)), .val (.ref a2), .val (.int (0 : Int32)), .val (.int (2 : Int32)), .val (.int (0 : Int32)), .unset] [(.int (0 : Int32)), (.ref a1)])) (fun _ k_ => XS.iloadN X0.here hx rfl (hb hby d6_11) rfl  k_) ?_
  refine own_caload X0 hx hZ e0 h_1 (j := (0 : Int32)) ⟨by decide, by decide⟩ (v := (.int i4)) rfl (hb hby d6_12) ?_
  show own_Go p e below Φ s₁ (mkF m 13 #[.val (.ref a1), .val (.int (0 : Int32)), .val (.ref a2), .val (.int (0 : Int32)), .val (.int (2 : Int32)), .val (.int (0 : Int32)), .unset] [(.int i4)])
  refine own_k (T' := s₁) (g' := (mkF m 15 #[.val (.ref a1), .val (.int (0 : Int32)), .val (.ref a2), .val (.int (0 : Int32)), .val (.int (2 : Int32)), .val (.int (0 : Int32)), .val (.int i4)] [])) (fun _ k_ => XS.istore X0.here hx rfl (hb hby d6_13) rfl (l' := #[.val (.ref a1), .val (.int (0 : Int32)), .val (.ref a2), .val (.int (0 : Int32)), .val (.int (2 : Int32)), .val (.int (0 : Int32)), .val (.int i4)]) rfl k_) ?_
  refine own_k (T' := s₁) (g' := (mkF m 17 #[.val (.ref a1), .val (.int (0 : Int32)), .val (.ref a2), .val (.int (0 : Int32)), .val (.int (2 : Int32)), .val (.int (0 : Int32)), .val (.int i4)] [(.int i4)])) (fun _ k_ => XS.iload X0.here hx rfl (hb hby d6_15) rfl  k_) ?_
  refine own_k (T' := s₁) (g' := (mkF m 20 #[.val (.ref a1), .val (.int (0 : Int32)), .val (.ref a2), .val (.int (0 : Int32)), .val (.int (2 : Int32)), .val (.int (0 : Int32)), .val (.int i4)] [(.int (255 : Int32)), (.int i4)])) (fun _ k_ => XS.sipush X0.here hx rfl (hb hby d6_17) k_) ?_
  refine own_k (T' := s₁) (g' := (mkF m 26 #[.val (.ref a1), .val (.int (0 : Int32)), .val (.ref a2), .val (.int (0 : Int32)), .val (.int (2 : Int32)), .val (.int (0 : Int32)), .val (.int i4)] [])) (fun _ k_ => XS.icmpYes X0.here hx rfl (pc0 := 20) (pc' := 26) rfl (hb hby d6_20) rfl ((flt h_2).2.2.2) (by decide) (by decide) k_) ?_
  refine own_k (T' := s₁) (g' := (mkF m 27 #[.val (.ref a1), .val (.int (0 : Int32)), .val (.ref a2), .val (.int (0 : Int32)), .val (.int (2 : Int32)), .val (.int (0 : Int32)), .val (.int i4)] [(.ref a2)])) (fun _ k_ => XS.aloadN X0.here hx rfl (hb hby d6_26) rfl rfl  k_) ?_
  refine own_k (T' := s₁) (g' := (mkF m 28 #[.val (.ref a1), .val (.int (0 : Int32)), .val (.ref a2), .val (.int (0 : Int32)), .val (.int (2 : Int32)), .val (.int (0 : Int32)), .val (.int i4)] [(.int (0 : Int32)), (.ref a2)])) (fun _ k_ => XS.iloadN X0.here hx rfl (hb hby d6_27) rfl  k_) ?_
  refine own_k (T' := s₁) (g' := (mkF m 30 #[.val (.ref a1), .val (.int (0 : Int32)), .val (.ref a2), .val (.int (0 : Int32)), .val (.int (2 : Int32)), .val (.int (0 : Int32)), .val (.int i4)] [(.int i4), (.int (0 : Int32)), (.ref a2)])) (fun _ k_ => XS.iload X0.here hx rfl (hb hby d6_28) rfl  k_) ?_
  refine own_k (T' := s₁) (g' := (mkF m 31 #[.val (.ref a1), .val (.int (0 : Int32)), .val (.ref a2), .val (.int (0 : Int32)), .val (.int (2 : Int32)), .val (.int (0 : Int32)), .val (.int i4)] [(.int (i4.toInt8.toInt32)), (.int (0 : Int32)), (.ref a2)])) (fun _ k_ => XS.i2b X0.here hx rfl (hb hby d6_30) rfl k_) ?_
  obtain ⟨T1, h1, X1, e1, W1, V1, st1⟩ := own_bastore (pc := 31) (Ls := #[.val (.ref a1), .val (.int (0 : Int32)), .val (.ref a2), .val (.int (0 : Int32)), .val (.int (2 : Int32)), .val (.int (0 : Int32)), .val (.int i4)]) (rest := []) X0 hx hZ e0 h_3 (j := (0 : Int32)) (x := (i4.toInt8.toInt32)) ⟨by decide, by decide⟩ 0 rfl (Nat.le_of_ble_eq_true rfl) (hb hby d6_31)
  have V1 : Arv Z h1 a2 q6 .byte (2 : Int32) [(.int (nar .byte (i4.toInt8.toInt32))), (.int (0 : Int32))] (.int (0 : Int32)) := V1
  rw [show nar .byte (i4.toInt8.toInt32) = (i4.toInt8.toInt32) from own_nar_byte _] at V1
  have O1' := O0.wr W1 h_4
  have N1 := Fr.snoc X1 N0 h_4
  refine own_k (T' := T1) (g' := (mkF m 32 #[.val (.ref a1), .val (.int (0 : Int32)), .val (.ref a2), .val (.int (0 : Int32)), .val (.int (2 : Int32)), .val (.int (0 : Int32)), .val (.int i4)] [])) st1 ?_
  refine own_k (T' := T1) (g' := (mkF m 35 #[.val (.ref a1), .val (.int ((0 : Int32) + (1 : Int32))), .val (.ref a2), .val (.int (0 : Int32)), .val (.int (2 : Int32)), .val (.int (0 : Int32)), .val (.int i4)] [])) (fun _ k_ => XS.iinc X1.here hx rfl (hb hby d6_32) rfl (l' := #[.val (.ref a1), .val (.int ((0 : Int32) + (1 : Int32))), .val (.ref a2), .val (.int (0 : Int32)), .val (.int (2 : Int32)), .val (.int (0 : Int32)), .val (.int i4)]) rfl k_) ?_
  rw [show ((0 : Int32) + (1 : Int32)) = (1 : Int32) from by decide]
  refine own_k (T' := T1) (g' := (mkF m 38 #[.val (.ref a1), .val (.int (1 : Int32)), .val (.ref a2), .val (.int ((0 : Int32) + (1 : Int32))), .val (.int (2 : Int32)), .val (.int (0 : Int32)), .val (.int i4)] [])) (fun _ k_ => XS.iinc X1.here hx rfl (hb hby d6_35) rfl (l' := #[.val (.ref a1), .val (.int (1 : Int32)), .val (.ref a2), .val (.int ((0 : Int32) + (1 : Int32))), .val (.int (2 : Int32)), .val (.int (0 : Int32)), .val (.int i4)]) rfl k_) ?_
  rw [show ((0 : Int32) + (1 : Int32)) = (1 : Int32) from by decide]
  refine own_k (T' := T1) (g' := (mkF m 41 #[.val (.ref a1), .val (.int (1 : Int32)), .val (.ref a2), .val (.int (1 : Int32)), .val (.int (2 : Int32)), .val (.int ((0 : Int32) + (1 : Int32))), .val (.int i4)] [])) (fun _ k_ => XS.iinc X1.here hx rfl (hb hby d6_38) rfl (l' := #[.val (.ref a1), .val (.int (1 : Int32)), .val (.ref a2), .val (.int (1 : Int32)), .val (.int (2 : Int32)), .val (.int ((0 : Int32) + (1 : Int32))), .val (.int i4)]) rfl k_) ?_
  rw [show ((0 : Int32) + (1 : Int32)) = (1 : Int32) from by decide]
  refine own_k (T' := T1) (g' := (mkF m 3 #[.val (.ref a1), .val (.int (1 : Int32)), .val (.ref a2), .val (.int (1 : Int32)), .val (.int (2 : Int32)), .val (.int (1 : Int32)), .val (.int i4)] [])) (fun _ k_ => XS.goto X1.here hx rfl (pc0 := 41) (pc' := 3) rfl (hb hby d6_41) (by decide) (by decide) k_) ?_
  refine own_k (T' := T1) (g' := (mkF m 5 #[.val (.ref a1), .val (.int (1 : Int32)), .val (.ref a2), .val (.int (1 : Int32)), .val (.int (2 : Int32)), .val (.int (1 : Int32)), .val (.int i4)] [(.int (1 : Int32))])) (fun _ k_ => XS.iload X1.here hx rfl (hb hby d6_3) rfl  k_) ?_
  refine own_k (T' := T1) (g' := (mkF m 7 #[.val (.ref a1), .val (.int (1 : Int32)), .val (.ref a2), .val (.int (1 : Int32)), .val (.int (2 : Int32)), .val (.int (1 : Int32)), .val (.int i4)] [(.int (2 : Int32)), (.int (1 : Int32))])) (fun _ k_ => XS.iload X1.here hx rfl (hb hby d6_5) rfl  k_) ?_
  refine own_k (T' := T1) (g' := (mkF m 10 #[.val (.ref a1), .val (.int (1 : Int32)), .val (.ref a2), .val (.int (1 : Int32)), .val (.int (2 : Int32)), .val (.int (1 : Int32)), .val (.int i4)] [])) (fun _ k_ => XS.icmpNo X1.here hx rfl (hb hby d6_7) rfl ((tlt (by decide : ((1 : Int32) < (2 : Int32)))).2.1) k_) ?_
  refine own_k (T' := T1) (g' := (mkF m 11 #[.val (.ref a1), .val (.int (1 : Int32)), .val (.ref a2), .val (.int (1 : Int32)), .val (.int (2 : Int32)), .val (.int (1 : Int32)), .val (.int i4)] [(.ref a1)])) (fun _ k_ => XS.aloadN X1.here hx rfl (hb hby d6_10) rfl rfl  k_) ?_
  refine own_k (T' := T1) (g' := (mkF m 12 #[.val (.ref a1), .val (.int (1 : Int32)), .val (.ref a2), .val (.int (1 : Int32)), .val (.int (2 : Int32)), .val (.int (1 : Int32)), .val (.int i4)] [(.int (1 : Int32)), (.ref a1)])) (fun _ k_ => XS.iloadN X1.here hx rfl (hb hby d6_11) rfl  k_) ?_
  refine own_caload X1 hx hZ e1 (h_1.other W1 h_5) (j := (1 : Int32)) ⟨by decide, by decide⟩ (v := (.int i5)) rfl (hb hby d6_12) ?_
  show own_Go p e below Φ T1 (mkF m 13 #[.val (.ref a1), .val (.int (1 : Int32)), .val (.ref a2), .val (.int (1 : Int32)), .val (.int (2 : Int32)), .val (.int (1 : Int32)), .val (.int i4)] [(.int i5)])
  refine own_k (T' := T1) (g' := (mkF m 15 #[.val (.ref a1), .val (.int (1 : Int32)), .val (.ref a2), .val (.int (1 : Int32)), .val (.int (2 : Int32)), .val (.int (1 : Int32)), .val (.int i5)] [])) (fun _ k_ => XS.istore X1.here hx rfl (hb hby d6_13) rfl (l' := #[.val (.ref a1), .val (.int (1 : Int32)), .val (.ref a2), .val (.int (1 : Int32)), .val (.int (2 : Int32)), .val (.int (1 : Int32)), .val (.int i5)]) rfl k_) ?_
  refine own_k (T' := T1) (g' := (mkF m 17 #[.val (.ref a1), .val (.int (1 : Int32)), .val (.ref a2), .val (.int (1 : Int32)), .val (.int (2 : Int32)), .val (.int (1 : Int32)), .val (.int i5)] [(.int i5)])) (fun _ k_ => XS.iload X1.here hx rfl (hb hby d6_15) rfl  k_) ?_
  refine own_k (T' := T1) (g' := (mkF m 20 #[.val (.ref a1), .val (.int (1 : Int32)), .val (.ref a2), .val (.int (1 : Int32)), .val (.int (2 : Int32)), .val (.int (1 : Int32)), .val (.int i5)] [(.int (255 : Int32)), (.int i5)])) (fun _ k_ => XS.sipush X1.here hx rfl (hb hby d6_17) k_) ?_
  refine own_k (T' := T1) (g' := (mkF m 26 #[.val (.ref a1), .val (.int (1 : Int32)), .val (.ref a2), .val (.int (1 : Int32)), .val (.int (2 : Int32)), .val (.int (1 : Int32)), .val (.int i5)] [])) (fun _ k_ => XS.icmpYes X1.here hx rfl (pc0 := 20) (pc' := 26) rfl (hb hby d6_20) rfl ((flt h_6).2.2.2) (by decide) (by decide) k_) ?_
  refine own_k (T' := T1) (g' := (mkF m 27 #[.val (.ref a1), .val (.int (1 : Int32)), .val (.ref a2), .val (.int (1 : Int32)), .val (.int (2 : Int32)), .val (.int (1 : Int32)), .val (.int i5)] [(.ref a2)])) (fun _ k_ => XS.aloadN X1.here hx rfl (hb hby d6_26) rfl rfl  k_) ?_
  refine own_k (T' := T1) (g' := (mkF m 28 #[.val (.ref a1), .val (.int (1 : Int32)), .val (.ref a2), .val (.int (1 : Int32)), .val (.int (2 : Int32)), .val (.int (1 : Int32)), .val (.int i5)] [(.int (1 : Int32)), (.ref a2)])) (fun _ k_ => XS.iloadN X1.here hx rfl (hb hby d6_27) rfl  k_) ?_
  refine own_k (T' := T1) (g' := (mkF m 30 #[.val (.ref a1), .val (.int (1 : Int32)), .val (.ref a2), .val (.int (1 : Int32)), .val (.int (2 : Int32)), .val (.int (1 : Int32)), .val (.int i5)] [(.int i5), (.int (1 : Int32)), (.ref a2)])) (fun _ k_ => XS.iload X1.here hx rfl (hb hby d6_28) rfl  k_) ?_
  refine own_k (T' := T1) (g' := (mkF m 31 #[.val (.ref a1), .val (.int (1 : Int32)), .val (.ref a2), .val (.int (1 : Int32)), .val (.int (2 : Int32)), .val (.int (1 : Int32)), .val (.int i5)] [(.int (i5.toInt8.toInt32)), (.int (1 : Int32)), (.ref a2)])) (fun _ k_ => XS.i2b X1.here hx rfl (hb hby d6_30) rfl k_) ?_
  obtain ⟨T2, h2, X2, e2, W2, V2, st2⟩ := own_bastore (pc := 31) (Ls := #[.val (.ref a1), .val (.int (1 : Int32)), .val (.ref a2), .val (.int (1 : Int32)), .val (.int (2 : Int32)), .val (.int (1 : Int32)), .val (.int i5)]) (rest := []) X1 hx hZ e1 V1 (j := (1 : Int32)) (x := (i5.toInt8.toInt32)) ⟨by decide, by decide⟩ 1 rfl (Nat.le_of_ble_eq_true rfl) (hb hby d6_31)
  have V2 : Arv Z h2 a2 q6 .byte (2 : Int32) [(.int (i4.toInt8.toInt32)), (.int (nar .byte (i5.toInt8.toInt32)))] (.int (0 : Int32)) := V2
  rw [show nar .byte (i5.toInt8.toInt32) = (i5.toInt8.toInt32) from own_nar_byte _] at V2
  have O2' := O1'.wr W2 h_4
  have N2 := Fr.snoc X2 N1 h_4
  refine own_k (T' := T2) (g' := (mkF m 32 #[.val (.ref a1), .val (.int (1 : Int32)), .val (.ref a2), .val (.int (1 : Int32)), .val (.int (2 : Int32)), .val (.int (1 : Int32)), .val (.int i5)] [])) st2 ?_
  refine own_k (T' := T2) (g' := (mkF m 35 #[.val (.ref a1), .val (.int ((1 : Int32) + (1 : Int32))), .val (.ref a2), .val (.int (1 : Int32)), .val (.int (2 : Int32)), .val (.int (1 : Int32)), .val (.int i5)] [])) (fun _ k_ => XS.iinc X2.here hx rfl (hb hby d6_32) rfl (l' := #[.val (.ref a1), .val (.int ((1 : Int32) + (1 : Int32))), .val (.ref a2), .val (.int (1 : Int32)), .val (.int (2 : Int32)), .val (.int (1 : Int32)), .val (.int i5)]) rfl k_) ?_
  rw [show ((1 : Int32) + (1 : Int32)) = (2 : Int32) from by decide]
  refine own_k (T' := T2) (g' := (mkF m 38 #[.val (.ref a1), .val (.int (2 : Int32)), .val (.ref a2), .val (.int ((1 : Int32) + (1 : Int32))), .val (.int (2 : Int32)), .val (.int (1 : Int32)), .val (.int i5)] [])) (fun _ k_ => XS.iinc X2.here hx rfl (hb hby d6_35) rfl (l' := #[.val (.ref a1), .val (.int (2 : Int32)), .val (.ref a2), .val (.int ((1 : Int32) + (1 : Int32))), .val (.int (2 : Int32)), .val (.int (1 : Int32)), .val (.int i5)]) rfl k_) ?_
  rw [show ((1 : Int32) + (1 : Int32)) = (2 : Int32) from by decide]
  refine own_k (T' := T2) (g' := (mkF m 41 #[.val (.ref a1), .val (.int (2 : Int32)), .val (.ref a2), .val (.int (2 : Int32)), .val (.int (2 : Int32)), .val (.int ((1 : Int32) + (1 : Int32))), .val (.int i5)] [])) (fun _ k_ => XS.iinc X2.here hx rfl (hb hby d6_38) rfl (l' := #[.val (.ref a1), .val (.int (2 : Int32)), .val (.ref a2), .val (.int (2 : Int32)), .val (.int (2 : Int32)), .val (.int ((1 : Int32) + (1 : Int32))), .val (.int i5)]) rfl k_) ?_
  rw [show ((1 : Int32) + (1 : Int32)) = (2 : Int32) from by decide]
  refine own_k (T' := T2) (g' := (mkF m 3 #[.val (.ref a1), .val (.int (2 : Int32)), .val (.ref a2), .val (.int (2 : Int32)), .val (.int (2 : Int32)), .val (.int (2 : Int32)), .val (.int i5)] [])) (fun _ k_ => XS.goto X2.here hx rfl (pc0 := 41) (pc' := 3) rfl (hb hby d6_41) (by decide) (by decide) k_) ?_
  refine own_k (T' := T2) (g' := (mkF m 5 #[.val (.ref a1), .val (.int (2 : Int32)), .val (.ref a2), .val (.int (2 : Int32)), .val (.int (2 : Int32)), .val (.int (2 : Int32)), .val (.int i5)] [(.int (2 : Int32))])) (fun _ k_ => XS.iload X2.here hx rfl (hb hby d6_3) rfl  k_) ?_
  refine own_k (T' := T2) (g' := (mkF m 7 #[.val (.ref a1), .val (.int (2 : Int32)), .val (.ref a2), .val (.int (2 : Int32)), .val (.int (2 : Int32)), .val (.int (2 : Int32)), .val (.int i5)] [(.int (2 : Int32)), (.int (2 : Int32))])) (fun _ k_ => XS.iload X2.here hx rfl (hb hby d6_5) rfl  k_) ?_
  refine own_k (T' := T2) (g' := (mkF m 44 #[.val (.ref a1), .val (.int (2 : Int32)), .val (.ref a2), .val (.int (2 : Int32)), .val (.int (2 : Int32)), .val (.int (2 : Int32)), .val (.int i5)] [])) (fun _ k_ => XS.icmpYes X2.here hx rfl (pc0 := 7) (pc' := 44) rfl (hb hby d6_7) rfl ((flt (by decide : ¬ ((2 : Int32) < (2 : Int32)))).2.1) (by decide) (by decide) k_) ?_
  refine own_k (T' := T2) (g' := (mkF m 46 #[.val (.ref a1), .val (.int (2 : Int32)), .val (.ref a2), .val (.int (2 : Int32)), .val (.int (2 : Int32)), .val (.int (2 : Int32)), .val (.int i5)] [(.int (2 : Int32))])) (fun _ k_ => XS.iload X2.here hx rfl (hb hby d6_44) rfl  k_) ?_
  have kp0 : Keep h0 h0 [a2] := Keep.refl h0 [a2]
  have kp1 : Keep h0 h1 [a2] := kp0.wr W1 (Or.inl (List.mem_of_getElem? (i := 0) rfl))
  have kp2 : Keep h0 h2 [a2] := kp1.wr W2 (Or.inl (List.mem_of_getElem? (i := 0) rfl))
  exact own_retI X2 hx hret hlk (hb hby d6_46) hF (by rw [e2]; exact ⟨rfl, N2, kp2, V2, ((h_7.wr W1).wr W2)⟩) (by decide) (by decide)
theorem d5_12 : decode jdk_52_method_16_code 12 = .ok (.istore 4, 2) := by decide +kernel
theorem d5_14 : decode jdk_52_method_16_code 14 = .ok (.iload 4, 2) := by decide +kernel
theorem d5_16 : decode jdk_52_method_16_code 16 = .ok (.iload_n 2, 1) := by decide +kernel
theorem d5_17 : decode jdk_52_method_16_code 17 = .ok (.if_icmp .eq 40, 3) := by decide +kernel
theorem d5_57 : decode jdk_52_method_16_code 57 = .ok (.aload_n 3, 1) := by decide +kernel
theorem d5_58 : decode jdk_52_method_16_code 58 = .ok (.areturn, 1) := by decide +kernel
set_option maxRecDepth 65536 in
set_option maxHeartbeats 40000000 in
theorem rm_compress_1 (l : Launch) (Z : State) (a0 : Array Value) (g_COMPACT_STRINGS : Int32) (g_SIOOBE_FORMATTER : Value) (hW : own_W Z a0 g_COMPACT_STRINGS g_SIOOBE_FORMATTER) (a1 : Addr) (q2 : ClassId) (i3 : Int32) (i4 : Int32) (h0 : Heap) (O0 : Old Z Z.heap.size h0) (h_1 : ¬ ((255 : Int32) < i3)) (h_2 : ¬ ((255 : Int32) < i4)) (h_3 : Arv Z h0 a1 q2 .char (2 : Int32) [(.int i3), (.int i4)] (.int (0 : Int32))) :
    own_Met l Z (⟨"java/lang/StringUTF16", "compress", "([CII)[B"⟩ : MethodName) jdk_52_method_16_code 6 (some (.array .byte)) ({ frames := 1, cells := 1, slots := 2, locals := 18 } : Room) #[(.ref a1), (.int (0 : Int32)), (.int (2 : Int32))] h0 (fun v h L => ∃ (b1 : Addr) (k1 : ClassId), v = some (.ref b1) ∧ Fr Z.heap.size L ∧ Keep h0 h [] ∧ h0.size ≤ b1 ∧ Exa Z h b1 "[B" ∧ Arv Z h b1 k1 .byte (2 : Int32) [(.int (i3.toInt8.toInt32)), (.int (i4.toInt8.toInt32))] (.int (0 : Int32))) := by
  have hW_ := hW
  obtain ⟨hw, S_g_COMPACT_STRINGS, P_g_COMPACT_STRINGS, R_g_SIOOBE_FORMATTER, S_g_SIOOBE_FORMATTER⟩ := hW_
  refine own_met (plainFor_of_name pn_java_lang_StringUTF16) ?_
  intro p e s m below meth cc_ s₁ Φ hF X0 hx hby hml hZ hown hnm hret hlk e0
  have N0 := Fr.nil Z.heap.size
  refine own_k (T' := s₁) (g' := (mkF m 0 #[.val (.ref a1), .val (.int (0 : Int32)), .val (.int (2 : Int32)), .unset, .unset, .unset] [])) (fun _ k_ => castTop (ef_5_RII m a1 (0 : Int32) (2 : Int32)) k_) ?_
  refine own_k (T' := s₁) (g' := (mkF m 1 #[.val (.ref a1), .val (.int (0 : Int32)), .val (.int (2 : Int32)), .unset, .unset, .unset] [(.int (2 : Int32))])) (fun _ k_ => XS.iloadN X0.here hx rfl (hb hby d5_0) rfl  k_) ?_
  obtain ⟨T1, h1, k1, X1, e1, E1, V1, A1, st1⟩ := own_newarr (pc := 1) (Ls := #[.val (.ref a1), .val (.int (0 : Int32)), .val (.int (2 : Int32)), .unset, .unset, .unset]) (rest := []) X0 hx hZ (hw _ (List.mem_of_getElem? (i := 23) rfl)) e0 (hb hby d5_1) (n := (2 : Int32)) (by decide) (cap := 2) (by decide) (by decide) (by decide) (by decide) (ad := "[B") (by decide)
  obtain ⟨b1, g1⟩ : ∃ z, z = h0.size := ⟨_, rfl⟩
  rw [← g1] at V1 A1 st1
  have O1' := O0.ext E1
  have V1 : Arv Z h1 b1 k1 .byte (2 : Int32) [(.int (0 : Int32)), (.int (0 : Int32))] (.int (0 : Int32)) := V1
  refine own_k (T' := T1) (g' := (mkF m 3 #[.val (.ref a1), .val (.int (0 : Int32)), .val (.int (2 : Int32)), .unset, .unset, .unset] [(.ref b1)])) st1 ?_
  refine own_k (T' := T1) (g' := (mkF m 4 #[.val (.ref a1), .val (.int (0 : Int32)), .val (.int (2 : Int32)), .val (.ref b1), .unset, .unset] [])) (fun _ k_ => XS.astoreN X1.here hx rfl (hb hby d5_3) rfl rfl (l' := #[.val (.ref a1), .val (.int (0 : Int32)), .val (.int (2 : Int32)), .val (.ref b1), .unset, .unset]) rfl k_) ?_
  refine own_k (T' := T1) (g' := (mkF m 5 #[.val (.ref a1), .val (.int (0 : Int32)), .val (.int (2 : Int32)), .val (.ref b1), .unset, .unset] [(.ref a1)])) (fun _ k_ => XS.aloadN X1.here hx rfl (hb hby d5_4) rfl rfl  k_) ?_
  refine own_k (T' := T1) (g' := (mkF m 6 #[.val (.ref a1), .val (.int (0 : Int32)), .val (.int (2 : Int32)), .val (.ref b1), .unset, .unset] [(.int (0 : Int32)), (.ref a1)])) (fun _ k_ => XS.iloadN X1.here hx rfl (hb hby d5_5) rfl  k_) ?_
  refine own_k (T' := T1) (g' := (mkF m 7 #[.val (.ref a1), .val (.int (0 : Int32)), .val (.int (2 : Int32)), .val (.ref b1), .unset, .unset] [(.ref b1), (.int (0 : Int32)), (.ref a1)])) (fun _ k_ => XS.aloadN X1.here hx rfl (hb hby d5_6) rfl rfl  k_) ?_
  refine own_k (T' := T1) (g' := (mkF m 8 #[.val (.ref a1), .val (.int (0 : Int32)), .val (.int (2 : Int32)), .val (.ref b1), .unset, .unset] [(.int (0 : Int32)), (.ref b1), (.int (0 : Int32)), (.ref a1)])) (fun _ k_ => XS.iconst X1.here hx rfl (hb hby d5_7) k_) ?_
  refine own_k (T' := T1) (g' := (mkF m 9 #[.val (.ref a1), .val (.int (0 : Int32)), .val (.int (2 : Int32)), .val (.ref b1), .unset, .unset] [(.int (2 : Int32)), (.int (0 : Int32)), (.ref b1), (.int (0 : Int32)), (.ref a1)])) (fun _ k_ => XS.iloadN X1.here hx rfl (hb hby d5_8) rfl  k_) ?_
  refine own_callS X1 hx hZ (y := (⟨"java/lang/StringUTF16", "compress", "([CI[BII)I"⟩ : MethodName)) hown (hw _ (List.mem_of_getElem? (i := 24) rfl)) (hw _ (List.mem_of_getElem? (i := 25) rfl)) (hw _ (List.mem_of_getElem? (i := 21) rfl)) (hw _ (List.mem_of_getElem? (i := 26) rfl)) (by decide) (al := [(.ref a1), (.int (0 : Int32)), (.ref b1), (.int (0 : Int32)), (.int (2 : Int32))]) (rm_compress_0 l Z a0 g_COMPACT_STRINGS g_SIOOBE_FORMATTER hW a1 b1 q2 i3 i4 k1 h1 O1' (h_3.ext E1) h_1 V1 (Nat.le_trans O0.2.1 (Nat.le_of_eq g1.symm)) (Nat.ne_of_lt (Nat.lt_of_lt_of_le h_3.lt (Nat.le_of_eq g1.symm))) h_2 A1) 0 (by decide) (by decide) e1 (by decide) (by decide) (by rw [hml]; rfl) (lenOf pd__28_5bCI_5bBII_29I rfl) rfl (rest := []) (by show 2 * 0 + _ ≤ _; exact Nat.le_of_eq rfl) (hb hby d5_9) ?_
  intro v2 T2 L2 X2 hQ2
  obtain ⟨rfl, Nq2, K2, q2_0, q2_1⟩ := hQ2
  have N2 := Fr.app N0 Nq2
  have O2' := O1'.keep K2 (allS (Nat.le_trans O0.2.1 (Nat.le_of_eq g1.symm)) all0)
  show own_Go p e below Φ T2 (mkF m 12 #[.val (.ref a1), .val (.int (0 : Int32)), .val (.int (2 : Int32)), .val (.ref b1), .unset, .unset] [(.int (2 : Int32))])
  refine own_k (T' := T2) (g' := (mkF m 14 #[.val (.ref a1), .val (.int (0 : Int32)), .val (.int (2 : Int32)), .val (.ref b1), .val (.int (2 : Int32)), .unset] [])) (fun _ k_ => XS.istore X2.here hx rfl (hb hby d5_12) rfl (l' := #[.val (.ref a1), .val (.int (0 : Int32)), .val (.int (2 : Int32)), .val (.ref b1), .val (.int (2 : Int32)), .unset]) rfl k_) ?_
  refine own_k (T' := T2) (g' := (mkF m 16 #[.val (.ref a1), .val (.int (0 : Int32)), .val (.int (2 : Int32)), .val (.ref b1), .val (.int (2 : Int32)), .unset] [(.int (2 : Int32))])) (fun _ k_ => XS.iload X2.here hx rfl (hb hby d5_14) rfl  k_) ?_
  refine own_k (T' := T2) (g' := (mkF m 17 #[.val (.ref a1), .val (.int (0 : Int32)), .val (.int (2 : Int32)), .val (.ref b1), .val (.int (2 : Int32)), .unset] [(.int (2 : Int32)), (.int (2 : Int32))])) (fun _ k_ => XS.iloadN X2.here hx rfl (hb hby d5_16) rfl  k_) ?_
  refine own_k (T' := T2) (g' := (mkF m 57 #[.val (.ref a1), .val (.int (0 : Int32)), .val (.int (2 : Int32)), .val (.ref b1), .val (.int (2 : Int32)), .unset] [])) (fun _ k_ => XS.icmpYes X2.here hx rfl (pc0 := 17) (pc' := 57) rfl (hb hby d5_17) rfl ((teq (by decide : ((2 : Int32) = (2 : Int32)))).1) (by decide) (by decide) k_) ?_
  refine own_k (T' := T2) (g' := (mkF m 58 #[.val (.ref a1), .val (.int (0 : Int32)), .val (.int (2 : Int32)), .val (.ref b1), .val (.int (2 : Int32)), .unset] [(.ref b1)])) (fun _ k_ => XS.aloadN X2.here hx rfl (hb hby d5_57) rfl rfl  k_) ?_
  have kp0 : Keep h0 h0 [] := Keep.refl h0 []
  have kp1 : Keep h0 h1 [] := kp0.ext E1
  have kp2 : Keep h0 T2.heap [] := kp1.trans K2 (allS (Or.inr (Nat.le_trans kp0.1 (Nat.le_of_eq g1.symm))) all0)
  exact own_retA X2 hx hret rfl rfl hlk (hb hby d5_58) hF (⟨b1, k1, rfl, N2, kp2, (Nat.le_trans kp0.1 (Nat.le_of_eq g1.symm)), q2_1, q2_0⟩) (by decide) (by decide)
theorem d3_39 : decode jdk_42_method_149_code 39 = .ok (.astore 5, 2) := by decide +kernel
theorem d3_41 : decode jdk_42_method_149_code 41 = .ok (.aload_n 0, 1) := by decide +kernel
theorem d3_42 : decode jdk_42_method_149_code 42 = .ok (.aload 5, 2) := by decide +kernel
theorem d3_44 : decode jdk_42_method_149_code 44 = .ok (.iload_n 3, 1) := by decide +kernel
theorem d3_45 : decode jdk_42_method_149_code 45 = .ok (.invokestatic 47, 3) := by decide +kernel
theorem pd__28_5bBI_29B : parseMethodDescriptor "([BI)B" = some ⟨[(.array .byte), .int], some .byte⟩ := by decide +kernel
theorem ef_7_RI (m : MethodId) (x0 : Addr) (x1 : Int32)  : entryFrame m #[(.ref x0), (.int x1)] 2 = mkF m 0 #[.val (.ref x0), .val (.int x1)] [] := by first | (simp [entryFrame, mkF, argsToLocals, Value.category]; done) | rfl
theorem d7_0 : decode jdk_52_method_15_code 0 = .ok (.iload_n 1, 1) := by decide +kernel
theorem d7_1 : decode jdk_52_method_15_code 1 = .ok (.aload_n 0, 1) := by decide +kernel
theorem d7_2 : decode jdk_52_method_15_code 2 = .ok (.arraylength, 1) := by decide +kernel
theorem d7_3 : decode jdk_52_method_15_code 3 = .ok (.isub, 1) := by decide +kernel
theorem d7_4 : decode jdk_52_method_15_code 4 = .ok (.bipush 31, 2) := by decide +kernel
theorem d7_6 : decode jdk_52_method_15_code 6 = .ok (.iushr, 1) := by decide +kernel
theorem d7_7 : decode jdk_52_method_15_code 7 = .ok (.i2b, 1) := by decide +kernel
theorem d7_8 : decode jdk_52_method_15_code 8 = .ok (.ireturn, 1) := by decide +kernel
set_option maxRecDepth 65536 in
set_option maxHeartbeats 40000000 in
theorem rm_coderFromArrayLen_2 (l : Launch) (Z : State) (a0 : Array Value) (g_COMPACT_STRINGS : Int32) (g_SIOOBE_FORMATTER : Value) (hW : own_W Z a0 g_COMPACT_STRINGS g_SIOOBE_FORMATTER) (a1 : Addr) (q2 : ClassId) (i3 : Int32) (i4 : Int32) (h0 : Heap) (O0 : Old Z Z.heap.size h0) (h_1 : Arv Z h0 a1 q2 .byte (2 : Int32) [(.int i3), (.int i4)] (.int (0 : Int32))) :
    own_Met l Z (⟨"java/lang/StringUTF16", "coderFromArrayLen", "([BI)B"⟩ : MethodName) jdk_52_method_15_code 2 (some .byte) ({ frames := 0, cells := 0, slots := 0, locals := 0 } : Room) #[(.ref a1), (.int (2 : Int32))] h0 (fun v h L => v = some (.int (0 : Int32)) ∧ Fr Z.heap.size L ∧ h = h0) := by
  have hW_ := hW
  obtain ⟨hw, S_g_COMPACT_STRINGS, P_g_COMPACT_STRINGS, R_g_SIOOBE_FORMATTER, S_g_SIOOBE_FORMATTER⟩ := hW_
  refine own_met (plainFor_of_name pn_java_lang_StringUTF16) ?_
  intro p e s m below meth cc_ s₁ Φ hF X0 hx hby hml hZ hown hnm hret hlk e0
  have N0 := Fr.nil Z.heap.size
  refine own_k (T' := s₁) (g' := (mkF m 0 #[.val (.ref a1), .val (.int (2 : Int32))] [])) (fun _ k_ => castTop (ef_7_RI m a1 (2 : Int32)) k_) ?_
  refine own_k (T' := s₁) (g' := (mkF m 1 #[.val (.ref a1), .val (.int (2 : Int32))] [(.int (2 : Int32))])) (fun _ k_ => XS.iloadN X0.here hx rfl (hb hby d7_0) rfl  k_) ?_
  refine own_k (T' := s₁) (g' := (mkF m 2 #[.val (.ref a1), .val (.int (2 : Int32))] [(.ref a1), (.int (2 : Int32))])) (fun _ k_ => XS.aloadN X0.here hx rfl (hb hby d7_1) rfl rfl  k_) ?_
  refine own_len X0 hx hZ e0 h_1 (hb hby d7_2) ?_
  show own_Go p e below Φ s₁ (mkF m 3 #[.val (.ref a1), .val (.int (2 : Int32))] [(.int (2 : Int32)), (.int (2 : Int32))])
  refine own_k (T' := s₁) (g' := (mkF m 4 #[.val (.ref a1), .val (.int (2 : Int32))] [(.int ((2 : Int32) - (2 : Int32)))])) (fun _ k_ => XS.isub X0.here hx rfl (hb hby d7_3) rfl k_) ?_
  rw [show ((2 : Int32) - (2 : Int32)) = (0 : Int32) from by decide]
  refine own_k (T' := s₁) (g' := (mkF m 6 #[.val (.ref a1), .val (.int (2 : Int32))] [(.int (31 : Int32)), (.int (0 : Int32))])) (fun _ k_ => XS.bipush X0.here hx rfl (hb hby d7_4) k_) ?_
  refine own_k (T' := s₁) (g' := (mkF m 7 #[.val (.ref a1), .val (.int (2 : Int32))] [(.int (((0 : Int32).toUInt32 >>> ((31 : Int32) &&& 31).toUInt32).toInt32))])) (fun _ k_ => XS.iushr X0.here hx rfl (hb hby d7_6) rfl k_) ?_
  rw [show (((0 : Int32).toUInt32 >>> ((31 : Int32) &&& 31).toUInt32).toInt32) = (0 : Int32) from by decide]
  refine own_k (T' := s₁) (g' := (mkF m 8 #[.val (.ref a1), .val (.int (2 : Int32))] [(.int ((0 : Int32).toInt8.toInt32))])) (fun _ k_ => XS.i2b X0.here hx rfl (hb hby d7_7) rfl k_) ?_
  rw [show ((0 : Int32).toInt8.toInt32) = (0 : Int32) from by decide]
  exact own_retN X0 hx (t := .byte) hret (by simp) hlk (hb hby d7_8) hF (by rw [e0]; exact ⟨by rw [show nar .byte (0 : Int32) = (0 : Int32) from by decide], N0, rfl⟩) (by decide) (by decide)
theorem d3_48 : decode jdk_42_method_149_code 48 = .ok (.putfield 15, 3) := by decide +kernel
theorem d3_51 : decode jdk_42_method_149_code 51 = .ok (.aload_n 0, 1) := by decide +kernel
theorem d3_52 : decode jdk_42_method_149_code 52 = .ok (.aload 5, 2) := by decide +kernel
theorem d3_54 : decode jdk_42_method_149_code 54 = .ok (.putfield 9, 3) := by decide +kernel
theorem d3_57 : decode jdk_42_method_149_code 57 = .ok (.return_, 1) := by decide +kernel
set_option maxRecDepth 65536 in
set_option maxHeartbeats 40000000 in
theorem rm_init_3 (l : Launch) (Z : State) (a0 : Array Value) (g_COMPACT_STRINGS : Int32) (g_SIOOBE_FORMATTER : Value) (hW : own_W Z a0 g_COMPACT_STRINGS g_SIOOBE_FORMATTER) (a1 : Addr) (a2 : Addr) (q3 : ClassId) (i4 : Int32) (i5 : Int32) (h0 : Heap) (O0 : Old Z Z.heap.size h0) (h_1 : ¬ ((255 : Int32) < i4)) (h_2 : ¬ ((255 : Int32) < i5)) (h_3 : Arv Z h0 a2 q3 .char (2 : Int32) [(.int i4), (.int i5)] (.int (0 : Int32))) (h_4 : Fld Z h0 a1 "java/lang/String" "coder" "B" (.int (0 : Int32))) (h_5 : Exa Z h0 a1 "java/lang/String") (h_6 : Z.heap.size ≤ a1) (h_7 : Fld Z h0 a1 "java/lang/String" "value" "[B" .null) :
    own_Met l Z (⟨"java/lang/String", "<init>", "([CIILjava/lang/Void;)V"⟩ : MethodName) jdk_42_method_149_code 6 none ({ frames := 2, cells := 1, slots := 2, locals := 35 } : Room) #[(.ref a1), (.ref a2), (.int (0 : Int32)), (.int (2 : Int32)), .null] h0 (fun v h L => ∃ (b3_0 : Addr) (k3_1 : ClassId), v = none ∧ Fr Z.heap.size L ∧ Keep h0 h [a1] ∧ h0.size ≤ b3_0 ∧ Exa Z h a1 "java/lang/String" ∧ Fld Z h a1 "java/lang/String" "coder" "B" (.int (0 : Int32)) ∧ Fld Z h a1 "java/lang/String" "value" "[B" (.ref b3_0) ∧ Exa Z h b3_0 "[B" ∧ Arv Z h b3_0 k3_1 .byte (2 : Int32) [(.int (i4.toInt8.toInt32)), (.int (i5.toInt8.toInt32))] (.int (0 : Int32))) := by
  have hW_ := hW
  obtain ⟨hw, S_g_COMPACT_STRINGS, P_g_COMPACT_STRINGS, R_g_SIOOBE_FORMATTER, S_g_SIOOBE_FORMATTER⟩ := hW_
  refine own_met (plainFor_of_name pn_java_lang_String) ?_
  intro p e s m below meth cc_ s₁ Φ hF X0 hx hby hml hZ hown hnm hret hlk e0
  have N0 := Fr.nil Z.heap.size
  refine own_k (T' := s₁) (g' := (mkF m 0 #[.val (.ref a1), .val (.ref a2), .val (.int (0 : Int32)), .val (.int (2 : Int32)), .val .null, .unset] [])) (fun _ k_ => castTop (ef_3_RRIIN m a1 a2 (0 : Int32) (2 : Int32)) k_) ?_
  refine own_k (T' := s₁) (g' := (mkF m 1 #[.val (.ref a1), .val (.ref a2), .val (.int (0 : Int32)), .val (.int (2 : Int32)), .val .null, .unset] [(.ref a1)])) (fun _ k_ => XS.aloadN X0.here hx rfl (hb hby d3_0) rfl rfl  k_) ?_
  obtain ⟨T1, X1, e1, st1⟩ := initO X0 hx hZ hown (hw _ (List.mem_of_getElem? (i := 15) rfl)) (hw _ (List.mem_of_getElem? (i := 16) rfl)) (hw _ (List.mem_of_getElem? (i := 17) rfl)) e0 (g := (mkF m 1 #[.val (.ref a1), .val (.ref a2), .val (.int (0 : Int32)), .val (.int (2 : Int32)), .val .null, .unset] [(.ref a1)])) rfl (by rw [hml]; rfl) rfl (hb hby d3_1) (by decide) (W := 0) (by show 2 * 0 + _ ≤ _; exact Nat.le_of_eq rfl) (by decide)
  refine own_k (T' := T1) (g' := (mkF m 4 #[.val (.ref a1), .val (.ref a2), .val (.int (0 : Int32)), .val (.int (2 : Int32)), .val .null, .unset] [])) st1 ?_
  refine own_k (T' := T1) (g' := (mkF m 5 #[.val (.ref a1), .val (.ref a2), .val (.int (0 : Int32)), .val (.int (2 : Int32)), .val .null, .unset] [(.int (2 : Int32))])) (fun _ k_ => XS.iloadN X1.here hx rfl (hb hby d3_4) rfl  k_) ?_
  refine own_k (T' := T1) (g' := (mkF m 27 #[.val (.ref a1), .val (.ref a2), .val (.int (0 : Int32)), .val (.int (2 : Int32)), .val .null, .unset] [])) (fun _ k_ => XS.ifYes X1.here hx rfl (pc0 := 5) (pc' := 27) rfl (hb hby d3_5) rfl ((if0 _ _).trans (feq (by decide : ¬ ((2 : Int32) = (0 : Int32)))).2) (by decide) (by decide) k_) ?_
  obtain ⟨T2, X2, e2, st2⟩ := getS2 X1 hx hZ hown (host := "") (Or.inl (hw _ (List.mem_of_getElem? (i := 18) rfl))) Via.refl e1 (S_g_COMPACT_STRINGS.ext O0.2) (g := (mkF m 27 #[.val (.ref a1), .val (.ref a2), .val (.int (0 : Int32)), .val (.int (2 : Int32)), .val .null, .unset] [])) rfl (hb hby d3_27)
  refine own_k (T' := T2) (g' := (mkF m 30 #[.val (.ref a1), .val (.ref a2), .val (.int (0 : Int32)), .val (.int (2 : Int32)), .val .null, .unset] [(.int g_COMPACT_STRINGS)])) st2 ?_
  refine own_k (T' := T2) (g' := (mkF m 33 #[.val (.ref a1), .val (.ref a2), .val (.int (0 : Int32)), .val (.int (2 : Int32)), .val .null, .unset] [])) (fun _ k_ => XS.ifNo X2.here hx rfl (hb hby d3_30) rfl ((if0 _ _).trans (feq P_g_COMPACT_STRINGS).1) k_) ?_
  refine own_k (T' := T2) (g' := (mkF m 34 #[.val (.ref a1), .val (.ref a2), .val (.int (0 : Int32)), .val (.int (2 : Int32)), .val .null, .unset] [(.ref a2)])) (fun _ k_ => XS.aloadN X2.here hx rfl (hb hby d3_33) rfl rfl  k_) ?_
  refine own_k (T' := T2) (g' := (mkF m 35 #[.val (.ref a1), .val (.ref a2), .val (.int (0 : Int32)), .val (.int (2 : Int32)), .val .null, .unset] [(.int (0 : Int32)), (.ref a2)])) (fun _ k_ => XS.iloadN X2.here hx rfl (hb hby d3_34) rfl  k_) ?_
  refine own_k (T' := T2) (g' := (mkF m 36 #[.val (.ref a1), .val (.ref a2), .val (.int (0 : Int32)), .val (.int (2 : Int32)), .val .null, .unset] [(.int (2 : Int32)), (.int (0 : Int32)), (.ref a2)])) (fun _ k_ => XS.iloadN X2.here hx rfl (hb hby d3_35) rfl  k_) ?_
  refine own_callS X2 hx hZ (y := (⟨"java/lang/StringUTF16", "compress", "([CII)[B"⟩ : MethodName)) hown (hw _ (List.mem_of_getElem? (i := 19) rfl)) (hw _ (List.mem_of_getElem? (i := 20) rfl)) (hw _ (List.mem_of_getElem? (i := 21) rfl)) (hw _ (List.mem_of_getElem? (i := 22) rfl)) (by decide) (al := [(.ref a2), (.int (0 : Int32)), (.int (2 : Int32))]) (rm_compress_1 l Z a0 g_COMPACT_STRINGS g_SIOOBE_FORMATTER hW a2 q3 i4 i5 h0 O0 h_1 h_2 h_3) 0 (by decide) (by decide) e2 (by decide) (by decide) (by rw [hml]; rfl) (lenOf pd__28_5bCII_29_5bB rfl) rfl (rest := []) (by show 2 * 0 + _ ≤ _; exact Nat.le_of_eq rfl) (hb hby d3_36) ?_
  intro v3 T3 L3 X3 hQ3
  obtain ⟨b3_0, k3_1, rfl, Nq3, K3, ge3_0, q3_0, q3_1⟩ := hQ3
  have N3 := Fr.app N0 Nq3
  have O3' := O0.keep K3 all0
  show own_Go p e below Φ T3 (mkF m 39 #[.val (.ref a1), .val (.ref a2), .val (.int (0 : Int32)), .val (.int (2 : Int32)), .val .null, .unset] [(.ref b3_0)])
  refine own_k (T' := T3) (g' := (mkF m 41 #[.val (.ref a1), .val (.ref a2), .val (.int (0 : Int32)), .val (.int (2 : Int32)), .val .null, .val (.ref b3_0)] [])) (fun _ k_ => XS.astore X3.here hx rfl (hb hby d3_39) rfl rfl (l' := #[.val (.ref a1), .val (.ref a2), .val (.int (0 : Int32)), .val (.int (2 : Int32)), .val .null, .val (.ref b3_0)]) rfl k_) ?_
  refine own_k (T' := T3) (g' := (mkF m 42 #[.val (.ref a1), .val (.ref a2), .val (.int (0 : Int32)), .val (.int (2 : Int32)), .val .null, .val (.ref b3_0)] [(.ref a1)])) (fun _ k_ => XS.aloadN X3.here hx rfl (hb hby d3_41) rfl rfl  k_) ?_
  refine own_k (T' := T3) (g' := (mkF m 44 #[.val (.ref a1), .val (.ref a2), .val (.int (0 : Int32)), .val (.int (2 : Int32)), .val .null, .val (.ref b3_0)] [(.ref b3_0), (.ref a1)])) (fun _ k_ => XS.aload X3.here hx rfl (hb hby d3_42) rfl rfl  k_) ?_
  refine own_k (T' := T3) (g' := (mkF m 45 #[.val (.ref a1), .val (.ref a2), .val (.int (0 : Int32)), .val (.int (2 : Int32)), .val .null, .val (.ref b3_0)] [(.int (2 : Int32)), (.ref b3_0), (.ref a1)])) (fun _ k_ => XS.iloadN X3.here hx rfl (hb hby d3_44) rfl  k_) ?_
  refine own_callS X3 hx hZ (y := (⟨"java/lang/StringUTF16", "coderFromArrayLen", "([BI)B"⟩ : MethodName)) hown (hw _ (List.mem_of_getElem? (i := 27) rfl)) (hw _ (List.mem_of_getElem? (i := 28) rfl)) (hw _ (List.mem_of_getElem? (i := 21) rfl)) (hw _ (List.mem_of_getElem? (i := 29) rfl)) (by decide) (al := [(.ref b3_0), (.int (2 : Int32))]) (rm_coderFromArrayLen_2 l Z a0 g_COMPACT_STRINGS g_SIOOBE_FORMATTER hW b3_0 k3_1 (i4.toInt8.toInt32) (i5.toInt8.toInt32) T3.heap O3' q3_1) 1 (by decide) (by decide) rfl (by decide) (by decide) (by rw [hml]; rfl) (lenOf pd__28_5bBI_29B rfl) rfl (rest := [(.ref a1)]) (by show 2 * 0 + _ ≤ _; exact Nat.le_of_eq rfl) (hb hby d3_45) ?_
  intro v4 T4 L4 X4 hQ4
  obtain ⟨rfl, Nq4, e4⟩ := hQ4
  have N4 := Fr.app N3 Nq4
  show own_Go p e below Φ T4 (mkF m 48 #[.val (.ref a1), .val (.ref a2), .val (.int (0 : Int32)), .val (.int (2 : Int32)), .val .null, .val (.ref b3_0)] [(.int (0 : Int32)), (.ref a1)])
  obtain ⟨T5, h5, X5, e5, W5, st5⟩ := putFN X4 hx hZ hown (hw _ (List.mem_of_getElem? (i := 30) rfl)) Via.refl e4 (h_4.keep K3 nin0) (h_5.keep K3) (Or.inr ⟨(hw _ (List.mem_of_getElem? (i := 31) rfl)), rfl, hnm⟩) (hw _ (List.mem_of_getElem? (i := 6) rfl)) (ty := .byte) (v' := (.int (nar .byte (0 : Int32)))) (by decide) rfl (fits_nar_byte _) (g := (mkF m 48 #[.val (.ref a1), .val (.ref a2), .val (.int (0 : Int32)), .val (.int (2 : Int32)), .val .null, .val (.ref b3_0)] [(.int (0 : Int32)), (.ref a1)])) rfl rfl (hb hby d3_48)
  have w5 := Fld.same W5 (h_4.keep K3 nin0)
  rw [show nar .byte (0 : Int32) = (0 : Int32) from by decide] at w5
  have O5' := O3'.wr W5 h_6
  have N5 := Fr.snoc X5 N4 h_6
  refine own_k (T' := T5) (g' := (mkF m 51 #[.val (.ref a1), .val (.ref a2), .val (.int (0 : Int32)), .val (.int (2 : Int32)), .val .null, .val (.ref b3_0)] [])) st5 ?_
  refine own_k (T' := T5) (g' := (mkF m 52 #[.val (.ref a1), .val (.ref a2), .val (.int (0 : Int32)), .val (.int (2 : Int32)), .val .null, .val (.ref b3_0)] [(.ref a1)])) (fun _ k_ => XS.aloadN X5.here hx rfl (hb hby d3_51) rfl rfl  k_) ?_
  refine own_k (T' := T5) (g' := (mkF m 54 #[.val (.ref a1), .val (.ref a2), .val (.int (0 : Int32)), .val (.int (2 : Int32)), .val .null, .val (.ref b3_0)] [(.ref b3_0), (.ref a1)])) (fun _ k_ => XS.aload X5.here hx rfl (hb hby d3_52) rfl rfl  k_) ?_
  have f6 := ((h_7.keep K3 nin0).other W5 (Or.inr (slot_ne (Or.inr (hw _ (List.mem_of_getElem? (i := 33) rfl))) (Or.inr (hw _ (List.mem_of_getElem? (i := 31) rfl))) (by decide) (t := (.array .byte)) (t' := .byte) (by decide) (by decide))))
  obtain ⟨T7, h7, X7, e7, W7, st7⟩ := putF X5 hx hZ hown (host := "") (Or.inl (hw _ (List.mem_of_getElem? (i := 32) rfl))) Via.refl e5 f6 ((h_5.keep K3).wr W5) (Or.inr ⟨(hw _ (List.mem_of_getElem? (i := 33) rfl)), rfl, hnm⟩) (hw _ (List.mem_of_getElem? (i := 6) rfl)) (ty := (.array .byte)) (by decide) rfl rfl (g := (mkF m 54 #[.val (.ref a1), .val (.ref a2), .val (.int (0 : Int32)), .val (.int (2 : Int32)), .val .null, .val (.ref b3_0)] [(.ref b3_0), (.ref a1)])) rfl rfl (hb hby d3_54)
  have w7 := Fld.same W7 f6
  have O7' := O5'.wr W7 h_6
  have N7 := Fr.snoc X7 N5 h_6
  refine own_k (T' := T7) (g' := (mkF m 57 #[.val (.ref a1), .val (.ref a2), .val (.int (0 : Int32)), .val (.int (2 : Int32)), .val .null, .val (.ref b3_0)] [])) st7 ?_
  have kp0 : Keep h0 h0 [a1] := Keep.refl h0 [a1]
  have kp1 : Keep h0 T3.heap [a1] := kp0.trans K3 all0
  have kp2 : Keep h0 h5 [a1] := kp1.wr W5 (Or.inl (List.mem_of_getElem? (i := 0) rfl))
  have kp3 : Keep h0 h7 [a1] := kp2.wr W7 (Or.inl (List.mem_of_getElem? (i := 0) rfl))
  have f8 := (w5.other W7 (Or.inr (slot_ne (Or.inr (hw _ (List.mem_of_getElem? (i := 31) rfl))) (Or.inr (hw _ (List.mem_of_getElem? (i := 33) rfl))) (by decide) (t := .byte) (t' := (.array .byte)) (by decide) (by decide))))
  have f9 := ((q3_1.other W5 (Ne.symm (Nat.ne_of_lt (Nat.lt_of_lt_of_le h_5.lt ge3_0)))).other W7 (Ne.symm (Nat.ne_of_lt (Nat.lt_of_lt_of_le h_5.lt ge3_0))))
  exact own_ret0 X7 hx hret hlk (hb hby d3_57) hF (by rw [e7]; exact ⟨b3_0, k3_1, rfl, N7, kp3, (Nat.le_trans kp0.1 ge3_0), (((h_5.keep K3).wr W5).wr W7), f8, w7, ((q3_0.wr W5).wr W7), f9⟩) (by decide) (by decide)
theorem d2_9 : decode jdk_42_method_3_code 9 = .ok (.return_, 1) := by decide +kernel
set_option maxRecDepth 65536 in
set_option maxHeartbeats 40000000 in
theorem rm_init_4 (l : Launch) (Z : State) (a0 : Array Value) (g_COMPACT_STRINGS : Int32) (g_SIOOBE_FORMATTER : Value) (hW : own_W Z a0 g_COMPACT_STRINGS g_SIOOBE_FORMATTER) (a1 : Addr) (a2 : Addr) (q3 : ClassId) (i4 : Int32) (i5 : Int32) (h0 : Heap) (O0 : Old Z Z.heap.size h0) (h_1 : Arv Z h0 a2 q3 .char (2 : Int32) [(.int i4), (.int i5)] (.int (0 : Int32))) (h_2 : ¬ ((255 : Int32) < i4)) (h_3 : ¬ ((255 : Int32) < i5)) (h_4 : Fld Z h0 a1 "java/lang/String" "coder" "B" (.int (0 : Int32))) (h_5 : Exa Z h0 a1 "java/lang/String") (h_6 : Z.heap.size ≤ a1) (h_7 : Fld Z h0 a1 "java/lang/String" "value" "[B" .null) :
    own_Met l Z (⟨"java/lang/String", "<init>", "([C)V"⟩ : MethodName) jdk_42_method_3_code 2 none ({ frames := 3, cells := 1, slots := 2, locals := 52 } : Room) #[(.ref a1), (.ref a2)] h0 (fun v h L => ∃ (b1_0 : Addr) (k1_1 : ClassId), v = none ∧ Fr Z.heap.size L ∧ Keep h0 h [a1] ∧ h0.size ≤ b1_0 ∧ Exa Z h a1 "java/lang/String" ∧ Fld Z h a1 "java/lang/String" "coder" "B" (.int (0 : Int32)) ∧ Fld Z h a1 "java/lang/String" "value" "[B" (.ref b1_0) ∧ Exa Z h b1_0 "[B" ∧ Arv Z h b1_0 k1_1 .byte (2 : Int32) [(.int (i4.toInt8.toInt32)), (.int (i5.toInt8.toInt32))] (.int (0 : Int32))) := by
  have hW_ := hW
  obtain ⟨hw, S_g_COMPACT_STRINGS, P_g_COMPACT_STRINGS, R_g_SIOOBE_FORMATTER, S_g_SIOOBE_FORMATTER⟩ := hW_
  refine own_met (plainFor_of_name pn_java_lang_String) ?_
  intro p e s m below meth cc_ s₁ Φ hF X0 hx hby hml hZ hown hnm hret hlk e0
  have N0 := Fr.nil Z.heap.size
  refine own_k (T' := s₁) (g' := (mkF m 0 #[.val (.ref a1), .val (.ref a2)] [])) (fun _ k_ => castTop (ef_2_RR m a1 a2) k_) ?_
  refine own_k (T' := s₁) (g' := (mkF m 1 #[.val (.ref a1), .val (.ref a2)] [(.ref a1)])) (fun _ k_ => XS.aloadN X0.here hx rfl (hb hby d2_0) rfl rfl  k_) ?_
  refine own_k (T' := s₁) (g' := (mkF m 2 #[.val (.ref a1), .val (.ref a2)] [(.ref a2), (.ref a1)])) (fun _ k_ => XS.aloadN X0.here hx rfl (hb hby d2_1) rfl rfl  k_) ?_
  refine own_k (T' := s₁) (g' := (mkF m 3 #[.val (.ref a1), .val (.ref a2)] [(.int (0 : Int32)), (.ref a2), (.ref a1)])) (fun _ k_ => XS.iconst X0.here hx rfl (hb hby d2_2) k_) ?_
  refine own_k (T' := s₁) (g' := (mkF m 4 #[.val (.ref a1), .val (.ref a2)] [(.ref a2), (.int (0 : Int32)), (.ref a2), (.ref a1)])) (fun _ k_ => XS.aloadN X0.here hx rfl (hb hby d2_3) rfl rfl  k_) ?_
  refine own_len X0 hx hZ e0 h_1 (hb hby d2_4) ?_
  show own_Go p e below Φ s₁ (mkF m 5 #[.val (.ref a1), .val (.ref a2)] [(.int (2 : Int32)), (.int (0 : Int32)), (.ref a2), (.ref a1)])
  refine own_k (T' := s₁) (g' := (mkF m 6 #[.val (.ref a1), .val (.ref a2)] [.null, (.int (2 : Int32)), (.int (0 : Int32)), (.ref a2), (.ref a1)])) (fun _ k_ => XS.aconstNull X0.here hx rfl (hb hby d2_5) k_) ?_
  refine own_callN X0 hx hZ (y := (⟨"java/lang/String", "<init>", "([CIILjava/lang/Void;)V"⟩ : MethodName)) rfl hown (hw _ (List.mem_of_getElem? (i := 11) rfl)) (hw _ (List.mem_of_getElem? (i := 12) rfl)) (hw _ (List.mem_of_getElem? (i := 14) rfl)) (hw _ (List.mem_of_getElem? (i := 7) rfl)) (by decide) (al := [(.ref a2), (.int (0 : Int32)), (.int (2 : Int32)), .null]) (b := a1) (rm_init_3 l Z a0 g_COMPACT_STRINGS g_SIOOBE_FORMATTER hW a1 a2 q3 i4 i5 h0 O0 h_2 h_3 h_1 h_4 h_5 h_6 h_7) 0 (by decide) (by decide) e0 (by decide) (by decide) (by rw [hml]; rfl) (lenOf pd__28_5bCIILjava_2flang_2fVoid_3b_29V rfl) rfl (rest := []) (by show 2 * 0 + _ ≤ _; exact Nat.le_of_eq rfl) (hb hby d2_6) ?_
  intro v1 T1 L1 X1 hQ1
  obtain ⟨b1_0, k1_1, rfl, Nq1, K1, ge1_0, q1_0, q1_1, q1_2, q1_3, q1_4⟩ := hQ1
  have N1 := Fr.app N0 Nq1
  have O1' := O0.keep K1 (allS h_6 all0)
  show own_Go p e below Φ T1 (mkF m 9 #[.val (.ref a1), .val (.ref a2)] [])
  have kp0 : Keep h0 h0 [a1] := Keep.refl h0 [a1]
  have kp1 : Keep h0 T1.heap [a1] := kp0.trans K1 (allS (Or.inl (List.mem_of_getElem? (i := 0) rfl)) all0)
  exact own_ret0 X1 hx hret hlk (hb hby d2_9) hF (⟨b1_0, k1_1, rfl, N1, kp1, (Nat.le_trans kp0.1 ge1_0), q1_0, q1_1, q1_2, q1_3, q1_4⟩) (by decide) (by decide)
theorem d1_30 : decode method_3_code 30 = .ok (.areturn, 1) := by decide +kernel
set_option maxRecDepth 65536 in
set_option maxHeartbeats 40000000 in
theorem rm_str_5 (l : Launch) (Z : State) (a0 : Array Value) (g_COMPACT_STRINGS : Int32) (g_SIOOBE_FORMATTER : Value) (hW : own_W Z a0 g_COMPACT_STRINGS g_SIOOBE_FORMATTER) (i1 : Int32) (i2 : Int32) (h0 : Heap) (O0 : Old Z Z.heap.size h0) (h_1 : ¬ ((255 : Int32) < ((i1 &&& (255 : Int32)).toUInt32.toUInt16.toUInt32.toInt32))) (h_2 : ¬ ((255 : Int32) < ((i2 &&& (255 : Int32)).toUInt32.toUInt16.toUInt32.toInt32))) :
    own_Met l Z (⟨"com/example/nepean/nepean/mapping/ColumnSettingsSqlTypePinLaw", "str", "(II)Ljava/lang/String;"⟩ : MethodName) method_3_code 3 (some (.object "java/lang/String")) ({ frames := 4, cells := 3, slots := 8, locals := 66 } : Room) #[(.int i1), (.int i2)] h0 (fun v h L => ∃ (b4 : Addr) (b5_0 : Addr) (k5_1 : ClassId), v = some (.ref b4) ∧ Fr Z.heap.size L ∧ Keep h0 h [] ∧ h0.size ≤ b4 ∧ h0.size ≤ b5_0 ∧ b4 ≠ b5_0 ∧ Exa Z h b4 "java/lang/String" ∧ Fld Z h b4 "java/lang/String" "coder" "B" (.int (0 : Int32)) ∧ Fld Z h b4 "java/lang/String" "value" "[B" (.ref b5_0) ∧ Exa Z h b5_0 "[B" ∧ Arv Z h b5_0 k5_1 .byte (2 : Int32) [(.int (((i1 &&& (255 : Int32)).toUInt32.toUInt16.toUInt32.toInt32).toInt8.toInt32)), (.int (((i2 &&& (255 : Int32)).toUInt32.toUInt16.toUInt32.toInt32).toInt8.toInt32))] (.int (0 : Int32))) := by
  have hW_ := hW
  obtain ⟨hw, S_g_COMPACT_STRINGS, P_g_COMPACT_STRINGS, R_g_SIOOBE_FORMATTER, S_g_SIOOBE_FORMATTER⟩ := hW_
  refine own_met (plainFor_of_name pn_com_example_nepean_nepean_mapping_ColumnSettingsSqlTypePinLaw) ?_
  intro p e s m below meth cc_ s₁ Φ hF X0 hx hby hml hZ hown hnm hret hlk e0
  have N0 := Fr.nil Z.heap.size
  refine own_k (T' := s₁) (g' := (mkF m 0 #[.val (.int i1), .val (.int i2), .unset] [])) (fun _ k_ => castTop (ef_1_II m i1 i2) k_) ?_
  refine own_k (T' := s₁) (g' := (mkF m 1 #[.val (.int i1), .val (.int i2), .unset] [(.int (2 : Int32))])) (fun _ k_ => XS.iconst X0.here hx rfl (hb hby d1_0) k_) ?_
  obtain ⟨T1, h1, k1, X1, e1, E1, V1, A1, st1⟩ := own_newarr (pc := 1) (Ls := #[.val (.int i1), .val (.int i2), .unset]) (rest := []) X0 hx hZ (hw _ (List.mem_of_getElem? (i := 4) rfl)) e0 (hb hby d1_1) (n := (2 : Int32)) (by decide) (cap := 2) (by decide) (by decide) (by decide) (by decide) (ad := "[C") (by decide)
  obtain ⟨b1, g1⟩ : ∃ z, z = h0.size := ⟨_, rfl⟩
  rw [← g1] at V1 A1 st1
  have O1' := O0.ext E1
  have V1 : Arv Z h1 b1 k1 .char (2 : Int32) [(.int (0 : Int32)), (.int (0 : Int32))] (.int (0 : Int32)) := V1
  refine own_k (T' := T1) (g' := (mkF m 3 #[.val (.int i1), .val (.int i2), .unset] [(.ref b1)])) st1 ?_
  refine own_k (T' := T1) (g' := (mkF m 4 #[.val (.int i1), .val (.int i2), .val (.ref b1)] [])) (fun _ k_ => XS.astoreN X1.here hx rfl (hb hby d1_3) rfl rfl (l' := #[.val (.int i1), .val (.int i2), .val (.ref b1)]) rfl k_) ?_
  refine own_k (T' := T1) (g' := (mkF m 5 #[.val (.int i1), .val (.int i2), .val (.ref b1)] [(.ref b1)])) (fun _ k_ => XS.aloadN X1.here hx rfl (hb hby d1_4) rfl rfl  k_) ?_
  refine own_k (T' := T1) (g' := (mkF m 6 #[.val (.int i1), .val (.int i2), .val (.ref b1)] [(.int (0 : Int32)), (.ref b1)])) (fun _ k_ => XS.iconst X1.here hx rfl (hb hby d1_5) k_) ?_
  refine own_k (T' := T1) (g' := (mkF m 7 #[.val (.int i1), .val (.int i2), .val (.ref b1)] [(.int i1), (.int (0 : Int32)), (.ref b1)])) (fun _ k_ => XS.iloadN X1.here hx rfl (hb hby d1_6) rfl  k_) ?_
  refine own_k (T' := T1) (g' := (mkF m 10 #[.val (.int i1), .val (.int i2), .val (.ref b1)] [(.int (255 : Int32)), (.int i1), (.int (0 : Int32)), (.ref b1)])) (fun _ k_ => XS.sipush X1.here hx rfl (hb hby d1_7) k_) ?_
  refine own_k (T' := T1) (g' := (mkF m 11 #[.val (.int i1), .val (.int i2), .val (.ref b1)] [(.int (i1 &&& (255 : Int32))), (.int (0 : Int32)), (.ref b1)])) (fun _ k_ => XS.iand X1.here hx rfl (hb hby d1_10) rfl k_) ?_
  refine own_k (T' := T1) (g' := (mkF m 12 #[.val (.int i1), .val (.int i2), .val (.ref b1)] [(.int ((i1 &&& (255 : Int32)).toUInt32.toUInt16.toUInt32.toInt32)), (.int (0 : Int32)), (.ref b1)])) (fun _ k_ => XS.i2c X1.here hx rfl (hb hby d1_11) rfl k_) ?_
  obtain ⟨T2, h2, X2, e2, W2, V2, st2⟩ := own_castore (pc := 12) (Ls := #[.val (.int i1), .val (.int i2), .val (.ref b1)]) (rest := []) X1 hx hZ e1 V1 (j := (0 : Int32)) (x := ((i1 &&& (255 : Int32)).toUInt32.toUInt16.toUInt32.toInt32)) ⟨by decide, by decide⟩ 0 rfl (Nat.le_of_ble_eq_true rfl) (hb hby d1_12)
  have V2 : Arv Z h2 b1 k1 .char (2 : Int32) [(.int (nar .char ((i1 &&& (255 : Int32)).toUInt32.toUInt16.toUInt32.toInt32))), (.int (0 : Int32))] (.int (0 : Int32)) := V2
  rw [show nar .char ((i1 &&& (255 : Int32)).toUInt32.toUInt16.toUInt32.toInt32) = ((i1 &&& (255 : Int32)).toUInt32.toUInt16.toUInt32.toInt32) from own_nar_char _] at V2
  have O2' := O1'.wr W2 (Nat.le_trans O0.2.1 (Nat.le_of_eq g1.symm))
  have N2 := Fr.snoc X2 N0 (Nat.le_trans O0.2.1 (Nat.le_of_eq g1.symm))
  refine own_k (T' := T2) (g' := (mkF m 13 #[.val (.int i1), .val (.int i2), .val (.ref b1)] [])) st2 ?_
  refine own_k (T' := T2) (g' := (mkF m 14 #[.val (.int i1), .val (.int i2), .val (.ref b1)] [(.ref b1)])) (fun _ k_ => XS.aloadN X2.here hx rfl (hb hby d1_13) rfl rfl  k_) ?_
  refine own_k (T' := T2) (g' := (mkF m 15 #[.val (.int i1), .val (.int i2), .val (.ref b1)] [(.int (1 : Int32)), (.ref b1)])) (fun _ k_ => XS.iconst X2.here hx rfl (hb hby d1_14) k_) ?_
  refine own_k (T' := T2) (g' := (mkF m 16 #[.val (.int i1), .val (.int i2), .val (.ref b1)] [(.int i2), (.int (1 : Int32)), (.ref b1)])) (fun _ k_ => XS.iloadN X2.here hx rfl (hb hby d1_15) rfl  k_) ?_
  refine own_k (T' := T2) (g' := (mkF m 19 #[.val (.int i1), .val (.int i2), .val (.ref b1)] [(.int (255 : Int32)), (.int i2), (.int (1 : Int32)), (.ref b1)])) (fun _ k_ => XS.sipush X2.here hx rfl (hb hby d1_16) k_) ?_
  refine own_k (T' := T2) (g' := (mkF m 20 #[.val (.int i1), .val (.int i2), .val (.ref b1)] [(.int (i2 &&& (255 : Int32))), (.int (1 : Int32)), (.ref b1)])) (fun _ k_ => XS.iand X2.here hx rfl (hb hby d1_19) rfl k_) ?_
  refine own_k (T' := T2) (g' := (mkF m 21 #[.val (.int i1), .val (.int i2), .val (.ref b1)] [(.int ((i2 &&& (255 : Int32)).toUInt32.toUInt16.toUInt32.toInt32)), (.int (1 : Int32)), (.ref b1)])) (fun _ k_ => XS.i2c X2.here hx rfl (hb hby d1_20) rfl k_) ?_
  obtain ⟨T3, h3, X3, e3, W3, V3, st3⟩ := own_castore (pc := 21) (Ls := #[.val (.int i1), .val (.int i2), .val (.ref b1)]) (rest := []) X2 hx hZ e2 V2 (j := (1 : Int32)) (x := ((i2 &&& (255 : Int32)).toUInt32.toUInt16.toUInt32.toInt32)) ⟨by decide, by decide⟩ 1 rfl (Nat.le_of_ble_eq_true rfl) (hb hby d1_21)
  have V3 : Arv Z h3 b1 k1 .char (2 : Int32) [(.int ((i1 &&& (255 : Int32)).toUInt32.toUInt16.toUInt32.toInt32)), (.int (nar .char ((i2 &&& (255 : Int32)).toUInt32.toUInt16.toUInt32.toInt32)))] (.int (0 : Int32)) := V3
  rw [show nar .char ((i2 &&& (255 : Int32)).toUInt32.toUInt16.toUInt32.toInt32) = ((i2 &&& (255 : Int32)).toUInt32.toUInt16.toUInt32.toInt32) from own_nar_char _] at V3
  have O3' := O2'.wr W3 (Nat.le_trans O0.2.1 (Nat.le_of_eq g1.symm))
  have N3 := Fr.snoc X3 N2 (Nat.le_trans O0.2.1 (Nat.le_of_eq g1.symm))
  refine own_k (T' := T3) (g' := (mkF m 22 #[.val (.int i1), .val (.int i2), .val (.ref b1)] [])) st3 ?_
  obtain ⟨T4, h4, X4, e4, E4, A4, D4, -, st4⟩ := newO X3 hx hZ hown (hw _ (List.mem_of_getElem? (i := 5) rfl)) (hw _ (List.mem_of_getElem? (i := 6) rfl)) (hw _ (List.mem_of_getElem? (i := 7) rfl)) e3 (g := (mkF m 22 #[.val (.int i1), .val (.int i2), .val (.ref b1)] [])) rfl (hb hby d1_22) (by decide) (by decide)
  obtain ⟨b4, g4⟩ : ∃ z, z = h3.size := ⟨_, rfl⟩
  rw [← g4] at A4 D4 st4
  have O4' := O3'.ext E4
  have F4_coder : Fld Z h4 b4 "java/lang/String" "coder" "B" (.int (0 : Int32)) := D4 (Or.inr (hw _ (List.mem_of_getElem? (i := 31) rfl))) (ty := .byte) (by decide)
  have F4_value : Fld Z h4 b4 "java/lang/String" "value" "[B" .null := D4 (Or.inr (hw _ (List.mem_of_getElem? (i := 33) rfl))) (ty := (.array .byte)) (by decide)
  refine own_k (T' := T4) (g' := (mkF m 25 #[.val (.int i1), .val (.int i2), .val (.ref b1)] [(.ref b4)])) st4 ?_
  refine own_k (T' := T4) (g' := (mkF m 26 #[.val (.int i1), .val (.int i2), .val (.ref b1)] [(.ref b4), (.ref b4)])) (fun _ k_ => XS.dup X4.here hx rfl (hb hby d1_25) rfl rfl k_) ?_
  refine own_k (T' := T4) (g' := (mkF m 27 #[.val (.int i1), .val (.int i2), .val (.ref b1)] [(.ref b1), (.ref b4), (.ref b4)])) (fun _ k_ => XS.aloadN X4.here hx rfl (hb hby d1_26) rfl rfl  k_) ?_
  refine own_callN X4 hx hZ (y := (⟨"java/lang/String", "<init>", "([C)V"⟩ : MethodName)) rfl hown (hw _ (List.mem_of_getElem? (i := 8) rfl)) (hw _ (List.mem_of_getElem? (i := 9) rfl)) (hw _ (List.mem_of_getElem? (i := 10) rfl)) (hw _ (List.mem_of_getElem? (i := 7) rfl)) (by decide) (al := [(.ref b1)]) (b := b4) (rm_init_4 l Z a0 g_COMPACT_STRINGS g_SIOOBE_FORMATTER hW b4 b1 k1 ((i1 &&& (255 : Int32)).toUInt32.toUInt16.toUInt32.toInt32) ((i2 &&& (255 : Int32)).toUInt32.toUInt16.toUInt32.toInt32) h4 O4' (V3.ext E4) h_1 h_2 F4_coder A4 (Nat.le_trans O3'.2.1 (Nat.le_of_eq g4.symm)) F4_value) 1 (by decide) (by decide) e4 (by decide) (by decide) (by rw [hml]; rfl) (lenOf pd__28_5bC_29V rfl) rfl (rest := [(.ref b4)]) (by show 2 * 0 + _ ≤ _; exact Nat.le_of_eq rfl) (hb hby d1_27) ?_
  intro v5 T5 L5 X5 hQ5
  obtain ⟨b5_0, k5_1, rfl, Nq5, K5, ge5_0, q5_0, q5_1, q5_2, q5_3, q5_4⟩ := hQ5
  have N5 := Fr.app N3 Nq5
  have O5' := O4'.keep K5 (allS (Nat.le_trans O3'.2.1 (Nat.le_of_eq g4.symm)) all0)
  show own_Go p e below Φ T5 (mkF m 30 #[.val (.int i1), .val (.int i2), .val (.ref b1)] [(.ref b4)])
  have kp0 : Keep h0 h0 [] := Keep.refl h0 []
  have kp1 : Keep h0 h1 [] := kp0.ext E1
  have kp2 : Keep h0 h2 [] := kp1.wr W2 (Or.inr (Nat.le_trans kp0.1 (Nat.le_of_eq g1.symm)))
  have kp3 : Keep h0 h3 [] := kp2.wr W3 (Or.inr (Nat.le_trans kp0.1 (Nat.le_of_eq g1.symm)))
  have kp4 : Keep h0 h4 [] := kp3.ext E4
  have kp5 : Keep h0 T5.heap [] := kp4.trans K5 (allS (Or.inr (Nat.le_trans kp3.1 (Nat.le_of_eq g4.symm))) all0)
  exact own_retA X5 hx hret rfl rfl hlk (hb hby d1_30) hF (⟨b4, b5_0, k5_1, rfl, N5, kp5, (Nat.le_trans kp3.1 (Nat.le_of_eq g4.symm)), (Nat.le_trans kp4.1 ge5_0), (Nat.ne_of_lt (Nat.lt_of_lt_of_le A4.lt ge5_0)), q5_0, q5_1, q5_2, q5_3, q5_4⟩) (by decide) (by decide)
theorem pd__28ZZZZLjava_2flang_2fString_3b_29V : parseMethodDescriptor "(ZZZZLjava/lang/String;)V" = some ⟨[.boolean, .boolean, .boolean, .boolean, (.object "java/lang/String")], none⟩ := by decide +kernel
theorem ef_8_RIIIIN (m : MethodId) (x0 : Addr) (x1 : Int32) (x2 : Int32) (x3 : Int32) (x4 : Int32)  : entryFrame m #[(.ref x0), (.int x1), (.int x2), (.int x3), (.int x4), .null] 6 = mkF m 0 #[.val (.ref x0), .val (.int x1), .val (.int x2), .val (.int x3), .val (.int x4), .val .null] [] := by first | (simp [entryFrame, mkF, argsToLocals, Value.category]; done) | rfl
theorem pn_com_example_nepean_nepean_mapping_ColumnSettings : plainName "com/example/nepean/nepean/mapping/ColumnSettings" = true := by first | (simp [plainName, overriddenIn]; done) | decide +kernel
theorem d8_0 : decode prog_5_method_1_code 0 = .ok (.aload_n 0, 1) := by decide +kernel
theorem d8_1 : decode prog_5_method_1_code 1 = .ok (.invokespecial 1, 3) := by decide +kernel
theorem pd__28_29V : parseMethodDescriptor "()V" = some ⟨[], none⟩ := by decide +kernel
theorem ef_9_R (m : MethodId) (x0 : Addr)  : entryFrame m #[(.ref x0)] 1 = mkF m 0 #[.val (.ref x0)] [] := by first | (simp [entryFrame, mkF, argsToLocals, Value.category]; done) | rfl
theorem pn_java_lang_Record : plainName "java/lang/Record" = true := by first | (simp [plainName, overriddenIn]; done) | decide +kernel
theorem d9_0 : decode jdk_30_method_1_code 0 = .ok (.aload_n 0, 1) := by decide +kernel
theorem d9_1 : decode jdk_30_method_1_code 1 = .ok (.invokespecial 1, 3) := by decide +kernel
theorem d9_4 : decode jdk_30_method_1_code 4 = .ok (.return_, 1) := by decide +kernel
set_option maxRecDepth 65536 in
set_option maxHeartbeats 40000000 in
theorem rm_init_6 (l : Launch) (Z : State) (a0 : Array Value) (g_COMPACT_STRINGS : Int32) (g_SIOOBE_FORMATTER : Value) (hW : own_W Z a0 g_COMPACT_STRINGS g_SIOOBE_FORMATTER) (a1 : Addr) (h0 : Heap) (O0 : Old Z Z.heap.size h0)  :
    own_Met l Z (⟨"java/lang/Record", "<init>", "()V"⟩ : MethodName) jdk_30_method_1_code 1 none ({ frames := 1, cells := 0, slots := 0, locals := 12 } : Room) #[(.ref a1)] h0 (fun v h L => v = none ∧ Fr Z.heap.size L ∧ h = h0) := by
  have hW_ := hW
  obtain ⟨hw, S_g_COMPACT_STRINGS, P_g_COMPACT_STRINGS, R_g_SIOOBE_FORMATTER, S_g_SIOOBE_FORMATTER⟩ := hW_
  refine own_met (plainFor_of_name pn_java_lang_Record) ?_
  intro p e s m below meth cc_ s₁ Φ hF X0 hx hby hml hZ hown hnm hret hlk e0
  have N0 := Fr.nil Z.heap.size
  refine own_k (T' := s₁) (g' := (mkF m 0 #[.val (.ref a1)] [])) (fun _ k_ => castTop (ef_9_R m a1) k_) ?_
  refine own_k (T' := s₁) (g' := (mkF m 1 #[.val (.ref a1)] [(.ref a1)])) (fun _ k_ => XS.aloadN X0.here hx rfl (hb hby d9_0) rfl rfl  k_) ?_
  obtain ⟨T1, X1, e1, st1⟩ := initO X0 hx hZ hown (hw _ (List.mem_of_getElem? (i := 45) rfl)) (hw _ (List.mem_of_getElem? (i := 16) rfl)) (hw _ (List.mem_of_getElem? (i := 17) rfl)) e0 (g := (mkF m 1 #[.val (.ref a1)] [(.ref a1)])) rfl (by rw [hml]; rfl) rfl (hb hby d9_1) (by decide) (W := 0) (by show 2 * 0 + _ ≤ _; exact Nat.le_of_eq rfl) (by decide)
  refine own_k (T' := T1) (g' := (mkF m 4 #[.val (.ref a1)] [])) st1 ?_
  exact own_ret0 X1 hx hret hlk (hb hby d9_4) hF (by rw [e1]; exact ⟨rfl, N0, rfl⟩) (by decide) (by decide)
theorem d8_4 : decode prog_5_method_1_code 4 = .ok (.aload_n 0, 1) := by decide +kernel
theorem d8_5 : decode prog_5_method_1_code 5 = .ok (.iload_n 1, 1) := by decide +kernel
theorem d8_6 : decode prog_5_method_1_code 6 = .ok (.putfield 7, 3) := by decide +kernel
theorem d8_9 : decode prog_5_method_1_code 9 = .ok (.aload_n 0, 1) := by decide +kernel
theorem d8_10 : decode prog_5_method_1_code 10 = .ok (.iload_n 2, 1) := by decide +kernel
theorem d8_11 : decode prog_5_method_1_code 11 = .ok (.putfield 13, 3) := by decide +kernel
theorem d8_14 : decode prog_5_method_1_code 14 = .ok (.aload_n 0, 1) := by decide +kernel
theorem d8_15 : decode prog_5_method_1_code 15 = .ok (.iload_n 3, 1) := by decide +kernel
theorem d8_16 : decode prog_5_method_1_code 16 = .ok (.putfield 16, 3) := by decide +kernel
theorem d8_19 : decode prog_5_method_1_code 19 = .ok (.aload_n 0, 1) := by decide +kernel
theorem d8_20 : decode prog_5_method_1_code 20 = .ok (.iload 4, 2) := by decide +kernel
theorem d8_22 : decode prog_5_method_1_code 22 = .ok (.putfield 19, 3) := by decide +kernel
theorem d8_25 : decode prog_5_method_1_code 25 = .ok (.aload_n 0, 1) := by decide +kernel
theorem d8_26 : decode prog_5_method_1_code 26 = .ok (.aload 5, 2) := by decide +kernel
theorem d8_28 : decode prog_5_method_1_code 28 = .ok (.putfield 22, 3) := by decide +kernel
theorem d8_31 : decode prog_5_method_1_code 31 = .ok (.return_, 1) := by decide +kernel
set_option maxRecDepth 65536 in
set_option maxHeartbeats 40000000 in
theorem rm_init_7 (l : Launch) (Z : State) (a0 : Array Value) (g_COMPACT_STRINGS : Int32) (g_SIOOBE_FORMATTER : Value) (hW : own_W Z a0 g_COMPACT_STRINGS g_SIOOBE_FORMATTER) (a1 : Addr) (i2 : Int32) (i3 : Int32) (i4 : Int32) (i5 : Int32) (h0 : Heap) (O0 : Old Z Z.heap.size h0) (h_1 : Fld Z h0 a1 "com/example/nepean/nepean/mapping/ColumnSettings" "nullable" "Z" (.int (0 : Int32))) (h_2 : Exa Z h0 a1 "com/example/nepean/nepean/mapping/ColumnSettings") (h_3 : Z.heap.size ≤ a1) (h_4 : Fld Z h0 a1 "com/example/nepean/nepean/mapping/ColumnSettings" "unique" "Z" (.int (0 : Int32))) (h_5 : Fld Z h0 a1 "com/example/nepean/nepean/mapping/ColumnSettings" "insertable" "Z" (.int (0 : Int32))) (h_6 : Fld Z h0 a1 "com/example/nepean/nepean/mapping/ColumnSettings" "updatable" "Z" (.int (0 : Int32))) (h_7 : Fld Z h0 a1 "com/example/nepean/nepean/mapping/ColumnSettings" "definition" "Ljava/lang/String;" .null) :
    own_Met l Z (⟨"com/example/nepean/nepean/mapping/ColumnSettings", "<init>", "(ZZZZLjava/lang/String;)V"⟩ : MethodName) prog_5_method_1_code 6 none ({ frames := 2, cells := 0, slots := 0, locals := 24 } : Room) #[(.ref a1), (.int i2), (.int i3), (.int i4), (.int i5), .null] h0 (fun v h L => v = none ∧ Fr Z.heap.size L ∧ Keep h0 h [a1] ∧ Exa Z h a1 "com/example/nepean/nepean/mapping/ColumnSettings" ∧ Fld Z h a1 "com/example/nepean/nepean/mapping/ColumnSettings" "nullable" "Z" (.int (nar .boolean i2)) ∧ Fld Z h a1 "com/example/nepean/nepean/mapping/ColumnSettings" "unique" "Z" (.int (nar .boolean i3)) ∧ Fld Z h a1 "com/example/nepean/nepean/mapping/ColumnSettings" "insertable" "Z" (.int (nar .boolean i4)) ∧ Fld Z h a1 "com/example/nepean/nepean/mapping/ColumnSettings" "updatable" "Z" (.int (nar .boolean i5)) ∧ Fld Z h a1 "com/example/nepean/nepean/mapping/ColumnSettings" "definition" "Ljava/lang/String;" .null) := by
  have hW_ := hW
  obtain ⟨hw, S_g_COMPACT_STRINGS, P_g_COMPACT_STRINGS, R_g_SIOOBE_FORMATTER, S_g_SIOOBE_FORMATTER⟩ := hW_
  refine own_met (plainFor_of_name pn_com_example_nepean_nepean_mapping_ColumnSettings) ?_
  intro p e s m below meth cc_ s₁ Φ hF X0 hx hby hml hZ hown hnm hret hlk e0
  have N0 := Fr.nil Z.heap.size
  refine own_k (T' := s₁) (g' := (mkF m 0 #[.val (.ref a1), .val (.int i2), .val (.int i3), .val (.int i4), .val (.int i5), .val .null] [])) (fun _ k_ => castTop (ef_8_RIIIIN m a1 i2 i3 i4 i5) k_) ?_
  refine own_k (T' := s₁) (g' := (mkF m 1 #[.val (.ref a1), .val (.int i2), .val (.int i3), .val (.int i4), .val (.int i5), .val .null] [(.ref a1)])) (fun _ k_ => XS.aloadN X0.here hx rfl (hb hby d8_0) rfl rfl  k_) ?_
  refine own_callN X0 hx hZ (y := (⟨"java/lang/Record", "<init>", "()V"⟩ : MethodName)) rfl hown (hw _ (List.mem_of_getElem? (i := 40) rfl)) (hw _ (List.mem_of_getElem? (i := 41) rfl)) (hw _ (List.mem_of_getElem? (i := 44) rfl)) (hw _ (List.mem_of_getElem? (i := 43) rfl)) (by decide) (al := []) (b := a1) (rm_init_6 l Z a0 g_COMPACT_STRINGS g_SIOOBE_FORMATTER hW a1 h0 O0) 0 (by decide) (by decide) e0 (by decide) (by decide) (by rw [hml]; rfl) (lenOf pd__28_29V rfl) rfl (rest := []) (by show 2 * 0 + _ ≤ _; exact Nat.le_of_eq rfl) (hb hby d8_1) ?_
  intro v1 T1 L1 X1 hQ1
  obtain ⟨rfl, Nq1, e1⟩ := hQ1
  have N1 := Fr.app N0 Nq1
  show own_Go p e below Φ T1 (mkF m 4 #[.val (.ref a1), .val (.int i2), .val (.int i3), .val (.int i4), .val (.int i5), .val .null] [])
  refine own_k (T' := T1) (g' := (mkF m 5 #[.val (.ref a1), .val (.int i2), .val (.int i3), .val (.int i4), .val (.int i5), .val .null] [(.ref a1)])) (fun _ k_ => XS.aloadN X1.here hx rfl (hb hby d8_4) rfl rfl  k_) ?_
  refine own_k (T' := T1) (g' := (mkF m 6 #[.val (.ref a1), .val (.int i2), .val (.int i3), .val (.int i4), .val (.int i5), .val .null] [(.int i2), (.ref a1)])) (fun _ k_ => XS.iloadN X1.here hx rfl (hb hby d8_5) rfl  k_) ?_
  obtain ⟨T2, h2, X2, e2, W2, st2⟩ := putFN X1 hx hZ hown (hw _ (List.mem_of_getElem? (i := 46) rfl)) Via.refl e1 h_1 h_2 (Or.inr ⟨(hw _ (List.mem_of_getElem? (i := 47) rfl)), rfl, hnm⟩) (hw _ (List.mem_of_getElem? (i := 35) rfl)) (ty := .boolean) (v' := (.int (nar .boolean i2))) (by decide) rfl (fits_nar_bool _) (g := (mkF m 6 #[.val (.ref a1), .val (.int i2), .val (.int i3), .val (.int i4), .val (.int i5), .val .null] [(.int i2), (.ref a1)])) rfl rfl (hb hby d8_6)
  have w2 := Fld.same W2 h_1
  have O2' := O0.wr W2 h_3
  have N2 := Fr.snoc X2 N1 h_3
  refine own_k (T' := T2) (g' := (mkF m 9 #[.val (.ref a1), .val (.int i2), .val (.int i3), .val (.int i4), .val (.int i5), .val .null] [])) st2 ?_
  refine own_k (T' := T2) (g' := (mkF m 10 #[.val (.ref a1), .val (.int i2), .val (.int i3), .val (.int i4), .val (.int i5), .val .null] [(.ref a1)])) (fun _ k_ => XS.aloadN X2.here hx rfl (hb hby d8_9) rfl rfl  k_) ?_
  refine own_k (T' := T2) (g' := (mkF m 11 #[.val (.ref a1), .val (.int i2), .val (.int i3), .val (.int i4), .val (.int i5), .val .null] [(.int i3), (.ref a1)])) (fun _ k_ => XS.iloadN X2.here hx rfl (hb hby d8_10) rfl  k_) ?_
  have f3 := (h_4.other W2 (Or.inr (slot_ne (Or.inr (hw _ (List.mem_of_getElem? (i := 49) rfl))) (Or.inr (hw _ (List.mem_of_getElem? (i := 47) rfl))) (by decide) (t := .boolean) (t' := .boolean) (by decide) (by decide))))
  obtain ⟨T4, h4, X4, e4, W4, st4⟩ := putFN X2 hx hZ hown (hw _ (List.mem_of_getElem? (i := 48) rfl)) Via.refl e2 f3 (h_2.wr W2) (Or.inr ⟨(hw _ (List.mem_of_getElem? (i := 49) rfl)), rfl, hnm⟩) (hw _ (List.mem_of_getElem? (i := 35) rfl)) (ty := .boolean) (v' := (.int (nar .boolean i3))) (by decide) rfl (fits_nar_bool _) (g := (mkF m 11 #[.val (.ref a1), .val (.int i2), .val (.int i3), .val (.int i4), .val (.int i5), .val .null] [(.int i3), (.ref a1)])) rfl rfl (hb hby d8_11)
  have w4 := Fld.same W4 f3
  have O4' := O2'.wr W4 h_3
  have N4 := Fr.snoc X4 N2 h_3
  refine own_k (T' := T4) (g' := (mkF m 14 #[.val (.ref a1), .val (.int i2), .val (.int i3), .val (.int i4), .val (.int i5), .val .null] [])) st4 ?_
  refine own_k (T' := T4) (g' := (mkF m 15 #[.val (.ref a1), .val (.int i2), .val (.int i3), .val (.int i4), .val (.int i5), .val .null] [(.ref a1)])) (fun _ k_ => XS.aloadN X4.here hx rfl (hb hby d8_14) rfl rfl  k_) ?_
  refine own_k (T' := T4) (g' := (mkF m 16 #[.val (.ref a1), .val (.int i2), .val (.int i3), .val (.int i4), .val (.int i5), .val .null] [(.int i4), (.ref a1)])) (fun _ k_ => XS.iloadN X4.here hx rfl (hb hby d8_15) rfl  k_) ?_
  have f5 := ((h_5.other W2 (Or.inr (slot_ne (Or.inr (hw _ (List.mem_of_getElem? (i := 51) rfl))) (Or.inr (hw _ (List.mem_of_getElem? (i := 47) rfl))) (by decide) (t := .boolean) (t' := .boolean) (by decide) (by decide)))).other W4 (Or.inr (slot_ne (Or.inr (hw _ (List.mem_of_getElem? (i := 51) rfl))) (Or.inr (hw _ (List.mem_of_getElem? (i := 49) rfl))) (by decide) (t := .boolean) (t' := .boolean) (by decide) (by decide))))
  obtain ⟨T6, h6, X6, e6, W6, st6⟩ := putFN X4 hx hZ hown (hw _ (List.mem_of_getElem? (i := 50) rfl)) Via.refl e4 f5 ((h_2.wr W2).wr W4) (Or.inr ⟨(hw _ (List.mem_of_getElem? (i := 51) rfl)), rfl, hnm⟩) (hw _ (List.mem_of_getElem? (i := 35) rfl)) (ty := .boolean) (v' := (.int (nar .boolean i4))) (by decide) rfl (fits_nar_bool _) (g := (mkF m 16 #[.val (.ref a1), .val (.int i2), .val (.int i3), .val (.int i4), .val (.int i5), .val .null] [(.int i4), (.ref a1)])) rfl rfl (hb hby d8_16)
  have w6 := Fld.same W6 f5
  have O6' := O4'.wr W6 h_3
  have N6 := Fr.snoc X6 N4 h_3
  refine own_k (T' := T6) (g' := (mkF m 19 #[.val (.ref a1), .val (.int i2), .val (.int i3), .val (.int i4), .val (.int i5), .val .null] [])) st6 ?_
  refine own_k (T' := T6) (g' := (mkF m 20 #[.val (.ref a1), .val (.int i2), .val (.int i3), .val (.int i4), .val (.int i5), .val .null] [(.ref a1)])) (fun _ k_ => XS.aloadN X6.here hx rfl (hb hby d8_19) rfl rfl  k_) ?_
  refine own_k (T' := T6) (g' := (mkF m 22 #[.val (.ref a1), .val (.int i2), .val (.int i3), .val (.int i4), .val (.int i5), .val .null] [(.int i5), (.ref a1)])) (fun _ k_ => XS.iload X6.here hx rfl (hb hby d8_20) rfl  k_) ?_
  have f7 := (((h_6.other W2 (Or.inr (slot_ne (Or.inr (hw _ (List.mem_of_getElem? (i := 53) rfl))) (Or.inr (hw _ (List.mem_of_getElem? (i := 47) rfl))) (by decide) (t := .boolean) (t' := .boolean) (by decide) (by decide)))).other W4 (Or.inr (slot_ne (Or.inr (hw _ (List.mem_of_getElem? (i := 53) rfl))) (Or.inr (hw _ (List.mem_of_getElem? (i := 49) rfl))) (by decide) (t := .boolean) (t' := .boolean) (by decide) (by decide)))).other W6 (Or.inr (slot_ne (Or.inr (hw _ (List.mem_of_getElem? (i := 53) rfl))) (Or.inr (hw _ (List.mem_of_getElem? (i := 51) rfl))) (by decide) (t := .boolean) (t' := .boolean) (by decide) (by decide))))
  obtain ⟨T8, h8, X8, e8, W8, st8⟩ := putFN X6 hx hZ hown (hw _ (List.mem_of_getElem? (i := 52) rfl)) Via.refl e6 f7 (((h_2.wr W2).wr W4).wr W6) (Or.inr ⟨(hw _ (List.mem_of_getElem? (i := 53) rfl)), rfl, hnm⟩) (hw _ (List.mem_of_getElem? (i := 35) rfl)) (ty := .boolean) (v' := (.int (nar .boolean i5))) (by decide) rfl (fits_nar_bool _) (g := (mkF m 22 #[.val (.ref a1), .val (.int i2), .val (.int i3), .val (.int i4), .val (.int i5), .val .null] [(.int i5), (.ref a1)])) rfl rfl (hb hby d8_22)
  have w8 := Fld.same W8 f7
  have O8' := O6'.wr W8 h_3
  have N8 := Fr.snoc X8 N6 h_3
  refine own_k (T' := T8) (g' := (mkF m 25 #[.val (.ref a1), .val (.int i2), .val (.int i3), .val (.int i4), .val (.int i5), .val .null] [])) st8 ?_
  refine own_k (T' := T8) (g' := (mkF m 26 #[.val (.ref a1), .val (.int i2), .val (.int i3), .val (.int i4), .val (.int i5), .val .null] [(.ref a1)])) (fun _ k_ => XS.aloadN X8.here hx rfl (hb hby d8_25) rfl rfl  k_) ?_
  refine own_k (T' := T8) (g' := (mkF m 28 #[.val (.ref a1), .val (.int i2), .val (.int i3), .val (.int i4), .val (.int i5), .val .null] [.null, (.ref a1)])) (fun _ k_ => XS.aload X8.here hx rfl (hb hby d8_26) rfl rfl  k_) ?_
  have f9 := ((((h_7.other W2 (Or.inr (slot_ne (Or.inr (hw _ (List.mem_of_getElem? (i := 55) rfl))) (Or.inr (hw _ (List.mem_of_getElem? (i := 47) rfl))) (by decide) (t := (.object "java/lang/String")) (t' := .boolean) (by decide) (by decide)))).other W4 (Or.inr (slot_ne (Or.inr (hw _ (List.mem_of_getElem? (i := 55) rfl))) (Or.inr (hw _ (List.mem_of_getElem? (i := 49) rfl))) (by decide) (t := (.object "java/lang/String")) (t' := .boolean) (by decide) (by decide)))).other W6 (Or.inr (slot_ne (Or.inr (hw _ (List.mem_of_getElem? (i := 55) rfl))) (Or.inr (hw _ (List.mem_of_getElem? (i := 51) rfl))) (by decide) (t := (.object "java/lang/String")) (t' := .boolean) (by decide) (by decide)))).other W8 (Or.inr (slot_ne (Or.inr (hw _ (List.mem_of_getElem? (i := 55) rfl))) (Or.inr (hw _ (List.mem_of_getElem? (i := 53) rfl))) (by decide) (t := (.object "java/lang/String")) (t' := .boolean) (by decide) (by decide))))
  obtain ⟨T10, h10, X10, e10, W10, st10⟩ := putF X8 hx hZ hown (host := "") (Or.inl (hw _ (List.mem_of_getElem? (i := 54) rfl))) Via.refl e8 f9 ((((h_2.wr W2).wr W4).wr W6).wr W8) (Or.inr ⟨(hw _ (List.mem_of_getElem? (i := 55) rfl)), rfl, hnm⟩) (hw _ (List.mem_of_getElem? (i := 35) rfl)) (ty := (.object "java/lang/String")) (by decide) rfl rfl (g := (mkF m 28 #[.val (.ref a1), .val (.int i2), .val (.int i3), .val (.int i4), .val (.int i5), .val .null] [.null, (.ref a1)])) rfl rfl (hb hby d8_28)
  have w10 := Fld.same W10 f9
  have O10' := O8'.wr W10 h_3
  have N10 := Fr.snoc X10 N8 h_3
  refine own_k (T' := T10) (g' := (mkF m 31 #[.val (.ref a1), .val (.int i2), .val (.int i3), .val (.int i4), .val (.int i5), .val .null] [])) st10 ?_
  have kp0 : Keep h0 h0 [a1] := Keep.refl h0 [a1]
  have kp1 : Keep h0 h2 [a1] := kp0.wr W2 (Or.inl (List.mem_of_getElem? (i := 0) rfl))
  have kp2 : Keep h0 h4 [a1] := kp1.wr W4 (Or.inl (List.mem_of_getElem? (i := 0) rfl))
  have kp3 : Keep h0 h6 [a1] := kp2.wr W6 (Or.inl (List.mem_of_getElem? (i := 0) rfl))
  have kp4 : Keep h0 h8 [a1] := kp3.wr W8 (Or.inl (List.mem_of_getElem? (i := 0) rfl))
  have kp5 : Keep h0 h10 [a1] := kp4.wr W10 (Or.inl (List.mem_of_getElem? (i := 0) rfl))
  have f11 := ((((w2.other W4 (Or.inr (slot_ne (Or.inr (hw _ (List.mem_of_getElem? (i := 47) rfl))) (Or.inr (hw _ (List.mem_of_getElem? (i := 49) rfl))) (by decide) (t := .boolean) (t' := .boolean) (by decide) (by decide)))).other W6 (Or.inr (slot_ne (Or.inr (hw _ (List.mem_of_getElem? (i := 47) rfl))) (Or.inr (hw _ (List.mem_of_getElem? (i := 51) rfl))) (by decide) (t := .boolean) (t' := .boolean) (by decide) (by decide)))).other W8 (Or.inr (slot_ne (Or.inr (hw _ (List.mem_of_getElem? (i := 47) rfl))) (Or.inr (hw _ (List.mem_of_getElem? (i := 53) rfl))) (by decide) (t := .boolean) (t' := .boolean) (by decide) (by decide)))).other W10 (Or.inr (slot_ne (Or.inr (hw _ (List.mem_of_getElem? (i := 47) rfl))) (Or.inr (hw _ (List.mem_of_getElem? (i := 55) rfl))) (by decide) (t := .boolean) (t' := (.object "java/lang/String")) (by decide) (by decide))))
  have f12 := (((w4.other W6 (Or.inr (slot_ne (Or.inr (hw _ (List.mem_of_getElem? (i := 49) rfl))) (Or.inr (hw _ (List.mem_of_getElem? (i := 51) rfl))) (by decide) (t := .boolean) (t' := .boolean) (by decide) (by decide)))).other W8 (Or.inr (slot_ne (Or.inr (hw _ (List.mem_of_getElem? (i := 49) rfl))) (Or.inr (hw _ (List.mem_of_getElem? (i := 53) rfl))) (by decide) (t := .boolean) (t' := .boolean) (by decide) (by decide)))).other W10 (Or.inr (slot_ne (Or.inr (hw _ (List.mem_of_getElem? (i := 49) rfl))) (Or.inr (hw _ (List.mem_of_getElem? (i := 55) rfl))) (by decide) (t := .boolean) (t' := (.object "java/lang/String")) (by decide) (by decide))))
  have f13 := ((w6.other W8 (Or.inr (slot_ne (Or.inr (hw _ (List.mem_of_getElem? (i := 51) rfl))) (Or.inr (hw _ (List.mem_of_getElem? (i := 53) rfl))) (by decide) (t := .boolean) (t' := .boolean) (by decide) (by decide)))).other W10 (Or.inr (slot_ne (Or.inr (hw _ (List.mem_of_getElem? (i := 51) rfl))) (Or.inr (hw _ (List.mem_of_getElem? (i := 55) rfl))) (by decide) (t := .boolean) (t' := (.object "java/lang/String")) (by decide) (by decide))))
  have f14 := (w8.other W10 (Or.inr (slot_ne (Or.inr (hw _ (List.mem_of_getElem? (i := 53) rfl))) (Or.inr (hw _ (List.mem_of_getElem? (i := 55) rfl))) (by decide) (t := .boolean) (t' := (.object "java/lang/String")) (by decide) (by decide))))
  exact own_ret0 X10 hx hret hlk (hb hby d8_31) hF (by rw [e10]; exact ⟨rfl, N10, kp5, (((((h_2.wr W2).wr W4).wr W6).wr W8).wr W10), f11, f12, f13, f14, w10⟩) (by decide) (by decide)
theorem pd__28Ljava_2flang_2fString_3b_29Ljava_2flang_2fString_3b : parseMethodDescriptor "(Ljava/lang/String;)Ljava/lang/String;" = some ⟨[(.object "java/lang/String")], some (.object "java/lang/String")⟩ := by decide +kernel
theorem ef_10_RR (m : MethodId) (x0 : Addr) (x1 : Addr)  : entryFrame m #[(.ref x0), (.ref x1)] 2 = mkF m 0 #[.val (.ref x0), .val (.ref x1)] [] := by first | (simp [entryFrame, mkF, argsToLocals, Value.category]; done) | rfl
theorem d10_0 : decode prog_5_method_2_code 0 = .ok (.aload_n 0, 1) := by decide +kernel
theorem d10_1 : decode prog_5_method_2_code 1 = .ok (.getfield 22, 3) := by decide +kernel
theorem d10_4 : decode prog_5_method_2_code 4 = .ok (.ifnonnull 7, 3) := by decide +kernel
theorem d10_7 : decode prog_5_method_2_code 7 = .ok (.aload_n 1, 1) := by decide +kernel
theorem d10_8 : decode prog_5_method_2_code 8 = .ok (.goto 7, 3) := by decide +kernel
theorem d10_15 : decode prog_5_method_2_code 15 = .ok (.areturn, 1) := by decide +kernel
set_option maxRecDepth 65536 in
set_option maxHeartbeats 40000000 in
theorem rm_sqlType_8 (l : Launch) (Z : State) (a0 : Array Value) (g_COMPACT_STRINGS : Int32) (g_SIOOBE_FORMATTER : Value) (hW : own_W Z a0 g_COMPACT_STRINGS g_SIOOBE_FORMATTER) (a1 : Addr) (a2 : Addr) (h0 : Heap) (O0 : Old Z Z.heap.size h0) (h_1 : Fld Z h0 a1 "com/example/nepean/nepean/mapping/ColumnSettings" "definition" "Ljava/lang/String;" .null) :
    own_Met l Z (⟨"com/example/nepean/nepean/mapping/ColumnSettings", "sqlType", "(Ljava/lang/String;)Ljava/lang/String;"⟩ : MethodName) prog_5_method_2_code 2 (some (.object "java/lang/String")) ({ frames := 0, cells := 0, slots := 0, locals := 0 } : Room) #[(.ref a1), (.ref a2)] h0 (fun v h L => v = some (.ref a2) ∧ Fr Z.heap.size L ∧ h = h0) := by
  have hW_ := hW
  obtain ⟨hw, S_g_COMPACT_STRINGS, P_g_COMPACT_STRINGS, R_g_SIOOBE_FORMATTER, S_g_SIOOBE_FORMATTER⟩ := hW_
  refine own_met (plainFor_of_name pn_com_example_nepean_nepean_mapping_ColumnSettings) ?_
  intro p e s m below meth cc_ s₁ Φ hF X0 hx hby hml hZ hown hnm hret hlk e0
  have N0 := Fr.nil Z.heap.size
  refine own_k (T' := s₁) (g' := (mkF m 0 #[.val (.ref a1), .val (.ref a2)] [])) (fun _ k_ => castTop (ef_10_RR m a1 a2) k_) ?_
  refine own_k (T' := s₁) (g' := (mkF m 1 #[.val (.ref a1), .val (.ref a2)] [(.ref a1)])) (fun _ k_ => XS.aloadN X0.here hx rfl (hb hby d10_0) rfl rfl  k_) ?_
  obtain ⟨T1, X1, e1, st1⟩ := getF X0 hx hZ hown (host := "") (Or.inl (hw _ (List.mem_of_getElem? (i := 54) rfl))) Via.refl e0 h_1 (g := (mkF m 1 #[.val (.ref a1), .val (.ref a2)] [(.ref a1)])) rfl rfl (hb hby d10_1)
  refine own_k (T' := T1) (g' := (mkF m 4 #[.val (.ref a1), .val (.ref a2)] [.null])) st1 ?_
  refine own_k (T' := T1) (g' := (mkF m 7 #[.val (.ref a1), .val (.ref a2)] [])) (fun _ k_ => XS.ifnonnullNo X1.here hx rfl (hb hby d10_4) rfl k_) ?_
  refine own_k (T' := T1) (g' := (mkF m 8 #[.val (.ref a1), .val (.ref a2)] [(.ref a2)])) (fun _ k_ => XS.aloadN X1.here hx rfl (hb hby d10_7) rfl rfl  k_) ?_
  refine own_k (T' := T1) (g' := (mkF m 15 #[.val (.ref a1), .val (.ref a2)] [(.ref a2)])) (fun _ k_ => XS.goto X1.here hx rfl (pc0 := 8) (pc' := 15) rfl (hb hby d10_8) (by decide) (by decide) k_) ?_
  exact own_retA X1 hx hret rfl rfl hlk (hb hby d10_15) hF (by rw [e1]; exact ⟨rfl, N0, rfl⟩) (by decide) (by decide)
theorem pd__28Ljava_2flang_2fString_3bLjava_2flang_2fString_3b_29Z : parseMethodDescriptor "(Ljava/lang/String;Ljava/lang/String;)Z" = some ⟨[(.object "java/lang/String"), (.object "java/lang/String")], some .boolean⟩ := by decide +kernel
theorem ef_11_RR (m : MethodId) (x0 : Addr) (x1 : Addr)  : entryFrame m #[(.ref x0), (.ref x1)] 2 = mkF m 0 #[.val (.ref x0), .val (.ref x1)] [] := by first | (simp [entryFrame, mkF, argsToLocals, Value.category]; done) | rfl
theorem d11_0 : decode method_4_code 0 = .ok (.aload_n 0, 1) := by decide +kernel
theorem d11_1 : decode method_4_code 1 = .ok (.ifnonnull 13, 3) := by decide +kernel
theorem d11_14 : decode method_4_code 14 = .ok (.aload_n 0, 1) := by decide +kernel
theorem d11_15 : decode method_4_code 15 = .ok (.aload_n 1, 1) := by decide +kernel
theorem d11_16 : decode method_4_code 16 = .ok (.invokevirtual 31, 3) := by decide +kernel
theorem pd__28Ljava_2flang_2fObject_3b_29Z : parseMethodDescriptor "(Ljava/lang/Object;)Z" = some ⟨[(.object "java/lang/Object")], some .boolean⟩ := by decide +kernel
theorem ef_12_RR (m : MethodId) (x0 : Addr) (x1 : Addr)  : entryFrame m #[(.ref x0), (.ref x1)] 3 = mkF m 0 #[.val (.ref x0), .val (.ref x1), .unset] [] := by first | (simp [entryFrame, mkF, argsToLocals, Value.category]; done) | rfl
theorem d12_0 : decode jdk_42_method_66_code 0 = .ok (.aload_n 0, 1) := by decide +kernel
theorem d12_1 : decode jdk_42_method_66_code 1 = .ok (.aload_n 1, 1) := by decide +kernel
theorem d12_2 : decode jdk_42_method_66_code 2 = .ok (.if_acmp .ne 5, 3) := by decide +kernel
theorem d12_5 : decode jdk_42_method_66_code 5 = .ok (.iconst 1, 1) := by decide +kernel
theorem d12_6 : decode jdk_42_method_66_code 6 = .ok (.ireturn, 1) := by decide +kernel
set_option maxRecDepth 65536 in
set_option maxHeartbeats 40000000 in
theorem rm_equals_9 (l : Launch) (Z : State) (a0 : Array Value) (g_COMPACT_STRINGS : Int32) (g_SIOOBE_FORMATTER : Value) (hW : own_W Z a0 g_COMPACT_STRINGS g_SIOOBE_FORMATTER) (a1 : Addr) (h0 : Heap) (O0 : Old Z Z.heap.size h0)  :
    own_Met l Z (⟨"java/lang/String", "equals", "(Ljava/lang/Object;)Z"⟩ : MethodName) jdk_42_method_66_code 3 (some .boolean) ({ frames := 0, cells := 0, slots := 0, locals := 0 } : Room) #[(.ref a1), (.ref a1)] h0 (fun v h L => v = some (.int (1 : Int32)) ∧ Fr Z.heap.size L ∧ h = h0) := by
  have hW_ := hW
  obtain ⟨hw, S_g_COMPACT_STRINGS, P_g_COMPACT_STRINGS, R_g_SIOOBE_FORMATTER, S_g_SIOOBE_FORMATTER⟩ := hW_
  refine own_met (plainFor_of_name pn_java_lang_String) ?_
  intro p e s m below meth cc_ s₁ Φ hF X0 hx hby hml hZ hown hnm hret hlk e0
  have N0 := Fr.nil Z.heap.size
  refine own_k (T' := s₁) (g' := (mkF m 0 #[.val (.ref a1), .val (.ref a1), .unset] [])) (fun _ k_ => castTop (ef_12_RR m a1 a1) k_) ?_
  refine own_k (T' := s₁) (g' := (mkF m 1 #[.val (.ref a1), .val (.ref a1), .unset] [(.ref a1)])) (fun _ k_ => XS.aloadN X0.here hx rfl (hb hby d12_0) rfl rfl  k_) ?_
  refine own_k (T' := s₁) (g' := (mkF m 2 #[.val (.ref a1), .val (.ref a1), .unset] [(.ref a1), (.ref a1)])) (fun _ k_ => XS.aloadN X0.here hx rfl (hb hby d12_1) rfl rfl  k_) ?_
  refine own_k (T' := s₁) (g' := (mkF m 5 #[.val (.ref a1), .val (.ref a1), .unset] [])) (fun _ k_ => Jvm.RoadKit.acmp (g := (mkF m 2 #[.val (.ref a1), .val (.ref a1), .unset] [(.ref a1), (.ref a1)])) X0 hx rfl rfl rfl (pc0 := 2) (pc' := 5) (same := true) rfl (hb hby d12_2) rfl (decide_eq_true rfl) (by decide) (by decide) k_) ?_
  refine own_k (T' := s₁) (g' := (mkF m 6 #[.val (.ref a1), .val (.ref a1), .unset] [(.int (1 : Int32))])) (fun _ k_ => XS.iconst X0.here hx rfl (hb hby d12_5) k_) ?_
  exact own_retN X0 hx (t := .boolean) hret (by simp) hlk (hb hby d12_6) hF (by rw [e0]; exact ⟨by rw [show nar .boolean (1 : Int32) = (1 : Int32) from by decide], N0, rfl⟩) (by decide) (by decide)
theorem d11_19 : decode method_4_code 19 = .ok (.ireturn, 1) := by decide +kernel
set_option maxRecDepth 65536 in
set_option maxHeartbeats 40000000 in
theorem rm_same_10 (l : Launch) (Z : State) (a0 : Array Value) (g_COMPACT_STRINGS : Int32) (g_SIOOBE_FORMATTER : Value) (hW : own_W Z a0 g_COMPACT_STRINGS g_SIOOBE_FORMATTER) (a1 : Addr) (h0 : Heap) (O0 : Old Z Z.heap.size h0) (h_1 : Exa Z h0 a1 "java/lang/String") :
    own_Met l Z (⟨"com/example/nepean/nepean/mapping/ColumnSettingsSqlTypePinLaw", "same", "(Ljava/lang/String;Ljava/lang/String;)Z"⟩ : MethodName) method_4_code 2 (some .boolean) ({ frames := 1, cells := 0, slots := 0, locals := 14 } : Room) #[(.ref a1), (.ref a1)] h0 (fun v h L => v = some (.int (1 : Int32)) ∧ Fr Z.heap.size L ∧ h = h0) := by
  have hW_ := hW
  obtain ⟨hw, S_g_COMPACT_STRINGS, P_g_COMPACT_STRINGS, R_g_SIOOBE_FORMATTER, S_g_SIOOBE_FORMATTER⟩ := hW_
  refine own_met (plainFor_of_name pn_com_example_nepean_nepean_mapping_ColumnSettingsSqlTypePinLaw) ?_
  intro p e s m below meth cc_ s₁ Φ hF X0 hx hby hml hZ hown hnm hret hlk e0
  have N0 := Fr.nil Z.heap.size
  refine own_k (T' := s₁) (g' := (mkF m 0 #[.val (.ref a1), .val (.ref a1)] [])) (fun _ k_ => castTop (ef_11_RR m a1 a1) k_) ?_
  refine own_k (T' := s₁) (g' := (mkF m 1 #[.val (.ref a1), .val (.ref a1)] [(.ref a1)])) (fun _ k_ => XS.aloadN X0.here hx rfl (hb hby d11_0) rfl rfl  k_) ?_
  refine own_k (T' := s₁) (g' := (mkF m 14 #[.val (.ref a1), .val (.ref a1)] [])) (fun _ k_ => XS.ifnonnullYes X0.here hx rfl (pc0 := 1) (pc' := 14) rfl (hb hby d11_1) rfl (by decide) (by decide) k_) ?_
  refine own_k (T' := s₁) (g' := (mkF m 15 #[.val (.ref a1), .val (.ref a1)] [(.ref a1)])) (fun _ k_ => XS.aloadN X0.here hx rfl (hb hby d11_14) rfl rfl  k_) ?_
  refine own_k (T' := s₁) (g' := (mkF m 16 #[.val (.ref a1), .val (.ref a1)] [(.ref a1), (.ref a1)])) (fun _ k_ => XS.aloadN X0.here hx rfl (hb hby d11_15) rfl rfl  k_) ?_
  refine own_callV X0 hx hZ (C := "java/lang/String") (y := (⟨"java/lang/String", "equals", "(Ljava/lang/Object;)Z"⟩ : MethodName)) (z := (⟨"java/lang/String", "equals", "(Ljava/lang/Object;)Z"⟩ : MethodName)) hown (hw _ (List.mem_of_getElem? (i := 64) rfl)) (hw _ (List.mem_of_getElem? (i := 65) rfl)) (notFace_of_selects (args := #[]) (mvT hZ (hw _ (List.mem_of_getElem? (i := 67) rfl)))) (hw _ (List.mem_of_getElem? (i := 67) rfl)) (hw _ (List.mem_of_getElem? (i := 66) rfl)) (hw _ (List.mem_of_getElem? (i := 68) rfl)) (hw _ (List.mem_of_getElem? (i := 7) rfl)) (by decide) (al := [(.ref a1)]) h_1 (rm_equals_9 l Z a0 g_COMPACT_STRINGS g_SIOOBE_FORMATTER hW a1 h0 O0) 0 (by decide) (by decide) e0 (by decide) (by decide) (by rw [hml]; rfl) (lenOf pd__28Ljava_2flang_2fObject_3b_29Z rfl) rfl (rest := []) (by show 2 * 0 + _ ≤ _; exact Nat.le_of_eq rfl) (hb hby d11_16) ?_
  intro v1 T1 L1 X1 hQ1
  obtain ⟨rfl, Nq1, e1⟩ := hQ1
  have N1 := Fr.app N0 Nq1
  show own_Go p e below Φ T1 (mkF m 19 #[.val (.ref a1), .val (.ref a1)] [(.int (1 : Int32))])
  exact own_retN X1 hx (t := .boolean) hret (by simp) hlk (hb hby d11_19) hF (by rw [e1]; exact ⟨by rw [show nar .boolean (1 : Int32) = (1 : Int32) from by decide], N1, rfl⟩) (by decide) (by decide)
theorem ef_10_RN (m : MethodId) (x0 : Addr)  : entryFrame m #[(.ref x0), .null] 2 = mkF m 0 #[.val (.ref x0), .val .null] [] := by first | (simp [entryFrame, mkF, argsToLocals, Value.category]; done) | rfl
set_option maxRecDepth 65536 in
set_option maxHeartbeats 40000000 in
theorem rm_sqlType_11 (l : Launch) (Z : State) (a0 : Array Value) (g_COMPACT_STRINGS : Int32) (g_SIOOBE_FORMATTER : Value) (hW : own_W Z a0 g_COMPACT_STRINGS g_SIOOBE_FORMATTER) (a1 : Addr) (h0 : Heap) (O0 : Old Z Z.heap.size h0) (h_1 : Fld Z h0 a1 "com/example/nepean/nepean/mapping/ColumnSettings" "definition" "Ljava/lang/String;" .null) :
    own_Met l Z (⟨"com/example/nepean/nepean/mapping/ColumnSettings", "sqlType", "(Ljava/lang/String;)Ljava/lang/String;"⟩ : MethodName) prog_5_method_2_code 2 (some (.object "java/lang/String")) ({ frames := 0, cells := 0, slots := 0, locals := 0 } : Room) #[(.ref a1), .null] h0 (fun v h L => v = some .null ∧ Fr Z.heap.size L ∧ h = h0) := by
  have hW_ := hW
  obtain ⟨hw, S_g_COMPACT_STRINGS, P_g_COMPACT_STRINGS, R_g_SIOOBE_FORMATTER, S_g_SIOOBE_FORMATTER⟩ := hW_
  refine own_met (plainFor_of_name pn_com_example_nepean_nepean_mapping_ColumnSettings) ?_
  intro p e s m below meth cc_ s₁ Φ hF X0 hx hby hml hZ hown hnm hret hlk e0
  have N0 := Fr.nil Z.heap.size
  refine own_k (T' := s₁) (g' := (mkF m 0 #[.val (.ref a1), .val .null] [])) (fun _ k_ => castTop (ef_10_RN m a1) k_) ?_
  refine own_k (T' := s₁) (g' := (mkF m 1 #[.val (.ref a1), .val .null] [(.ref a1)])) (fun _ k_ => XS.aloadN X0.here hx rfl (hb hby d10_0) rfl rfl  k_) ?_
  obtain ⟨T1, X1, e1, st1⟩ := getF X0 hx hZ hown (host := "") (Or.inl (hw _ (List.mem_of_getElem? (i := 54) rfl))) Via.refl e0 h_1 (g := (mkF m 1 #[.val (.ref a1), .val .null] [(.ref a1)])) rfl rfl (hb hby d10_1)
  refine own_k (T' := T1) (g' := (mkF m 4 #[.val (.ref a1), .val .null] [.null])) st1 ?_
  refine own_k (T' := T1) (g' := (mkF m 7 #[.val (.ref a1), .val .null] [])) (fun _ k_ => XS.ifnonnullNo X1.here hx rfl (hb hby d10_4) rfl k_) ?_
  refine own_k (T' := T1) (g' := (mkF m 8 #[.val (.ref a1), .val .null] [.null])) (fun _ k_ => XS.aloadN X1.here hx rfl (hb hby d10_7) rfl rfl  k_) ?_
  refine own_k (T' := T1) (g' := (mkF m 15 #[.val (.ref a1), .val .null] [.null])) (fun _ k_ => XS.goto X1.here hx rfl (pc0 := 8) (pc' := 15) rfl (hb hby d10_8) (by decide) (by decide) k_) ?_
  exact own_retA X1 hx hret rfl rfl hlk (hb hby d10_15) hF (by rw [e1]; exact ⟨rfl, N0, rfl⟩) (by decide) (by decide)
theorem ef_11_NN (m : MethodId)   : entryFrame m #[.null, .null] 2 = mkF m 0 #[.val .null, .val .null] [] := by first | (simp [entryFrame, mkF, argsToLocals, Value.category]; done) | rfl
theorem d11_4 : decode method_4_code 4 = .ok (.aload_n 1, 1) := by decide +kernel
theorem d11_5 : decode method_4_code 5 = .ok (.ifnonnull 7, 3) := by decide +kernel
theorem d11_8 : decode method_4_code 8 = .ok (.iconst 1, 1) := by decide +kernel
theorem d11_9 : decode method_4_code 9 = .ok (.goto 4, 3) := by decide +kernel
theorem d11_13 : decode method_4_code 13 = .ok (.ireturn, 1) := by decide +kernel
set_option maxRecDepth 65536 in
set_option maxHeartbeats 40000000 in
theorem rm_same_12 (l : Launch) (Z : State) (a0 : Array Value) (g_COMPACT_STRINGS : Int32) (g_SIOOBE_FORMATTER : Value) (hW : own_W Z a0 g_COMPACT_STRINGS g_SIOOBE_FORMATTER)  (h0 : Heap) (O0 : Old Z Z.heap.size h0)  :
    own_Met l Z (⟨"com/example/nepean/nepean/mapping/ColumnSettingsSqlTypePinLaw", "same", "(Ljava/lang/String;Ljava/lang/String;)Z"⟩ : MethodName) method_4_code 2 (some .boolean) ({ frames := 0, cells := 0, slots := 0, locals := 0 } : Room) #[.null, .null] h0 (fun v h L => v = some (.int (1 : Int32)) ∧ Fr Z.heap.size L ∧ h = h0) := by
  have hW_ := hW
  obtain ⟨hw, S_g_COMPACT_STRINGS, P_g_COMPACT_STRINGS, R_g_SIOOBE_FORMATTER, S_g_SIOOBE_FORMATTER⟩ := hW_
  refine own_met (plainFor_of_name pn_com_example_nepean_nepean_mapping_ColumnSettingsSqlTypePinLaw) ?_
  intro p e s m below meth cc_ s₁ Φ hF X0 hx hby hml hZ hown hnm hret hlk e0
  have N0 := Fr.nil Z.heap.size
  refine own_k (T' := s₁) (g' := (mkF m 0 #[.val .null, .val .null] [])) (fun _ k_ => castTop (ef_11_NN m ) k_) ?_
  refine own_k (T' := s₁) (g' := (mkF m 1 #[.val .null, .val .null] [.null])) (fun _ k_ => XS.aloadN X0.here hx rfl (hb hby d11_0) rfl rfl  k_) ?_
  refine own_k (T' := s₁) (g' := (mkF m 4 #[.val .null, .val .null] [])) (fun _ k_ => XS.ifnonnullNo X0.here hx rfl (hb hby d11_1) rfl k_) ?_
  refine own_k (T' := s₁) (g' := (mkF m 5 #[.val .null, .val .null] [.null])) (fun _ k_ => XS.aloadN X0.here hx rfl (hb hby d11_4) rfl rfl  k_) ?_
  refine own_k (T' := s₁) (g' := (mkF m 8 #[.val .null, .val .null] [])) (fun _ k_ => XS.ifnonnullNo X0.here hx rfl (hb hby d11_5) rfl k_) ?_
  refine own_k (T' := s₁) (g' := (mkF m 9 #[.val .null, .val .null] [(.int (1 : Int32))])) (fun _ k_ => XS.iconst X0.here hx rfl (hb hby d11_8) k_) ?_
  refine own_k (T' := s₁) (g' := (mkF m 13 #[.val .null, .val .null] [(.int (1 : Int32))])) (fun _ k_ => XS.goto X0.here hx rfl (pc0 := 9) (pc' := 13) rfl (hb hby d11_9) (by decide) (by decide) k_) ?_
  exact own_retN X0 hx (t := .boolean) hret (by simp) hlk (hb hby d11_13) hF (by rw [e0]; exact ⟨by rw [show nar .boolean (1 : Int32) = (1 : Int32) from by decide], N0, rfl⟩) (by decide) (by decide)
theorem ef_8_RIIIIR (m : MethodId) (x0 : Addr) (x1 : Int32) (x2 : Int32) (x3 : Int32) (x4 : Int32) (x5 : Addr)  : entryFrame m #[(.ref x0), (.int x1), (.int x2), (.int x3), (.int x4), (.ref x5)] 6 = mkF m 0 #[.val (.ref x0), .val (.int x1), .val (.int x2), .val (.int x3), .val (.int x4), .val (.ref x5)] [] := by first | (simp [entryFrame, mkF, argsToLocals, Value.category]; done) | rfl
set_option maxRecDepth 65536 in
set_option maxHeartbeats 40000000 in
theorem rm_init_13 (l : Launch) (Z : State) (a0 : Array Value) (g_COMPACT_STRINGS : Int32) (g_SIOOBE_FORMATTER : Value) (hW : own_W Z a0 g_COMPACT_STRINGS g_SIOOBE_FORMATTER) (a1 : Addr) (i2 : Int32) (i3 : Int32) (i4 : Int32) (i5 : Int32) (a6 : Addr) (h0 : Heap) (O0 : Old Z Z.heap.size h0) (h_1 : Fld Z h0 a1 "com/example/nepean/nepean/mapping/ColumnSettings" "nullable" "Z" (.int (0 : Int32))) (h_2 : Exa Z h0 a1 "com/example/nepean/nepean/mapping/ColumnSettings") (h_3 : Z.heap.size ≤ a1) (h_4 : Fld Z h0 a1 "com/example/nepean/nepean/mapping/ColumnSettings" "unique" "Z" (.int (0 : Int32))) (h_5 : Fld Z h0 a1 "com/example/nepean/nepean/mapping/ColumnSettings" "insertable" "Z" (.int (0 : Int32))) (h_6 : Fld Z h0 a1 "com/example/nepean/nepean/mapping/ColumnSettings" "updatable" "Z" (.int (0 : Int32))) (h_7 : Fld Z h0 a1 "com/example/nepean/nepean/mapping/ColumnSettings" "definition" "Ljava/lang/String;" .null) :
    own_Met l Z (⟨"com/example/nepean/nepean/mapping/ColumnSettings", "<init>", "(ZZZZLjava/lang/String;)V"⟩ : MethodName) prog_5_method_1_code 6 none ({ frames := 2, cells := 0, slots := 0, locals := 24 } : Room) #[(.ref a1), (.int i2), (.int i3), (.int i4), (.int i5), (.ref a6)] h0 (fun v h L => v = none ∧ Fr Z.heap.size L ∧ Keep h0 h [a1] ∧ Exa Z h a1 "com/example/nepean/nepean/mapping/ColumnSettings" ∧ Fld Z h a1 "com/example/nepean/nepean/mapping/ColumnSettings" "nullable" "Z" (.int (nar .boolean i2)) ∧ Fld Z h a1 "com/example/nepean/nepean/mapping/ColumnSettings" "unique" "Z" (.int (nar .boolean i3)) ∧ Fld Z h a1 "com/example/nepean/nepean/mapping/ColumnSettings" "insertable" "Z" (.int (nar .boolean i4)) ∧ Fld Z h a1 "com/example/nepean/nepean/mapping/ColumnSettings" "updatable" "Z" (.int (nar .boolean i5)) ∧ Fld Z h a1 "com/example/nepean/nepean/mapping/ColumnSettings" "definition" "Ljava/lang/String;" (.ref a6)) := by
  have hW_ := hW
  obtain ⟨hw, S_g_COMPACT_STRINGS, P_g_COMPACT_STRINGS, R_g_SIOOBE_FORMATTER, S_g_SIOOBE_FORMATTER⟩ := hW_
  refine own_met (plainFor_of_name pn_com_example_nepean_nepean_mapping_ColumnSettings) ?_
  intro p e s m below meth cc_ s₁ Φ hF X0 hx hby hml hZ hown hnm hret hlk e0
  have N0 := Fr.nil Z.heap.size
  refine own_k (T' := s₁) (g' := (mkF m 0 #[.val (.ref a1), .val (.int i2), .val (.int i3), .val (.int i4), .val (.int i5), .val (.ref a6)] [])) (fun _ k_ => castTop (ef_8_RIIIIR m a1 i2 i3 i4 i5 a6) k_) ?_
  refine own_k (T' := s₁) (g' := (mkF m 1 #[.val (.ref a1), .val (.int i2), .val (.int i3), .val (.int i4), .val (.int i5), .val (.ref a6)] [(.ref a1)])) (fun _ k_ => XS.aloadN X0.here hx rfl (hb hby d8_0) rfl rfl  k_) ?_
  refine own_callN X0 hx hZ (y := (⟨"java/lang/Record", "<init>", "()V"⟩ : MethodName)) rfl hown (hw _ (List.mem_of_getElem? (i := 40) rfl)) (hw _ (List.mem_of_getElem? (i := 41) rfl)) (hw _ (List.mem_of_getElem? (i := 44) rfl)) (hw _ (List.mem_of_getElem? (i := 43) rfl)) (by decide) (al := []) (b := a1) (rm_init_6 l Z a0 g_COMPACT_STRINGS g_SIOOBE_FORMATTER hW a1 h0 O0) 0 (by decide) (by decide) e0 (by decide) (by decide) (by rw [hml]; rfl) (lenOf pd__28_29V rfl) rfl (rest := []) (by show 2 * 0 + _ ≤ _; exact Nat.le_of_eq rfl) (hb hby d8_1) ?_
  intro v1 T1 L1 X1 hQ1
  obtain ⟨rfl, Nq1, e1⟩ := hQ1
  have N1 := Fr.app N0 Nq1
  show own_Go p e below Φ T1 (mkF m 4 #[.val (.ref a1), .val (.int i2), .val (.int i3), .val (.int i4), .val (.int i5), .val (.ref a6)] [])
  refine own_k (T' := T1) (g' := (mkF m 5 #[.val (.ref a1), .val (.int i2), .val (.int i3), .val (.int i4), .val (.int i5), .val (.ref a6)] [(.ref a1)])) (fun _ k_ => XS.aloadN X1.here hx rfl (hb hby d8_4) rfl rfl  k_) ?_
  refine own_k (T' := T1) (g' := (mkF m 6 #[.val (.ref a1), .val (.int i2), .val (.int i3), .val (.int i4), .val (.int i5), .val (.ref a6)] [(.int i2), (.ref a1)])) (fun _ k_ => XS.iloadN X1.here hx rfl (hb hby d8_5) rfl  k_) ?_
  obtain ⟨T2, h2, X2, e2, W2, st2⟩ := putFN X1 hx hZ hown (hw _ (List.mem_of_getElem? (i := 46) rfl)) Via.refl e1 h_1 h_2 (Or.inr ⟨(hw _ (List.mem_of_getElem? (i := 47) rfl)), rfl, hnm⟩) (hw _ (List.mem_of_getElem? (i := 35) rfl)) (ty := .boolean) (v' := (.int (nar .boolean i2))) (by decide) rfl (fits_nar_bool _) (g := (mkF m 6 #[.val (.ref a1), .val (.int i2), .val (.int i3), .val (.int i4), .val (.int i5), .val (.ref a6)] [(.int i2), (.ref a1)])) rfl rfl (hb hby d8_6)
  have w2 := Fld.same W2 h_1
  have O2' := O0.wr W2 h_3
  have N2 := Fr.snoc X2 N1 h_3
  refine own_k (T' := T2) (g' := (mkF m 9 #[.val (.ref a1), .val (.int i2), .val (.int i3), .val (.int i4), .val (.int i5), .val (.ref a6)] [])) st2 ?_
  refine own_k (T' := T2) (g' := (mkF m 10 #[.val (.ref a1), .val (.int i2), .val (.int i3), .val (.int i4), .val (.int i5), .val (.ref a6)] [(.ref a1)])) (fun _ k_ => XS.aloadN X2.here hx rfl (hb hby d8_9) rfl rfl  k_) ?_
  refine own_k (T' := T2) (g' := (mkF m 11 #[.val (.ref a1), .val (.int i2), .val (.int i3), .val (.int i4), .val (.int i5), .val (.ref a6)] [(.int i3), (.ref a1)])) (fun _ k_ => XS.iloadN X2.here hx rfl (hb hby d8_10) rfl  k_) ?_
  have f3 := (h_4.other W2 (Or.inr (slot_ne (Or.inr (hw _ (List.mem_of_getElem? (i := 49) rfl))) (Or.inr (hw _ (List.mem_of_getElem? (i := 47) rfl))) (by decide) (t := .boolean) (t' := .boolean) (by decide) (by decide))))
  obtain ⟨T4, h4, X4, e4, W4, st4⟩ := putFN X2 hx hZ hown (hw _ (List.mem_of_getElem? (i := 48) rfl)) Via.refl e2 f3 (h_2.wr W2) (Or.inr ⟨(hw _ (List.mem_of_getElem? (i := 49) rfl)), rfl, hnm⟩) (hw _ (List.mem_of_getElem? (i := 35) rfl)) (ty := .boolean) (v' := (.int (nar .boolean i3))) (by decide) rfl (fits_nar_bool _) (g := (mkF m 11 #[.val (.ref a1), .val (.int i2), .val (.int i3), .val (.int i4), .val (.int i5), .val (.ref a6)] [(.int i3), (.ref a1)])) rfl rfl (hb hby d8_11)
  have w4 := Fld.same W4 f3
  have O4' := O2'.wr W4 h_3
  have N4 := Fr.snoc X4 N2 h_3
  refine own_k (T' := T4) (g' := (mkF m 14 #[.val (.ref a1), .val (.int i2), .val (.int i3), .val (.int i4), .val (.int i5), .val (.ref a6)] [])) st4 ?_
  refine own_k (T' := T4) (g' := (mkF m 15 #[.val (.ref a1), .val (.int i2), .val (.int i3), .val (.int i4), .val (.int i5), .val (.ref a6)] [(.ref a1)])) (fun _ k_ => XS.aloadN X4.here hx rfl (hb hby d8_14) rfl rfl  k_) ?_
  refine own_k (T' := T4) (g' := (mkF m 16 #[.val (.ref a1), .val (.int i2), .val (.int i3), .val (.int i4), .val (.int i5), .val (.ref a6)] [(.int i4), (.ref a1)])) (fun _ k_ => XS.iloadN X4.here hx rfl (hb hby d8_15) rfl  k_) ?_
  have f5 := ((h_5.other W2 (Or.inr (slot_ne (Or.inr (hw _ (List.mem_of_getElem? (i := 51) rfl))) (Or.inr (hw _ (List.mem_of_getElem? (i := 47) rfl))) (by decide) (t := .boolean) (t' := .boolean) (by decide) (by decide)))).other W4 (Or.inr (slot_ne (Or.inr (hw _ (List.mem_of_getElem? (i := 51) rfl))) (Or.inr (hw _ (List.mem_of_getElem? (i := 49) rfl))) (by decide) (t := .boolean) (t' := .boolean) (by decide) (by decide))))
  obtain ⟨T6, h6, X6, e6, W6, st6⟩ := putFN X4 hx hZ hown (hw _ (List.mem_of_getElem? (i := 50) rfl)) Via.refl e4 f5 ((h_2.wr W2).wr W4) (Or.inr ⟨(hw _ (List.mem_of_getElem? (i := 51) rfl)), rfl, hnm⟩) (hw _ (List.mem_of_getElem? (i := 35) rfl)) (ty := .boolean) (v' := (.int (nar .boolean i4))) (by decide) rfl (fits_nar_bool _) (g := (mkF m 16 #[.val (.ref a1), .val (.int i2), .val (.int i3), .val (.int i4), .val (.int i5), .val (.ref a6)] [(.int i4), (.ref a1)])) rfl rfl (hb hby d8_16)
  have w6 := Fld.same W6 f5
  have O6' := O4'.wr W6 h_3
  have N6 := Fr.snoc X6 N4 h_3
  refine own_k (T' := T6) (g' := (mkF m 19 #[.val (.ref a1), .val (.int i2), .val (.int i3), .val (.int i4), .val (.int i5), .val (.ref a6)] [])) st6 ?_
  refine own_k (T' := T6) (g' := (mkF m 20 #[.val (.ref a1), .val (.int i2), .val (.int i3), .val (.int i4), .val (.int i5), .val (.ref a6)] [(.ref a1)])) (fun _ k_ => XS.aloadN X6.here hx rfl (hb hby d8_19) rfl rfl  k_) ?_
  refine own_k (T' := T6) (g' := (mkF m 22 #[.val (.ref a1), .val (.int i2), .val (.int i3), .val (.int i4), .val (.int i5), .val (.ref a6)] [(.int i5), (.ref a1)])) (fun _ k_ => XS.iload X6.here hx rfl (hb hby d8_20) rfl  k_) ?_
  have f7 := (((h_6.other W2 (Or.inr (slot_ne (Or.inr (hw _ (List.mem_of_getElem? (i := 53) rfl))) (Or.inr (hw _ (List.mem_of_getElem? (i := 47) rfl))) (by decide) (t := .boolean) (t' := .boolean) (by decide) (by decide)))).other W4 (Or.inr (slot_ne (Or.inr (hw _ (List.mem_of_getElem? (i := 53) rfl))) (Or.inr (hw _ (List.mem_of_getElem? (i := 49) rfl))) (by decide) (t := .boolean) (t' := .boolean) (by decide) (by decide)))).other W6 (Or.inr (slot_ne (Or.inr (hw _ (List.mem_of_getElem? (i := 53) rfl))) (Or.inr (hw _ (List.mem_of_getElem? (i := 51) rfl))) (by decide) (t := .boolean) (t' := .boolean) (by decide) (by decide))))
  obtain ⟨T8, h8, X8, e8, W8, st8⟩ := putFN X6 hx hZ hown (hw _ (List.mem_of_getElem? (i := 52) rfl)) Via.refl e6 f7 (((h_2.wr W2).wr W4).wr W6) (Or.inr ⟨(hw _ (List.mem_of_getElem? (i := 53) rfl)), rfl, hnm⟩) (hw _ (List.mem_of_getElem? (i := 35) rfl)) (ty := .boolean) (v' := (.int (nar .boolean i5))) (by decide) rfl (fits_nar_bool _) (g := (mkF m 22 #[.val (.ref a1), .val (.int i2), .val (.int i3), .val (.int i4), .val (.int i5), .val (.ref a6)] [(.int i5), (.ref a1)])) rfl rfl (hb hby d8_22)
  have w8 := Fld.same W8 f7
  have O8' := O6'.wr W8 h_3
  have N8 := Fr.snoc X8 N6 h_3
  refine own_k (T' := T8) (g' := (mkF m 25 #[.val (.ref a1), .val (.int i2), .val (.int i3), .val (.int i4), .val (.int i5), .val (.ref a6)] [])) st8 ?_
  refine own_k (T' := T8) (g' := (mkF m 26 #[.val (.ref a1), .val (.int i2), .val (.int i3), .val (.int i4), .val (.int i5), .val (.ref a6)] [(.ref a1)])) (fun _ k_ => XS.aloadN X8.here hx rfl (hb hby d8_25) rfl rfl  k_) ?_
  refine own_k (T' := T8) (g' := (mkF m 28 #[.val (.ref a1), .val (.int i2), .val (.int i3), .val (.int i4), .val (.int i5), .val (.ref a6)] [(.ref a6), (.ref a1)])) (fun _ k_ => XS.aload X8.here hx rfl (hb hby d8_26) rfl rfl  k_) ?_
  have f9 := ((((h_7.other W2 (Or.inr (slot_ne (Or.inr (hw _ (List.mem_of_getElem? (i := 55) rfl))) (Or.inr (hw _ (List.mem_of_getElem? (i := 47) rfl))) (by decide) (t := (.object "java/lang/String")) (t' := .boolean) (by decide) (by decide)))).other W4 (Or.inr (slot_ne (Or.inr (hw _ (List.mem_of_getElem? (i := 55) rfl))) (Or.inr (hw _ (List.mem_of_getElem? (i := 49) rfl))) (by decide) (t := (.object "java/lang/String")) (t' := .boolean) (by decide) (by decide)))).other W6 (Or.inr (slot_ne (Or.inr (hw _ (List.mem_of_getElem? (i := 55) rfl))) (Or.inr (hw _ (List.mem_of_getElem? (i := 51) rfl))) (by decide) (t := (.object "java/lang/String")) (t' := .boolean) (by decide) (by decide)))).other W8 (Or.inr (slot_ne (Or.inr (hw _ (List.mem_of_getElem? (i := 55) rfl))) (Or.inr (hw _ (List.mem_of_getElem? (i := 53) rfl))) (by decide) (t := (.object "java/lang/String")) (t' := .boolean) (by decide) (by decide))))
  obtain ⟨T10, h10, X10, e10, W10, st10⟩ := putF X8 hx hZ hown (host := "") (Or.inl (hw _ (List.mem_of_getElem? (i := 54) rfl))) Via.refl e8 f9 ((((h_2.wr W2).wr W4).wr W6).wr W8) (Or.inr ⟨(hw _ (List.mem_of_getElem? (i := 55) rfl)), rfl, hnm⟩) (hw _ (List.mem_of_getElem? (i := 35) rfl)) (ty := (.object "java/lang/String")) (by decide) rfl rfl (g := (mkF m 28 #[.val (.ref a1), .val (.int i2), .val (.int i3), .val (.int i4), .val (.int i5), .val (.ref a6)] [(.ref a6), (.ref a1)])) rfl rfl (hb hby d8_28)
  have w10 := Fld.same W10 f9
  have O10' := O8'.wr W10 h_3
  have N10 := Fr.snoc X10 N8 h_3
  refine own_k (T' := T10) (g' := (mkF m 31 #[.val (.ref a1), .val (.int i2), .val (.int i3), .val (.int i4), .val (.int i5), .val (.ref a6)] [])) st10 ?_
  have kp0 : Keep h0 h0 [a1] := Keep.refl h0 [a1]
  have kp1 : Keep h0 h2 [a1] := kp0.wr W2 (Or.inl (List.mem_of_getElem? (i := 0) rfl))
  have kp2 : Keep h0 h4 [a1] := kp1.wr W4 (Or.inl (List.mem_of_getElem? (i := 0) rfl))
  have kp3 : Keep h0 h6 [a1] := kp2.wr W6 (Or.inl (List.mem_of_getElem? (i := 0) rfl))
  have kp4 : Keep h0 h8 [a1] := kp3.wr W8 (Or.inl (List.mem_of_getElem? (i := 0) rfl))
  have kp5 : Keep h0 h10 [a1] := kp4.wr W10 (Or.inl (List.mem_of_getElem? (i := 0) rfl))
  have f11 := ((((w2.other W4 (Or.inr (slot_ne (Or.inr (hw _ (List.mem_of_getElem? (i := 47) rfl))) (Or.inr (hw _ (List.mem_of_getElem? (i := 49) rfl))) (by decide) (t := .boolean) (t' := .boolean) (by decide) (by decide)))).other W6 (Or.inr (slot_ne (Or.inr (hw _ (List.mem_of_getElem? (i := 47) rfl))) (Or.inr (hw _ (List.mem_of_getElem? (i := 51) rfl))) (by decide) (t := .boolean) (t' := .boolean) (by decide) (by decide)))).other W8 (Or.inr (slot_ne (Or.inr (hw _ (List.mem_of_getElem? (i := 47) rfl))) (Or.inr (hw _ (List.mem_of_getElem? (i := 53) rfl))) (by decide) (t := .boolean) (t' := .boolean) (by decide) (by decide)))).other W10 (Or.inr (slot_ne (Or.inr (hw _ (List.mem_of_getElem? (i := 47) rfl))) (Or.inr (hw _ (List.mem_of_getElem? (i := 55) rfl))) (by decide) (t := .boolean) (t' := (.object "java/lang/String")) (by decide) (by decide))))
  have f12 := (((w4.other W6 (Or.inr (slot_ne (Or.inr (hw _ (List.mem_of_getElem? (i := 49) rfl))) (Or.inr (hw _ (List.mem_of_getElem? (i := 51) rfl))) (by decide) (t := .boolean) (t' := .boolean) (by decide) (by decide)))).other W8 (Or.inr (slot_ne (Or.inr (hw _ (List.mem_of_getElem? (i := 49) rfl))) (Or.inr (hw _ (List.mem_of_getElem? (i := 53) rfl))) (by decide) (t := .boolean) (t' := .boolean) (by decide) (by decide)))).other W10 (Or.inr (slot_ne (Or.inr (hw _ (List.mem_of_getElem? (i := 49) rfl))) (Or.inr (hw _ (List.mem_of_getElem? (i := 55) rfl))) (by decide) (t := .boolean) (t' := (.object "java/lang/String")) (by decide) (by decide))))
  have f13 := ((w6.other W8 (Or.inr (slot_ne (Or.inr (hw _ (List.mem_of_getElem? (i := 51) rfl))) (Or.inr (hw _ (List.mem_of_getElem? (i := 53) rfl))) (by decide) (t := .boolean) (t' := .boolean) (by decide) (by decide)))).other W10 (Or.inr (slot_ne (Or.inr (hw _ (List.mem_of_getElem? (i := 51) rfl))) (Or.inr (hw _ (List.mem_of_getElem? (i := 55) rfl))) (by decide) (t := .boolean) (t' := (.object "java/lang/String")) (by decide) (by decide))))
  have f14 := (w8.other W10 (Or.inr (slot_ne (Or.inr (hw _ (List.mem_of_getElem? (i := 53) rfl))) (Or.inr (hw _ (List.mem_of_getElem? (i := 55) rfl))) (by decide) (t := .boolean) (t' := (.object "java/lang/String")) (by decide) (by decide))))
  exact own_ret0 X10 hx hret hlk (hb hby d8_31) hF (by rw [e10]; exact ⟨rfl, N10, kp5, (((((h_2.wr W2).wr W4).wr W6).wr W8).wr W10), f11, f12, f13, f14, w10⟩) (by decide) (by decide)
theorem d10_11 : decode prog_5_method_2_code 11 = .ok (.aload_n 0, 1) := by decide +kernel
theorem d10_12 : decode prog_5_method_2_code 12 = .ok (.getfield 22, 3) := by decide +kernel
set_option maxRecDepth 65536 in
set_option maxHeartbeats 40000000 in
theorem rm_sqlType_14 (l : Launch) (Z : State) (a0 : Array Value) (g_COMPACT_STRINGS : Int32) (g_SIOOBE_FORMATTER : Value) (hW : own_W Z a0 g_COMPACT_STRINGS g_SIOOBE_FORMATTER) (a1 : Addr) (a2 : Addr) (a3 : Addr) (h0 : Heap) (O0 : Old Z Z.heap.size h0) (h_1 : Fld Z h0 a1 "com/example/nepean/nepean/mapping/ColumnSettings" "definition" "Ljava/lang/String;" (.ref a3)) :
    own_Met l Z (⟨"com/example/nepean/nepean/mapping/ColumnSettings", "sqlType", "(Ljava/lang/String;)Ljava/lang/String;"⟩ : MethodName) prog_5_method_2_code 2 (some (.object "java/lang/String")) ({ frames := 0, cells := 0, slots := 0, locals := 0 } : Room) #[(.ref a1), (.ref a2)] h0 (fun v h L => v = some (.ref a3) ∧ Fr Z.heap.size L ∧ h = h0) := by
  have hW_ := hW
  obtain ⟨hw, S_g_COMPACT_STRINGS, P_g_COMPACT_STRINGS, R_g_SIOOBE_FORMATTER, S_g_SIOOBE_FORMATTER⟩ := hW_
  refine own_met (plainFor_of_name pn_com_example_nepean_nepean_mapping_ColumnSettings) ?_
  intro p e s m below meth cc_ s₁ Φ hF X0 hx hby hml hZ hown hnm hret hlk e0
  have N0 := Fr.nil Z.heap.size
  refine own_k (T' := s₁) (g' := (mkF m 0 #[.val (.ref a1), .val (.ref a2)] [])) (fun _ k_ => castTop (ef_10_RR m a1 a2) k_) ?_
  refine own_k (T' := s₁) (g' := (mkF m 1 #[.val (.ref a1), .val (.ref a2)] [(.ref a1)])) (fun _ k_ => XS.aloadN X0.here hx rfl (hb hby d10_0) rfl rfl  k_) ?_
  obtain ⟨T1, X1, e1, st1⟩ := getF X0 hx hZ hown (host := "") (Or.inl (hw _ (List.mem_of_getElem? (i := 54) rfl))) Via.refl e0 h_1 (g := (mkF m 1 #[.val (.ref a1), .val (.ref a2)] [(.ref a1)])) rfl rfl (hb hby d10_1)
  refine own_k (T' := T1) (g' := (mkF m 4 #[.val (.ref a1), .val (.ref a2)] [(.ref a3)])) st1 ?_
  refine own_k (T' := T1) (g' := (mkF m 11 #[.val (.ref a1), .val (.ref a2)] [])) (fun _ k_ => XS.ifnonnullYes X1.here hx rfl (pc0 := 4) (pc' := 11) rfl (hb hby d10_4) rfl (by decide) (by decide) k_) ?_
  refine own_k (T' := T1) (g' := (mkF m 12 #[.val (.ref a1), .val (.ref a2)] [(.ref a1)])) (fun _ k_ => XS.aloadN X1.here hx rfl (hb hby d10_11) rfl rfl  k_) ?_
  obtain ⟨T2, X2, e2, st2⟩ := getF X1 hx hZ hown (host := "") (Or.inl (hw _ (List.mem_of_getElem? (i := 54) rfl))) Via.refl e1 h_1 (g := (mkF m 12 #[.val (.ref a1), .val (.ref a2)] [(.ref a1)])) rfl rfl (hb hby d10_12)
  refine own_k (T' := T2) (g' := (mkF m 15 #[.val (.ref a1), .val (.ref a2)] [(.ref a3)])) st2 ?_
  exact own_retA X2 hx hret rfl rfl hlk (hb hby d10_15) hF (by rw [e2]; exact ⟨rfl, N0, rfl⟩) (by decide) (by decide)
set_option maxRecDepth 65536 in
set_option maxHeartbeats 40000000 in
theorem rm_sqlType_15 (l : Launch) (Z : State) (a0 : Array Value) (g_COMPACT_STRINGS : Int32) (g_SIOOBE_FORMATTER : Value) (hW : own_W Z a0 g_COMPACT_STRINGS g_SIOOBE_FORMATTER) (a1 : Addr) (a2 : Addr) (h0 : Heap) (O0 : Old Z Z.heap.size h0) (h_1 : Fld Z h0 a1 "com/example/nepean/nepean/mapping/ColumnSettings" "definition" "Ljava/lang/String;" (.ref a2)) :
    own_Met l Z (⟨"com/example/nepean/nepean/mapping/ColumnSettings", "sqlType", "(Ljava/lang/String;)Ljava/lang/String;"⟩ : MethodName) prog_5_method_2_code 2 (some (.object "java/lang/String")) ({ frames := 0, cells := 0, slots := 0, locals := 0 } : Room) #[(.ref a1), .null] h0 (fun v h L => v = some (.ref a2) ∧ Fr Z.heap.size L ∧ h = h0) := by
  have hW_ := hW
  obtain ⟨hw, S_g_COMPACT_STRINGS, P_g_COMPACT_STRINGS, R_g_SIOOBE_FORMATTER, S_g_SIOOBE_FORMATTER⟩ := hW_
  refine own_met (plainFor_of_name pn_com_example_nepean_nepean_mapping_ColumnSettings) ?_
  intro p e s m below meth cc_ s₁ Φ hF X0 hx hby hml hZ hown hnm hret hlk e0
  have N0 := Fr.nil Z.heap.size
  refine own_k (T' := s₁) (g' := (mkF m 0 #[.val (.ref a1), .val .null] [])) (fun _ k_ => castTop (ef_10_RN m a1) k_) ?_
  refine own_k (T' := s₁) (g' := (mkF m 1 #[.val (.ref a1), .val .null] [(.ref a1)])) (fun _ k_ => XS.aloadN X0.here hx rfl (hb hby d10_0) rfl rfl  k_) ?_
  obtain ⟨T1, X1, e1, st1⟩ := getF X0 hx hZ hown (host := "") (Or.inl (hw _ (List.mem_of_getElem? (i := 54) rfl))) Via.refl e0 h_1 (g := (mkF m 1 #[.val (.ref a1), .val .null] [(.ref a1)])) rfl rfl (hb hby d10_1)
  refine own_k (T' := T1) (g' := (mkF m 4 #[.val (.ref a1), .val .null] [(.ref a2)])) st1 ?_
  refine own_k (T' := T1) (g' := (mkF m 11 #[.val (.ref a1), .val .null] [])) (fun _ k_ => XS.ifnonnullYes X1.here hx rfl (pc0 := 4) (pc' := 11) rfl (hb hby d10_4) rfl (by decide) (by decide) k_) ?_
  refine own_k (T' := T1) (g' := (mkF m 12 #[.val (.ref a1), .val .null] [(.ref a1)])) (fun _ k_ => XS.aloadN X1.here hx rfl (hb hby d10_11) rfl rfl  k_) ?_
  obtain ⟨T2, X2, e2, st2⟩ := getF X1 hx hZ hown (host := "") (Or.inl (hw _ (List.mem_of_getElem? (i := 54) rfl))) Via.refl e1 h_1 (g := (mkF m 12 #[.val (.ref a1), .val .null] [(.ref a1)])) rfl rfl (hb hby d10_12)
  refine own_k (T' := T2) (g' := (mkF m 15 #[.val (.ref a1), .val .null] [(.ref a2)])) st2 ?_
  exact own_retA X2 hx hret rfl rfl hlk (hb hby d10_15) hF (by rw [e2]; exact ⟨rfl, N0, rfl⟩) (by decide) (by decide)
set_option maxRecDepth 65536 in
set_option maxHeartbeats 40000000 in
theorem own_law (l : Launch) (Z : State) (a0 : Array Value) (g_COMPACT_STRINGS : Int32) (g_SIOOBE_FORMATTER : Value) (hW : own_W Z a0 g_COMPACT_STRINGS g_SIOOBE_FORMATTER) (p0 : Int32) (p1 : Int32) (p2 : Int32) (p3 : Int32) (p4 : Int32) (p5 : Int32) (h0 : Heap) (O0 : Old Z Z.heap.size h0)  :
    own_Met l Z x code maxLocals ret room_1 #[(.int p0), (.int p1), (.int p2), (.int p3), (.int p4), (.int p5)] h0 (fun v h L => v = some (.int (1 : Int32)) ∧ Fr Z.heap.size L ∧ True) := by
  have hW_ := hW
  obtain ⟨hw, S_g_COMPACT_STRINGS, P_g_COMPACT_STRINGS, R_g_SIOOBE_FORMATTER, S_g_SIOOBE_FORMATTER⟩ := hW_
  refine own_met (plainFor_of_name pn_com_example_nepean_nepean_mapping_ColumnSettingsSqlTypePinLaw) ?_
  intro p e s m below meth cc_ s₁ Φ hF X0 hx hby hml hZ hown hnm hret hlk e0
  have N0 := Fr.nil Z.heap.size
  refine own_k (T' := s₁) (g' := (mkF m 0 #[.val (.int p0), .val (.int p1), .val (.int p2), .val (.int p3), .val (.int p4), .val (.int p5), .unset, .unset, .unset, .unset, .unset, .unset, .unset, .unset] [])) (fun _ k_ => castTop (ef_0_IIIIII m p0 p1 p2 p3 p4 p5) k_) ?_
  refine own_k (T' := s₁) (g' := (mkF m 1 #[.val (.int p0), .val (.int p1), .val (.int p2), .val (.int p3), .val (.int p4), .val (.int p5), .unset, .unset, .unset, .unset, .unset, .unset, .unset, .unset] [(.int p0)])) (fun _ k_ => XS.iloadN X0.here hx rfl (hb hby at_0) rfl  k_) ?_
  refine own_k (T' := s₁) (g' := (mkF m 3 #[.val (.int p0), .val (.int p1), .val (.int p2), .val (.int p3), .val (.int p4), .val (.int p5), .unset, .unset, .unset, .unset, .unset, .unset, .unset, .unset] [(.int (16 : Int32)), (.int p0)])) (fun _ k_ => XS.bipush X0.here hx rfl (hb hby at_1) k_) ?_
  refine own_k (T' := s₁) (g' := (mkF m 4 #[.val (.int p0), .val (.int p1), .val (.int p2), .val (.int p3), .val (.int p4), .val (.int p5), .unset, .unset, .unset, .unset, .unset, .unset, .unset, .unset] [(.int (p0 &&& (16 : Int32)))])) (fun _ k_ => XS.iand X0.here hx rfl (hb hby at_3) rfl k_) ?_
  by_cases hc1 : (p0 &&& (16 : Int32)) = (0 : Int32)
  · refine own_k (T' := s₁) (g' := (mkF m 11 #[.val (.int p0), .val (.int p1), .val (.int p2), .val (.int p3), .val (.int p4), .val (.int p5), .unset, .unset, .unset, .unset, .unset, .unset, .unset, .unset] [])) (fun _ k_ => XS.ifYes X0.here hx rfl (pc0 := 4) (pc' := 11) rfl (hb hby at_4) rfl ((if0 _ _).trans (teq hc1).1) (by decide) (by decide) k_) ?_
    refine own_k (T' := s₁) (g' := (mkF m 12 #[.val (.int p0), .val (.int p1), .val (.int p2), .val (.int p3), .val (.int p4), .val (.int p5), .unset, .unset, .unset, .unset, .unset, .unset, .unset, .unset] [(.int (0 : Int32))])) (fun _ k_ => XS.iconst X0.here hx rfl (hb hby at_11) k_) ?_
    refine own_k (T' := s₁) (g' := (mkF m 14 #[.val (.int p0), .val (.int p1), .val (.int p2), .val (.int p3), .val (.int p4), .val (.int p5), .val (.int (0 : Int32)), .unset, .unset, .unset, .unset, .unset, .unset, .unset] [])) (fun _ k_ => XS.istore X0.here hx rfl (hb hby at_12) rfl (l' := #[.val (.int p0), .val (.int p1), .val (.int p2), .val (.int p3), .val (.int p4), .val (.int p5), .val (.int (0 : Int32)), .unset, .unset, .unset, .unset, .unset, .unset, .unset]) rfl k_) ?_
    refine own_k (T' := s₁) (g' := (mkF m 15 #[.val (.int p0), .val (.int p1), .val (.int p2), .val (.int p3), .val (.int p4), .val (.int p5), .val (.int (0 : Int32)), .unset, .unset, .unset, .unset, .unset, .unset, .unset] [(.int p0)])) (fun _ k_ => XS.iloadN X0.here hx rfl (hb hby at_14) rfl  k_) ?_
    refine own_k (T' := s₁) (g' := (mkF m 17 #[.val (.int p0), .val (.int p1), .val (.int p2), .val (.int p3), .val (.int p4), .val (.int p5), .val (.int (0 : Int32)), .unset, .unset, .unset, .unset, .unset, .unset, .unset] [(.int (32 : Int32)), (.int p0)])) (fun _ k_ => XS.bipush X0.here hx rfl (hb hby at_15) k_) ?_
    refine own_k (T' := s₁) (g' := (mkF m 18 #[.val (.int p0), .val (.int p1), .val (.int p2), .val (.int p3), .val (.int p4), .val (.int p5), .val (.int (0 : Int32)), .unset, .unset, .unset, .unset, .unset, .unset, .unset] [(.int (p0 &&& (32 : Int32)))])) (fun _ k_ => XS.iand X0.here hx rfl (hb hby at_17) rfl k_) ?_
    by_cases hc2 : (p0 &&& (32 : Int32)) = (0 : Int32)
    · refine own_k (T' := s₁) (g' := (mkF m 25 #[.val (.int p0), .val (.int p1), .val (.int p2), .val (.int p3), .val (.int p4), .val (.int p5), .val (.int (0 : Int32)), .unset, .unset, .unset, .unset, .unset, .unset, .unset] [])) (fun _ k_ => XS.ifYes X0.here hx rfl (pc0 := 18) (pc' := 25) rfl (hb hby at_18) rfl ((if0 _ _).trans (teq hc2).1) (by decide) (by decide) k_) ?_
      refine own_k (T' := s₁) (g' := (mkF m 26 #[.val (.int p0), .val (.int p1), .val (.int p2), .val (.int p3), .val (.int p4), .val (.int p5), .val (.int (0 : Int32)), .unset, .unset, .unset, .unset, .unset, .unset, .unset] [(.int (0 : Int32))])) (fun _ k_ => XS.iconst X0.here hx rfl (hb hby at_25) k_) ?_
      refine own_k (T' := s₁) (g' := (mkF m 28 #[.val (.int p0), .val (.int p1), .val (.int p2), .val (.int p3), .val (.int p4), .val (.int p5), .val (.int (0 : Int32)), .val (.int (0 : Int32)), .unset, .unset, .unset, .unset, .unset, .unset] [])) (fun _ k_ => XS.istore X0.here hx rfl (hb hby at_26) rfl (l' := #[.val (.int p0), .val (.int p1), .val (.int p2), .val (.int p3), .val (.int p4), .val (.int p5), .val (.int (0 : Int32)), .val (.int (0 : Int32)), .unset, .unset, .unset, .unset, .unset, .unset]) rfl k_) ?_
      refine own_k (T' := s₁) (g' := (mkF m 30 #[.val (.int p0), .val (.int p1), .val (.int p2), .val (.int p3), .val (.int p4), .val (.int p5), .val (.int (0 : Int32)), .val (.int (0 : Int32)), .unset, .unset, .unset, .unset, .unset, .unset] [(.int (0 : Int32))])) (fun _ k_ => XS.iload X0.here hx rfl (hb hby at_28) rfl  k_) ?_
      refine own_k (T' := s₁) (g' := (mkF m 46 #[.val (.int p0), .val (.int p1), .val (.int p2), .val (.int p3), .val (.int p4), .val (.int p5), .val (.int (0 : Int32)), .val (.int (0 : Int32)), .unset, .unset, .unset, .unset, .unset, .unset] [])) (fun _ k_ => XS.ifYes X0.here hx rfl (pc0 := 30) (pc' := 46) rfl (hb hby at_30) rfl ((if0 _ _).trans (teq (by decide : ((0 : Int32) = (0 : Int32)))).1) (by decide) (by decide) k_) ?_
      refine own_k (T' := s₁) (g' := (mkF m 47 #[.val (.int p0), .val (.int p1), .val (.int p2), .val (.int p3), .val (.int p4), .val (.int p5), .val (.int (0 : Int32)), .val (.int (0 : Int32)), .unset, .unset, .unset, .unset, .unset, .unset] [.null])) (fun _ k_ => XS.aconstNull X0.here hx rfl (hb hby at_46) k_) ?_
      refine own_k (T' := s₁) (g' := (mkF m 49 #[.val (.int p0), .val (.int p1), .val (.int p2), .val (.int p3), .val (.int p4), .val (.int p5), .val (.int (0 : Int32)), .val (.int (0 : Int32)), .val .null, .unset, .unset, .unset, .unset, .unset] [])) (fun _ k_ => XS.astore X0.here hx rfl (hb hby at_47) rfl rfl (l' := #[.val (.int p0), .val (.int p1), .val (.int p2), .val (.int p3), .val (.int p4), .val (.int p5), .val (.int (0 : Int32)), .val (.int (0 : Int32)), .val .null, .unset, .unset, .unset, .unset, .unset]) rfl k_) ?_
      refine own_k (T' := s₁) (g' := (mkF m 51 #[.val (.int p0), .val (.int p1), .val (.int p2), .val (.int p3), .val (.int p4), .val (.int p5), .val (.int (0 : Int32)), .val (.int (0 : Int32)), .val .null, .unset, .unset, .unset, .unset, .unset] [(.int (0 : Int32))])) (fun _ k_ => XS.iload X0.here hx rfl (hb hby at_49) rfl  k_) ?_
      refine own_k (T' := s₁) (g' := (mkF m 58 #[.val (.int p0), .val (.int p1), .val (.int p2), .val (.int p3), .val (.int p4), .val (.int p5), .val (.int (0 : Int32)), .val (.int (0 : Int32)), .val .null, .unset, .unset, .unset, .unset, .unset] [])) (fun _ k_ => XS.ifYes X0.here hx rfl (pc0 := 51) (pc' := 58) rfl (hb hby at_51) rfl ((if0 _ _).trans (teq (by decide : ((0 : Int32) = (0 : Int32)))).1) (by decide) (by decide) k_) ?_
      refine own_k (T' := s₁) (g' := (mkF m 59 #[.val (.int p0), .val (.int p1), .val (.int p2), .val (.int p3), .val (.int p4), .val (.int p5), .val (.int (0 : Int32)), .val (.int (0 : Int32)), .val .null, .unset, .unset, .unset, .unset, .unset] [(.int p1)])) (fun _ k_ => XS.iloadN X0.here hx rfl (hb hby at_58) rfl  k_) ?_
      refine own_k (T' := s₁) (g' := (mkF m 60 #[.val (.int p0), .val (.int p1), .val (.int p2), .val (.int p3), .val (.int p4), .val (.int p5), .val (.int (0 : Int32)), .val (.int (0 : Int32)), .val .null, .unset, .unset, .unset, .unset, .unset] [(.int p2), (.int p1)])) (fun _ k_ => XS.iloadN X0.here hx rfl (hb hby at_59) rfl  k_) ?_
      refine own_callS X0 hx hZ (y := (⟨"com/example/nepean/nepean/mapping/ColumnSettingsSqlTypePinLaw", "str", "(II)Ljava/lang/String;"⟩ : MethodName)) hown (hw _ (List.mem_of_getElem? (i := 0) rfl)) (hw _ (List.mem_of_getElem? (i := 1) rfl)) (hw _ (List.mem_of_getElem? (i := 2) rfl)) (hw _ (List.mem_of_getElem? (i := 3) rfl)) (by decide) (al := [(.int p1), (.int p2)]) (rm_str_5 l Z a0 g_COMPACT_STRINGS g_SIOOBE_FORMATTER hW p1 p2 h0 O0 (own_lat p1) (own_lat p2)) 0 (by decide) (by decide) e0 (by decide) (by decide) (by rw [hml]; rfl) (lenOf pd__28II_29Ljava_2flang_2fString_3b rfl) rfl (rest := []) (by show 2 * 0 + _ ≤ _; exact Nat.le_of_eq rfl) (hb hby at_60) ?_
      intro v3 T3 L3 X3 hQ3
      obtain ⟨b3_0, b3_1, k3_2, rfl, Nq3, K3, ge3_0, ge3_1, nn3_0, q3_0, q3_1, q3_2, q3_3, q3_4⟩ := hQ3
      have N3 := Fr.app N0 Nq3
      have O3' := O0.keep K3 all0
      show own_Go p e below Φ T3 (mkF m 63 #[.val (.int p0), .val (.int p1), .val (.int p2), .val (.int p3), .val (.int p4), .val (.int p5), .val (.int (0 : Int32)), .val (.int (0 : Int32)), .val .null, .unset, .unset, .unset, .unset, .unset] [(.ref b3_0)])
      refine own_k (T' := T3) (g' := (mkF m 65 #[.val (.int p0), .val (.int p1), .val (.int p2), .val (.int p3), .val (.int p4), .val (.int p5), .val (.int (0 : Int32)), .val (.int (0 : Int32)), .val .null, .val (.ref b3_0), .unset, .unset, .unset, .unset] [])) (fun _ k_ => XS.astore X3.here hx rfl (hb hby at_63) rfl rfl (l' := #[.val (.int p0), .val (.int p1), .val (.int p2), .val (.int p3), .val (.int p4), .val (.int p5), .val (.int (0 : Int32)), .val (.int (0 : Int32)), .val .null, .val (.ref b3_0), .unset, .unset, .unset, .unset]) rfl k_) ?_
      refine own_k (T' := T3) (g' := (mkF m 66 #[.val (.int p0), .val (.int p1), .val (.int p2), .val (.int p3), .val (.int p4), .val (.int p5), .val (.int (0 : Int32)), .val (.int (0 : Int32)), .val .null, .val (.ref b3_0), .unset, .unset, .unset, .unset] [(.int p3)])) (fun _ k_ => XS.iloadN X3.here hx rfl (hb hby at_65) rfl  k_) ?_
      refine own_k (T' := T3) (g' := (mkF m 68 #[.val (.int p0), .val (.int p1), .val (.int p2), .val (.int p3), .val (.int p4), .val (.int p5), .val (.int (0 : Int32)), .val (.int (0 : Int32)), .val .null, .val (.ref b3_0), .unset, .unset, .unset, .unset] [(.int p4), (.int p3)])) (fun _ k_ => XS.iload X3.here hx rfl (hb hby at_66) rfl  k_) ?_
      refine own_callS X3 hx hZ (y := (⟨"com/example/nepean/nepean/mapping/ColumnSettingsSqlTypePinLaw", "str", "(II)Ljava/lang/String;"⟩ : MethodName)) hown (hw _ (List.mem_of_getElem? (i := 0) rfl)) (hw _ (List.mem_of_getElem? (i := 1) rfl)) (hw _ (List.mem_of_getElem? (i := 2) rfl)) (hw _ (List.mem_of_getElem? (i := 3) rfl)) (by decide) (al := [(.int p3), (.int p4)]) (rm_str_5 l Z a0 g_COMPACT_STRINGS g_SIOOBE_FORMATTER hW p3 p4 T3.heap O3' (own_lat p3) (own_lat p4)) 0 (by decide) (by decide) rfl (by decide) (by decide) (by rw [hml]; rfl) (lenOf pd__28II_29Ljava_2flang_2fString_3b rfl) rfl (rest := []) (by show 2 * 0 + _ ≤ _; exact Nat.le_of_eq rfl) (hb hby at_68) ?_
      intro v4 T4 L4 X4 hQ4
      obtain ⟨b4_0, b4_1, k4_2, rfl, Nq4, K4, ge4_0, ge4_1, nn4_0, q4_0, q4_1, q4_2, q4_3, q4_4⟩ := hQ4
      have N4 := Fr.app N3 Nq4
      have O4' := O3'.keep K4 all0
      show own_Go p e below Φ T4 (mkF m 71 #[.val (.int p0), .val (.int p1), .val (.int p2), .val (.int p3), .val (.int p4), .val (.int p5), .val (.int (0 : Int32)), .val (.int (0 : Int32)), .val .null, .val (.ref b3_0), .unset, .unset, .unset, .unset] [(.ref b4_0)])
      refine own_k (T' := T4) (g' := (mkF m 73 #[.val (.int p0), .val (.int p1), .val (.int p2), .val (.int p3), .val (.int p4), .val (.int p5), .val (.int (0 : Int32)), .val (.int (0 : Int32)), .val .null, .val (.ref b3_0), .val (.ref b4_0), .unset, .unset, .unset] [])) (fun _ k_ => XS.astore X4.here hx rfl (hb hby at_71) rfl rfl (l' := #[.val (.int p0), .val (.int p1), .val (.int p2), .val (.int p3), .val (.int p4), .val (.int p5), .val (.int (0 : Int32)), .val (.int (0 : Int32)), .val .null, .val (.ref b3_0), .val (.ref b4_0), .unset, .unset, .unset]) rfl k_) ?_
      obtain ⟨T5, h5, X5, e5, E5, A5, D5, -, st5⟩ := newO X4 hx hZ hown (hw _ (List.mem_of_getElem? (i := 34) rfl)) (hw _ (List.mem_of_getElem? (i := 35) rfl)) (hw _ (List.mem_of_getElem? (i := 36) rfl)) rfl (g := (mkF m 73 #[.val (.int p0), .val (.int p1), .val (.int p2), .val (.int p3), .val (.int p4), .val (.int p5), .val (.int (0 : Int32)), .val (.int (0 : Int32)), .val .null, .val (.ref b3_0), .val (.ref b4_0), .unset, .unset, .unset] [])) rfl (hb hby at_73) (by decide) (by decide)
      obtain ⟨b5, g5⟩ : ∃ z, z = T4.heap.size := ⟨_, rfl⟩
      rw [← g5] at A5 D5 st5
      have O5' := O4'.ext E5
      have F5_nullable : Fld Z h5 b5 "com/example/nepean/nepean/mapping/ColumnSettings" "nullable" "Z" (.int (0 : Int32)) := D5 (Or.inr (hw _ (List.mem_of_getElem? (i := 47) rfl))) (ty := .boolean) (by decide)
      have F5_unique : Fld Z h5 b5 "com/example/nepean/nepean/mapping/ColumnSettings" "unique" "Z" (.int (0 : Int32)) := D5 (Or.inr (hw _ (List.mem_of_getElem? (i := 49) rfl))) (ty := .boolean) (by decide)
      have F5_insertable : Fld Z h5 b5 "com/example/nepean/nepean/mapping/ColumnSettings" "insertable" "Z" (.int (0 : Int32)) := D5 (Or.inr (hw _ (List.mem_of_getElem? (i := 51) rfl))) (ty := .boolean) (by decide)
      have F5_updatable : Fld Z h5 b5 "com/example/nepean/nepean/mapping/ColumnSettings" "updatable" "Z" (.int (0 : Int32)) := D5 (Or.inr (hw _ (List.mem_of_getElem? (i := 53) rfl))) (ty := .boolean) (by decide)
      have F5_definition : Fld Z h5 b5 "com/example/nepean/nepean/mapping/ColumnSettings" "definition" "Ljava/lang/String;" .null := D5 (Or.inr (hw _ (List.mem_of_getElem? (i := 55) rfl))) (ty := (.object "java/lang/String")) (by decide)
      refine own_k (T' := T5) (g' := (mkF m 76 #[.val (.int p0), .val (.int p1), .val (.int p2), .val (.int p3), .val (.int p4), .val (.int p5), .val (.int (0 : Int32)), .val (.int (0 : Int32)), .val .null, .val (.ref b3_0), .val (.ref b4_0), .unset, .unset, .unset] [(.ref b5)])) st5 ?_
      refine own_k (T' := T5) (g' := (mkF m 77 #[.val (.int p0), .val (.int p1), .val (.int p2), .val (.int p3), .val (.int p4), .val (.int p5), .val (.int (0 : Int32)), .val (.int (0 : Int32)), .val .null, .val (.ref b3_0), .val (.ref b4_0), .unset, .unset, .unset] [(.ref b5), (.ref b5)])) (fun _ k_ => XS.dup X5.here hx rfl (hb hby at_76) rfl rfl k_) ?_
      suffices hj6 : ∀ z77 : Int32, own_Go p e below Φ T5 (mkF m 88 #[.val (.int p0), .val (.int p1), .val (.int p2), .val (.int p3), .val (.int p4), .val (.int p5), .val (.int (0 : Int32)), .val (.int (0 : Int32)), .val .null, .val (.ref b3_0), .val (.ref b4_0), .unset, .unset, .unset] [(.int z77), (.ref b5), (.ref b5)]) by
        refine own_k (T' := T5) (g' := (mkF m 78 #[.val (.int p0), .val (.int p1), .val (.int p2), .val (.int p3), .val (.int p4), .val (.int p5), .val (.int (0 : Int32)), .val (.int (0 : Int32)), .val .null, .val (.ref b3_0), .val (.ref b4_0), .unset, .unset, .unset] [(.int p0), (.ref b5), (.ref b5)])) (fun _ k_ => XS.iloadN X5.here hx rfl (hb hby at_77) rfl  k_) ?_
        refine own_k (T' := T5) (g' := (mkF m 79 #[.val (.int p0), .val (.int p1), .val (.int p2), .val (.int p3), .val (.int p4), .val (.int p5), .val (.int (0 : Int32)), .val (.int (0 : Int32)), .val .null, .val (.ref b3_0), .val (.ref b4_0), .unset, .unset, .unset] [(.int (1 : Int32)), (.int p0), (.ref b5), (.ref b5)])) (fun _ k_ => XS.iconst X5.here hx rfl (hb hby at_78) k_) ?_
        refine own_k (T' := T5) (g' := (mkF m 80 #[.val (.int p0), .val (.int p1), .val (.int p2), .val (.int p3), .val (.int p4), .val (.int p5), .val (.int (0 : Int32)), .val (.int (0 : Int32)), .val .null, .val (.ref b3_0), .val (.ref b4_0), .unset, .unset, .unset] [(.int (p0 &&& (1 : Int32))), (.ref b5), (.ref b5)])) (fun _ k_ => XS.iand X5.here hx rfl (hb hby at_79) rfl k_) ?_
        by_cases hc7 : (p0 &&& (1 : Int32)) = (0 : Int32)
        · refine own_k (T' := T5) (g' := (mkF m 87 #[.val (.int p0), .val (.int p1), .val (.int p2), .val (.int p3), .val (.int p4), .val (.int p5), .val (.int (0 : Int32)), .val (.int (0 : Int32)), .val .null, .val (.ref b3_0), .val (.ref b4_0), .unset, .unset, .unset] [(.ref b5), (.ref b5)])) (fun _ k_ => XS.ifYes X5.here hx rfl (pc0 := 80) (pc' := 87) rfl (hb hby at_80) rfl ((if0 _ _).trans (teq hc7).1) (by decide) (by decide) k_) ?_
          refine own_k (T' := T5) (g' := (mkF m 88 #[.val (.int p0), .val (.int p1), .val (.int p2), .val (.int p3), .val (.int p4), .val (.int p5), .val (.int (0 : Int32)), .val (.int (0 : Int32)), .val .null, .val (.ref b3_0), .val (.ref b4_0), .unset, .unset, .unset] [(.int (0 : Int32)), (.ref b5), (.ref b5)])) (fun _ k_ => XS.iconst X5.here hx rfl (hb hby at_87) k_) ?_
          exact hj6 _
        · refine own_k (T' := T5) (g' := (mkF m 83 #[.val (.int p0), .val (.int p1), .val (.int p2), .val (.int p3), .val (.int p4), .val (.int p5), .val (.int (0 : Int32)), .val (.int (0 : Int32)), .val .null, .val (.ref b3_0), .val (.ref b4_0), .unset, .unset, .unset] [(.ref b5), (.ref b5)])) (fun _ k_ => XS.ifNo X5.here hx rfl (hb hby at_80) rfl ((if0 _ _).trans (feq hc7).1) k_) ?_
          refine own_k (T' := T5) (g' := (mkF m 84 #[.val (.int p0), .val (.int p1), .val (.int p2), .val (.int p3), .val (.int p4), .val (.int p5), .val (.int (0 : Int32)), .val (.int (0 : Int32)), .val .null, .val (.ref b3_0), .val (.ref b4_0), .unset, .unset, .unset] [(.int (1 : Int32)), (.ref b5), (.ref b5)])) (fun _ k_ => XS.iconst X5.here hx rfl (hb hby at_83) k_) ?_
          refine own_k (T' := T5) (g' := (mkF m 88 #[.val (.int p0), .val (.int p1), .val (.int p2), .val (.int p3), .val (.int p4), .val (.int p5), .val (.int (0 : Int32)), .val (.int (0 : Int32)), .val .null, .val (.ref b3_0), .val (.ref b4_0), .unset, .unset, .unset] [(.int (1 : Int32)), (.ref b5), (.ref b5)])) (fun _ k_ => XS.goto X5.here hx rfl (pc0 := 84) (pc' := 88) rfl (hb hby at_84) (by decide) (by decide) k_) ?_
          exact hj6 _
      intro z77
      suffices hj8 : ∀ z88 : Int32, own_Go p e below Φ T5 (mkF m 99 #[.val (.int p0), .val (.int p1), .val (.int p2), .val (.int p3), .val (.int p4), .val (.int p5), .val (.int (0 : Int32)), .val (.int (0 : Int32)), .val .null, .val (.ref b3_0), .val (.ref b4_0), .unset, .unset, .unset] [(.int z88), (.int z77), (.ref b5), (.ref b5)]) by
        refine own_k (T' := T5) (g' := (mkF m 89 #[.val (.int p0), .val (.int p1), .val (.int p2), .val (.int p3), .val (.int p4), .val (.int p5), .val (.int (0 : Int32)), .val (.int (0 : Int32)), .val .null, .val (.ref b3_0), .val (.ref b4_0), .unset, .unset, .unset] [(.int p0), (.int z77), (.ref b5), (.ref b5)])) (fun _ k_ => XS.iloadN X5.here hx rfl (hb hby at_88) rfl  k_) ?_
        refine own_k (T' := T5) (g' := (mkF m 90 #[.val (.int p0), .val (.int p1), .val (.int p2), .val (.int p3), .val (.int p4), .val (.int p5), .val (.int (0 : Int32)), .val (.int (0 : Int32)), .val .null, .val (.ref b3_0), .val (.ref b4_0), .unset, .unset, .unset] [(.int (2 : Int32)), (.int p0), (.int z77), (.ref b5), (.ref b5)])) (fun _ k_ => XS.iconst X5.here hx rfl (hb hby at_89) k_) ?_
        refine own_k (T' := T5) (g' := (mkF m 91 #[.val (.int p0), .val (.int p1), .val (.int p2), .val (.int p3), .val (.int p4), .val (.int p5), .val (.int (0 : Int32)), .val (.int (0 : Int32)), .val .null, .val (.ref b3_0), .val (.ref b4_0), .unset, .unset, .unset] [(.int (p0 &&& (2 : Int32))), (.int z77), (.ref b5), (.ref b5)])) (fun _ k_ => XS.iand X5.here hx rfl (hb hby at_90) rfl k_) ?_
        by_cases hc9 : (p0 &&& (2 : Int32)) = (0 : Int32)
        · refine own_k (T' := T5) (g' := (mkF m 98 #[.val (.int p0), .val (.int p1), .val (.int p2), .val (.int p3), .val (.int p4), .val (.int p5), .val (.int (0 : Int32)), .val (.int (0 : Int32)), .val .null, .val (.ref b3_0), .val (.ref b4_0), .unset, .unset, .unset] [(.int z77), (.ref b5), (.ref b5)])) (fun _ k_ => XS.ifYes X5.here hx rfl (pc0 := 91) (pc' := 98) rfl (hb hby at_91) rfl ((if0 _ _).trans (teq hc9).1) (by decide) (by decide) k_) ?_
          refine own_k (T' := T5) (g' := (mkF m 99 #[.val (.int p0), .val (.int p1), .val (.int p2), .val (.int p3), .val (.int p4), .val (.int p5), .val (.int (0 : Int32)), .val (.int (0 : Int32)), .val .null, .val (.ref b3_0), .val (.ref b4_0), .unset, .unset, .unset] [(.int (0 : Int32)), (.int z77), (.ref b5), (.ref b5)])) (fun _ k_ => XS.iconst X5.here hx rfl (hb hby at_98) k_) ?_
          exact hj8 _
        · refine own_k (T' := T5) (g' := (mkF m 94 #[.val (.int p0), .val (.int p1), .val (.int p2), .val (.int p3), .val (.int p4), .val (.int p5), .val (.int (0 : Int32)), .val (.int (0 : Int32)), .val .null, .val (.ref b3_0), .val (.ref b4_0), .unset, .unset, .unset] [(.int z77), (.ref b5), (.ref b5)])) (fun _ k_ => XS.ifNo X5.here hx rfl (hb hby at_91) rfl ((if0 _ _).trans (feq hc9).1) k_) ?_
          refine own_k (T' := T5) (g' := (mkF m 95 #[.val (.int p0), .val (.int p1), .val (.int p2), .val (.int p3), .val (.int p4), .val (.int p5), .val (.int (0 : Int32)), .val (.int (0 : Int32)), .val .null, .val (.ref b3_0), .val (.ref b4_0), .unset, .unset, .unset] [(.int (1 : Int32)), (.int z77), (.ref b5), (.ref b5)])) (fun _ k_ => XS.iconst X5.here hx rfl (hb hby at_94) k_) ?_
          refine own_k (T' := T5) (g' := (mkF m 99 #[.val (.int p0), .val (.int p1), .val (.int p2), .val (.int p3), .val (.int p4), .val (.int p5), .val (.int (0 : Int32)), .val (.int (0 : Int32)), .val .null, .val (.ref b3_0), .val (.ref b4_0), .unset, .unset, .unset] [(.int (1 : Int32)), (.int z77), (.ref b5), (.ref b5)])) (fun _ k_ => XS.goto X5.here hx rfl (pc0 := 95) (pc' := 99) rfl (hb hby at_95) (by decide) (by decide) k_) ?_
          exact hj8 _
      intro z88
      suffices hj10 : ∀ z99 : Int32, own_Go p e below Φ T5 (mkF m 110 #[.val (.int p0), .val (.int p1), .val (.int p2), .val (.int p3), .val (.int p4), .val (.int p5), .val (.int (0 : Int32)), .val (.int (0 : Int32)), .val .null, .val (.ref b3_0), .val (.ref b4_0), .unset, .unset, .unset] [(.int z99), (.int z88), (.int z77), (.ref b5), (.ref b5)]) by
        refine own_k (T' := T5) (g' := (mkF m 100 #[.val (.int p0), .val (.int p1), .val (.int p2), .val (.int p3), .val (.int p4), .val (.int p5), .val (.int (0 : Int32)), .val (.int (0 : Int32)), .val .null, .val (.ref b3_0), .val (.ref b4_0), .unset, .unset, .unset] [(.int p0), (.int z88), (.int z77), (.ref b5), (.ref b5)])) (fun _ k_ => XS.iloadN X5.here hx rfl (hb hby at_99) rfl  k_) ?_
        refine own_k (T' := T5) (g' := (mkF m 101 #[.val (.int p0), .val (.int p1), .val (.int p2), .val (.int p3), .val (.int p4), .val (.int p5), .val (.int (0 : Int32)), .val (.int (0 : Int32)), .val .null, .val (.ref b3_0), .val (.ref b4_0), .unset, .unset, .unset] [(.int (4 : Int32)), (.int p0), (.int z88), (.int z77), (.ref b5), (.ref b5)])) (fun _ k_ => XS.iconst X5.here hx rfl (hb hby at_100) k_) ?_
        refine own_k (T' := T5) (g' := (mkF m 102 #[.val (.int p0), .val (.int p1), .val (.int p2), .val (.int p3), .val (.int p4), .val (.int p5), .val (.int (0 : Int32)), .val (.int (0 : Int32)), .val .null, .val (.ref b3_0), .val (.ref b4_0), .unset, .unset, .unset] [(.int (p0 &&& (4 : Int32))), (.int z88), (.int z77), (.ref b5), (.ref b5)])) (fun _ k_ => XS.iand X5.here hx rfl (hb hby at_101) rfl k_) ?_
        by_cases hc11 : (p0 &&& (4 : Int32)) = (0 : Int32)
        · refine own_k (T' := T5) (g' := (mkF m 109 #[.val (.int p0), .val (.int p1), .val (.int p2), .val (.int p3), .val (.int p4), .val (.int p5), .val (.int (0 : Int32)), .val (.int (0 : Int32)), .val .null, .val (.ref b3_0), .val (.ref b4_0), .unset, .unset, .unset] [(.int z88), (.int z77), (.ref b5), (.ref b5)])) (fun _ k_ => XS.ifYes X5.here hx rfl (pc0 := 102) (pc' := 109) rfl (hb hby at_102) rfl ((if0 _ _).trans (teq hc11).1) (by decide) (by decide) k_) ?_
          refine own_k (T' := T5) (g' := (mkF m 110 #[.val (.int p0), .val (.int p1), .val (.int p2), .val (.int p3), .val (.int p4), .val (.int p5), .val (.int (0 : Int32)), .val (.int (0 : Int32)), .val .null, .val (.ref b3_0), .val (.ref b4_0), .unset, .unset, .unset] [(.int (0 : Int32)), (.int z88), (.int z77), (.ref b5), (.ref b5)])) (fun _ k_ => XS.iconst X5.here hx rfl (hb hby at_109) k_) ?_
          exact hj10 _
        · refine own_k (T' := T5) (g' := (mkF m 105 #[.val (.int p0), .val (.int p1), .val (.int p2), .val (.int p3), .val (.int p4), .val (.int p5), .val (.int (0 : Int32)), .val (.int (0 : Int32)), .val .null, .val (.ref b3_0), .val (.ref b4_0), .unset, .unset, .unset] [(.int z88), (.int z77), (.ref b5), (.ref b5)])) (fun _ k_ => XS.ifNo X5.here hx rfl (hb hby at_102) rfl ((if0 _ _).trans (feq hc11).1) k_) ?_
          refine own_k (T' := T5) (g' := (mkF m 106 #[.val (.int p0), .val (.int p1), .val (.int p2), .val (.int p3), .val (.int p4), .val (.int p5), .val (.int (0 : Int32)), .val (.int (0 : Int32)), .val .null, .val (.ref b3_0), .val (.ref b4_0), .unset, .unset, .unset] [(.int (1 : Int32)), (.int z88), (.int z77), (.ref b5), (.ref b5)])) (fun _ k_ => XS.iconst X5.here hx rfl (hb hby at_105) k_) ?_
          refine own_k (T' := T5) (g' := (mkF m 110 #[.val (.int p0), .val (.int p1), .val (.int p2), .val (.int p3), .val (.int p4), .val (.int p5), .val (.int (0 : Int32)), .val (.int (0 : Int32)), .val .null, .val (.ref b3_0), .val (.ref b4_0), .unset, .unset, .unset] [(.int (1 : Int32)), (.int z88), (.int z77), (.ref b5), (.ref b5)])) (fun _ k_ => XS.goto X5.here hx rfl (pc0 := 106) (pc' := 110) rfl (hb hby at_106) (by decide) (by decide) k_) ?_
          exact hj10 _
      intro z99
      suffices hj12 : ∀ z110 : Int32, own_Go p e below Φ T5 (mkF m 122 #[.val (.int p0), .val (.int p1), .val (.int p2), .val (.int p3), .val (.int p4), .val (.int p5), .val (.int (0 : Int32)), .val (.int (0 : Int32)), .val .null, .val (.ref b3_0), .val (.ref b4_0), .unset, .unset, .unset] [(.int z110), (.int z99), (.int z88), (.int z77), (.ref b5), (.ref b5)]) by
        refine own_k (T' := T5) (g' := (mkF m 111 #[.val (.int p0), .val (.int p1), .val (.int p2), .val (.int p3), .val (.int p4), .val (.int p5), .val (.int (0 : Int32)), .val (.int (0 : Int32)), .val .null, .val (.ref b3_0), .val (.ref b4_0), .unset, .unset, .unset] [(.int p0), (.int z99), (.int z88), (.int z77), (.ref b5), (.ref b5)])) (fun _ k_ => XS.iloadN X5.here hx rfl (hb hby at_110) rfl  k_) ?_
        refine own_k (T' := T5) (g' := (mkF m 113 #[.val (.int p0), .val (.int p1), .val (.int p2), .val (.int p3), .val (.int p4), .val (.int p5), .val (.int (0 : Int32)), .val (.int (0 : Int32)), .val .null, .val (.ref b3_0), .val (.ref b4_0), .unset, .unset, .unset] [(.int (8 : Int32)), (.int p0), (.int z99), (.int z88), (.int z77), (.ref b5), (.ref b5)])) (fun _ k_ => XS.bipush X5.here hx rfl (hb hby at_111) k_) ?_
        refine own_k (T' := T5) (g' := (mkF m 114 #[.val (.int p0), .val (.int p1), .val (.int p2), .val (.int p3), .val (.int p4), .val (.int p5), .val (.int (0 : Int32)), .val (.int (0 : Int32)), .val .null, .val (.ref b3_0), .val (.ref b4_0), .unset, .unset, .unset] [(.int (p0 &&& (8 : Int32))), (.int z99), (.int z88), (.int z77), (.ref b5), (.ref b5)])) (fun _ k_ => XS.iand X5.here hx rfl (hb hby at_113) rfl k_) ?_
        by_cases hc13 : (p0 &&& (8 : Int32)) = (0 : Int32)
        · refine own_k (T' := T5) (g' := (mkF m 121 #[.val (.int p0), .val (.int p1), .val (.int p2), .val (.int p3), .val (.int p4), .val (.int p5), .val (.int (0 : Int32)), .val (.int (0 : Int32)), .val .null, .val (.ref b3_0), .val (.ref b4_0), .unset, .unset, .unset] [(.int z99), (.int z88), (.int z77), (.ref b5), (.ref b5)])) (fun _ k_ => XS.ifYes X5.here hx rfl (pc0 := 114) (pc' := 121) rfl (hb hby at_114) rfl ((if0 _ _).trans (teq hc13).1) (by decide) (by decide) k_) ?_
          refine own_k (T' := T5) (g' := (mkF m 122 #[.val (.int p0), .val (.int p1), .val (.int p2), .val (.int p3), .val (.int p4), .val (.int p5), .val (.int (0 : Int32)), .val (.int (0 : Int32)), .val .null, .val (.ref b3_0), .val (.ref b4_0), .unset, .unset, .unset] [(.int (0 : Int32)), (.int z99), (.int z88), (.int z77), (.ref b5), (.ref b5)])) (fun _ k_ => XS.iconst X5.here hx rfl (hb hby at_121) k_) ?_
          exact hj12 _
        · refine own_k (T' := T5) (g' := (mkF m 117 #[.val (.int p0), .val (.int p1), .val (.int p2), .val (.int p3), .val (.int p4), .val (.int p5), .val (.int (0 : Int32)), .val (.int (0 : Int32)), .val .null, .val (.ref b3_0), .val (.ref b4_0), .unset, .unset, .unset] [(.int z99), (.int z88), (.int z77), (.ref b5), (.ref b5)])) (fun _ k_ => XS.ifNo X5.here hx rfl (hb hby at_114) rfl ((if0 _ _).trans (feq hc13).1) k_) ?_
          refine own_k (T' := T5) (g' := (mkF m 118 #[.val (.int p0), .val (.int p1), .val (.int p2), .val (.int p3), .val (.int p4), .val (.int p5), .val (.int (0 : Int32)), .val (.int (0 : Int32)), .val .null, .val (.ref b3_0), .val (.ref b4_0), .unset, .unset, .unset] [(.int (1 : Int32)), (.int z99), (.int z88), (.int z77), (.ref b5), (.ref b5)])) (fun _ k_ => XS.iconst X5.here hx rfl (hb hby at_117) k_) ?_
          refine own_k (T' := T5) (g' := (mkF m 122 #[.val (.int p0), .val (.int p1), .val (.int p2), .val (.int p3), .val (.int p4), .val (.int p5), .val (.int (0 : Int32)), .val (.int (0 : Int32)), .val .null, .val (.ref b3_0), .val (.ref b4_0), .unset, .unset, .unset] [(.int (1 : Int32)), (.int z99), (.int z88), (.int z77), (.ref b5), (.ref b5)])) (fun _ k_ => XS.goto X5.here hx rfl (pc0 := 118) (pc' := 122) rfl (hb hby at_118) (by decide) (by decide) k_) ?_
          exact hj12 _
      intro z110
      refine own_k (T' := T5) (g' := (mkF m 124 #[.val (.int p0), .val (.int p1), .val (.int p2), .val (.int p3), .val (.int p4), .val (.int p5), .val (.int (0 : Int32)), .val (.int (0 : Int32)), .val .null, .val (.ref b3_0), .val (.ref b4_0), .unset, .unset, .unset] [.null, (.int z110), (.int z99), (.int z88), (.int z77), (.ref b5), (.ref b5)])) (fun _ k_ => XS.aload X5.here hx rfl (hb hby at_122) rfl rfl  k_) ?_
      refine own_callN X5 hx hZ (y := (⟨"com/example/nepean/nepean/mapping/ColumnSettings", "<init>", "(ZZZZLjava/lang/String;)V"⟩ : MethodName)) rfl hown (hw _ (List.mem_of_getElem? (i := 37) rfl)) (hw _ (List.mem_of_getElem? (i := 38) rfl)) (hw _ (List.mem_of_getElem? (i := 39) rfl)) (hw _ (List.mem_of_getElem? (i := 36) rfl)) (by decide) (al := [(.int z77), (.int z88), (.int z99), (.int z110), .null]) (b := b5) (rm_init_7 l Z a0 g_COMPACT_STRINGS g_SIOOBE_FORMATTER hW b5 z77 z88 z99 z110 h5 O5' F5_nullable A5 (Nat.le_trans O4'.2.1 (Nat.le_of_eq g5.symm)) F5_unique F5_insertable F5_updatable F5_definition) 1 (by decide) (by decide) e5 (by decide) (by decide) (by rw [hml]; rfl) (lenOf pd__28ZZZZLjava_2flang_2fString_3b_29V rfl) rfl (rest := [(.ref b5)]) (by show 2 * 0 + _ ≤ _; exact Nat.le_of_eq rfl) (hb hby at_124) ?_
      intro v14 T14 L14 X14 hQ14
      obtain ⟨rfl, Nq14, K14, q14_0, q14_1, q14_2, q14_3, q14_4, q14_5⟩ := hQ14
      have N14 := Fr.app N4 Nq14
      have O14' := O5'.keep K14 (allS (Nat.le_trans O4'.2.1 (Nat.le_of_eq g5.symm)) all0)
      show own_Go p e below Φ T14 (mkF m 127 #[.val (.int p0), .val (.int p1), .val (.int p2), .val (.int p3), .val (.int p4), .val (.int p5), .val (.int (0 : Int32)), .val (.int (0 : Int32)), .val .null, .val (.ref b3_0), .val (.ref b4_0), .unset, .unset, .unset] [(.ref b5)])
      refine own_k (T' := T14) (g' := (mkF m 129 #[.val (.int p0), .val (.int p1), .val (.int p2), .val (.int p3), .val (.int p4), .val (.int p5), .val (.int (0 : Int32)), .val (.int (0 : Int32)), .val .null, .val (.ref b3_0), .val (.ref b4_0), .val (.ref b5), .unset, .unset] [])) (fun _ k_ => XS.astore X14.here hx rfl (hb hby at_127) rfl rfl (l' := #[.val (.int p0), .val (.int p1), .val (.int p2), .val (.int p3), .val (.int p4), .val (.int p5), .val (.int (0 : Int32)), .val (.int (0 : Int32)), .val .null, .val (.ref b3_0), .val (.ref b4_0), .val (.ref b5), .unset, .unset]) rfl k_) ?_
      refine own_k (T' := T14) (g' := (mkF m 131 #[.val (.int p0), .val (.int p1), .val (.int p2), .val (.int p3), .val (.int p4), .val (.int p5), .val (.int (0 : Int32)), .val (.int (0 : Int32)), .val .null, .val (.ref b3_0), .val (.ref b4_0), .val (.ref b5), .unset, .unset] [(.ref b5)])) (fun _ k_ => XS.aload X14.here hx rfl (hb hby at_129) rfl rfl  k_) ?_
      refine own_k (T' := T14) (g' := (mkF m 133 #[.val (.int p0), .val (.int p1), .val (.int p2), .val (.int p3), .val (.int p4), .val (.int p5), .val (.int (0 : Int32)), .val (.int (0 : Int32)), .val .null, .val (.ref b3_0), .val (.ref b4_0), .val (.ref b5), .unset, .unset] [(.ref b3_0), (.ref b5)])) (fun _ k_ => XS.aload X14.here hx rfl (hb hby at_131) rfl rfl  k_) ?_
      refine own_callV X14 hx hZ (C := "com/example/nepean/nepean/mapping/ColumnSettings") (y := (⟨"com/example/nepean/nepean/mapping/ColumnSettings", "sqlType", "(Ljava/lang/String;)Ljava/lang/String;"⟩ : MethodName)) (z := (⟨"com/example/nepean/nepean/mapping/ColumnSettings", "sqlType", "(Ljava/lang/String;)Ljava/lang/String;"⟩ : MethodName)) hown (hw _ (List.mem_of_getElem? (i := 56) rfl)) (hw _ (List.mem_of_getElem? (i := 57) rfl)) (notFace_of_selects (args := #[]) (mvT hZ (hw _ (List.mem_of_getElem? (i := 59) rfl)))) (hw _ (List.mem_of_getElem? (i := 59) rfl)) (hw _ (List.mem_of_getElem? (i := 58) rfl)) (hw _ (List.mem_of_getElem? (i := 60) rfl)) (hw _ (List.mem_of_getElem? (i := 36) rfl)) (by decide) (al := [(.ref b3_0)]) q14_0 (rm_sqlType_8 l Z a0 g_COMPACT_STRINGS g_SIOOBE_FORMATTER hW b5 b3_0 T14.heap O14' q14_5) 0 (by decide) (by decide) rfl (by decide) (by decide) (by rw [hml]; rfl) (lenOf pd__28Ljava_2flang_2fString_3b_29Ljava_2flang_2fString_3b rfl) rfl (rest := []) (by show 2 * 0 + _ ≤ _; exact Nat.le_of_eq rfl) (hb hby at_133) ?_
      intro v15 T15 L15 X15 hQ15
      obtain ⟨rfl, Nq15, e15⟩ := hQ15
      have N15 := Fr.app N14 Nq15
      show own_Go p e below Φ T15 (mkF m 136 #[.val (.int p0), .val (.int p1), .val (.int p2), .val (.int p3), .val (.int p4), .val (.int p5), .val (.int (0 : Int32)), .val (.int (0 : Int32)), .val .null, .val (.ref b3_0), .val (.ref b4_0), .val (.ref b5), .unset, .unset] [(.ref b3_0)])
      refine own_k (T' := T15) (g' := (mkF m 138 #[.val (.int p0), .val (.int p1), .val (.int p2), .val (.int p3), .val (.int p4), .val (.int p5), .val (.int (0 : Int32)), .val (.int (0 : Int32)), .val .null, .val (.ref b3_0), .val (.ref b4_0), .val (.ref b5), .val (.ref b3_0), .unset] [])) (fun _ k_ => XS.astore X15.here hx rfl (hb hby at_136) rfl rfl (l' := #[.val (.int p0), .val (.int p1), .val (.int p2), .val (.int p3), .val (.int p4), .val (.int p5), .val (.int (0 : Int32)), .val (.int (0 : Int32)), .val .null, .val (.ref b3_0), .val (.ref b4_0), .val (.ref b5), .val (.ref b3_0), .unset]) rfl k_) ?_
      refine own_k (T' := T15) (g' := (mkF m 140 #[.val (.int p0), .val (.int p1), .val (.int p2), .val (.int p3), .val (.int p4), .val (.int p5), .val (.int (0 : Int32)), .val (.int (0 : Int32)), .val .null, .val (.ref b3_0), .val (.ref b4_0), .val (.ref b5), .val (.ref b3_0), .unset] [(.ref b5)])) (fun _ k_ => XS.aload X15.here hx rfl (hb hby at_138) rfl rfl  k_) ?_
      refine own_k (T' := T15) (g' := (mkF m 142 #[.val (.int p0), .val (.int p1), .val (.int p2), .val (.int p3), .val (.int p4), .val (.int p5), .val (.int (0 : Int32)), .val (.int (0 : Int32)), .val .null, .val (.ref b3_0), .val (.ref b4_0), .val (.ref b5), .val (.ref b3_0), .unset] [(.ref b4_0), (.ref b5)])) (fun _ k_ => XS.aload X15.here hx rfl (hb hby at_140) rfl rfl  k_) ?_
      refine own_callV X15 hx hZ (C := "com/example/nepean/nepean/mapping/ColumnSettings") (y := (⟨"com/example/nepean/nepean/mapping/ColumnSettings", "sqlType", "(Ljava/lang/String;)Ljava/lang/String;"⟩ : MethodName)) (z := (⟨"com/example/nepean/nepean/mapping/ColumnSettings", "sqlType", "(Ljava/lang/String;)Ljava/lang/String;"⟩ : MethodName)) hown (hw _ (List.mem_of_getElem? (i := 56) rfl)) (hw _ (List.mem_of_getElem? (i := 57) rfl)) (notFace_of_selects (args := #[]) (mvT hZ (hw _ (List.mem_of_getElem? (i := 59) rfl)))) (hw _ (List.mem_of_getElem? (i := 59) rfl)) (hw _ (List.mem_of_getElem? (i := 58) rfl)) (hw _ (List.mem_of_getElem? (i := 60) rfl)) (hw _ (List.mem_of_getElem? (i := 36) rfl)) (by decide) (al := [(.ref b4_0)]) q14_0 (rm_sqlType_8 l Z a0 g_COMPACT_STRINGS g_SIOOBE_FORMATTER hW b5 b4_0 T14.heap O14' q14_5) 0 (by decide) (by decide) e15 (by decide) (by decide) (by rw [hml]; rfl) (lenOf pd__28Ljava_2flang_2fString_3b_29Ljava_2flang_2fString_3b rfl) rfl (rest := []) (by show 2 * 0 + _ ≤ _; exact Nat.le_of_eq rfl) (hb hby at_142) ?_
      intro v16 T16 L16 X16 hQ16
      obtain ⟨rfl, Nq16, e16⟩ := hQ16
      have N16 := Fr.app N15 Nq16
      show own_Go p e below Φ T16 (mkF m 145 #[.val (.int p0), .val (.int p1), .val (.int p2), .val (.int p3), .val (.int p4), .val (.int p5), .val (.int (0 : Int32)), .val (.int (0 : Int32)), .val .null, .val (.ref b3_0), .val (.ref b4_0), .val (.ref b5), .val (.ref b3_0), .unset] [(.ref b4_0)])
      refine own_k (T' := T16) (g' := (mkF m 147 #[.val (.int p0), .val (.int p1), .val (.int p2), .val (.int p3), .val (.int p4), .val (.int p5), .val (.int (0 : Int32)), .val (.int (0 : Int32)), .val .null, .val (.ref b3_0), .val (.ref b4_0), .val (.ref b5), .val (.ref b3_0), .val (.ref b4_0)] [])) (fun _ k_ => XS.astore X16.here hx rfl (hb hby at_145) rfl rfl (l' := #[.val (.int p0), .val (.int p1), .val (.int p2), .val (.int p3), .val (.int p4), .val (.int p5), .val (.int (0 : Int32)), .val (.int (0 : Int32)), .val .null, .val (.ref b3_0), .val (.ref b4_0), .val (.ref b5), .val (.ref b3_0), .val (.ref b4_0)]) rfl k_) ?_
      refine own_k (T' := T16) (g' := (mkF m 149 #[.val (.int p0), .val (.int p1), .val (.int p2), .val (.int p3), .val (.int p4), .val (.int p5), .val (.int (0 : Int32)), .val (.int (0 : Int32)), .val .null, .val (.ref b3_0), .val (.ref b4_0), .val (.ref b5), .val (.ref b3_0), .val (.ref b4_0)] [(.int (0 : Int32))])) (fun _ k_ => XS.iload X16.here hx rfl (hb hby at_147) rfl  k_) ?_
      refine own_k (T' := T16) (g' := (mkF m 178 #[.val (.int p0), .val (.int p1), .val (.int p2), .val (.int p3), .val (.int p4), .val (.int p5), .val (.int (0 : Int32)), .val (.int (0 : Int32)), .val .null, .val (.ref b3_0), .val (.ref b4_0), .val (.ref b5), .val (.ref b3_0), .val (.ref b4_0)] [])) (fun _ k_ => XS.ifYes X16.here hx rfl (pc0 := 149) (pc' := 178) rfl (hb hby at_149) rfl ((if0 _ _).trans (teq (by decide : ((0 : Int32) = (0 : Int32)))).1) (by decide) (by decide) k_) ?_
      refine own_k (T' := T16) (g' := (mkF m 180 #[.val (.int p0), .val (.int p1), .val (.int p2), .val (.int p3), .val (.int p4), .val (.int p5), .val (.int (0 : Int32)), .val (.int (0 : Int32)), .val .null, .val (.ref b3_0), .val (.ref b4_0), .val (.ref b5), .val (.ref b3_0), .val (.ref b4_0)] [(.ref b3_0)])) (fun _ k_ => XS.aload X16.here hx rfl (hb hby at_178) rfl rfl  k_) ?_
      refine own_k (T' := T16) (g' := (mkF m 182 #[.val (.int p0), .val (.int p1), .val (.int p2), .val (.int p3), .val (.int p4), .val (.int p5), .val (.int (0 : Int32)), .val (.int (0 : Int32)), .val .null, .val (.ref b3_0), .val (.ref b4_0), .val (.ref b5), .val (.ref b3_0), .val (.ref b4_0)] [(.ref b3_0), (.ref b3_0)])) (fun _ k_ => XS.aload X16.here hx rfl (hb hby at_180) rfl rfl  k_) ?_
      refine own_callS X16 hx hZ (y := (⟨"com/example/nepean/nepean/mapping/ColumnSettingsSqlTypePinLaw", "same", "(Ljava/lang/String;Ljava/lang/String;)Z"⟩ : MethodName)) hown (hw _ (List.mem_of_getElem? (i := 61) rfl)) (hw _ (List.mem_of_getElem? (i := 62) rfl)) (hw _ (List.mem_of_getElem? (i := 2) rfl)) (hw _ (List.mem_of_getElem? (i := 63) rfl)) (by decide) (al := [(.ref b3_0), (.ref b3_0)]) (rm_same_10 l Z a0 g_COMPACT_STRINGS g_SIOOBE_FORMATTER hW b3_0 T14.heap O14' (((q3_0.keep K4).ext E5).keep K14)) 0 (by decide) (by decide) e16 (by decide) (by decide) (by rw [hml]; rfl) (lenOf pd__28Ljava_2flang_2fString_3bLjava_2flang_2fString_3b_29Z rfl) rfl (rest := []) (by show 2 * 0 + _ ≤ _; exact Nat.le_of_eq rfl) (hb hby at_182) ?_
      intro v17 T17 L17 X17 hQ17
      obtain ⟨rfl, Nq17, e17⟩ := hQ17
      have N17 := Fr.app N16 Nq17
      show own_Go p e below Φ T17 (mkF m 185 #[.val (.int p0), .val (.int p1), .val (.int p2), .val (.int p3), .val (.int p4), .val (.int p5), .val (.int (0 : Int32)), .val (.int (0 : Int32)), .val .null, .val (.ref b3_0), .val (.ref b4_0), .val (.ref b5), .val (.ref b3_0), .val (.ref b4_0)] [(.int (1 : Int32))])
      refine own_k (T' := T17) (g' := (mkF m 188 #[.val (.int p0), .val (.int p1), .val (.int p2), .val (.int p3), .val (.int p4), .val (.int p5), .val (.int (0 : Int32)), .val (.int (0 : Int32)), .val .null, .val (.ref b3_0), .val (.ref b4_0), .val (.ref b5), .val (.ref b3_0), .val (.ref b4_0)] [])) (fun _ k_ => XS.ifNo X17.here hx rfl (hb hby at_185) rfl ((if0 _ _).trans (feq (by decide : ¬ ((1 : Int32) = (0 : Int32)))).1) k_) ?_
      refine own_k (T' := T17) (g' := (mkF m 190 #[.val (.int p0), .val (.int p1), .val (.int p2), .val (.int p3), .val (.int p4), .val (.int p5), .val (.int (0 : Int32)), .val (.int (0 : Int32)), .val .null, .val (.ref b3_0), .val (.ref b4_0), .val (.ref b5), .val (.ref b3_0), .val (.ref b4_0)] [(.ref b4_0)])) (fun _ k_ => XS.aload X17.here hx rfl (hb hby at_188) rfl rfl  k_) ?_
      refine own_k (T' := T17) (g' := (mkF m 192 #[.val (.int p0), .val (.int p1), .val (.int p2), .val (.int p3), .val (.int p4), .val (.int p5), .val (.int (0 : Int32)), .val (.int (0 : Int32)), .val .null, .val (.ref b3_0), .val (.ref b4_0), .val (.ref b5), .val (.ref b3_0), .val (.ref b4_0)] [(.ref b4_0), (.ref b4_0)])) (fun _ k_ => XS.aload X17.here hx rfl (hb hby at_190) rfl rfl  k_) ?_
      refine own_callS X17 hx hZ (y := (⟨"com/example/nepean/nepean/mapping/ColumnSettingsSqlTypePinLaw", "same", "(Ljava/lang/String;Ljava/lang/String;)Z"⟩ : MethodName)) hown (hw _ (List.mem_of_getElem? (i := 61) rfl)) (hw _ (List.mem_of_getElem? (i := 62) rfl)) (hw _ (List.mem_of_getElem? (i := 2) rfl)) (hw _ (List.mem_of_getElem? (i := 63) rfl)) (by decide) (al := [(.ref b4_0), (.ref b4_0)]) (rm_same_10 l Z a0 g_COMPACT_STRINGS g_SIOOBE_FORMATTER hW b4_0 T14.heap O14' ((q4_0.ext E5).keep K14)) 0 (by decide) (by decide) e17 (by decide) (by decide) (by rw [hml]; rfl) (lenOf pd__28Ljava_2flang_2fString_3bLjava_2flang_2fString_3b_29Z rfl) rfl (rest := []) (by show 2 * 0 + _ ≤ _; exact Nat.le_of_eq rfl) (hb hby at_192) ?_
      intro v18 T18 L18 X18 hQ18
      obtain ⟨rfl, Nq18, e18⟩ := hQ18
      have N18 := Fr.app N17 Nq18
      show own_Go p e below Φ T18 (mkF m 195 #[.val (.int p0), .val (.int p1), .val (.int p2), .val (.int p3), .val (.int p4), .val (.int p5), .val (.int (0 : Int32)), .val (.int (0 : Int32)), .val .null, .val (.ref b3_0), .val (.ref b4_0), .val (.ref b5), .val (.ref b3_0), .val (.ref b4_0)] [(.int (1 : Int32))])
      refine own_k (T' := T18) (g' := (mkF m 198 #[.val (.int p0), .val (.int p1), .val (.int p2), .val (.int p3), .val (.int p4), .val (.int p5), .val (.int (0 : Int32)), .val (.int (0 : Int32)), .val .null, .val (.ref b3_0), .val (.ref b4_0), .val (.ref b5), .val (.ref b3_0), .val (.ref b4_0)] [])) (fun _ k_ => XS.ifNo X18.here hx rfl (hb hby at_195) rfl ((if0 _ _).trans (feq (by decide : ¬ ((1 : Int32) = (0 : Int32)))).1) k_) ?_
      refine own_k (T' := T18) (g' := (mkF m 199 #[.val (.int p0), .val (.int p1), .val (.int p2), .val (.int p3), .val (.int p4), .val (.int p5), .val (.int (0 : Int32)), .val (.int (0 : Int32)), .val .null, .val (.ref b3_0), .val (.ref b4_0), .val (.ref b5), .val (.ref b3_0), .val (.ref b4_0)] [(.int (1 : Int32))])) (fun _ k_ => XS.iconst X18.here hx rfl (hb hby at_198) k_) ?_
      refine own_k (T' := T18) (g' := (mkF m 203 #[.val (.int p0), .val (.int p1), .val (.int p2), .val (.int p3), .val (.int p4), .val (.int p5), .val (.int (0 : Int32)), .val (.int (0 : Int32)), .val .null, .val (.ref b3_0), .val (.ref b4_0), .val (.ref b5), .val (.ref b3_0), .val (.ref b4_0)] [(.int (1 : Int32))])) (fun _ k_ => XS.goto X18.here hx rfl (pc0 := 199) (pc' := 203) rfl (hb hby at_199) (by decide) (by decide) k_) ?_
      exact own_retN X18 hx (t := .boolean) hret (by simp) hlk (hb hby at_203) hF (⟨by rw [show nar .boolean (1 : Int32) = (1 : Int32) from by decide], N18, trivial⟩) (by decide) (by decide)
    · refine own_k (T' := s₁) (g' := (mkF m 21 #[.val (.int p0), .val (.int p1), .val (.int p2), .val (.int p3), .val (.int p4), .val (.int p5), .val (.int (0 : Int32)), .unset, .unset, .unset, .unset, .unset, .unset, .unset] [])) (fun _ k_ => XS.ifNo X0.here hx rfl (hb hby at_18) rfl ((if0 _ _).trans (feq hc2).1) k_) ?_
      refine own_k (T' := s₁) (g' := (mkF m 22 #[.val (.int p0), .val (.int p1), .val (.int p2), .val (.int p3), .val (.int p4), .val (.int p5), .val (.int (0 : Int32)), .unset, .unset, .unset, .unset, .unset, .unset, .unset] [(.int (1 : Int32))])) (fun _ k_ => XS.iconst X0.here hx rfl (hb hby at_21) k_) ?_
      refine own_k (T' := s₁) (g' := (mkF m 26 #[.val (.int p0), .val (.int p1), .val (.int p2), .val (.int p3), .val (.int p4), .val (.int p5), .val (.int (0 : Int32)), .unset, .unset, .unset, .unset, .unset, .unset, .unset] [(.int (1 : Int32))])) (fun _ k_ => XS.goto X0.here hx rfl (pc0 := 22) (pc' := 26) rfl (hb hby at_22) (by decide) (by decide) k_) ?_
      refine own_k (T' := s₁) (g' := (mkF m 28 #[.val (.int p0), .val (.int p1), .val (.int p2), .val (.int p3), .val (.int p4), .val (.int p5), .val (.int (0 : Int32)), .val (.int (1 : Int32)), .unset, .unset, .unset, .unset, .unset, .unset] [])) (fun _ k_ => XS.istore X0.here hx rfl (hb hby at_26) rfl (l' := #[.val (.int p0), .val (.int p1), .val (.int p2), .val (.int p3), .val (.int p4), .val (.int p5), .val (.int (0 : Int32)), .val (.int (1 : Int32)), .unset, .unset, .unset, .unset, .unset, .unset]) rfl k_) ?_
      refine own_k (T' := s₁) (g' := (mkF m 30 #[.val (.int p0), .val (.int p1), .val (.int p2), .val (.int p3), .val (.int p4), .val (.int p5), .val (.int (0 : Int32)), .val (.int (1 : Int32)), .unset, .unset, .unset, .unset, .unset, .unset] [(.int (0 : Int32))])) (fun _ k_ => XS.iload X0.here hx rfl (hb hby at_28) rfl  k_) ?_
      refine own_k (T' := s₁) (g' := (mkF m 46 #[.val (.int p0), .val (.int p1), .val (.int p2), .val (.int p3), .val (.int p4), .val (.int p5), .val (.int (0 : Int32)), .val (.int (1 : Int32)), .unset, .unset, .unset, .unset, .unset, .unset] [])) (fun _ k_ => XS.ifYes X0.here hx rfl (pc0 := 30) (pc' := 46) rfl (hb hby at_30) rfl ((if0 _ _).trans (teq (by decide : ((0 : Int32) = (0 : Int32)))).1) (by decide) (by decide) k_) ?_
      refine own_k (T' := s₁) (g' := (mkF m 47 #[.val (.int p0), .val (.int p1), .val (.int p2), .val (.int p3), .val (.int p4), .val (.int p5), .val (.int (0 : Int32)), .val (.int (1 : Int32)), .unset, .unset, .unset, .unset, .unset, .unset] [.null])) (fun _ k_ => XS.aconstNull X0.here hx rfl (hb hby at_46) k_) ?_
      refine own_k (T' := s₁) (g' := (mkF m 49 #[.val (.int p0), .val (.int p1), .val (.int p2), .val (.int p3), .val (.int p4), .val (.int p5), .val (.int (0 : Int32)), .val (.int (1 : Int32)), .val .null, .unset, .unset, .unset, .unset, .unset] [])) (fun _ k_ => XS.astore X0.here hx rfl (hb hby at_47) rfl rfl (l' := #[.val (.int p0), .val (.int p1), .val (.int p2), .val (.int p3), .val (.int p4), .val (.int p5), .val (.int (0 : Int32)), .val (.int (1 : Int32)), .val .null, .unset, .unset, .unset, .unset, .unset]) rfl k_) ?_
      refine own_k (T' := s₁) (g' := (mkF m 51 #[.val (.int p0), .val (.int p1), .val (.int p2), .val (.int p3), .val (.int p4), .val (.int p5), .val (.int (0 : Int32)), .val (.int (1 : Int32)), .val .null, .unset, .unset, .unset, .unset, .unset] [(.int (1 : Int32))])) (fun _ k_ => XS.iload X0.here hx rfl (hb hby at_49) rfl  k_) ?_
      refine own_k (T' := s₁) (g' := (mkF m 54 #[.val (.int p0), .val (.int p1), .val (.int p2), .val (.int p3), .val (.int p4), .val (.int p5), .val (.int (0 : Int32)), .val (.int (1 : Int32)), .val .null, .unset, .unset, .unset, .unset, .unset] [])) (fun _ k_ => XS.ifNo X0.here hx rfl (hb hby at_51) rfl ((if0 _ _).trans (feq (by decide : ¬ ((1 : Int32) = (0 : Int32)))).1) k_) ?_
      refine own_k (T' := s₁) (g' := (mkF m 55 #[.val (.int p0), .val (.int p1), .val (.int p2), .val (.int p3), .val (.int p4), .val (.int p5), .val (.int (0 : Int32)), .val (.int (1 : Int32)), .val .null, .unset, .unset, .unset, .unset, .unset] [.null])) (fun _ k_ => XS.aconstNull X0.here hx rfl (hb hby at_54) k_) ?_
      refine own_k (T' := s₁) (g' := (mkF m 63 #[.val (.int p0), .val (.int p1), .val (.int p2), .val (.int p3), .val (.int p4), .val (.int p5), .val (.int (0 : Int32)), .val (.int (1 : Int32)), .val .null, .unset, .unset, .unset, .unset, .unset] [.null])) (fun _ k_ => XS.goto X0.here hx rfl (pc0 := 55) (pc' := 63) rfl (hb hby at_55) (by decide) (by decide) k_) ?_
      refine own_k (T' := s₁) (g' := (mkF m 65 #[.val (.int p0), .val (.int p1), .val (.int p2), .val (.int p3), .val (.int p4), .val (.int p5), .val (.int (0 : Int32)), .val (.int (1 : Int32)), .val .null, .val .null, .unset, .unset, .unset, .unset] [])) (fun _ k_ => XS.astore X0.here hx rfl (hb hby at_63) rfl rfl (l' := #[.val (.int p0), .val (.int p1), .val (.int p2), .val (.int p3), .val (.int p4), .val (.int p5), .val (.int (0 : Int32)), .val (.int (1 : Int32)), .val .null, .val .null, .unset, .unset, .unset, .unset]) rfl k_) ?_
      refine own_k (T' := s₁) (g' := (mkF m 66 #[.val (.int p0), .val (.int p1), .val (.int p2), .val (.int p3), .val (.int p4), .val (.int p5), .val (.int (0 : Int32)), .val (.int (1 : Int32)), .val .null, .val .null, .unset, .unset, .unset, .unset] [(.int p3)])) (fun _ k_ => XS.iloadN X0.here hx rfl (hb hby at_65) rfl  k_) ?_
      refine own_k (T' := s₁) (g' := (mkF m 68 #[.val (.int p0), .val (.int p1), .val (.int p2), .val (.int p3), .val (.int p4), .val (.int p5), .val (.int (0 : Int32)), .val (.int (1 : Int32)), .val .null, .val .null, .unset, .unset, .unset, .unset] [(.int p4), (.int p3)])) (fun _ k_ => XS.iload X0.here hx rfl (hb hby at_66) rfl  k_) ?_
      refine own_callS X0 hx hZ (y := (⟨"com/example/nepean/nepean/mapping/ColumnSettingsSqlTypePinLaw", "str", "(II)Ljava/lang/String;"⟩ : MethodName)) hown (hw _ (List.mem_of_getElem? (i := 0) rfl)) (hw _ (List.mem_of_getElem? (i := 1) rfl)) (hw _ (List.mem_of_getElem? (i := 2) rfl)) (hw _ (List.mem_of_getElem? (i := 3) rfl)) (by decide) (al := [(.int p3), (.int p4)]) (rm_str_5 l Z a0 g_COMPACT_STRINGS g_SIOOBE_FORMATTER hW p3 p4 h0 O0 (own_lat p3) (own_lat p4)) 0 (by decide) (by decide) e0 (by decide) (by decide) (by rw [hml]; rfl) (lenOf pd__28II_29Ljava_2flang_2fString_3b rfl) rfl (rest := []) (by show 2 * 0 + _ ≤ _; exact Nat.le_of_eq rfl) (hb hby at_68) ?_
      intro v19 T19 L19 X19 hQ19
      obtain ⟨b19_0, b19_1, k19_2, rfl, Nq19, K19, ge19_0, ge19_1, nn19_0, q19_0, q19_1, q19_2, q19_3, q19_4⟩ := hQ19
      have N19 := Fr.app N0 Nq19
      have O19' := O0.keep K19 all0
      show own_Go p e below Φ T19 (mkF m 71 #[.val (.int p0), .val (.int p1), .val (.int p2), .val (.int p3), .val (.int p4), .val (.int p5), .val (.int (0 : Int32)), .val (.int (1 : Int32)), .val .null, .val .null, .unset, .unset, .unset, .unset] [(.ref b19_0)])
      refine own_k (T' := T19) (g' := (mkF m 73 #[.val (.int p0), .val (.int p1), .val (.int p2), .val (.int p3), .val (.int p4), .val (.int p5), .val (.int (0 : Int32)), .val (.int (1 : Int32)), .val .null, .val .null, .val (.ref b19_0), .unset, .unset, .unset] [])) (fun _ k_ => XS.astore X19.here hx rfl (hb hby at_71) rfl rfl (l' := #[.val (.int p0), .val (.int p1), .val (.int p2), .val (.int p3), .val (.int p4), .val (.int p5), .val (.int (0 : Int32)), .val (.int (1 : Int32)), .val .null, .val .null, .val (.ref b19_0), .unset, .unset, .unset]) rfl k_) ?_
      obtain ⟨T20, h20, X20, e20, E20, A20, D20, -, st20⟩ := newO X19 hx hZ hown (hw _ (List.mem_of_getElem? (i := 34) rfl)) (hw _ (List.mem_of_getElem? (i := 35) rfl)) (hw _ (List.mem_of_getElem? (i := 36) rfl)) rfl (g := (mkF m 73 #[.val (.int p0), .val (.int p1), .val (.int p2), .val (.int p3), .val (.int p4), .val (.int p5), .val (.int (0 : Int32)), .val (.int (1 : Int32)), .val .null, .val .null, .val (.ref b19_0), .unset, .unset, .unset] [])) rfl (hb hby at_73) (by decide) (by decide)
      obtain ⟨b20, g20⟩ : ∃ z, z = T19.heap.size := ⟨_, rfl⟩
      rw [← g20] at A20 D20 st20
      have O20' := O19'.ext E20
      have F20_nullable : Fld Z h20 b20 "com/example/nepean/nepean/mapping/ColumnSettings" "nullable" "Z" (.int (0 : Int32)) := D20 (Or.inr (hw _ (List.mem_of_getElem? (i := 47) rfl))) (ty := .boolean) (by decide)
      have F20_unique : Fld Z h20 b20 "com/example/nepean/nepean/mapping/ColumnSettings" "unique" "Z" (.int (0 : Int32)) := D20 (Or.inr (hw _ (List.mem_of_getElem? (i := 49) rfl))) (ty := .boolean) (by decide)
      have F20_insertable : Fld Z h20 b20 "com/example/nepean/nepean/mapping/ColumnSettings" "insertable" "Z" (.int (0 : Int32)) := D20 (Or.inr (hw _ (List.mem_of_getElem? (i := 51) rfl))) (ty := .boolean) (by decide)
      have F20_updatable : Fld Z h20 b20 "com/example/nepean/nepean/mapping/ColumnSettings" "updatable" "Z" (.int (0 : Int32)) := D20 (Or.inr (hw _ (List.mem_of_getElem? (i := 53) rfl))) (ty := .boolean) (by decide)
      have F20_definition : Fld Z h20 b20 "com/example/nepean/nepean/mapping/ColumnSettings" "definition" "Ljava/lang/String;" .null := D20 (Or.inr (hw _ (List.mem_of_getElem? (i := 55) rfl))) (ty := (.object "java/lang/String")) (by decide)
      refine own_k (T' := T20) (g' := (mkF m 76 #[.val (.int p0), .val (.int p1), .val (.int p2), .val (.int p3), .val (.int p4), .val (.int p5), .val (.int (0 : Int32)), .val (.int (1 : Int32)), .val .null, .val .null, .val (.ref b19_0), .unset, .unset, .unset] [(.ref b20)])) st20 ?_
      refine own_k (T' := T20) (g' := (mkF m 77 #[.val (.int p0), .val (.int p1), .val (.int p2), .val (.int p3), .val (.int p4), .val (.int p5), .val (.int (0 : Int32)), .val (.int (1 : Int32)), .val .null, .val .null, .val (.ref b19_0), .unset, .unset, .unset] [(.ref b20), (.ref b20)])) (fun _ k_ => XS.dup X20.here hx rfl (hb hby at_76) rfl rfl k_) ?_
      suffices hj21 : ∀ z77 : Int32, own_Go p e below Φ T20 (mkF m 88 #[.val (.int p0), .val (.int p1), .val (.int p2), .val (.int p3), .val (.int p4), .val (.int p5), .val (.int (0 : Int32)), .val (.int (1 : Int32)), .val .null, .val .null, .val (.ref b19_0), .unset, .unset, .unset] [(.int z77), (.ref b20), (.ref b20)]) by
        refine own_k (T' := T20) (g' := (mkF m 78 #[.val (.int p0), .val (.int p1), .val (.int p2), .val (.int p3), .val (.int p4), .val (.int p5), .val (.int (0 : Int32)), .val (.int (1 : Int32)), .val .null, .val .null, .val (.ref b19_0), .unset, .unset, .unset] [(.int p0), (.ref b20), (.ref b20)])) (fun _ k_ => XS.iloadN X20.here hx rfl (hb hby at_77) rfl  k_) ?_
        refine own_k (T' := T20) (g' := (mkF m 79 #[.val (.int p0), .val (.int p1), .val (.int p2), .val (.int p3), .val (.int p4), .val (.int p5), .val (.int (0 : Int32)), .val (.int (1 : Int32)), .val .null, .val .null, .val (.ref b19_0), .unset, .unset, .unset] [(.int (1 : Int32)), (.int p0), (.ref b20), (.ref b20)])) (fun _ k_ => XS.iconst X20.here hx rfl (hb hby at_78) k_) ?_
        refine own_k (T' := T20) (g' := (mkF m 80 #[.val (.int p0), .val (.int p1), .val (.int p2), .val (.int p3), .val (.int p4), .val (.int p5), .val (.int (0 : Int32)), .val (.int (1 : Int32)), .val .null, .val .null, .val (.ref b19_0), .unset, .unset, .unset] [(.int (p0 &&& (1 : Int32))), (.ref b20), (.ref b20)])) (fun _ k_ => XS.iand X20.here hx rfl (hb hby at_79) rfl k_) ?_
        by_cases hc22 : (p0 &&& (1 : Int32)) = (0 : Int32)
        · refine own_k (T' := T20) (g' := (mkF m 87 #[.val (.int p0), .val (.int p1), .val (.int p2), .val (.int p3), .val (.int p4), .val (.int p5), .val (.int (0 : Int32)), .val (.int (1 : Int32)), .val .null, .val .null, .val (.ref b19_0), .unset, .unset, .unset] [(.ref b20), (.ref b20)])) (fun _ k_ => XS.ifYes X20.here hx rfl (pc0 := 80) (pc' := 87) rfl (hb hby at_80) rfl ((if0 _ _).trans (teq hc22).1) (by decide) (by decide) k_) ?_
          refine own_k (T' := T20) (g' := (mkF m 88 #[.val (.int p0), .val (.int p1), .val (.int p2), .val (.int p3), .val (.int p4), .val (.int p5), .val (.int (0 : Int32)), .val (.int (1 : Int32)), .val .null, .val .null, .val (.ref b19_0), .unset, .unset, .unset] [(.int (0 : Int32)), (.ref b20), (.ref b20)])) (fun _ k_ => XS.iconst X20.here hx rfl (hb hby at_87) k_) ?_
          exact hj21 _
        · refine own_k (T' := T20) (g' := (mkF m 83 #[.val (.int p0), .val (.int p1), .val (.int p2), .val (.int p3), .val (.int p4), .val (.int p5), .val (.int (0 : Int32)), .val (.int (1 : Int32)), .val .null, .val .null, .val (.ref b19_0), .unset, .unset, .unset] [(.ref b20), (.ref b20)])) (fun _ k_ => XS.ifNo X20.here hx rfl (hb hby at_80) rfl ((if0 _ _).trans (feq hc22).1) k_) ?_
          refine own_k (T' := T20) (g' := (mkF m 84 #[.val (.int p0), .val (.int p1), .val (.int p2), .val (.int p3), .val (.int p4), .val (.int p5), .val (.int (0 : Int32)), .val (.int (1 : Int32)), .val .null, .val .null, .val (.ref b19_0), .unset, .unset, .unset] [(.int (1 : Int32)), (.ref b20), (.ref b20)])) (fun _ k_ => XS.iconst X20.here hx rfl (hb hby at_83) k_) ?_
          refine own_k (T' := T20) (g' := (mkF m 88 #[.val (.int p0), .val (.int p1), .val (.int p2), .val (.int p3), .val (.int p4), .val (.int p5), .val (.int (0 : Int32)), .val (.int (1 : Int32)), .val .null, .val .null, .val (.ref b19_0), .unset, .unset, .unset] [(.int (1 : Int32)), (.ref b20), (.ref b20)])) (fun _ k_ => XS.goto X20.here hx rfl (pc0 := 84) (pc' := 88) rfl (hb hby at_84) (by decide) (by decide) k_) ?_
          exact hj21 _
      intro z77
      suffices hj23 : ∀ z88 : Int32, own_Go p e below Φ T20 (mkF m 99 #[.val (.int p0), .val (.int p1), .val (.int p2), .val (.int p3), .val (.int p4), .val (.int p5), .val (.int (0 : Int32)), .val (.int (1 : Int32)), .val .null, .val .null, .val (.ref b19_0), .unset, .unset, .unset] [(.int z88), (.int z77), (.ref b20), (.ref b20)]) by
        refine own_k (T' := T20) (g' := (mkF m 89 #[.val (.int p0), .val (.int p1), .val (.int p2), .val (.int p3), .val (.int p4), .val (.int p5), .val (.int (0 : Int32)), .val (.int (1 : Int32)), .val .null, .val .null, .val (.ref b19_0), .unset, .unset, .unset] [(.int p0), (.int z77), (.ref b20), (.ref b20)])) (fun _ k_ => XS.iloadN X20.here hx rfl (hb hby at_88) rfl  k_) ?_
        refine own_k (T' := T20) (g' := (mkF m 90 #[.val (.int p0), .val (.int p1), .val (.int p2), .val (.int p3), .val (.int p4), .val (.int p5), .val (.int (0 : Int32)), .val (.int (1 : Int32)), .val .null, .val .null, .val (.ref b19_0), .unset, .unset, .unset] [(.int (2 : Int32)), (.int p0), (.int z77), (.ref b20), (.ref b20)])) (fun _ k_ => XS.iconst X20.here hx rfl (hb hby at_89) k_) ?_
        refine own_k (T' := T20) (g' := (mkF m 91 #[.val (.int p0), .val (.int p1), .val (.int p2), .val (.int p3), .val (.int p4), .val (.int p5), .val (.int (0 : Int32)), .val (.int (1 : Int32)), .val .null, .val .null, .val (.ref b19_0), .unset, .unset, .unset] [(.int (p0 &&& (2 : Int32))), (.int z77), (.ref b20), (.ref b20)])) (fun _ k_ => XS.iand X20.here hx rfl (hb hby at_90) rfl k_) ?_
        by_cases hc24 : (p0 &&& (2 : Int32)) = (0 : Int32)
        · refine own_k (T' := T20) (g' := (mkF m 98 #[.val (.int p0), .val (.int p1), .val (.int p2), .val (.int p3), .val (.int p4), .val (.int p5), .val (.int (0 : Int32)), .val (.int (1 : Int32)), .val .null, .val .null, .val (.ref b19_0), .unset, .unset, .unset] [(.int z77), (.ref b20), (.ref b20)])) (fun _ k_ => XS.ifYes X20.here hx rfl (pc0 := 91) (pc' := 98) rfl (hb hby at_91) rfl ((if0 _ _).trans (teq hc24).1) (by decide) (by decide) k_) ?_
          refine own_k (T' := T20) (g' := (mkF m 99 #[.val (.int p0), .val (.int p1), .val (.int p2), .val (.int p3), .val (.int p4), .val (.int p5), .val (.int (0 : Int32)), .val (.int (1 : Int32)), .val .null, .val .null, .val (.ref b19_0), .unset, .unset, .unset] [(.int (0 : Int32)), (.int z77), (.ref b20), (.ref b20)])) (fun _ k_ => XS.iconst X20.here hx rfl (hb hby at_98) k_) ?_
          exact hj23 _
        · refine own_k (T' := T20) (g' := (mkF m 94 #[.val (.int p0), .val (.int p1), .val (.int p2), .val (.int p3), .val (.int p4), .val (.int p5), .val (.int (0 : Int32)), .val (.int (1 : Int32)), .val .null, .val .null, .val (.ref b19_0), .unset, .unset, .unset] [(.int z77), (.ref b20), (.ref b20)])) (fun _ k_ => XS.ifNo X20.here hx rfl (hb hby at_91) rfl ((if0 _ _).trans (feq hc24).1) k_) ?_
          refine own_k (T' := T20) (g' := (mkF m 95 #[.val (.int p0), .val (.int p1), .val (.int p2), .val (.int p3), .val (.int p4), .val (.int p5), .val (.int (0 : Int32)), .val (.int (1 : Int32)), .val .null, .val .null, .val (.ref b19_0), .unset, .unset, .unset] [(.int (1 : Int32)), (.int z77), (.ref b20), (.ref b20)])) (fun _ k_ => XS.iconst X20.here hx rfl (hb hby at_94) k_) ?_
          refine own_k (T' := T20) (g' := (mkF m 99 #[.val (.int p0), .val (.int p1), .val (.int p2), .val (.int p3), .val (.int p4), .val (.int p5), .val (.int (0 : Int32)), .val (.int (1 : Int32)), .val .null, .val .null, .val (.ref b19_0), .unset, .unset, .unset] [(.int (1 : Int32)), (.int z77), (.ref b20), (.ref b20)])) (fun _ k_ => XS.goto X20.here hx rfl (pc0 := 95) (pc' := 99) rfl (hb hby at_95) (by decide) (by decide) k_) ?_
          exact hj23 _
      intro z88
      suffices hj25 : ∀ z99 : Int32, own_Go p e below Φ T20 (mkF m 110 #[.val (.int p0), .val (.int p1), .val (.int p2), .val (.int p3), .val (.int p4), .val (.int p5), .val (.int (0 : Int32)), .val (.int (1 : Int32)), .val .null, .val .null, .val (.ref b19_0), .unset, .unset, .unset] [(.int z99), (.int z88), (.int z77), (.ref b20), (.ref b20)]) by
        refine own_k (T' := T20) (g' := (mkF m 100 #[.val (.int p0), .val (.int p1), .val (.int p2), .val (.int p3), .val (.int p4), .val (.int p5), .val (.int (0 : Int32)), .val (.int (1 : Int32)), .val .null, .val .null, .val (.ref b19_0), .unset, .unset, .unset] [(.int p0), (.int z88), (.int z77), (.ref b20), (.ref b20)])) (fun _ k_ => XS.iloadN X20.here hx rfl (hb hby at_99) rfl  k_) ?_
        refine own_k (T' := T20) (g' := (mkF m 101 #[.val (.int p0), .val (.int p1), .val (.int p2), .val (.int p3), .val (.int p4), .val (.int p5), .val (.int (0 : Int32)), .val (.int (1 : Int32)), .val .null, .val .null, .val (.ref b19_0), .unset, .unset, .unset] [(.int (4 : Int32)), (.int p0), (.int z88), (.int z77), (.ref b20), (.ref b20)])) (fun _ k_ => XS.iconst X20.here hx rfl (hb hby at_100) k_) ?_
        refine own_k (T' := T20) (g' := (mkF m 102 #[.val (.int p0), .val (.int p1), .val (.int p2), .val (.int p3), .val (.int p4), .val (.int p5), .val (.int (0 : Int32)), .val (.int (1 : Int32)), .val .null, .val .null, .val (.ref b19_0), .unset, .unset, .unset] [(.int (p0 &&& (4 : Int32))), (.int z88), (.int z77), (.ref b20), (.ref b20)])) (fun _ k_ => XS.iand X20.here hx rfl (hb hby at_101) rfl k_) ?_
        by_cases hc26 : (p0 &&& (4 : Int32)) = (0 : Int32)
        · refine own_k (T' := T20) (g' := (mkF m 109 #[.val (.int p0), .val (.int p1), .val (.int p2), .val (.int p3), .val (.int p4), .val (.int p5), .val (.int (0 : Int32)), .val (.int (1 : Int32)), .val .null, .val .null, .val (.ref b19_0), .unset, .unset, .unset] [(.int z88), (.int z77), (.ref b20), (.ref b20)])) (fun _ k_ => XS.ifYes X20.here hx rfl (pc0 := 102) (pc' := 109) rfl (hb hby at_102) rfl ((if0 _ _).trans (teq hc26).1) (by decide) (by decide) k_) ?_
          refine own_k (T' := T20) (g' := (mkF m 110 #[.val (.int p0), .val (.int p1), .val (.int p2), .val (.int p3), .val (.int p4), .val (.int p5), .val (.int (0 : Int32)), .val (.int (1 : Int32)), .val .null, .val .null, .val (.ref b19_0), .unset, .unset, .unset] [(.int (0 : Int32)), (.int z88), (.int z77), (.ref b20), (.ref b20)])) (fun _ k_ => XS.iconst X20.here hx rfl (hb hby at_109) k_) ?_
          exact hj25 _
        · refine own_k (T' := T20) (g' := (mkF m 105 #[.val (.int p0), .val (.int p1), .val (.int p2), .val (.int p3), .val (.int p4), .val (.int p5), .val (.int (0 : Int32)), .val (.int (1 : Int32)), .val .null, .val .null, .val (.ref b19_0), .unset, .unset, .unset] [(.int z88), (.int z77), (.ref b20), (.ref b20)])) (fun _ k_ => XS.ifNo X20.here hx rfl (hb hby at_102) rfl ((if0 _ _).trans (feq hc26).1) k_) ?_
          refine own_k (T' := T20) (g' := (mkF m 106 #[.val (.int p0), .val (.int p1), .val (.int p2), .val (.int p3), .val (.int p4), .val (.int p5), .val (.int (0 : Int32)), .val (.int (1 : Int32)), .val .null, .val .null, .val (.ref b19_0), .unset, .unset, .unset] [(.int (1 : Int32)), (.int z88), (.int z77), (.ref b20), (.ref b20)])) (fun _ k_ => XS.iconst X20.here hx rfl (hb hby at_105) k_) ?_
          refine own_k (T' := T20) (g' := (mkF m 110 #[.val (.int p0), .val (.int p1), .val (.int p2), .val (.int p3), .val (.int p4), .val (.int p5), .val (.int (0 : Int32)), .val (.int (1 : Int32)), .val .null, .val .null, .val (.ref b19_0), .unset, .unset, .unset] [(.int (1 : Int32)), (.int z88), (.int z77), (.ref b20), (.ref b20)])) (fun _ k_ => XS.goto X20.here hx rfl (pc0 := 106) (pc' := 110) rfl (hb hby at_106) (by decide) (by decide) k_) ?_
          exact hj25 _
      intro z99
      suffices hj27 : ∀ z110 : Int32, own_Go p e below Φ T20 (mkF m 122 #[.val (.int p0), .val (.int p1), .val (.int p2), .val (.int p3), .val (.int p4), .val (.int p5), .val (.int (0 : Int32)), .val (.int (1 : Int32)), .val .null, .val .null, .val (.ref b19_0), .unset, .unset, .unset] [(.int z110), (.int z99), (.int z88), (.int z77), (.ref b20), (.ref b20)]) by
        refine own_k (T' := T20) (g' := (mkF m 111 #[.val (.int p0), .val (.int p1), .val (.int p2), .val (.int p3), .val (.int p4), .val (.int p5), .val (.int (0 : Int32)), .val (.int (1 : Int32)), .val .null, .val .null, .val (.ref b19_0), .unset, .unset, .unset] [(.int p0), (.int z99), (.int z88), (.int z77), (.ref b20), (.ref b20)])) (fun _ k_ => XS.iloadN X20.here hx rfl (hb hby at_110) rfl  k_) ?_
        refine own_k (T' := T20) (g' := (mkF m 113 #[.val (.int p0), .val (.int p1), .val (.int p2), .val (.int p3), .val (.int p4), .val (.int p5), .val (.int (0 : Int32)), .val (.int (1 : Int32)), .val .null, .val .null, .val (.ref b19_0), .unset, .unset, .unset] [(.int (8 : Int32)), (.int p0), (.int z99), (.int z88), (.int z77), (.ref b20), (.ref b20)])) (fun _ k_ => XS.bipush X20.here hx rfl (hb hby at_111) k_) ?_
        refine own_k (T' := T20) (g' := (mkF m 114 #[.val (.int p0), .val (.int p1), .val (.int p2), .val (.int p3), .val (.int p4), .val (.int p5), .val (.int (0 : Int32)), .val (.int (1 : Int32)), .val .null, .val .null, .val (.ref b19_0), .unset, .unset, .unset] [(.int (p0 &&& (8 : Int32))), (.int z99), (.int z88), (.int z77), (.ref b20), (.ref b20)])) (fun _ k_ => XS.iand X20.here hx rfl (hb hby at_113) rfl k_) ?_
        by_cases hc28 : (p0 &&& (8 : Int32)) = (0 : Int32)
        · refine own_k (T' := T20) (g' := (mkF m 121 #[.val (.int p0), .val (.int p1), .val (.int p2), .val (.int p3), .val (.int p4), .val (.int p5), .val (.int (0 : Int32)), .val (.int (1 : Int32)), .val .null, .val .null, .val (.ref b19_0), .unset, .unset, .unset] [(.int z99), (.int z88), (.int z77), (.ref b20), (.ref b20)])) (fun _ k_ => XS.ifYes X20.here hx rfl (pc0 := 114) (pc' := 121) rfl (hb hby at_114) rfl ((if0 _ _).trans (teq hc28).1) (by decide) (by decide) k_) ?_
          refine own_k (T' := T20) (g' := (mkF m 122 #[.val (.int p0), .val (.int p1), .val (.int p2), .val (.int p3), .val (.int p4), .val (.int p5), .val (.int (0 : Int32)), .val (.int (1 : Int32)), .val .null, .val .null, .val (.ref b19_0), .unset, .unset, .unset] [(.int (0 : Int32)), (.int z99), (.int z88), (.int z77), (.ref b20), (.ref b20)])) (fun _ k_ => XS.iconst X20.here hx rfl (hb hby at_121) k_) ?_
          exact hj27 _
        · refine own_k (T' := T20) (g' := (mkF m 117 #[.val (.int p0), .val (.int p1), .val (.int p2), .val (.int p3), .val (.int p4), .val (.int p5), .val (.int (0 : Int32)), .val (.int (1 : Int32)), .val .null, .val .null, .val (.ref b19_0), .unset, .unset, .unset] [(.int z99), (.int z88), (.int z77), (.ref b20), (.ref b20)])) (fun _ k_ => XS.ifNo X20.here hx rfl (hb hby at_114) rfl ((if0 _ _).trans (feq hc28).1) k_) ?_
          refine own_k (T' := T20) (g' := (mkF m 118 #[.val (.int p0), .val (.int p1), .val (.int p2), .val (.int p3), .val (.int p4), .val (.int p5), .val (.int (0 : Int32)), .val (.int (1 : Int32)), .val .null, .val .null, .val (.ref b19_0), .unset, .unset, .unset] [(.int (1 : Int32)), (.int z99), (.int z88), (.int z77), (.ref b20), (.ref b20)])) (fun _ k_ => XS.iconst X20.here hx rfl (hb hby at_117) k_) ?_
          refine own_k (T' := T20) (g' := (mkF m 122 #[.val (.int p0), .val (.int p1), .val (.int p2), .val (.int p3), .val (.int p4), .val (.int p5), .val (.int (0 : Int32)), .val (.int (1 : Int32)), .val .null, .val .null, .val (.ref b19_0), .unset, .unset, .unset] [(.int (1 : Int32)), (.int z99), (.int z88), (.int z77), (.ref b20), (.ref b20)])) (fun _ k_ => XS.goto X20.here hx rfl (pc0 := 118) (pc' := 122) rfl (hb hby at_118) (by decide) (by decide) k_) ?_
          exact hj27 _
      intro z110
      refine own_k (T' := T20) (g' := (mkF m 124 #[.val (.int p0), .val (.int p1), .val (.int p2), .val (.int p3), .val (.int p4), .val (.int p5), .val (.int (0 : Int32)), .val (.int (1 : Int32)), .val .null, .val .null, .val (.ref b19_0), .unset, .unset, .unset] [.null, (.int z110), (.int z99), (.int z88), (.int z77), (.ref b20), (.ref b20)])) (fun _ k_ => XS.aload X20.here hx rfl (hb hby at_122) rfl rfl  k_) ?_
      refine own_callN X20 hx hZ (y := (⟨"com/example/nepean/nepean/mapping/ColumnSettings", "<init>", "(ZZZZLjava/lang/String;)V"⟩ : MethodName)) rfl hown (hw _ (List.mem_of_getElem? (i := 37) rfl)) (hw _ (List.mem_of_getElem? (i := 38) rfl)) (hw _ (List.mem_of_getElem? (i := 39) rfl)) (hw _ (List.mem_of_getElem? (i := 36) rfl)) (by decide) (al := [(.int z77), (.int z88), (.int z99), (.int z110), .null]) (b := b20) (rm_init_7 l Z a0 g_COMPACT_STRINGS g_SIOOBE_FORMATTER hW b20 z77 z88 z99 z110 h20 O20' F20_nullable A20 (Nat.le_trans O19'.2.1 (Nat.le_of_eq g20.symm)) F20_unique F20_insertable F20_updatable F20_definition) 1 (by decide) (by decide) e20 (by decide) (by decide) (by rw [hml]; rfl) (lenOf pd__28ZZZZLjava_2flang_2fString_3b_29V rfl) rfl (rest := [(.ref b20)]) (by show 2 * 0 + _ ≤ _; exact Nat.le_of_eq rfl) (hb hby at_124) ?_
      intro v29 T29 L29 X29 hQ29
      obtain ⟨rfl, Nq29, K29, q29_0, q29_1, q29_2, q29_3, q29_4, q29_5⟩ := hQ29
      have N29 := Fr.app N19 Nq29
      have O29' := O20'.keep K29 (allS (Nat.le_trans O19'.2.1 (Nat.le_of_eq g20.symm)) all0)
      show own_Go p e below Φ T29 (mkF m 127 #[.val (.int p0), .val (.int p1), .val (.int p2), .val (.int p3), .val (.int p4), .val (.int p5), .val (.int (0 : Int32)), .val (.int (1 : Int32)), .val .null, .val .null, .val (.ref b19_0), .unset, .unset, .unset] [(.ref b20)])
      refine own_k (T' := T29) (g' := (mkF m 129 #[.val (.int p0), .val (.int p1), .val (.int p2), .val (.int p3), .val (.int p4), .val (.int p5), .val (.int (0 : Int32)), .val (.int (1 : Int32)), .val .null, .val .null, .val (.ref b19_0), .val (.ref b20), .unset, .unset] [])) (fun _ k_ => XS.astore X29.here hx rfl (hb hby at_127) rfl rfl (l' := #[.val (.int p0), .val (.int p1), .val (.int p2), .val (.int p3), .val (.int p4), .val (.int p5), .val (.int (0 : Int32)), .val (.int (1 : Int32)), .val .null, .val .null, .val (.ref b19_0), .val (.ref b20), .unset, .unset]) rfl k_) ?_
      refine own_k (T' := T29) (g' := (mkF m 131 #[.val (.int p0), .val (.int p1), .val (.int p2), .val (.int p3), .val (.int p4), .val (.int p5), .val (.int (0 : Int32)), .val (.int (1 : Int32)), .val .null, .val .null, .val (.ref b19_0), .val (.ref b20), .unset, .unset] [(.ref b20)])) (fun _ k_ => XS.aload X29.here hx rfl (hb hby at_129) rfl rfl  k_) ?_
      refine own_k (T' := T29) (g' := (mkF m 133 #[.val (.int p0), .val (.int p1), .val (.int p2), .val (.int p3), .val (.int p4), .val (.int p5), .val (.int (0 : Int32)), .val (.int (1 : Int32)), .val .null, .val .null, .val (.ref b19_0), .val (.ref b20), .unset, .unset] [.null, (.ref b20)])) (fun _ k_ => XS.aload X29.here hx rfl (hb hby at_131) rfl rfl  k_) ?_
      refine own_callV X29 hx hZ (C := "com/example/nepean/nepean/mapping/ColumnSettings") (y := (⟨"com/example/nepean/nepean/mapping/ColumnSettings", "sqlType", "(Ljava/lang/String;)Ljava/lang/String;"⟩ : MethodName)) (z := (⟨"com/example/nepean/nepean/mapping/ColumnSettings", "sqlType", "(Ljava/lang/String;)Ljava/lang/String;"⟩ : MethodName)) hown (hw _ (List.mem_of_getElem? (i := 56) rfl)) (hw _ (List.mem_of_getElem? (i := 57) rfl)) (notFace_of_selects (args := #[]) (mvT hZ (hw _ (List.mem_of_getElem? (i := 59) rfl)))) (hw _ (List.mem_of_getElem? (i := 59) rfl)) (hw _ (List.mem_of_getElem? (i := 58) rfl)) (hw _ (List.mem_of_getElem? (i := 60) rfl)) (hw _ (List.mem_of_getElem? (i := 36) rfl)) (by decide) (al := [.null]) q29_0 (rm_sqlType_11 l Z a0 g_COMPACT_STRINGS g_SIOOBE_FORMATTER hW b20 T29.heap O29' q29_5) 0 (by decide) (by decide) rfl (by decide) (by decide) (by rw [hml]; rfl) (lenOf pd__28Ljava_2flang_2fString_3b_29Ljava_2flang_2fString_3b rfl) rfl (rest := []) (by show 2 * 0 + _ ≤ _; exact Nat.le_of_eq rfl) (hb hby at_133) ?_
      intro v30 T30 L30 X30 hQ30
      obtain ⟨rfl, Nq30, e30⟩ := hQ30
      have N30 := Fr.app N29 Nq30
      show own_Go p e below Φ T30 (mkF m 136 #[.val (.int p0), .val (.int p1), .val (.int p2), .val (.int p3), .val (.int p4), .val (.int p5), .val (.int (0 : Int32)), .val (.int (1 : Int32)), .val .null, .val .null, .val (.ref b19_0), .val (.ref b20), .unset, .unset] [.null])
      refine own_k (T' := T30) (g' := (mkF m 138 #[.val (.int p0), .val (.int p1), .val (.int p2), .val (.int p3), .val (.int p4), .val (.int p5), .val (.int (0 : Int32)), .val (.int (1 : Int32)), .val .null, .val .null, .val (.ref b19_0), .val (.ref b20), .val .null, .unset] [])) (fun _ k_ => XS.astore X30.here hx rfl (hb hby at_136) rfl rfl (l' := #[.val (.int p0), .val (.int p1), .val (.int p2), .val (.int p3), .val (.int p4), .val (.int p5), .val (.int (0 : Int32)), .val (.int (1 : Int32)), .val .null, .val .null, .val (.ref b19_0), .val (.ref b20), .val .null, .unset]) rfl k_) ?_
      refine own_k (T' := T30) (g' := (mkF m 140 #[.val (.int p0), .val (.int p1), .val (.int p2), .val (.int p3), .val (.int p4), .val (.int p5), .val (.int (0 : Int32)), .val (.int (1 : Int32)), .val .null, .val .null, .val (.ref b19_0), .val (.ref b20), .val .null, .unset] [(.ref b20)])) (fun _ k_ => XS.aload X30.here hx rfl (hb hby at_138) rfl rfl  k_) ?_
      refine own_k (T' := T30) (g' := (mkF m 142 #[.val (.int p0), .val (.int p1), .val (.int p2), .val (.int p3), .val (.int p4), .val (.int p5), .val (.int (0 : Int32)), .val (.int (1 : Int32)), .val .null, .val .null, .val (.ref b19_0), .val (.ref b20), .val .null, .unset] [(.ref b19_0), (.ref b20)])) (fun _ k_ => XS.aload X30.here hx rfl (hb hby at_140) rfl rfl  k_) ?_
      refine own_callV X30 hx hZ (C := "com/example/nepean/nepean/mapping/ColumnSettings") (y := (⟨"com/example/nepean/nepean/mapping/ColumnSettings", "sqlType", "(Ljava/lang/String;)Ljava/lang/String;"⟩ : MethodName)) (z := (⟨"com/example/nepean/nepean/mapping/ColumnSettings", "sqlType", "(Ljava/lang/String;)Ljava/lang/String;"⟩ : MethodName)) hown (hw _ (List.mem_of_getElem? (i := 56) rfl)) (hw _ (List.mem_of_getElem? (i := 57) rfl)) (notFace_of_selects (args := #[]) (mvT hZ (hw _ (List.mem_of_getElem? (i := 59) rfl)))) (hw _ (List.mem_of_getElem? (i := 59) rfl)) (hw _ (List.mem_of_getElem? (i := 58) rfl)) (hw _ (List.mem_of_getElem? (i := 60) rfl)) (hw _ (List.mem_of_getElem? (i := 36) rfl)) (by decide) (al := [(.ref b19_0)]) q29_0 (rm_sqlType_8 l Z a0 g_COMPACT_STRINGS g_SIOOBE_FORMATTER hW b20 b19_0 T29.heap O29' q29_5) 0 (by decide) (by decide) e30 (by decide) (by decide) (by rw [hml]; rfl) (lenOf pd__28Ljava_2flang_2fString_3b_29Ljava_2flang_2fString_3b rfl) rfl (rest := []) (by show 2 * 0 + _ ≤ _; exact Nat.le_of_eq rfl) (hb hby at_142) ?_
      intro v31 T31 L31 X31 hQ31
      obtain ⟨rfl, Nq31, e31⟩ := hQ31
      have N31 := Fr.app N30 Nq31
      show own_Go p e below Φ T31 (mkF m 145 #[.val (.int p0), .val (.int p1), .val (.int p2), .val (.int p3), .val (.int p4), .val (.int p5), .val (.int (0 : Int32)), .val (.int (1 : Int32)), .val .null, .val .null, .val (.ref b19_0), .val (.ref b20), .val .null, .unset] [(.ref b19_0)])
      refine own_k (T' := T31) (g' := (mkF m 147 #[.val (.int p0), .val (.int p1), .val (.int p2), .val (.int p3), .val (.int p4), .val (.int p5), .val (.int (0 : Int32)), .val (.int (1 : Int32)), .val .null, .val .null, .val (.ref b19_0), .val (.ref b20), .val .null, .val (.ref b19_0)] [])) (fun _ k_ => XS.astore X31.here hx rfl (hb hby at_145) rfl rfl (l' := #[.val (.int p0), .val (.int p1), .val (.int p2), .val (.int p3), .val (.int p4), .val (.int p5), .val (.int (0 : Int32)), .val (.int (1 : Int32)), .val .null, .val .null, .val (.ref b19_0), .val (.ref b20), .val .null, .val (.ref b19_0)]) rfl k_) ?_
      refine own_k (T' := T31) (g' := (mkF m 149 #[.val (.int p0), .val (.int p1), .val (.int p2), .val (.int p3), .val (.int p4), .val (.int p5), .val (.int (0 : Int32)), .val (.int (1 : Int32)), .val .null, .val .null, .val (.ref b19_0), .val (.ref b20), .val .null, .val (.ref b19_0)] [(.int (0 : Int32))])) (fun _ k_ => XS.iload X31.here hx rfl (hb hby at_147) rfl  k_) ?_
      refine own_k (T' := T31) (g' := (mkF m 178 #[.val (.int p0), .val (.int p1), .val (.int p2), .val (.int p3), .val (.int p4), .val (.int p5), .val (.int (0 : Int32)), .val (.int (1 : Int32)), .val .null, .val .null, .val (.ref b19_0), .val (.ref b20), .val .null, .val (.ref b19_0)] [])) (fun _ k_ => XS.ifYes X31.here hx rfl (pc0 := 149) (pc' := 178) rfl (hb hby at_149) rfl ((if0 _ _).trans (teq (by decide : ((0 : Int32) = (0 : Int32)))).1) (by decide) (by decide) k_) ?_
      refine own_k (T' := T31) (g' := (mkF m 180 #[.val (.int p0), .val (.int p1), .val (.int p2), .val (.int p3), .val (.int p4), .val (.int p5), .val (.int (0 : Int32)), .val (.int (1 : Int32)), .val .null, .val .null, .val (.ref b19_0), .val (.ref b20), .val .null, .val (.ref b19_0)] [.null])) (fun _ k_ => XS.aload X31.here hx rfl (hb hby at_178) rfl rfl  k_) ?_
      refine own_k (T' := T31) (g' := (mkF m 182 #[.val (.int p0), .val (.int p1), .val (.int p2), .val (.int p3), .val (.int p4), .val (.int p5), .val (.int (0 : Int32)), .val (.int (1 : Int32)), .val .null, .val .null, .val (.ref b19_0), .val (.ref b20), .val .null, .val (.ref b19_0)] [.null, .null])) (fun _ k_ => XS.aload X31.here hx rfl (hb hby at_180) rfl rfl  k_) ?_
      refine own_callS X31 hx hZ (y := (⟨"com/example/nepean/nepean/mapping/ColumnSettingsSqlTypePinLaw", "same", "(Ljava/lang/String;Ljava/lang/String;)Z"⟩ : MethodName)) hown (hw _ (List.mem_of_getElem? (i := 61) rfl)) (hw _ (List.mem_of_getElem? (i := 62) rfl)) (hw _ (List.mem_of_getElem? (i := 2) rfl)) (hw _ (List.mem_of_getElem? (i := 63) rfl)) (by decide) (al := [.null, .null]) (rm_same_12 l Z a0 g_COMPACT_STRINGS g_SIOOBE_FORMATTER hW T29.heap O29') 0 (by decide) (by decide) e31 (by decide) (by decide) (by rw [hml]; rfl) (lenOf pd__28Ljava_2flang_2fString_3bLjava_2flang_2fString_3b_29Z rfl) rfl (rest := []) (by show 2 * 0 + _ ≤ _; exact Nat.le_of_eq rfl) (hb hby at_182) ?_
      intro v32 T32 L32 X32 hQ32
      obtain ⟨rfl, Nq32, e32⟩ := hQ32
      have N32 := Fr.app N31 Nq32
      show own_Go p e below Φ T32 (mkF m 185 #[.val (.int p0), .val (.int p1), .val (.int p2), .val (.int p3), .val (.int p4), .val (.int p5), .val (.int (0 : Int32)), .val (.int (1 : Int32)), .val .null, .val .null, .val (.ref b19_0), .val (.ref b20), .val .null, .val (.ref b19_0)] [(.int (1 : Int32))])
      refine own_k (T' := T32) (g' := (mkF m 188 #[.val (.int p0), .val (.int p1), .val (.int p2), .val (.int p3), .val (.int p4), .val (.int p5), .val (.int (0 : Int32)), .val (.int (1 : Int32)), .val .null, .val .null, .val (.ref b19_0), .val (.ref b20), .val .null, .val (.ref b19_0)] [])) (fun _ k_ => XS.ifNo X32.here hx rfl (hb hby at_185) rfl ((if0 _ _).trans (feq (by decide : ¬ ((1 : Int32) = (0 : Int32)))).1) k_) ?_
      refine own_k (T' := T32) (g' := (mkF m 190 #[.val (.int p0), .val (.int p1), .val (.int p2), .val (.int p3), .val (.int p4), .val (.int p5), .val (.int (0 : Int32)), .val (.int (1 : Int32)), .val .null, .val .null, .val (.ref b19_0), .val (.ref b20), .val .null, .val (.ref b19_0)] [(.ref b19_0)])) (fun _ k_ => XS.aload X32.here hx rfl (hb hby at_188) rfl rfl  k_) ?_
      refine own_k (T' := T32) (g' := (mkF m 192 #[.val (.int p0), .val (.int p1), .val (.int p2), .val (.int p3), .val (.int p4), .val (.int p5), .val (.int (0 : Int32)), .val (.int (1 : Int32)), .val .null, .val .null, .val (.ref b19_0), .val (.ref b20), .val .null, .val (.ref b19_0)] [(.ref b19_0), (.ref b19_0)])) (fun _ k_ => XS.aload X32.here hx rfl (hb hby at_190) rfl rfl  k_) ?_
      refine own_callS X32 hx hZ (y := (⟨"com/example/nepean/nepean/mapping/ColumnSettingsSqlTypePinLaw", "same", "(Ljava/lang/String;Ljava/lang/String;)Z"⟩ : MethodName)) hown (hw _ (List.mem_of_getElem? (i := 61) rfl)) (hw _ (List.mem_of_getElem? (i := 62) rfl)) (hw _ (List.mem_of_getElem? (i := 2) rfl)) (hw _ (List.mem_of_getElem? (i := 63) rfl)) (by decide) (al := [(.ref b19_0), (.ref b19_0)]) (rm_same_10 l Z a0 g_COMPACT_STRINGS g_SIOOBE_FORMATTER hW b19_0 T29.heap O29' ((q19_0.ext E20).keep K29)) 0 (by decide) (by decide) e32 (by decide) (by decide) (by rw [hml]; rfl) (lenOf pd__28Ljava_2flang_2fString_3bLjava_2flang_2fString_3b_29Z rfl) rfl (rest := []) (by show 2 * 0 + _ ≤ _; exact Nat.le_of_eq rfl) (hb hby at_192) ?_
      intro v33 T33 L33 X33 hQ33
      obtain ⟨rfl, Nq33, e33⟩ := hQ33
      have N33 := Fr.app N32 Nq33
      show own_Go p e below Φ T33 (mkF m 195 #[.val (.int p0), .val (.int p1), .val (.int p2), .val (.int p3), .val (.int p4), .val (.int p5), .val (.int (0 : Int32)), .val (.int (1 : Int32)), .val .null, .val .null, .val (.ref b19_0), .val (.ref b20), .val .null, .val (.ref b19_0)] [(.int (1 : Int32))])
      refine own_k (T' := T33) (g' := (mkF m 198 #[.val (.int p0), .val (.int p1), .val (.int p2), .val (.int p3), .val (.int p4), .val (.int p5), .val (.int (0 : Int32)), .val (.int (1 : Int32)), .val .null, .val .null, .val (.ref b19_0), .val (.ref b20), .val .null, .val (.ref b19_0)] [])) (fun _ k_ => XS.ifNo X33.here hx rfl (hb hby at_195) rfl ((if0 _ _).trans (feq (by decide : ¬ ((1 : Int32) = (0 : Int32)))).1) k_) ?_
      refine own_k (T' := T33) (g' := (mkF m 199 #[.val (.int p0), .val (.int p1), .val (.int p2), .val (.int p3), .val (.int p4), .val (.int p5), .val (.int (0 : Int32)), .val (.int (1 : Int32)), .val .null, .val .null, .val (.ref b19_0), .val (.ref b20), .val .null, .val (.ref b19_0)] [(.int (1 : Int32))])) (fun _ k_ => XS.iconst X33.here hx rfl (hb hby at_198) k_) ?_
      refine own_k (T' := T33) (g' := (mkF m 203 #[.val (.int p0), .val (.int p1), .val (.int p2), .val (.int p3), .val (.int p4), .val (.int p5), .val (.int (0 : Int32)), .val (.int (1 : Int32)), .val .null, .val .null, .val (.ref b19_0), .val (.ref b20), .val .null, .val (.ref b19_0)] [(.int (1 : Int32))])) (fun _ k_ => XS.goto X33.here hx rfl (pc0 := 199) (pc' := 203) rfl (hb hby at_199) (by decide) (by decide) k_) ?_
      exact own_retN X33 hx (t := .boolean) hret (by simp) hlk (hb hby at_203) hF (⟨by rw [show nar .boolean (1 : Int32) = (1 : Int32) from by decide], N33, trivial⟩) (by decide) (by decide)
  · refine own_k (T' := s₁) (g' := (mkF m 7 #[.val (.int p0), .val (.int p1), .val (.int p2), .val (.int p3), .val (.int p4), .val (.int p5), .unset, .unset, .unset, .unset, .unset, .unset, .unset, .unset] [])) (fun _ k_ => XS.ifNo X0.here hx rfl (hb hby at_4) rfl ((if0 _ _).trans (feq hc1).1) k_) ?_
    refine own_k (T' := s₁) (g' := (mkF m 8 #[.val (.int p0), .val (.int p1), .val (.int p2), .val (.int p3), .val (.int p4), .val (.int p5), .unset, .unset, .unset, .unset, .unset, .unset, .unset, .unset] [(.int (1 : Int32))])) (fun _ k_ => XS.iconst X0.here hx rfl (hb hby at_7) k_) ?_
    refine own_k (T' := s₁) (g' := (mkF m 12 #[.val (.int p0), .val (.int p1), .val (.int p2), .val (.int p3), .val (.int p4), .val (.int p5), .unset, .unset, .unset, .unset, .unset, .unset, .unset, .unset] [(.int (1 : Int32))])) (fun _ k_ => XS.goto X0.here hx rfl (pc0 := 8) (pc' := 12) rfl (hb hby at_8) (by decide) (by decide) k_) ?_
    refine own_k (T' := s₁) (g' := (mkF m 14 #[.val (.int p0), .val (.int p1), .val (.int p2), .val (.int p3), .val (.int p4), .val (.int p5), .val (.int (1 : Int32)), .unset, .unset, .unset, .unset, .unset, .unset, .unset] [])) (fun _ k_ => XS.istore X0.here hx rfl (hb hby at_12) rfl (l' := #[.val (.int p0), .val (.int p1), .val (.int p2), .val (.int p3), .val (.int p4), .val (.int p5), .val (.int (1 : Int32)), .unset, .unset, .unset, .unset, .unset, .unset, .unset]) rfl k_) ?_
    refine own_k (T' := s₁) (g' := (mkF m 15 #[.val (.int p0), .val (.int p1), .val (.int p2), .val (.int p3), .val (.int p4), .val (.int p5), .val (.int (1 : Int32)), .unset, .unset, .unset, .unset, .unset, .unset, .unset] [(.int p0)])) (fun _ k_ => XS.iloadN X0.here hx rfl (hb hby at_14) rfl  k_) ?_
    refine own_k (T' := s₁) (g' := (mkF m 17 #[.val (.int p0), .val (.int p1), .val (.int p2), .val (.int p3), .val (.int p4), .val (.int p5), .val (.int (1 : Int32)), .unset, .unset, .unset, .unset, .unset, .unset, .unset] [(.int (32 : Int32)), (.int p0)])) (fun _ k_ => XS.bipush X0.here hx rfl (hb hby at_15) k_) ?_
    refine own_k (T' := s₁) (g' := (mkF m 18 #[.val (.int p0), .val (.int p1), .val (.int p2), .val (.int p3), .val (.int p4), .val (.int p5), .val (.int (1 : Int32)), .unset, .unset, .unset, .unset, .unset, .unset, .unset] [(.int (p0 &&& (32 : Int32)))])) (fun _ k_ => XS.iand X0.here hx rfl (hb hby at_17) rfl k_) ?_
    by_cases hc34 : (p0 &&& (32 : Int32)) = (0 : Int32)
    · refine own_k (T' := s₁) (g' := (mkF m 25 #[.val (.int p0), .val (.int p1), .val (.int p2), .val (.int p3), .val (.int p4), .val (.int p5), .val (.int (1 : Int32)), .unset, .unset, .unset, .unset, .unset, .unset, .unset] [])) (fun _ k_ => XS.ifYes X0.here hx rfl (pc0 := 18) (pc' := 25) rfl (hb hby at_18) rfl ((if0 _ _).trans (teq hc34).1) (by decide) (by decide) k_) ?_
      refine own_k (T' := s₁) (g' := (mkF m 26 #[.val (.int p0), .val (.int p1), .val (.int p2), .val (.int p3), .val (.int p4), .val (.int p5), .val (.int (1 : Int32)), .unset, .unset, .unset, .unset, .unset, .unset, .unset] [(.int (0 : Int32))])) (fun _ k_ => XS.iconst X0.here hx rfl (hb hby at_25) k_) ?_
      refine own_k (T' := s₁) (g' := (mkF m 28 #[.val (.int p0), .val (.int p1), .val (.int p2), .val (.int p3), .val (.int p4), .val (.int p5), .val (.int (1 : Int32)), .val (.int (0 : Int32)), .unset, .unset, .unset, .unset, .unset, .unset] [])) (fun _ k_ => XS.istore X0.here hx rfl (hb hby at_26) rfl (l' := #[.val (.int p0), .val (.int p1), .val (.int p2), .val (.int p3), .val (.int p4), .val (.int p5), .val (.int (1 : Int32)), .val (.int (0 : Int32)), .unset, .unset, .unset, .unset, .unset, .unset]) rfl k_) ?_
      refine own_k (T' := s₁) (g' := (mkF m 30 #[.val (.int p0), .val (.int p1), .val (.int p2), .val (.int p3), .val (.int p4), .val (.int p5), .val (.int (1 : Int32)), .val (.int (0 : Int32)), .unset, .unset, .unset, .unset, .unset, .unset] [(.int (1 : Int32))])) (fun _ k_ => XS.iload X0.here hx rfl (hb hby at_28) rfl  k_) ?_
      refine own_k (T' := s₁) (g' := (mkF m 33 #[.val (.int p0), .val (.int p1), .val (.int p2), .val (.int p3), .val (.int p4), .val (.int p5), .val (.int (1 : Int32)), .val (.int (0 : Int32)), .unset, .unset, .unset, .unset, .unset, .unset] [])) (fun _ k_ => XS.ifNo X0.here hx rfl (hb hby at_30) rfl ((if0 _ _).trans (feq (by decide : ¬ ((1 : Int32) = (0 : Int32)))).1) k_) ?_
      refine own_k (T' := s₁) (g' := (mkF m 35 #[.val (.int p0), .val (.int p1), .val (.int p2), .val (.int p3), .val (.int p4), .val (.int p5), .val (.int (1 : Int32)), .val (.int (0 : Int32)), .unset, .unset, .unset, .unset, .unset, .unset] [(.int p5)])) (fun _ k_ => XS.iload X0.here hx rfl (hb hby at_33) rfl  k_) ?_
      refine own_k (T' := s₁) (g' := (mkF m 37 #[.val (.int p0), .val (.int p1), .val (.int p2), .val (.int p3), .val (.int p4), .val (.int p5), .val (.int (1 : Int32)), .val (.int (0 : Int32)), .unset, .unset, .unset, .unset, .unset, .unset] [(.int p5), (.int p5)])) (fun _ k_ => XS.iload X0.here hx rfl (hb hby at_35) rfl  k_) ?_
      refine own_k (T' := s₁) (g' := (mkF m 39 #[.val (.int p0), .val (.int p1), .val (.int p2), .val (.int p3), .val (.int p4), .val (.int p5), .val (.int (1 : Int32)), .val (.int (0 : Int32)), .unset, .unset, .unset, .unset, .unset, .unset] [(.int (8 : Int32)), (.int p5), (.int p5)])) (fun _ k_ => XS.bipush X0.here hx rfl (hb hby at_37) k_) ?_
      refine own_k (T' := s₁) (g' := (mkF m 40 #[.val (.int p0), .val (.int p1), .val (.int p2), .val (.int p3), .val (.int p4), .val (.int p5), .val (.int (1 : Int32)), .val (.int (0 : Int32)), .unset, .unset, .unset, .unset, .unset, .unset] [(.int ((p5.toUInt32 >>> ((8 : Int32) &&& 31).toUInt32).toInt32)), (.int p5)])) (fun _ k_ => XS.iushr X0.here hx rfl (hb hby at_39) rfl k_) ?_
      refine own_callS X0 hx hZ (y := (⟨"com/example/nepean/nepean/mapping/ColumnSettingsSqlTypePinLaw", "str", "(II)Ljava/lang/String;"⟩ : MethodName)) hown (hw _ (List.mem_of_getElem? (i := 0) rfl)) (hw _ (List.mem_of_getElem? (i := 1) rfl)) (hw _ (List.mem_of_getElem? (i := 2) rfl)) (hw _ (List.mem_of_getElem? (i := 3) rfl)) (by decide) (al := [(.int p5), (.int ((p5.toUInt32 >>> ((8 : Int32) &&& 31).toUInt32).toInt32))]) (rm_str_5 l Z a0 g_COMPACT_STRINGS g_SIOOBE_FORMATTER hW p5 ((p5.toUInt32 >>> ((8 : Int32) &&& 31).toUInt32).toInt32) h0 O0 (own_lat p5) (own_lat ((p5.toUInt32 >>> ((8 : Int32) &&& 31).toUInt32).toInt32))) 0 (by decide) (by decide) e0 (by decide) (by decide) (by rw [hml]; rfl) (lenOf pd__28II_29Ljava_2flang_2fString_3b rfl) rfl (rest := []) (by show 2 * 0 + _ ≤ _; exact Nat.le_of_eq rfl) (hb hby at_40) ?_
      intro v35 T35 L35 X35 hQ35
      obtain ⟨b35_0, b35_1, k35_2, rfl, Nq35, K35, ge35_0, ge35_1, nn35_0, q35_0, q35_1, q35_2, q35_3, q35_4⟩ := hQ35
      have N35 := Fr.app N0 Nq35
      have O35' := O0.keep K35 all0
      show own_Go p e below Φ T35 (mkF m 43 #[.val (.int p0), .val (.int p1), .val (.int p2), .val (.int p3), .val (.int p4), .val (.int p5), .val (.int (1 : Int32)), .val (.int (0 : Int32)), .unset, .unset, .unset, .unset, .unset, .unset] [(.ref b35_0)])
      refine own_k (T' := T35) (g' := (mkF m 47 #[.val (.int p0), .val (.int p1), .val (.int p2), .val (.int p3), .val (.int p4), .val (.int p5), .val (.int (1 : Int32)), .val (.int (0 : Int32)), .unset, .unset, .unset, .unset, .unset, .unset] [(.ref b35_0)])) (fun _ k_ => XS.goto X35.here hx rfl (pc0 := 43) (pc' := 47) rfl (hb hby at_43) (by decide) (by decide) k_) ?_
      refine own_k (T' := T35) (g' := (mkF m 49 #[.val (.int p0), .val (.int p1), .val (.int p2), .val (.int p3), .val (.int p4), .val (.int p5), .val (.int (1 : Int32)), .val (.int (0 : Int32)), .val (.ref b35_0), .unset, .unset, .unset, .unset, .unset] [])) (fun _ k_ => XS.astore X35.here hx rfl (hb hby at_47) rfl rfl (l' := #[.val (.int p0), .val (.int p1), .val (.int p2), .val (.int p3), .val (.int p4), .val (.int p5), .val (.int (1 : Int32)), .val (.int (0 : Int32)), .val (.ref b35_0), .unset, .unset, .unset, .unset, .unset]) rfl k_) ?_
      refine own_k (T' := T35) (g' := (mkF m 51 #[.val (.int p0), .val (.int p1), .val (.int p2), .val (.int p3), .val (.int p4), .val (.int p5), .val (.int (1 : Int32)), .val (.int (0 : Int32)), .val (.ref b35_0), .unset, .unset, .unset, .unset, .unset] [(.int (0 : Int32))])) (fun _ k_ => XS.iload X35.here hx rfl (hb hby at_49) rfl  k_) ?_
      refine own_k (T' := T35) (g' := (mkF m 58 #[.val (.int p0), .val (.int p1), .val (.int p2), .val (.int p3), .val (.int p4), .val (.int p5), .val (.int (1 : Int32)), .val (.int (0 : Int32)), .val (.ref b35_0), .unset, .unset, .unset, .unset, .unset] [])) (fun _ k_ => XS.ifYes X35.here hx rfl (pc0 := 51) (pc' := 58) rfl (hb hby at_51) rfl ((if0 _ _).trans (teq (by decide : ((0 : Int32) = (0 : Int32)))).1) (by decide) (by decide) k_) ?_
      refine own_k (T' := T35) (g' := (mkF m 59 #[.val (.int p0), .val (.int p1), .val (.int p2), .val (.int p3), .val (.int p4), .val (.int p5), .val (.int (1 : Int32)), .val (.int (0 : Int32)), .val (.ref b35_0), .unset, .unset, .unset, .unset, .unset] [(.int p1)])) (fun _ k_ => XS.iloadN X35.here hx rfl (hb hby at_58) rfl  k_) ?_
      refine own_k (T' := T35) (g' := (mkF m 60 #[.val (.int p0), .val (.int p1), .val (.int p2), .val (.int p3), .val (.int p4), .val (.int p5), .val (.int (1 : Int32)), .val (.int (0 : Int32)), .val (.ref b35_0), .unset, .unset, .unset, .unset, .unset] [(.int p2), (.int p1)])) (fun _ k_ => XS.iloadN X35.here hx rfl (hb hby at_59) rfl  k_) ?_
      refine own_callS X35 hx hZ (y := (⟨"com/example/nepean/nepean/mapping/ColumnSettingsSqlTypePinLaw", "str", "(II)Ljava/lang/String;"⟩ : MethodName)) hown (hw _ (List.mem_of_getElem? (i := 0) rfl)) (hw _ (List.mem_of_getElem? (i := 1) rfl)) (hw _ (List.mem_of_getElem? (i := 2) rfl)) (hw _ (List.mem_of_getElem? (i := 3) rfl)) (by decide) (al := [(.int p1), (.int p2)]) (rm_str_5 l Z a0 g_COMPACT_STRINGS g_SIOOBE_FORMATTER hW p1 p2 T35.heap O35' (own_lat p1) (own_lat p2)) 0 (by decide) (by decide) rfl (by decide) (by decide) (by rw [hml]; rfl) (lenOf pd__28II_29Ljava_2flang_2fString_3b rfl) rfl (rest := []) (by show 2 * 0 + _ ≤ _; exact Nat.le_of_eq rfl) (hb hby at_60) ?_
      intro v36 T36 L36 X36 hQ36
      obtain ⟨b36_0, b36_1, k36_2, rfl, Nq36, K36, ge36_0, ge36_1, nn36_0, q36_0, q36_1, q36_2, q36_3, q36_4⟩ := hQ36
      have N36 := Fr.app N35 Nq36
      have O36' := O35'.keep K36 all0
      show own_Go p e below Φ T36 (mkF m 63 #[.val (.int p0), .val (.int p1), .val (.int p2), .val (.int p3), .val (.int p4), .val (.int p5), .val (.int (1 : Int32)), .val (.int (0 : Int32)), .val (.ref b35_0), .unset, .unset, .unset, .unset, .unset] [(.ref b36_0)])
      refine own_k (T' := T36) (g' := (mkF m 65 #[.val (.int p0), .val (.int p1), .val (.int p2), .val (.int p3), .val (.int p4), .val (.int p5), .val (.int (1 : Int32)), .val (.int (0 : Int32)), .val (.ref b35_0), .val (.ref b36_0), .unset, .unset, .unset, .unset] [])) (fun _ k_ => XS.astore X36.here hx rfl (hb hby at_63) rfl rfl (l' := #[.val (.int p0), .val (.int p1), .val (.int p2), .val (.int p3), .val (.int p4), .val (.int p5), .val (.int (1 : Int32)), .val (.int (0 : Int32)), .val (.ref b35_0), .val (.ref b36_0), .unset, .unset, .unset, .unset]) rfl k_) ?_
      refine own_k (T' := T36) (g' := (mkF m 66 #[.val (.int p0), .val (.int p1), .val (.int p2), .val (.int p3), .val (.int p4), .val (.int p5), .val (.int (1 : Int32)), .val (.int (0 : Int32)), .val (.ref b35_0), .val (.ref b36_0), .unset, .unset, .unset, .unset] [(.int p3)])) (fun _ k_ => XS.iloadN X36.here hx rfl (hb hby at_65) rfl  k_) ?_
      refine own_k (T' := T36) (g' := (mkF m 68 #[.val (.int p0), .val (.int p1), .val (.int p2), .val (.int p3), .val (.int p4), .val (.int p5), .val (.int (1 : Int32)), .val (.int (0 : Int32)), .val (.ref b35_0), .val (.ref b36_0), .unset, .unset, .unset, .unset] [(.int p4), (.int p3)])) (fun _ k_ => XS.iload X36.here hx rfl (hb hby at_66) rfl  k_) ?_
      refine own_callS X36 hx hZ (y := (⟨"com/example/nepean/nepean/mapping/ColumnSettingsSqlTypePinLaw", "str", "(II)Ljava/lang/String;"⟩ : MethodName)) hown (hw _ (List.mem_of_getElem? (i := 0) rfl)) (hw _ (List.mem_of_getElem? (i := 1) rfl)) (hw _ (List.mem_of_getElem? (i := 2) rfl)) (hw _ (List.mem_of_getElem? (i := 3) rfl)) (by decide) (al := [(.int p3), (.int p4)]) (rm_str_5 l Z a0 g_COMPACT_STRINGS g_SIOOBE_FORMATTER hW p3 p4 T36.heap O36' (own_lat p3) (own_lat p4)) 0 (by decide) (by decide) rfl (by decide) (by decide) (by rw [hml]; rfl) (lenOf pd__28II_29Ljava_2flang_2fString_3b rfl) rfl (rest := []) (by show 2 * 0 + _ ≤ _; exact Nat.le_of_eq rfl) (hb hby at_68) ?_
      intro v37 T37 L37 X37 hQ37
      obtain ⟨b37_0, b37_1, k37_2, rfl, Nq37, K37, ge37_0, ge37_1, nn37_0, q37_0, q37_1, q37_2, q37_3, q37_4⟩ := hQ37
      have N37 := Fr.app N36 Nq37
      have O37' := O36'.keep K37 all0
      show own_Go p e below Φ T37 (mkF m 71 #[.val (.int p0), .val (.int p1), .val (.int p2), .val (.int p3), .val (.int p4), .val (.int p5), .val (.int (1 : Int32)), .val (.int (0 : Int32)), .val (.ref b35_0), .val (.ref b36_0), .unset, .unset, .unset, .unset] [(.ref b37_0)])
      refine own_k (T' := T37) (g' := (mkF m 73 #[.val (.int p0), .val (.int p1), .val (.int p2), .val (.int p3), .val (.int p4), .val (.int p5), .val (.int (1 : Int32)), .val (.int (0 : Int32)), .val (.ref b35_0), .val (.ref b36_0), .val (.ref b37_0), .unset, .unset, .unset] [])) (fun _ k_ => XS.astore X37.here hx rfl (hb hby at_71) rfl rfl (l' := #[.val (.int p0), .val (.int p1), .val (.int p2), .val (.int p3), .val (.int p4), .val (.int p5), .val (.int (1 : Int32)), .val (.int (0 : Int32)), .val (.ref b35_0), .val (.ref b36_0), .val (.ref b37_0), .unset, .unset, .unset]) rfl k_) ?_
      obtain ⟨T38, h38, X38, e38, E38, A38, D38, -, st38⟩ := newO X37 hx hZ hown (hw _ (List.mem_of_getElem? (i := 34) rfl)) (hw _ (List.mem_of_getElem? (i := 35) rfl)) (hw _ (List.mem_of_getElem? (i := 36) rfl)) rfl (g := (mkF m 73 #[.val (.int p0), .val (.int p1), .val (.int p2), .val (.int p3), .val (.int p4), .val (.int p5), .val (.int (1 : Int32)), .val (.int (0 : Int32)), .val (.ref b35_0), .val (.ref b36_0), .val (.ref b37_0), .unset, .unset, .unset] [])) rfl (hb hby at_73) (by decide) (by decide)
      obtain ⟨b38, g38⟩ : ∃ z, z = T37.heap.size := ⟨_, rfl⟩
      rw [← g38] at A38 D38 st38
      have O38' := O37'.ext E38
      have F38_nullable : Fld Z h38 b38 "com/example/nepean/nepean/mapping/ColumnSettings" "nullable" "Z" (.int (0 : Int32)) := D38 (Or.inr (hw _ (List.mem_of_getElem? (i := 47) rfl))) (ty := .boolean) (by decide)
      have F38_unique : Fld Z h38 b38 "com/example/nepean/nepean/mapping/ColumnSettings" "unique" "Z" (.int (0 : Int32)) := D38 (Or.inr (hw _ (List.mem_of_getElem? (i := 49) rfl))) (ty := .boolean) (by decide)
      have F38_insertable : Fld Z h38 b38 "com/example/nepean/nepean/mapping/ColumnSettings" "insertable" "Z" (.int (0 : Int32)) := D38 (Or.inr (hw _ (List.mem_of_getElem? (i := 51) rfl))) (ty := .boolean) (by decide)
      have F38_updatable : Fld Z h38 b38 "com/example/nepean/nepean/mapping/ColumnSettings" "updatable" "Z" (.int (0 : Int32)) := D38 (Or.inr (hw _ (List.mem_of_getElem? (i := 53) rfl))) (ty := .boolean) (by decide)
      have F38_definition : Fld Z h38 b38 "com/example/nepean/nepean/mapping/ColumnSettings" "definition" "Ljava/lang/String;" .null := D38 (Or.inr (hw _ (List.mem_of_getElem? (i := 55) rfl))) (ty := (.object "java/lang/String")) (by decide)
      refine own_k (T' := T38) (g' := (mkF m 76 #[.val (.int p0), .val (.int p1), .val (.int p2), .val (.int p3), .val (.int p4), .val (.int p5), .val (.int (1 : Int32)), .val (.int (0 : Int32)), .val (.ref b35_0), .val (.ref b36_0), .val (.ref b37_0), .unset, .unset, .unset] [(.ref b38)])) st38 ?_
      refine own_k (T' := T38) (g' := (mkF m 77 #[.val (.int p0), .val (.int p1), .val (.int p2), .val (.int p3), .val (.int p4), .val (.int p5), .val (.int (1 : Int32)), .val (.int (0 : Int32)), .val (.ref b35_0), .val (.ref b36_0), .val (.ref b37_0), .unset, .unset, .unset] [(.ref b38), (.ref b38)])) (fun _ k_ => XS.dup X38.here hx rfl (hb hby at_76) rfl rfl k_) ?_
      suffices hj39 : ∀ z77 : Int32, own_Go p e below Φ T38 (mkF m 88 #[.val (.int p0), .val (.int p1), .val (.int p2), .val (.int p3), .val (.int p4), .val (.int p5), .val (.int (1 : Int32)), .val (.int (0 : Int32)), .val (.ref b35_0), .val (.ref b36_0), .val (.ref b37_0), .unset, .unset, .unset] [(.int z77), (.ref b38), (.ref b38)]) by
        refine own_k (T' := T38) (g' := (mkF m 78 #[.val (.int p0), .val (.int p1), .val (.int p2), .val (.int p3), .val (.int p4), .val (.int p5), .val (.int (1 : Int32)), .val (.int (0 : Int32)), .val (.ref b35_0), .val (.ref b36_0), .val (.ref b37_0), .unset, .unset, .unset] [(.int p0), (.ref b38), (.ref b38)])) (fun _ k_ => XS.iloadN X38.here hx rfl (hb hby at_77) rfl  k_) ?_
        refine own_k (T' := T38) (g' := (mkF m 79 #[.val (.int p0), .val (.int p1), .val (.int p2), .val (.int p3), .val (.int p4), .val (.int p5), .val (.int (1 : Int32)), .val (.int (0 : Int32)), .val (.ref b35_0), .val (.ref b36_0), .val (.ref b37_0), .unset, .unset, .unset] [(.int (1 : Int32)), (.int p0), (.ref b38), (.ref b38)])) (fun _ k_ => XS.iconst X38.here hx rfl (hb hby at_78) k_) ?_
        refine own_k (T' := T38) (g' := (mkF m 80 #[.val (.int p0), .val (.int p1), .val (.int p2), .val (.int p3), .val (.int p4), .val (.int p5), .val (.int (1 : Int32)), .val (.int (0 : Int32)), .val (.ref b35_0), .val (.ref b36_0), .val (.ref b37_0), .unset, .unset, .unset] [(.int (p0 &&& (1 : Int32))), (.ref b38), (.ref b38)])) (fun _ k_ => XS.iand X38.here hx rfl (hb hby at_79) rfl k_) ?_
        by_cases hc40 : (p0 &&& (1 : Int32)) = (0 : Int32)
        · refine own_k (T' := T38) (g' := (mkF m 87 #[.val (.int p0), .val (.int p1), .val (.int p2), .val (.int p3), .val (.int p4), .val (.int p5), .val (.int (1 : Int32)), .val (.int (0 : Int32)), .val (.ref b35_0), .val (.ref b36_0), .val (.ref b37_0), .unset, .unset, .unset] [(.ref b38), (.ref b38)])) (fun _ k_ => XS.ifYes X38.here hx rfl (pc0 := 80) (pc' := 87) rfl (hb hby at_80) rfl ((if0 _ _).trans (teq hc40).1) (by decide) (by decide) k_) ?_
          refine own_k (T' := T38) (g' := (mkF m 88 #[.val (.int p0), .val (.int p1), .val (.int p2), .val (.int p3), .val (.int p4), .val (.int p5), .val (.int (1 : Int32)), .val (.int (0 : Int32)), .val (.ref b35_0), .val (.ref b36_0), .val (.ref b37_0), .unset, .unset, .unset] [(.int (0 : Int32)), (.ref b38), (.ref b38)])) (fun _ k_ => XS.iconst X38.here hx rfl (hb hby at_87) k_) ?_
          exact hj39 _
        · refine own_k (T' := T38) (g' := (mkF m 83 #[.val (.int p0), .val (.int p1), .val (.int p2), .val (.int p3), .val (.int p4), .val (.int p5), .val (.int (1 : Int32)), .val (.int (0 : Int32)), .val (.ref b35_0), .val (.ref b36_0), .val (.ref b37_0), .unset, .unset, .unset] [(.ref b38), (.ref b38)])) (fun _ k_ => XS.ifNo X38.here hx rfl (hb hby at_80) rfl ((if0 _ _).trans (feq hc40).1) k_) ?_
          refine own_k (T' := T38) (g' := (mkF m 84 #[.val (.int p0), .val (.int p1), .val (.int p2), .val (.int p3), .val (.int p4), .val (.int p5), .val (.int (1 : Int32)), .val (.int (0 : Int32)), .val (.ref b35_0), .val (.ref b36_0), .val (.ref b37_0), .unset, .unset, .unset] [(.int (1 : Int32)), (.ref b38), (.ref b38)])) (fun _ k_ => XS.iconst X38.here hx rfl (hb hby at_83) k_) ?_
          refine own_k (T' := T38) (g' := (mkF m 88 #[.val (.int p0), .val (.int p1), .val (.int p2), .val (.int p3), .val (.int p4), .val (.int p5), .val (.int (1 : Int32)), .val (.int (0 : Int32)), .val (.ref b35_0), .val (.ref b36_0), .val (.ref b37_0), .unset, .unset, .unset] [(.int (1 : Int32)), (.ref b38), (.ref b38)])) (fun _ k_ => XS.goto X38.here hx rfl (pc0 := 84) (pc' := 88) rfl (hb hby at_84) (by decide) (by decide) k_) ?_
          exact hj39 _
      intro z77
      suffices hj41 : ∀ z88 : Int32, own_Go p e below Φ T38 (mkF m 99 #[.val (.int p0), .val (.int p1), .val (.int p2), .val (.int p3), .val (.int p4), .val (.int p5), .val (.int (1 : Int32)), .val (.int (0 : Int32)), .val (.ref b35_0), .val (.ref b36_0), .val (.ref b37_0), .unset, .unset, .unset] [(.int z88), (.int z77), (.ref b38), (.ref b38)]) by
        refine own_k (T' := T38) (g' := (mkF m 89 #[.val (.int p0), .val (.int p1), .val (.int p2), .val (.int p3), .val (.int p4), .val (.int p5), .val (.int (1 : Int32)), .val (.int (0 : Int32)), .val (.ref b35_0), .val (.ref b36_0), .val (.ref b37_0), .unset, .unset, .unset] [(.int p0), (.int z77), (.ref b38), (.ref b38)])) (fun _ k_ => XS.iloadN X38.here hx rfl (hb hby at_88) rfl  k_) ?_
        refine own_k (T' := T38) (g' := (mkF m 90 #[.val (.int p0), .val (.int p1), .val (.int p2), .val (.int p3), .val (.int p4), .val (.int p5), .val (.int (1 : Int32)), .val (.int (0 : Int32)), .val (.ref b35_0), .val (.ref b36_0), .val (.ref b37_0), .unset, .unset, .unset] [(.int (2 : Int32)), (.int p0), (.int z77), (.ref b38), (.ref b38)])) (fun _ k_ => XS.iconst X38.here hx rfl (hb hby at_89) k_) ?_
        refine own_k (T' := T38) (g' := (mkF m 91 #[.val (.int p0), .val (.int p1), .val (.int p2), .val (.int p3), .val (.int p4), .val (.int p5), .val (.int (1 : Int32)), .val (.int (0 : Int32)), .val (.ref b35_0), .val (.ref b36_0), .val (.ref b37_0), .unset, .unset, .unset] [(.int (p0 &&& (2 : Int32))), (.int z77), (.ref b38), (.ref b38)])) (fun _ k_ => XS.iand X38.here hx rfl (hb hby at_90) rfl k_) ?_
        by_cases hc42 : (p0 &&& (2 : Int32)) = (0 : Int32)
        · refine own_k (T' := T38) (g' := (mkF m 98 #[.val (.int p0), .val (.int p1), .val (.int p2), .val (.int p3), .val (.int p4), .val (.int p5), .val (.int (1 : Int32)), .val (.int (0 : Int32)), .val (.ref b35_0), .val (.ref b36_0), .val (.ref b37_0), .unset, .unset, .unset] [(.int z77), (.ref b38), (.ref b38)])) (fun _ k_ => XS.ifYes X38.here hx rfl (pc0 := 91) (pc' := 98) rfl (hb hby at_91) rfl ((if0 _ _).trans (teq hc42).1) (by decide) (by decide) k_) ?_
          refine own_k (T' := T38) (g' := (mkF m 99 #[.val (.int p0), .val (.int p1), .val (.int p2), .val (.int p3), .val (.int p4), .val (.int p5), .val (.int (1 : Int32)), .val (.int (0 : Int32)), .val (.ref b35_0), .val (.ref b36_0), .val (.ref b37_0), .unset, .unset, .unset] [(.int (0 : Int32)), (.int z77), (.ref b38), (.ref b38)])) (fun _ k_ => XS.iconst X38.here hx rfl (hb hby at_98) k_) ?_
          exact hj41 _
        · refine own_k (T' := T38) (g' := (mkF m 94 #[.val (.int p0), .val (.int p1), .val (.int p2), .val (.int p3), .val (.int p4), .val (.int p5), .val (.int (1 : Int32)), .val (.int (0 : Int32)), .val (.ref b35_0), .val (.ref b36_0), .val (.ref b37_0), .unset, .unset, .unset] [(.int z77), (.ref b38), (.ref b38)])) (fun _ k_ => XS.ifNo X38.here hx rfl (hb hby at_91) rfl ((if0 _ _).trans (feq hc42).1) k_) ?_
          refine own_k (T' := T38) (g' := (mkF m 95 #[.val (.int p0), .val (.int p1), .val (.int p2), .val (.int p3), .val (.int p4), .val (.int p5), .val (.int (1 : Int32)), .val (.int (0 : Int32)), .val (.ref b35_0), .val (.ref b36_0), .val (.ref b37_0), .unset, .unset, .unset] [(.int (1 : Int32)), (.int z77), (.ref b38), (.ref b38)])) (fun _ k_ => XS.iconst X38.here hx rfl (hb hby at_94) k_) ?_
          refine own_k (T' := T38) (g' := (mkF m 99 #[.val (.int p0), .val (.int p1), .val (.int p2), .val (.int p3), .val (.int p4), .val (.int p5), .val (.int (1 : Int32)), .val (.int (0 : Int32)), .val (.ref b35_0), .val (.ref b36_0), .val (.ref b37_0), .unset, .unset, .unset] [(.int (1 : Int32)), (.int z77), (.ref b38), (.ref b38)])) (fun _ k_ => XS.goto X38.here hx rfl (pc0 := 95) (pc' := 99) rfl (hb hby at_95) (by decide) (by decide) k_) ?_
          exact hj41 _
      intro z88
      suffices hj43 : ∀ z99 : Int32, own_Go p e below Φ T38 (mkF m 110 #[.val (.int p0), .val (.int p1), .val (.int p2), .val (.int p3), .val (.int p4), .val (.int p5), .val (.int (1 : Int32)), .val (.int (0 : Int32)), .val (.ref b35_0), .val (.ref b36_0), .val (.ref b37_0), .unset, .unset, .unset] [(.int z99), (.int z88), (.int z77), (.ref b38), (.ref b38)]) by
        refine own_k (T' := T38) (g' := (mkF m 100 #[.val (.int p0), .val (.int p1), .val (.int p2), .val (.int p3), .val (.int p4), .val (.int p5), .val (.int (1 : Int32)), .val (.int (0 : Int32)), .val (.ref b35_0), .val (.ref b36_0), .val (.ref b37_0), .unset, .unset, .unset] [(.int p0), (.int z88), (.int z77), (.ref b38), (.ref b38)])) (fun _ k_ => XS.iloadN X38.here hx rfl (hb hby at_99) rfl  k_) ?_
        refine own_k (T' := T38) (g' := (mkF m 101 #[.val (.int p0), .val (.int p1), .val (.int p2), .val (.int p3), .val (.int p4), .val (.int p5), .val (.int (1 : Int32)), .val (.int (0 : Int32)), .val (.ref b35_0), .val (.ref b36_0), .val (.ref b37_0), .unset, .unset, .unset] [(.int (4 : Int32)), (.int p0), (.int z88), (.int z77), (.ref b38), (.ref b38)])) (fun _ k_ => XS.iconst X38.here hx rfl (hb hby at_100) k_) ?_
        refine own_k (T' := T38) (g' := (mkF m 102 #[.val (.int p0), .val (.int p1), .val (.int p2), .val (.int p3), .val (.int p4), .val (.int p5), .val (.int (1 : Int32)), .val (.int (0 : Int32)), .val (.ref b35_0), .val (.ref b36_0), .val (.ref b37_0), .unset, .unset, .unset] [(.int (p0 &&& (4 : Int32))), (.int z88), (.int z77), (.ref b38), (.ref b38)])) (fun _ k_ => XS.iand X38.here hx rfl (hb hby at_101) rfl k_) ?_
        by_cases hc44 : (p0 &&& (4 : Int32)) = (0 : Int32)
        · refine own_k (T' := T38) (g' := (mkF m 109 #[.val (.int p0), .val (.int p1), .val (.int p2), .val (.int p3), .val (.int p4), .val (.int p5), .val (.int (1 : Int32)), .val (.int (0 : Int32)), .val (.ref b35_0), .val (.ref b36_0), .val (.ref b37_0), .unset, .unset, .unset] [(.int z88), (.int z77), (.ref b38), (.ref b38)])) (fun _ k_ => XS.ifYes X38.here hx rfl (pc0 := 102) (pc' := 109) rfl (hb hby at_102) rfl ((if0 _ _).trans (teq hc44).1) (by decide) (by decide) k_) ?_
          refine own_k (T' := T38) (g' := (mkF m 110 #[.val (.int p0), .val (.int p1), .val (.int p2), .val (.int p3), .val (.int p4), .val (.int p5), .val (.int (1 : Int32)), .val (.int (0 : Int32)), .val (.ref b35_0), .val (.ref b36_0), .val (.ref b37_0), .unset, .unset, .unset] [(.int (0 : Int32)), (.int z88), (.int z77), (.ref b38), (.ref b38)])) (fun _ k_ => XS.iconst X38.here hx rfl (hb hby at_109) k_) ?_
          exact hj43 _
        · refine own_k (T' := T38) (g' := (mkF m 105 #[.val (.int p0), .val (.int p1), .val (.int p2), .val (.int p3), .val (.int p4), .val (.int p5), .val (.int (1 : Int32)), .val (.int (0 : Int32)), .val (.ref b35_0), .val (.ref b36_0), .val (.ref b37_0), .unset, .unset, .unset] [(.int z88), (.int z77), (.ref b38), (.ref b38)])) (fun _ k_ => XS.ifNo X38.here hx rfl (hb hby at_102) rfl ((if0 _ _).trans (feq hc44).1) k_) ?_
          refine own_k (T' := T38) (g' := (mkF m 106 #[.val (.int p0), .val (.int p1), .val (.int p2), .val (.int p3), .val (.int p4), .val (.int p5), .val (.int (1 : Int32)), .val (.int (0 : Int32)), .val (.ref b35_0), .val (.ref b36_0), .val (.ref b37_0), .unset, .unset, .unset] [(.int (1 : Int32)), (.int z88), (.int z77), (.ref b38), (.ref b38)])) (fun _ k_ => XS.iconst X38.here hx rfl (hb hby at_105) k_) ?_
          refine own_k (T' := T38) (g' := (mkF m 110 #[.val (.int p0), .val (.int p1), .val (.int p2), .val (.int p3), .val (.int p4), .val (.int p5), .val (.int (1 : Int32)), .val (.int (0 : Int32)), .val (.ref b35_0), .val (.ref b36_0), .val (.ref b37_0), .unset, .unset, .unset] [(.int (1 : Int32)), (.int z88), (.int z77), (.ref b38), (.ref b38)])) (fun _ k_ => XS.goto X38.here hx rfl (pc0 := 106) (pc' := 110) rfl (hb hby at_106) (by decide) (by decide) k_) ?_
          exact hj43 _
      intro z99
      suffices hj45 : ∀ z110 : Int32, own_Go p e below Φ T38 (mkF m 122 #[.val (.int p0), .val (.int p1), .val (.int p2), .val (.int p3), .val (.int p4), .val (.int p5), .val (.int (1 : Int32)), .val (.int (0 : Int32)), .val (.ref b35_0), .val (.ref b36_0), .val (.ref b37_0), .unset, .unset, .unset] [(.int z110), (.int z99), (.int z88), (.int z77), (.ref b38), (.ref b38)]) by
        refine own_k (T' := T38) (g' := (mkF m 111 #[.val (.int p0), .val (.int p1), .val (.int p2), .val (.int p3), .val (.int p4), .val (.int p5), .val (.int (1 : Int32)), .val (.int (0 : Int32)), .val (.ref b35_0), .val (.ref b36_0), .val (.ref b37_0), .unset, .unset, .unset] [(.int p0), (.int z99), (.int z88), (.int z77), (.ref b38), (.ref b38)])) (fun _ k_ => XS.iloadN X38.here hx rfl (hb hby at_110) rfl  k_) ?_
        refine own_k (T' := T38) (g' := (mkF m 113 #[.val (.int p0), .val (.int p1), .val (.int p2), .val (.int p3), .val (.int p4), .val (.int p5), .val (.int (1 : Int32)), .val (.int (0 : Int32)), .val (.ref b35_0), .val (.ref b36_0), .val (.ref b37_0), .unset, .unset, .unset] [(.int (8 : Int32)), (.int p0), (.int z99), (.int z88), (.int z77), (.ref b38), (.ref b38)])) (fun _ k_ => XS.bipush X38.here hx rfl (hb hby at_111) k_) ?_
        refine own_k (T' := T38) (g' := (mkF m 114 #[.val (.int p0), .val (.int p1), .val (.int p2), .val (.int p3), .val (.int p4), .val (.int p5), .val (.int (1 : Int32)), .val (.int (0 : Int32)), .val (.ref b35_0), .val (.ref b36_0), .val (.ref b37_0), .unset, .unset, .unset] [(.int (p0 &&& (8 : Int32))), (.int z99), (.int z88), (.int z77), (.ref b38), (.ref b38)])) (fun _ k_ => XS.iand X38.here hx rfl (hb hby at_113) rfl k_) ?_
        by_cases hc46 : (p0 &&& (8 : Int32)) = (0 : Int32)
        · refine own_k (T' := T38) (g' := (mkF m 121 #[.val (.int p0), .val (.int p1), .val (.int p2), .val (.int p3), .val (.int p4), .val (.int p5), .val (.int (1 : Int32)), .val (.int (0 : Int32)), .val (.ref b35_0), .val (.ref b36_0), .val (.ref b37_0), .unset, .unset, .unset] [(.int z99), (.int z88), (.int z77), (.ref b38), (.ref b38)])) (fun _ k_ => XS.ifYes X38.here hx rfl (pc0 := 114) (pc' := 121) rfl (hb hby at_114) rfl ((if0 _ _).trans (teq hc46).1) (by decide) (by decide) k_) ?_
          refine own_k (T' := T38) (g' := (mkF m 122 #[.val (.int p0), .val (.int p1), .val (.int p2), .val (.int p3), .val (.int p4), .val (.int p5), .val (.int (1 : Int32)), .val (.int (0 : Int32)), .val (.ref b35_0), .val (.ref b36_0), .val (.ref b37_0), .unset, .unset, .unset] [(.int (0 : Int32)), (.int z99), (.int z88), (.int z77), (.ref b38), (.ref b38)])) (fun _ k_ => XS.iconst X38.here hx rfl (hb hby at_121) k_) ?_
          exact hj45 _
        · refine own_k (T' := T38) (g' := (mkF m 117 #[.val (.int p0), .val (.int p1), .val (.int p2), .val (.int p3), .val (.int p4), .val (.int p5), .val (.int (1 : Int32)), .val (.int (0 : Int32)), .val (.ref b35_0), .val (.ref b36_0), .val (.ref b37_0), .unset, .unset, .unset] [(.int z99), (.int z88), (.int z77), (.ref b38), (.ref b38)])) (fun _ k_ => XS.ifNo X38.here hx rfl (hb hby at_114) rfl ((if0 _ _).trans (feq hc46).1) k_) ?_
          refine own_k (T' := T38) (g' := (mkF m 118 #[.val (.int p0), .val (.int p1), .val (.int p2), .val (.int p3), .val (.int p4), .val (.int p5), .val (.int (1 : Int32)), .val (.int (0 : Int32)), .val (.ref b35_0), .val (.ref b36_0), .val (.ref b37_0), .unset, .unset, .unset] [(.int (1 : Int32)), (.int z99), (.int z88), (.int z77), (.ref b38), (.ref b38)])) (fun _ k_ => XS.iconst X38.here hx rfl (hb hby at_117) k_) ?_
          refine own_k (T' := T38) (g' := (mkF m 122 #[.val (.int p0), .val (.int p1), .val (.int p2), .val (.int p3), .val (.int p4), .val (.int p5), .val (.int (1 : Int32)), .val (.int (0 : Int32)), .val (.ref b35_0), .val (.ref b36_0), .val (.ref b37_0), .unset, .unset, .unset] [(.int (1 : Int32)), (.int z99), (.int z88), (.int z77), (.ref b38), (.ref b38)])) (fun _ k_ => XS.goto X38.here hx rfl (pc0 := 118) (pc' := 122) rfl (hb hby at_118) (by decide) (by decide) k_) ?_
          exact hj45 _
      intro z110
      refine own_k (T' := T38) (g' := (mkF m 124 #[.val (.int p0), .val (.int p1), .val (.int p2), .val (.int p3), .val (.int p4), .val (.int p5), .val (.int (1 : Int32)), .val (.int (0 : Int32)), .val (.ref b35_0), .val (.ref b36_0), .val (.ref b37_0), .unset, .unset, .unset] [(.ref b35_0), (.int z110), (.int z99), (.int z88), (.int z77), (.ref b38), (.ref b38)])) (fun _ k_ => XS.aload X38.here hx rfl (hb hby at_122) rfl rfl  k_) ?_
      refine own_callN X38 hx hZ (y := (⟨"com/example/nepean/nepean/mapping/ColumnSettings", "<init>", "(ZZZZLjava/lang/String;)V"⟩ : MethodName)) rfl hown (hw _ (List.mem_of_getElem? (i := 37) rfl)) (hw _ (List.mem_of_getElem? (i := 38) rfl)) (hw _ (List.mem_of_getElem? (i := 39) rfl)) (hw _ (List.mem_of_getElem? (i := 36) rfl)) (by decide) (al := [(.int z77), (.int z88), (.int z99), (.int z110), (.ref b35_0)]) (b := b38) (rm_init_13 l Z a0 g_COMPACT_STRINGS g_SIOOBE_FORMATTER hW b38 z77 z88 z99 z110 b35_0 h38 O38' F38_nullable A38 (Nat.le_trans O37'.2.1 (Nat.le_of_eq g38.symm)) F38_unique F38_insertable F38_updatable F38_definition) 1 (by decide) (by decide) e38 (by decide) (by decide) (by rw [hml]; rfl) (lenOf pd__28ZZZZLjava_2flang_2fString_3b_29V rfl) rfl (rest := [(.ref b38)]) (by show 2 * 0 + _ ≤ _; exact Nat.le_of_eq rfl) (hb hby at_124) ?_
      intro v47 T47 L47 X47 hQ47
      obtain ⟨rfl, Nq47, K47, q47_0, q47_1, q47_2, q47_3, q47_4, q47_5⟩ := hQ47
      have N47 := Fr.app N37 Nq47
      have O47' := O38'.keep K47 (allS (Nat.le_trans O37'.2.1 (Nat.le_of_eq g38.symm)) all0)
      show own_Go p e below Φ T47 (mkF m 127 #[.val (.int p0), .val (.int p1), .val (.int p2), .val (.int p3), .val (.int p4), .val (.int p5), .val (.int (1 : Int32)), .val (.int (0 : Int32)), .val (.ref b35_0), .val (.ref b36_0), .val (.ref b37_0), .unset, .unset, .unset] [(.ref b38)])
      refine own_k (T' := T47) (g' := (mkF m 129 #[.val (.int p0), .val (.int p1), .val (.int p2), .val (.int p3), .val (.int p4), .val (.int p5), .val (.int (1 : Int32)), .val (.int (0 : Int32)), .val (.ref b35_0), .val (.ref b36_0), .val (.ref b37_0), .val (.ref b38), .unset, .unset] [])) (fun _ k_ => XS.astore X47.here hx rfl (hb hby at_127) rfl rfl (l' := #[.val (.int p0), .val (.int p1), .val (.int p2), .val (.int p3), .val (.int p4), .val (.int p5), .val (.int (1 : Int32)), .val (.int (0 : Int32)), .val (.ref b35_0), .val (.ref b36_0), .val (.ref b37_0), .val (.ref b38), .unset, .unset]) rfl k_) ?_
      refine own_k (T' := T47) (g' := (mkF m 131 #[.val (.int p0), .val (.int p1), .val (.int p2), .val (.int p3), .val (.int p4), .val (.int p5), .val (.int (1 : Int32)), .val (.int (0 : Int32)), .val (.ref b35_0), .val (.ref b36_0), .val (.ref b37_0), .val (.ref b38), .unset, .unset] [(.ref b38)])) (fun _ k_ => XS.aload X47.here hx rfl (hb hby at_129) rfl rfl  k_) ?_
      refine own_k (T' := T47) (g' := (mkF m 133 #[.val (.int p0), .val (.int p1), .val (.int p2), .val (.int p3), .val (.int p4), .val (.int p5), .val (.int (1 : Int32)), .val (.int (0 : Int32)), .val (.ref b35_0), .val (.ref b36_0), .val (.ref b37_0), .val (.ref b38), .unset, .unset] [(.ref b36_0), (.ref b38)])) (fun _ k_ => XS.aload X47.here hx rfl (hb hby at_131) rfl rfl  k_) ?_
      refine own_callV X47 hx hZ (C := "com/example/nepean/nepean/mapping/ColumnSettings") (y := (⟨"com/example/nepean/nepean/mapping/ColumnSettings", "sqlType", "(Ljava/lang/String;)Ljava/lang/String;"⟩ : MethodName)) (z := (⟨"com/example/nepean/nepean/mapping/ColumnSettings", "sqlType", "(Ljava/lang/String;)Ljava/lang/String;"⟩ : MethodName)) hown (hw _ (List.mem_of_getElem? (i := 56) rfl)) (hw _ (List.mem_of_getElem? (i := 57) rfl)) (notFace_of_selects (args := #[]) (mvT hZ (hw _ (List.mem_of_getElem? (i := 59) rfl)))) (hw _ (List.mem_of_getElem? (i := 59) rfl)) (hw _ (List.mem_of_getElem? (i := 58) rfl)) (hw _ (List.mem_of_getElem? (i := 60) rfl)) (hw _ (List.mem_of_getElem? (i := 36) rfl)) (by decide) (al := [(.ref b36_0)]) q47_0 (rm_sqlType_14 l Z a0 g_COMPACT_STRINGS g_SIOOBE_FORMATTER hW b38 b36_0 b35_0 T47.heap O47' q47_5) 0 (by decide) (by decide) rfl (by decide) (by decide) (by rw [hml]; rfl) (lenOf pd__28Ljava_2flang_2fString_3b_29Ljava_2flang_2fString_3b rfl) rfl (rest := []) (by show 2 * 0 + _ ≤ _; exact Nat.le_of_eq rfl) (hb hby at_133) ?_
      intro v48 T48 L48 X48 hQ48
      obtain ⟨rfl, Nq48, e48⟩ := hQ48
      have N48 := Fr.app N47 Nq48
      show own_Go p e below Φ T48 (mkF m 136 #[.val (.int p0), .val (.int p1), .val (.int p2), .val (.int p3), .val (.int p4), .val (.int p5), .val (.int (1 : Int32)), .val (.int (0 : Int32)), .val (.ref b35_0), .val (.ref b36_0), .val (.ref b37_0), .val (.ref b38), .unset, .unset] [(.ref b35_0)])
      refine own_k (T' := T48) (g' := (mkF m 138 #[.val (.int p0), .val (.int p1), .val (.int p2), .val (.int p3), .val (.int p4), .val (.int p5), .val (.int (1 : Int32)), .val (.int (0 : Int32)), .val (.ref b35_0), .val (.ref b36_0), .val (.ref b37_0), .val (.ref b38), .val (.ref b35_0), .unset] [])) (fun _ k_ => XS.astore X48.here hx rfl (hb hby at_136) rfl rfl (l' := #[.val (.int p0), .val (.int p1), .val (.int p2), .val (.int p3), .val (.int p4), .val (.int p5), .val (.int (1 : Int32)), .val (.int (0 : Int32)), .val (.ref b35_0), .val (.ref b36_0), .val (.ref b37_0), .val (.ref b38), .val (.ref b35_0), .unset]) rfl k_) ?_
      refine own_k (T' := T48) (g' := (mkF m 140 #[.val (.int p0), .val (.int p1), .val (.int p2), .val (.int p3), .val (.int p4), .val (.int p5), .val (.int (1 : Int32)), .val (.int (0 : Int32)), .val (.ref b35_0), .val (.ref b36_0), .val (.ref b37_0), .val (.ref b38), .val (.ref b35_0), .unset] [(.ref b38)])) (fun _ k_ => XS.aload X48.here hx rfl (hb hby at_138) rfl rfl  k_) ?_
      refine own_k (T' := T48) (g' := (mkF m 142 #[.val (.int p0), .val (.int p1), .val (.int p2), .val (.int p3), .val (.int p4), .val (.int p5), .val (.int (1 : Int32)), .val (.int (0 : Int32)), .val (.ref b35_0), .val (.ref b36_0), .val (.ref b37_0), .val (.ref b38), .val (.ref b35_0), .unset] [(.ref b37_0), (.ref b38)])) (fun _ k_ => XS.aload X48.here hx rfl (hb hby at_140) rfl rfl  k_) ?_
      refine own_callV X48 hx hZ (C := "com/example/nepean/nepean/mapping/ColumnSettings") (y := (⟨"com/example/nepean/nepean/mapping/ColumnSettings", "sqlType", "(Ljava/lang/String;)Ljava/lang/String;"⟩ : MethodName)) (z := (⟨"com/example/nepean/nepean/mapping/ColumnSettings", "sqlType", "(Ljava/lang/String;)Ljava/lang/String;"⟩ : MethodName)) hown (hw _ (List.mem_of_getElem? (i := 56) rfl)) (hw _ (List.mem_of_getElem? (i := 57) rfl)) (notFace_of_selects (args := #[]) (mvT hZ (hw _ (List.mem_of_getElem? (i := 59) rfl)))) (hw _ (List.mem_of_getElem? (i := 59) rfl)) (hw _ (List.mem_of_getElem? (i := 58) rfl)) (hw _ (List.mem_of_getElem? (i := 60) rfl)) (hw _ (List.mem_of_getElem? (i := 36) rfl)) (by decide) (al := [(.ref b37_0)]) q47_0 (rm_sqlType_14 l Z a0 g_COMPACT_STRINGS g_SIOOBE_FORMATTER hW b38 b37_0 b35_0 T47.heap O47' q47_5) 0 (by decide) (by decide) e48 (by decide) (by decide) (by rw [hml]; rfl) (lenOf pd__28Ljava_2flang_2fString_3b_29Ljava_2flang_2fString_3b rfl) rfl (rest := []) (by show 2 * 0 + _ ≤ _; exact Nat.le_of_eq rfl) (hb hby at_142) ?_
      intro v49 T49 L49 X49 hQ49
      obtain ⟨rfl, Nq49, e49⟩ := hQ49
      have N49 := Fr.app N48 Nq49
      show own_Go p e below Φ T49 (mkF m 145 #[.val (.int p0), .val (.int p1), .val (.int p2), .val (.int p3), .val (.int p4), .val (.int p5), .val (.int (1 : Int32)), .val (.int (0 : Int32)), .val (.ref b35_0), .val (.ref b36_0), .val (.ref b37_0), .val (.ref b38), .val (.ref b35_0), .unset] [(.ref b35_0)])
      refine own_k (T' := T49) (g' := (mkF m 147 #[.val (.int p0), .val (.int p1), .val (.int p2), .val (.int p3), .val (.int p4), .val (.int p5), .val (.int (1 : Int32)), .val (.int (0 : Int32)), .val (.ref b35_0), .val (.ref b36_0), .val (.ref b37_0), .val (.ref b38), .val (.ref b35_0), .val (.ref b35_0)] [])) (fun _ k_ => XS.astore X49.here hx rfl (hb hby at_145) rfl rfl (l' := #[.val (.int p0), .val (.int p1), .val (.int p2), .val (.int p3), .val (.int p4), .val (.int p5), .val (.int (1 : Int32)), .val (.int (0 : Int32)), .val (.ref b35_0), .val (.ref b36_0), .val (.ref b37_0), .val (.ref b38), .val (.ref b35_0), .val (.ref b35_0)]) rfl k_) ?_
      refine own_k (T' := T49) (g' := (mkF m 149 #[.val (.int p0), .val (.int p1), .val (.int p2), .val (.int p3), .val (.int p4), .val (.int p5), .val (.int (1 : Int32)), .val (.int (0 : Int32)), .val (.ref b35_0), .val (.ref b36_0), .val (.ref b37_0), .val (.ref b38), .val (.ref b35_0), .val (.ref b35_0)] [(.int (1 : Int32))])) (fun _ k_ => XS.iload X49.here hx rfl (hb hby at_147) rfl  k_) ?_
      refine own_k (T' := T49) (g' := (mkF m 152 #[.val (.int p0), .val (.int p1), .val (.int p2), .val (.int p3), .val (.int p4), .val (.int p5), .val (.int (1 : Int32)), .val (.int (0 : Int32)), .val (.ref b35_0), .val (.ref b36_0), .val (.ref b37_0), .val (.ref b38), .val (.ref b35_0), .val (.ref b35_0)] [])) (fun _ k_ => XS.ifNo X49.here hx rfl (hb hby at_149) rfl ((if0 _ _).trans (feq (by decide : ¬ ((1 : Int32) = (0 : Int32)))).1) k_) ?_
      refine own_k (T' := T49) (g' := (mkF m 154 #[.val (.int p0), .val (.int p1), .val (.int p2), .val (.int p3), .val (.int p4), .val (.int p5), .val (.int (1 : Int32)), .val (.int (0 : Int32)), .val (.ref b35_0), .val (.ref b36_0), .val (.ref b37_0), .val (.ref b38), .val (.ref b35_0), .val (.ref b35_0)] [(.ref b35_0)])) (fun _ k_ => XS.aload X49.here hx rfl (hb hby at_152) rfl rfl  k_) ?_
      refine own_k (T' := T49) (g' := (mkF m 156 #[.val (.int p0), .val (.int p1), .val (.int p2), .val (.int p3), .val (.int p4), .val (.int p5), .val (.int (1 : Int32)), .val (.int (0 : Int32)), .val (.ref b35_0), .val (.ref b36_0), .val (.ref b37_0), .val (.ref b38), .val (.ref b35_0), .val (.ref b35_0)] [(.ref b35_0), (.ref b35_0)])) (fun _ k_ => XS.aload X49.here hx rfl (hb hby at_154) rfl rfl  k_) ?_
      refine own_callS X49 hx hZ (y := (⟨"com/example/nepean/nepean/mapping/ColumnSettingsSqlTypePinLaw", "same", "(Ljava/lang/String;Ljava/lang/String;)Z"⟩ : MethodName)) hown (hw _ (List.mem_of_getElem? (i := 61) rfl)) (hw _ (List.mem_of_getElem? (i := 62) rfl)) (hw _ (List.mem_of_getElem? (i := 2) rfl)) (hw _ (List.mem_of_getElem? (i := 63) rfl)) (by decide) (al := [(.ref b35_0), (.ref b35_0)]) (rm_same_10 l Z a0 g_COMPACT_STRINGS g_SIOOBE_FORMATTER hW b35_0 T47.heap O47' ((((q35_0.keep K36).keep K37).ext E38).keep K47)) 0 (by decide) (by decide) e49 (by decide) (by decide) (by rw [hml]; rfl) (lenOf pd__28Ljava_2flang_2fString_3bLjava_2flang_2fString_3b_29Z rfl) rfl (rest := []) (by show 2 * 0 + _ ≤ _; exact Nat.le_of_eq rfl) (hb hby at_156) ?_
      intro v50 T50 L50 X50 hQ50
      obtain ⟨rfl, Nq50, e50⟩ := hQ50
      have N50 := Fr.app N49 Nq50
      show own_Go p e below Φ T50 (mkF m 159 #[.val (.int p0), .val (.int p1), .val (.int p2), .val (.int p3), .val (.int p4), .val (.int p5), .val (.int (1 : Int32)), .val (.int (0 : Int32)), .val (.ref b35_0), .val (.ref b36_0), .val (.ref b37_0), .val (.ref b38), .val (.ref b35_0), .val (.ref b35_0)] [(.int (1 : Int32))])
      refine own_k (T' := T50) (g' := (mkF m 162 #[.val (.int p0), .val (.int p1), .val (.int p2), .val (.int p3), .val (.int p4), .val (.int p5), .val (.int (1 : Int32)), .val (.int (0 : Int32)), .val (.ref b35_0), .val (.ref b36_0), .val (.ref b37_0), .val (.ref b38), .val (.ref b35_0), .val (.ref b35_0)] [])) (fun _ k_ => XS.ifNo X50.here hx rfl (hb hby at_159) rfl ((if0 _ _).trans (feq (by decide : ¬ ((1 : Int32) = (0 : Int32)))).1) k_) ?_
      refine own_k (T' := T50) (g' := (mkF m 164 #[.val (.int p0), .val (.int p1), .val (.int p2), .val (.int p3), .val (.int p4), .val (.int p5), .val (.int (1 : Int32)), .val (.int (0 : Int32)), .val (.ref b35_0), .val (.ref b36_0), .val (.ref b37_0), .val (.ref b38), .val (.ref b35_0), .val (.ref b35_0)] [(.ref b35_0)])) (fun _ k_ => XS.aload X50.here hx rfl (hb hby at_162) rfl rfl  k_) ?_
      refine own_k (T' := T50) (g' := (mkF m 166 #[.val (.int p0), .val (.int p1), .val (.int p2), .val (.int p3), .val (.int p4), .val (.int p5), .val (.int (1 : Int32)), .val (.int (0 : Int32)), .val (.ref b35_0), .val (.ref b36_0), .val (.ref b37_0), .val (.ref b38), .val (.ref b35_0), .val (.ref b35_0)] [(.ref b35_0), (.ref b35_0)])) (fun _ k_ => XS.aload X50.here hx rfl (hb hby at_164) rfl rfl  k_) ?_
      refine own_callS X50 hx hZ (y := (⟨"com/example/nepean/nepean/mapping/ColumnSettingsSqlTypePinLaw", "same", "(Ljava/lang/String;Ljava/lang/String;)Z"⟩ : MethodName)) hown (hw _ (List.mem_of_getElem? (i := 61) rfl)) (hw _ (List.mem_of_getElem? (i := 62) rfl)) (hw _ (List.mem_of_getElem? (i := 2) rfl)) (hw _ (List.mem_of_getElem? (i := 63) rfl)) (by decide) (al := [(.ref b35_0), (.ref b35_0)]) (rm_same_10 l Z a0 g_COMPACT_STRINGS g_SIOOBE_FORMATTER hW b35_0 T47.heap O47' ((((q35_0.keep K36).keep K37).ext E38).keep K47)) 0 (by decide) (by decide) e50 (by decide) (by decide) (by rw [hml]; rfl) (lenOf pd__28Ljava_2flang_2fString_3bLjava_2flang_2fString_3b_29Z rfl) rfl (rest := []) (by show 2 * 0 + _ ≤ _; exact Nat.le_of_eq rfl) (hb hby at_166) ?_
      intro v51 T51 L51 X51 hQ51
      obtain ⟨rfl, Nq51, e51⟩ := hQ51
      have N51 := Fr.app N50 Nq51
      show own_Go p e below Φ T51 (mkF m 169 #[.val (.int p0), .val (.int p1), .val (.int p2), .val (.int p3), .val (.int p4), .val (.int p5), .val (.int (1 : Int32)), .val (.int (0 : Int32)), .val (.ref b35_0), .val (.ref b36_0), .val (.ref b37_0), .val (.ref b38), .val (.ref b35_0), .val (.ref b35_0)] [(.int (1 : Int32))])
      refine own_k (T' := T51) (g' := (mkF m 172 #[.val (.int p0), .val (.int p1), .val (.int p2), .val (.int p3), .val (.int p4), .val (.int p5), .val (.int (1 : Int32)), .val (.int (0 : Int32)), .val (.ref b35_0), .val (.ref b36_0), .val (.ref b37_0), .val (.ref b38), .val (.ref b35_0), .val (.ref b35_0)] [])) (fun _ k_ => XS.ifNo X51.here hx rfl (hb hby at_169) rfl ((if0 _ _).trans (feq (by decide : ¬ ((1 : Int32) = (0 : Int32)))).1) k_) ?_
      refine own_k (T' := T51) (g' := (mkF m 173 #[.val (.int p0), .val (.int p1), .val (.int p2), .val (.int p3), .val (.int p4), .val (.int p5), .val (.int (1 : Int32)), .val (.int (0 : Int32)), .val (.ref b35_0), .val (.ref b36_0), .val (.ref b37_0), .val (.ref b38), .val (.ref b35_0), .val (.ref b35_0)] [(.int (1 : Int32))])) (fun _ k_ => XS.iconst X51.here hx rfl (hb hby at_172) k_) ?_
      refine own_k (T' := T51) (g' := (mkF m 177 #[.val (.int p0), .val (.int p1), .val (.int p2), .val (.int p3), .val (.int p4), .val (.int p5), .val (.int (1 : Int32)), .val (.int (0 : Int32)), .val (.ref b35_0), .val (.ref b36_0), .val (.ref b37_0), .val (.ref b38), .val (.ref b35_0), .val (.ref b35_0)] [(.int (1 : Int32))])) (fun _ k_ => XS.goto X51.here hx rfl (pc0 := 173) (pc' := 177) rfl (hb hby at_173) (by decide) (by decide) k_) ?_
      exact own_retN X51 hx (t := .boolean) hret (by simp) hlk (hb hby at_177) hF (⟨by rw [show nar .boolean (1 : Int32) = (1 : Int32) from by decide], N51, trivial⟩) (by decide) (by decide)
    · refine own_k (T' := s₁) (g' := (mkF m 21 #[.val (.int p0), .val (.int p1), .val (.int p2), .val (.int p3), .val (.int p4), .val (.int p5), .val (.int (1 : Int32)), .unset, .unset, .unset, .unset, .unset, .unset, .unset] [])) (fun _ k_ => XS.ifNo X0.here hx rfl (hb hby at_18) rfl ((if0 _ _).trans (feq hc34).1) k_) ?_
      refine own_k (T' := s₁) (g' := (mkF m 22 #[.val (.int p0), .val (.int p1), .val (.int p2), .val (.int p3), .val (.int p4), .val (.int p5), .val (.int (1 : Int32)), .unset, .unset, .unset, .unset, .unset, .unset, .unset] [(.int (1 : Int32))])) (fun _ k_ => XS.iconst X0.here hx rfl (hb hby at_21) k_) ?_
      refine own_k (T' := s₁) (g' := (mkF m 26 #[.val (.int p0), .val (.int p1), .val (.int p2), .val (.int p3), .val (.int p4), .val (.int p5), .val (.int (1 : Int32)), .unset, .unset, .unset, .unset, .unset, .unset, .unset] [(.int (1 : Int32))])) (fun _ k_ => XS.goto X0.here hx rfl (pc0 := 22) (pc' := 26) rfl (hb hby at_22) (by decide) (by decide) k_) ?_
      refine own_k (T' := s₁) (g' := (mkF m 28 #[.val (.int p0), .val (.int p1), .val (.int p2), .val (.int p3), .val (.int p4), .val (.int p5), .val (.int (1 : Int32)), .val (.int (1 : Int32)), .unset, .unset, .unset, .unset, .unset, .unset] [])) (fun _ k_ => XS.istore X0.here hx rfl (hb hby at_26) rfl (l' := #[.val (.int p0), .val (.int p1), .val (.int p2), .val (.int p3), .val (.int p4), .val (.int p5), .val (.int (1 : Int32)), .val (.int (1 : Int32)), .unset, .unset, .unset, .unset, .unset, .unset]) rfl k_) ?_
      refine own_k (T' := s₁) (g' := (mkF m 30 #[.val (.int p0), .val (.int p1), .val (.int p2), .val (.int p3), .val (.int p4), .val (.int p5), .val (.int (1 : Int32)), .val (.int (1 : Int32)), .unset, .unset, .unset, .unset, .unset, .unset] [(.int (1 : Int32))])) (fun _ k_ => XS.iload X0.here hx rfl (hb hby at_28) rfl  k_) ?_
      refine own_k (T' := s₁) (g' := (mkF m 33 #[.val (.int p0), .val (.int p1), .val (.int p2), .val (.int p3), .val (.int p4), .val (.int p5), .val (.int (1 : Int32)), .val (.int (1 : Int32)), .unset, .unset, .unset, .unset, .unset, .unset] [])) (fun _ k_ => XS.ifNo X0.here hx rfl (hb hby at_30) rfl ((if0 _ _).trans (feq (by decide : ¬ ((1 : Int32) = (0 : Int32)))).1) k_) ?_
      refine own_k (T' := s₁) (g' := (mkF m 35 #[.val (.int p0), .val (.int p1), .val (.int p2), .val (.int p3), .val (.int p4), .val (.int p5), .val (.int (1 : Int32)), .val (.int (1 : Int32)), .unset, .unset, .unset, .unset, .unset, .unset] [(.int p5)])) (fun _ k_ => XS.iload X0.here hx rfl (hb hby at_33) rfl  k_) ?_
      refine own_k (T' := s₁) (g' := (mkF m 37 #[.val (.int p0), .val (.int p1), .val (.int p2), .val (.int p3), .val (.int p4), .val (.int p5), .val (.int (1 : Int32)), .val (.int (1 : Int32)), .unset, .unset, .unset, .unset, .unset, .unset] [(.int p5), (.int p5)])) (fun _ k_ => XS.iload X0.here hx rfl (hb hby at_35) rfl  k_) ?_
      refine own_k (T' := s₁) (g' := (mkF m 39 #[.val (.int p0), .val (.int p1), .val (.int p2), .val (.int p3), .val (.int p4), .val (.int p5), .val (.int (1 : Int32)), .val (.int (1 : Int32)), .unset, .unset, .unset, .unset, .unset, .unset] [(.int (8 : Int32)), (.int p5), (.int p5)])) (fun _ k_ => XS.bipush X0.here hx rfl (hb hby at_37) k_) ?_
      refine own_k (T' := s₁) (g' := (mkF m 40 #[.val (.int p0), .val (.int p1), .val (.int p2), .val (.int p3), .val (.int p4), .val (.int p5), .val (.int (1 : Int32)), .val (.int (1 : Int32)), .unset, .unset, .unset, .unset, .unset, .unset] [(.int ((p5.toUInt32 >>> ((8 : Int32) &&& 31).toUInt32).toInt32)), (.int p5)])) (fun _ k_ => XS.iushr X0.here hx rfl (hb hby at_39) rfl k_) ?_
      refine own_callS X0 hx hZ (y := (⟨"com/example/nepean/nepean/mapping/ColumnSettingsSqlTypePinLaw", "str", "(II)Ljava/lang/String;"⟩ : MethodName)) hown (hw _ (List.mem_of_getElem? (i := 0) rfl)) (hw _ (List.mem_of_getElem? (i := 1) rfl)) (hw _ (List.mem_of_getElem? (i := 2) rfl)) (hw _ (List.mem_of_getElem? (i := 3) rfl)) (by decide) (al := [(.int p5), (.int ((p5.toUInt32 >>> ((8 : Int32) &&& 31).toUInt32).toInt32))]) (rm_str_5 l Z a0 g_COMPACT_STRINGS g_SIOOBE_FORMATTER hW p5 ((p5.toUInt32 >>> ((8 : Int32) &&& 31).toUInt32).toInt32) h0 O0 (own_lat p5) (own_lat ((p5.toUInt32 >>> ((8 : Int32) &&& 31).toUInt32).toInt32))) 0 (by decide) (by decide) e0 (by decide) (by decide) (by rw [hml]; rfl) (lenOf pd__28II_29Ljava_2flang_2fString_3b rfl) rfl (rest := []) (by show 2 * 0 + _ ≤ _; exact Nat.le_of_eq rfl) (hb hby at_40) ?_
      intro v52 T52 L52 X52 hQ52
      obtain ⟨b52_0, b52_1, k52_2, rfl, Nq52, K52, ge52_0, ge52_1, nn52_0, q52_0, q52_1, q52_2, q52_3, q52_4⟩ := hQ52
      have N52 := Fr.app N0 Nq52
      have O52' := O0.keep K52 all0
      show own_Go p e below Φ T52 (mkF m 43 #[.val (.int p0), .val (.int p1), .val (.int p2), .val (.int p3), .val (.int p4), .val (.int p5), .val (.int (1 : Int32)), .val (.int (1 : Int32)), .unset, .unset, .unset, .unset, .unset, .unset] [(.ref b52_0)])
      refine own_k (T' := T52) (g' := (mkF m 47 #[.val (.int p0), .val (.int p1), .val (.int p2), .val (.int p3), .val (.int p4), .val (.int p5), .val (.int (1 : Int32)), .val (.int (1 : Int32)), .unset, .unset, .unset, .unset, .unset, .unset] [(.ref b52_0)])) (fun _ k_ => XS.goto X52.here hx rfl (pc0 := 43) (pc' := 47) rfl (hb hby at_43) (by decide) (by decide) k_) ?_
      refine own_k (T' := T52) (g' := (mkF m 49 #[.val (.int p0), .val (.int p1), .val (.int p2), .val (.int p3), .val (.int p4), .val (.int p5), .val (.int (1 : Int32)), .val (.int (1 : Int32)), .val (.ref b52_0), .unset, .unset, .unset, .unset, .unset] [])) (fun _ k_ => XS.astore X52.here hx rfl (hb hby at_47) rfl rfl (l' := #[.val (.int p0), .val (.int p1), .val (.int p2), .val (.int p3), .val (.int p4), .val (.int p5), .val (.int (1 : Int32)), .val (.int (1 : Int32)), .val (.ref b52_0), .unset, .unset, .unset, .unset, .unset]) rfl k_) ?_
      refine own_k (T' := T52) (g' := (mkF m 51 #[.val (.int p0), .val (.int p1), .val (.int p2), .val (.int p3), .val (.int p4), .val (.int p5), .val (.int (1 : Int32)), .val (.int (1 : Int32)), .val (.ref b52_0), .unset, .unset, .unset, .unset, .unset] [(.int (1 : Int32))])) (fun _ k_ => XS.iload X52.here hx rfl (hb hby at_49) rfl  k_) ?_
      refine own_k (T' := T52) (g' := (mkF m 54 #[.val (.int p0), .val (.int p1), .val (.int p2), .val (.int p3), .val (.int p4), .val (.int p5), .val (.int (1 : Int32)), .val (.int (1 : Int32)), .val (.ref b52_0), .unset, .unset, .unset, .unset, .unset] [])) (fun _ k_ => XS.ifNo X52.here hx rfl (hb hby at_51) rfl ((if0 _ _).trans (feq (by decide : ¬ ((1 : Int32) = (0 : Int32)))).1) k_) ?_
      refine own_k (T' := T52) (g' := (mkF m 55 #[.val (.int p0), .val (.int p1), .val (.int p2), .val (.int p3), .val (.int p4), .val (.int p5), .val (.int (1 : Int32)), .val (.int (1 : Int32)), .val (.ref b52_0), .unset, .unset, .unset, .unset, .unset] [.null])) (fun _ k_ => XS.aconstNull X52.here hx rfl (hb hby at_54) k_) ?_
      refine own_k (T' := T52) (g' := (mkF m 63 #[.val (.int p0), .val (.int p1), .val (.int p2), .val (.int p3), .val (.int p4), .val (.int p5), .val (.int (1 : Int32)), .val (.int (1 : Int32)), .val (.ref b52_0), .unset, .unset, .unset, .unset, .unset] [.null])) (fun _ k_ => XS.goto X52.here hx rfl (pc0 := 55) (pc' := 63) rfl (hb hby at_55) (by decide) (by decide) k_) ?_
      refine own_k (T' := T52) (g' := (mkF m 65 #[.val (.int p0), .val (.int p1), .val (.int p2), .val (.int p3), .val (.int p4), .val (.int p5), .val (.int (1 : Int32)), .val (.int (1 : Int32)), .val (.ref b52_0), .val .null, .unset, .unset, .unset, .unset] [])) (fun _ k_ => XS.astore X52.here hx rfl (hb hby at_63) rfl rfl (l' := #[.val (.int p0), .val (.int p1), .val (.int p2), .val (.int p3), .val (.int p4), .val (.int p5), .val (.int (1 : Int32)), .val (.int (1 : Int32)), .val (.ref b52_0), .val .null, .unset, .unset, .unset, .unset]) rfl k_) ?_
      refine own_k (T' := T52) (g' := (mkF m 66 #[.val (.int p0), .val (.int p1), .val (.int p2), .val (.int p3), .val (.int p4), .val (.int p5), .val (.int (1 : Int32)), .val (.int (1 : Int32)), .val (.ref b52_0), .val .null, .unset, .unset, .unset, .unset] [(.int p3)])) (fun _ k_ => XS.iloadN X52.here hx rfl (hb hby at_65) rfl  k_) ?_
      refine own_k (T' := T52) (g' := (mkF m 68 #[.val (.int p0), .val (.int p1), .val (.int p2), .val (.int p3), .val (.int p4), .val (.int p5), .val (.int (1 : Int32)), .val (.int (1 : Int32)), .val (.ref b52_0), .val .null, .unset, .unset, .unset, .unset] [(.int p4), (.int p3)])) (fun _ k_ => XS.iload X52.here hx rfl (hb hby at_66) rfl  k_) ?_
      refine own_callS X52 hx hZ (y := (⟨"com/example/nepean/nepean/mapping/ColumnSettingsSqlTypePinLaw", "str", "(II)Ljava/lang/String;"⟩ : MethodName)) hown (hw _ (List.mem_of_getElem? (i := 0) rfl)) (hw _ (List.mem_of_getElem? (i := 1) rfl)) (hw _ (List.mem_of_getElem? (i := 2) rfl)) (hw _ (List.mem_of_getElem? (i := 3) rfl)) (by decide) (al := [(.int p3), (.int p4)]) (rm_str_5 l Z a0 g_COMPACT_STRINGS g_SIOOBE_FORMATTER hW p3 p4 T52.heap O52' (own_lat p3) (own_lat p4)) 0 (by decide) (by decide) rfl (by decide) (by decide) (by rw [hml]; rfl) (lenOf pd__28II_29Ljava_2flang_2fString_3b rfl) rfl (rest := []) (by show 2 * 0 + _ ≤ _; exact Nat.le_of_eq rfl) (hb hby at_68) ?_
      intro v53 T53 L53 X53 hQ53
      obtain ⟨b53_0, b53_1, k53_2, rfl, Nq53, K53, ge53_0, ge53_1, nn53_0, q53_0, q53_1, q53_2, q53_3, q53_4⟩ := hQ53
      have N53 := Fr.app N52 Nq53
      have O53' := O52'.keep K53 all0
      show own_Go p e below Φ T53 (mkF m 71 #[.val (.int p0), .val (.int p1), .val (.int p2), .val (.int p3), .val (.int p4), .val (.int p5), .val (.int (1 : Int32)), .val (.int (1 : Int32)), .val (.ref b52_0), .val .null, .unset, .unset, .unset, .unset] [(.ref b53_0)])
      refine own_k (T' := T53) (g' := (mkF m 73 #[.val (.int p0), .val (.int p1), .val (.int p2), .val (.int p3), .val (.int p4), .val (.int p5), .val (.int (1 : Int32)), .val (.int (1 : Int32)), .val (.ref b52_0), .val .null, .val (.ref b53_0), .unset, .unset, .unset] [])) (fun _ k_ => XS.astore X53.here hx rfl (hb hby at_71) rfl rfl (l' := #[.val (.int p0), .val (.int p1), .val (.int p2), .val (.int p3), .val (.int p4), .val (.int p5), .val (.int (1 : Int32)), .val (.int (1 : Int32)), .val (.ref b52_0), .val .null, .val (.ref b53_0), .unset, .unset, .unset]) rfl k_) ?_
      obtain ⟨T54, h54, X54, e54, E54, A54, D54, -, st54⟩ := newO X53 hx hZ hown (hw _ (List.mem_of_getElem? (i := 34) rfl)) (hw _ (List.mem_of_getElem? (i := 35) rfl)) (hw _ (List.mem_of_getElem? (i := 36) rfl)) rfl (g := (mkF m 73 #[.val (.int p0), .val (.int p1), .val (.int p2), .val (.int p3), .val (.int p4), .val (.int p5), .val (.int (1 : Int32)), .val (.int (1 : Int32)), .val (.ref b52_0), .val .null, .val (.ref b53_0), .unset, .unset, .unset] [])) rfl (hb hby at_73) (by decide) (by decide)
      obtain ⟨b54, g54⟩ : ∃ z, z = T53.heap.size := ⟨_, rfl⟩
      rw [← g54] at A54 D54 st54
      have O54' := O53'.ext E54
      have F54_nullable : Fld Z h54 b54 "com/example/nepean/nepean/mapping/ColumnSettings" "nullable" "Z" (.int (0 : Int32)) := D54 (Or.inr (hw _ (List.mem_of_getElem? (i := 47) rfl))) (ty := .boolean) (by decide)
      have F54_unique : Fld Z h54 b54 "com/example/nepean/nepean/mapping/ColumnSettings" "unique" "Z" (.int (0 : Int32)) := D54 (Or.inr (hw _ (List.mem_of_getElem? (i := 49) rfl))) (ty := .boolean) (by decide)
      have F54_insertable : Fld Z h54 b54 "com/example/nepean/nepean/mapping/ColumnSettings" "insertable" "Z" (.int (0 : Int32)) := D54 (Or.inr (hw _ (List.mem_of_getElem? (i := 51) rfl))) (ty := .boolean) (by decide)
      have F54_updatable : Fld Z h54 b54 "com/example/nepean/nepean/mapping/ColumnSettings" "updatable" "Z" (.int (0 : Int32)) := D54 (Or.inr (hw _ (List.mem_of_getElem? (i := 53) rfl))) (ty := .boolean) (by decide)
      have F54_definition : Fld Z h54 b54 "com/example/nepean/nepean/mapping/ColumnSettings" "definition" "Ljava/lang/String;" .null := D54 (Or.inr (hw _ (List.mem_of_getElem? (i := 55) rfl))) (ty := (.object "java/lang/String")) (by decide)
      refine own_k (T' := T54) (g' := (mkF m 76 #[.val (.int p0), .val (.int p1), .val (.int p2), .val (.int p3), .val (.int p4), .val (.int p5), .val (.int (1 : Int32)), .val (.int (1 : Int32)), .val (.ref b52_0), .val .null, .val (.ref b53_0), .unset, .unset, .unset] [(.ref b54)])) st54 ?_
      refine own_k (T' := T54) (g' := (mkF m 77 #[.val (.int p0), .val (.int p1), .val (.int p2), .val (.int p3), .val (.int p4), .val (.int p5), .val (.int (1 : Int32)), .val (.int (1 : Int32)), .val (.ref b52_0), .val .null, .val (.ref b53_0), .unset, .unset, .unset] [(.ref b54), (.ref b54)])) (fun _ k_ => XS.dup X54.here hx rfl (hb hby at_76) rfl rfl k_) ?_
      suffices hj55 : ∀ z77 : Int32, own_Go p e below Φ T54 (mkF m 88 #[.val (.int p0), .val (.int p1), .val (.int p2), .val (.int p3), .val (.int p4), .val (.int p5), .val (.int (1 : Int32)), .val (.int (1 : Int32)), .val (.ref b52_0), .val .null, .val (.ref b53_0), .unset, .unset, .unset] [(.int z77), (.ref b54), (.ref b54)]) by
        refine own_k (T' := T54) (g' := (mkF m 78 #[.val (.int p0), .val (.int p1), .val (.int p2), .val (.int p3), .val (.int p4), .val (.int p5), .val (.int (1 : Int32)), .val (.int (1 : Int32)), .val (.ref b52_0), .val .null, .val (.ref b53_0), .unset, .unset, .unset] [(.int p0), (.ref b54), (.ref b54)])) (fun _ k_ => XS.iloadN X54.here hx rfl (hb hby at_77) rfl  k_) ?_
        refine own_k (T' := T54) (g' := (mkF m 79 #[.val (.int p0), .val (.int p1), .val (.int p2), .val (.int p3), .val (.int p4), .val (.int p5), .val (.int (1 : Int32)), .val (.int (1 : Int32)), .val (.ref b52_0), .val .null, .val (.ref b53_0), .unset, .unset, .unset] [(.int (1 : Int32)), (.int p0), (.ref b54), (.ref b54)])) (fun _ k_ => XS.iconst X54.here hx rfl (hb hby at_78) k_) ?_
        refine own_k (T' := T54) (g' := (mkF m 80 #[.val (.int p0), .val (.int p1), .val (.int p2), .val (.int p3), .val (.int p4), .val (.int p5), .val (.int (1 : Int32)), .val (.int (1 : Int32)), .val (.ref b52_0), .val .null, .val (.ref b53_0), .unset, .unset, .unset] [(.int (p0 &&& (1 : Int32))), (.ref b54), (.ref b54)])) (fun _ k_ => XS.iand X54.here hx rfl (hb hby at_79) rfl k_) ?_
        by_cases hc56 : (p0 &&& (1 : Int32)) = (0 : Int32)
        · refine own_k (T' := T54) (g' := (mkF m 87 #[.val (.int p0), .val (.int p1), .val (.int p2), .val (.int p3), .val (.int p4), .val (.int p5), .val (.int (1 : Int32)), .val (.int (1 : Int32)), .val (.ref b52_0), .val .null, .val (.ref b53_0), .unset, .unset, .unset] [(.ref b54), (.ref b54)])) (fun _ k_ => XS.ifYes X54.here hx rfl (pc0 := 80) (pc' := 87) rfl (hb hby at_80) rfl ((if0 _ _).trans (teq hc56).1) (by decide) (by decide) k_) ?_
          refine own_k (T' := T54) (g' := (mkF m 88 #[.val (.int p0), .val (.int p1), .val (.int p2), .val (.int p3), .val (.int p4), .val (.int p5), .val (.int (1 : Int32)), .val (.int (1 : Int32)), .val (.ref b52_0), .val .null, .val (.ref b53_0), .unset, .unset, .unset] [(.int (0 : Int32)), (.ref b54), (.ref b54)])) (fun _ k_ => XS.iconst X54.here hx rfl (hb hby at_87) k_) ?_
          exact hj55 _
        · refine own_k (T' := T54) (g' := (mkF m 83 #[.val (.int p0), .val (.int p1), .val (.int p2), .val (.int p3), .val (.int p4), .val (.int p5), .val (.int (1 : Int32)), .val (.int (1 : Int32)), .val (.ref b52_0), .val .null, .val (.ref b53_0), .unset, .unset, .unset] [(.ref b54), (.ref b54)])) (fun _ k_ => XS.ifNo X54.here hx rfl (hb hby at_80) rfl ((if0 _ _).trans (feq hc56).1) k_) ?_
          refine own_k (T' := T54) (g' := (mkF m 84 #[.val (.int p0), .val (.int p1), .val (.int p2), .val (.int p3), .val (.int p4), .val (.int p5), .val (.int (1 : Int32)), .val (.int (1 : Int32)), .val (.ref b52_0), .val .null, .val (.ref b53_0), .unset, .unset, .unset] [(.int (1 : Int32)), (.ref b54), (.ref b54)])) (fun _ k_ => XS.iconst X54.here hx rfl (hb hby at_83) k_) ?_
          refine own_k (T' := T54) (g' := (mkF m 88 #[.val (.int p0), .val (.int p1), .val (.int p2), .val (.int p3), .val (.int p4), .val (.int p5), .val (.int (1 : Int32)), .val (.int (1 : Int32)), .val (.ref b52_0), .val .null, .val (.ref b53_0), .unset, .unset, .unset] [(.int (1 : Int32)), (.ref b54), (.ref b54)])) (fun _ k_ => XS.goto X54.here hx rfl (pc0 := 84) (pc' := 88) rfl (hb hby at_84) (by decide) (by decide) k_) ?_
          exact hj55 _
      intro z77
      suffices hj57 : ∀ z88 : Int32, own_Go p e below Φ T54 (mkF m 99 #[.val (.int p0), .val (.int p1), .val (.int p2), .val (.int p3), .val (.int p4), .val (.int p5), .val (.int (1 : Int32)), .val (.int (1 : Int32)), .val (.ref b52_0), .val .null, .val (.ref b53_0), .unset, .unset, .unset] [(.int z88), (.int z77), (.ref b54), (.ref b54)]) by
        refine own_k (T' := T54) (g' := (mkF m 89 #[.val (.int p0), .val (.int p1), .val (.int p2), .val (.int p3), .val (.int p4), .val (.int p5), .val (.int (1 : Int32)), .val (.int (1 : Int32)), .val (.ref b52_0), .val .null, .val (.ref b53_0), .unset, .unset, .unset] [(.int p0), (.int z77), (.ref b54), (.ref b54)])) (fun _ k_ => XS.iloadN X54.here hx rfl (hb hby at_88) rfl  k_) ?_
        refine own_k (T' := T54) (g' := (mkF m 90 #[.val (.int p0), .val (.int p1), .val (.int p2), .val (.int p3), .val (.int p4), .val (.int p5), .val (.int (1 : Int32)), .val (.int (1 : Int32)), .val (.ref b52_0), .val .null, .val (.ref b53_0), .unset, .unset, .unset] [(.int (2 : Int32)), (.int p0), (.int z77), (.ref b54), (.ref b54)])) (fun _ k_ => XS.iconst X54.here hx rfl (hb hby at_89) k_) ?_
        refine own_k (T' := T54) (g' := (mkF m 91 #[.val (.int p0), .val (.int p1), .val (.int p2), .val (.int p3), .val (.int p4), .val (.int p5), .val (.int (1 : Int32)), .val (.int (1 : Int32)), .val (.ref b52_0), .val .null, .val (.ref b53_0), .unset, .unset, .unset] [(.int (p0 &&& (2 : Int32))), (.int z77), (.ref b54), (.ref b54)])) (fun _ k_ => XS.iand X54.here hx rfl (hb hby at_90) rfl k_) ?_
        by_cases hc58 : (p0 &&& (2 : Int32)) = (0 : Int32)
        · refine own_k (T' := T54) (g' := (mkF m 98 #[.val (.int p0), .val (.int p1), .val (.int p2), .val (.int p3), .val (.int p4), .val (.int p5), .val (.int (1 : Int32)), .val (.int (1 : Int32)), .val (.ref b52_0), .val .null, .val (.ref b53_0), .unset, .unset, .unset] [(.int z77), (.ref b54), (.ref b54)])) (fun _ k_ => XS.ifYes X54.here hx rfl (pc0 := 91) (pc' := 98) rfl (hb hby at_91) rfl ((if0 _ _).trans (teq hc58).1) (by decide) (by decide) k_) ?_
          refine own_k (T' := T54) (g' := (mkF m 99 #[.val (.int p0), .val (.int p1), .val (.int p2), .val (.int p3), .val (.int p4), .val (.int p5), .val (.int (1 : Int32)), .val (.int (1 : Int32)), .val (.ref b52_0), .val .null, .val (.ref b53_0), .unset, .unset, .unset] [(.int (0 : Int32)), (.int z77), (.ref b54), (.ref b54)])) (fun _ k_ => XS.iconst X54.here hx rfl (hb hby at_98) k_) ?_
          exact hj57 _
        · refine own_k (T' := T54) (g' := (mkF m 94 #[.val (.int p0), .val (.int p1), .val (.int p2), .val (.int p3), .val (.int p4), .val (.int p5), .val (.int (1 : Int32)), .val (.int (1 : Int32)), .val (.ref b52_0), .val .null, .val (.ref b53_0), .unset, .unset, .unset] [(.int z77), (.ref b54), (.ref b54)])) (fun _ k_ => XS.ifNo X54.here hx rfl (hb hby at_91) rfl ((if0 _ _).trans (feq hc58).1) k_) ?_
          refine own_k (T' := T54) (g' := (mkF m 95 #[.val (.int p0), .val (.int p1), .val (.int p2), .val (.int p3), .val (.int p4), .val (.int p5), .val (.int (1 : Int32)), .val (.int (1 : Int32)), .val (.ref b52_0), .val .null, .val (.ref b53_0), .unset, .unset, .unset] [(.int (1 : Int32)), (.int z77), (.ref b54), (.ref b54)])) (fun _ k_ => XS.iconst X54.here hx rfl (hb hby at_94) k_) ?_
          refine own_k (T' := T54) (g' := (mkF m 99 #[.val (.int p0), .val (.int p1), .val (.int p2), .val (.int p3), .val (.int p4), .val (.int p5), .val (.int (1 : Int32)), .val (.int (1 : Int32)), .val (.ref b52_0), .val .null, .val (.ref b53_0), .unset, .unset, .unset] [(.int (1 : Int32)), (.int z77), (.ref b54), (.ref b54)])) (fun _ k_ => XS.goto X54.here hx rfl (pc0 := 95) (pc' := 99) rfl (hb hby at_95) (by decide) (by decide) k_) ?_
          exact hj57 _
      intro z88
      suffices hj59 : ∀ z99 : Int32, own_Go p e below Φ T54 (mkF m 110 #[.val (.int p0), .val (.int p1), .val (.int p2), .val (.int p3), .val (.int p4), .val (.int p5), .val (.int (1 : Int32)), .val (.int (1 : Int32)), .val (.ref b52_0), .val .null, .val (.ref b53_0), .unset, .unset, .unset] [(.int z99), (.int z88), (.int z77), (.ref b54), (.ref b54)]) by
        refine own_k (T' := T54) (g' := (mkF m 100 #[.val (.int p0), .val (.int p1), .val (.int p2), .val (.int p3), .val (.int p4), .val (.int p5), .val (.int (1 : Int32)), .val (.int (1 : Int32)), .val (.ref b52_0), .val .null, .val (.ref b53_0), .unset, .unset, .unset] [(.int p0), (.int z88), (.int z77), (.ref b54), (.ref b54)])) (fun _ k_ => XS.iloadN X54.here hx rfl (hb hby at_99) rfl  k_) ?_
        refine own_k (T' := T54) (g' := (mkF m 101 #[.val (.int p0), .val (.int p1), .val (.int p2), .val (.int p3), .val (.int p4), .val (.int p5), .val (.int (1 : Int32)), .val (.int (1 : Int32)), .val (.ref b52_0), .val .null, .val (.ref b53_0), .unset, .unset, .unset] [(.int (4 : Int32)), (.int p0), (.int z88), (.int z77), (.ref b54), (.ref b54)])) (fun _ k_ => XS.iconst X54.here hx rfl (hb hby at_100) k_) ?_
        refine own_k (T' := T54) (g' := (mkF m 102 #[.val (.int p0), .val (.int p1), .val (.int p2), .val (.int p3), .val (.int p4), .val (.int p5), .val (.int (1 : Int32)), .val (.int (1 : Int32)), .val (.ref b52_0), .val .null, .val (.ref b53_0), .unset, .unset, .unset] [(.int (p0 &&& (4 : Int32))), (.int z88), (.int z77), (.ref b54), (.ref b54)])) (fun _ k_ => XS.iand X54.here hx rfl (hb hby at_101) rfl k_) ?_
        by_cases hc60 : (p0 &&& (4 : Int32)) = (0 : Int32)
        · refine own_k (T' := T54) (g' := (mkF m 109 #[.val (.int p0), .val (.int p1), .val (.int p2), .val (.int p3), .val (.int p4), .val (.int p5), .val (.int (1 : Int32)), .val (.int (1 : Int32)), .val (.ref b52_0), .val .null, .val (.ref b53_0), .unset, .unset, .unset] [(.int z88), (.int z77), (.ref b54), (.ref b54)])) (fun _ k_ => XS.ifYes X54.here hx rfl (pc0 := 102) (pc' := 109) rfl (hb hby at_102) rfl ((if0 _ _).trans (teq hc60).1) (by decide) (by decide) k_) ?_
          refine own_k (T' := T54) (g' := (mkF m 110 #[.val (.int p0), .val (.int p1), .val (.int p2), .val (.int p3), .val (.int p4), .val (.int p5), .val (.int (1 : Int32)), .val (.int (1 : Int32)), .val (.ref b52_0), .val .null, .val (.ref b53_0), .unset, .unset, .unset] [(.int (0 : Int32)), (.int z88), (.int z77), (.ref b54), (.ref b54)])) (fun _ k_ => XS.iconst X54.here hx rfl (hb hby at_109) k_) ?_
          exact hj59 _
        · refine own_k (T' := T54) (g' := (mkF m 105 #[.val (.int p0), .val (.int p1), .val (.int p2), .val (.int p3), .val (.int p4), .val (.int p5), .val (.int (1 : Int32)), .val (.int (1 : Int32)), .val (.ref b52_0), .val .null, .val (.ref b53_0), .unset, .unset, .unset] [(.int z88), (.int z77), (.ref b54), (.ref b54)])) (fun _ k_ => XS.ifNo X54.here hx rfl (hb hby at_102) rfl ((if0 _ _).trans (feq hc60).1) k_) ?_
          refine own_k (T' := T54) (g' := (mkF m 106 #[.val (.int p0), .val (.int p1), .val (.int p2), .val (.int p3), .val (.int p4), .val (.int p5), .val (.int (1 : Int32)), .val (.int (1 : Int32)), .val (.ref b52_0), .val .null, .val (.ref b53_0), .unset, .unset, .unset] [(.int (1 : Int32)), (.int z88), (.int z77), (.ref b54), (.ref b54)])) (fun _ k_ => XS.iconst X54.here hx rfl (hb hby at_105) k_) ?_
          refine own_k (T' := T54) (g' := (mkF m 110 #[.val (.int p0), .val (.int p1), .val (.int p2), .val (.int p3), .val (.int p4), .val (.int p5), .val (.int (1 : Int32)), .val (.int (1 : Int32)), .val (.ref b52_0), .val .null, .val (.ref b53_0), .unset, .unset, .unset] [(.int (1 : Int32)), (.int z88), (.int z77), (.ref b54), (.ref b54)])) (fun _ k_ => XS.goto X54.here hx rfl (pc0 := 106) (pc' := 110) rfl (hb hby at_106) (by decide) (by decide) k_) ?_
          exact hj59 _
      intro z99
      suffices hj61 : ∀ z110 : Int32, own_Go p e below Φ T54 (mkF m 122 #[.val (.int p0), .val (.int p1), .val (.int p2), .val (.int p3), .val (.int p4), .val (.int p5), .val (.int (1 : Int32)), .val (.int (1 : Int32)), .val (.ref b52_0), .val .null, .val (.ref b53_0), .unset, .unset, .unset] [(.int z110), (.int z99), (.int z88), (.int z77), (.ref b54), (.ref b54)]) by
        refine own_k (T' := T54) (g' := (mkF m 111 #[.val (.int p0), .val (.int p1), .val (.int p2), .val (.int p3), .val (.int p4), .val (.int p5), .val (.int (1 : Int32)), .val (.int (1 : Int32)), .val (.ref b52_0), .val .null, .val (.ref b53_0), .unset, .unset, .unset] [(.int p0), (.int z99), (.int z88), (.int z77), (.ref b54), (.ref b54)])) (fun _ k_ => XS.iloadN X54.here hx rfl (hb hby at_110) rfl  k_) ?_
        refine own_k (T' := T54) (g' := (mkF m 113 #[.val (.int p0), .val (.int p1), .val (.int p2), .val (.int p3), .val (.int p4), .val (.int p5), .val (.int (1 : Int32)), .val (.int (1 : Int32)), .val (.ref b52_0), .val .null, .val (.ref b53_0), .unset, .unset, .unset] [(.int (8 : Int32)), (.int p0), (.int z99), (.int z88), (.int z77), (.ref b54), (.ref b54)])) (fun _ k_ => XS.bipush X54.here hx rfl (hb hby at_111) k_) ?_
        refine own_k (T' := T54) (g' := (mkF m 114 #[.val (.int p0), .val (.int p1), .val (.int p2), .val (.int p3), .val (.int p4), .val (.int p5), .val (.int (1 : Int32)), .val (.int (1 : Int32)), .val (.ref b52_0), .val .null, .val (.ref b53_0), .unset, .unset, .unset] [(.int (p0 &&& (8 : Int32))), (.int z99), (.int z88), (.int z77), (.ref b54), (.ref b54)])) (fun _ k_ => XS.iand X54.here hx rfl (hb hby at_113) rfl k_) ?_
        by_cases hc62 : (p0 &&& (8 : Int32)) = (0 : Int32)
        · refine own_k (T' := T54) (g' := (mkF m 121 #[.val (.int p0), .val (.int p1), .val (.int p2), .val (.int p3), .val (.int p4), .val (.int p5), .val (.int (1 : Int32)), .val (.int (1 : Int32)), .val (.ref b52_0), .val .null, .val (.ref b53_0), .unset, .unset, .unset] [(.int z99), (.int z88), (.int z77), (.ref b54), (.ref b54)])) (fun _ k_ => XS.ifYes X54.here hx rfl (pc0 := 114) (pc' := 121) rfl (hb hby at_114) rfl ((if0 _ _).trans (teq hc62).1) (by decide) (by decide) k_) ?_
          refine own_k (T' := T54) (g' := (mkF m 122 #[.val (.int p0), .val (.int p1), .val (.int p2), .val (.int p3), .val (.int p4), .val (.int p5), .val (.int (1 : Int32)), .val (.int (1 : Int32)), .val (.ref b52_0), .val .null, .val (.ref b53_0), .unset, .unset, .unset] [(.int (0 : Int32)), (.int z99), (.int z88), (.int z77), (.ref b54), (.ref b54)])) (fun _ k_ => XS.iconst X54.here hx rfl (hb hby at_121) k_) ?_
          exact hj61 _
        · refine own_k (T' := T54) (g' := (mkF m 117 #[.val (.int p0), .val (.int p1), .val (.int p2), .val (.int p3), .val (.int p4), .val (.int p5), .val (.int (1 : Int32)), .val (.int (1 : Int32)), .val (.ref b52_0), .val .null, .val (.ref b53_0), .unset, .unset, .unset] [(.int z99), (.int z88), (.int z77), (.ref b54), (.ref b54)])) (fun _ k_ => XS.ifNo X54.here hx rfl (hb hby at_114) rfl ((if0 _ _).trans (feq hc62).1) k_) ?_
          refine own_k (T' := T54) (g' := (mkF m 118 #[.val (.int p0), .val (.int p1), .val (.int p2), .val (.int p3), .val (.int p4), .val (.int p5), .val (.int (1 : Int32)), .val (.int (1 : Int32)), .val (.ref b52_0), .val .null, .val (.ref b53_0), .unset, .unset, .unset] [(.int (1 : Int32)), (.int z99), (.int z88), (.int z77), (.ref b54), (.ref b54)])) (fun _ k_ => XS.iconst X54.here hx rfl (hb hby at_117) k_) ?_
          refine own_k (T' := T54) (g' := (mkF m 122 #[.val (.int p0), .val (.int p1), .val (.int p2), .val (.int p3), .val (.int p4), .val (.int p5), .val (.int (1 : Int32)), .val (.int (1 : Int32)), .val (.ref b52_0), .val .null, .val (.ref b53_0), .unset, .unset, .unset] [(.int (1 : Int32)), (.int z99), (.int z88), (.int z77), (.ref b54), (.ref b54)])) (fun _ k_ => XS.goto X54.here hx rfl (pc0 := 118) (pc' := 122) rfl (hb hby at_118) (by decide) (by decide) k_) ?_
          exact hj61 _
      intro z110
      refine own_k (T' := T54) (g' := (mkF m 124 #[.val (.int p0), .val (.int p1), .val (.int p2), .val (.int p3), .val (.int p4), .val (.int p5), .val (.int (1 : Int32)), .val (.int (1 : Int32)), .val (.ref b52_0), .val .null, .val (.ref b53_0), .unset, .unset, .unset] [(.ref b52_0), (.int z110), (.int z99), (.int z88), (.int z77), (.ref b54), (.ref b54)])) (fun _ k_ => XS.aload X54.here hx rfl (hb hby at_122) rfl rfl  k_) ?_
      refine own_callN X54 hx hZ (y := (⟨"com/example/nepean/nepean/mapping/ColumnSettings", "<init>", "(ZZZZLjava/lang/String;)V"⟩ : MethodName)) rfl hown (hw _ (List.mem_of_getElem? (i := 37) rfl)) (hw _ (List.mem_of_getElem? (i := 38) rfl)) (hw _ (List.mem_of_getElem? (i := 39) rfl)) (hw _ (List.mem_of_getElem? (i := 36) rfl)) (by decide) (al := [(.int z77), (.int z88), (.int z99), (.int z110), (.ref b52_0)]) (b := b54) (rm_init_13 l Z a0 g_COMPACT_STRINGS g_SIOOBE_FORMATTER hW b54 z77 z88 z99 z110 b52_0 h54 O54' F54_nullable A54 (Nat.le_trans O53'.2.1 (Nat.le_of_eq g54.symm)) F54_unique F54_insertable F54_updatable F54_definition) 1 (by decide) (by decide) e54 (by decide) (by decide) (by rw [hml]; rfl) (lenOf pd__28ZZZZLjava_2flang_2fString_3b_29V rfl) rfl (rest := [(.ref b54)]) (by show 2 * 0 + _ ≤ _; exact Nat.le_of_eq rfl) (hb hby at_124) ?_
      intro v63 T63 L63 X63 hQ63
      obtain ⟨rfl, Nq63, K63, q63_0, q63_1, q63_2, q63_3, q63_4, q63_5⟩ := hQ63
      have N63 := Fr.app N53 Nq63
      have O63' := O54'.keep K63 (allS (Nat.le_trans O53'.2.1 (Nat.le_of_eq g54.symm)) all0)
      show own_Go p e below Φ T63 (mkF m 127 #[.val (.int p0), .val (.int p1), .val (.int p2), .val (.int p3), .val (.int p4), .val (.int p5), .val (.int (1 : Int32)), .val (.int (1 : Int32)), .val (.ref b52_0), .val .null, .val (.ref b53_0), .unset, .unset, .unset] [(.ref b54)])
      refine own_k (T' := T63) (g' := (mkF m 129 #[.val (.int p0), .val (.int p1), .val (.int p2), .val (.int p3), .val (.int p4), .val (.int p5), .val (.int (1 : Int32)), .val (.int (1 : Int32)), .val (.ref b52_0), .val .null, .val (.ref b53_0), .val (.ref b54), .unset, .unset] [])) (fun _ k_ => XS.astore X63.here hx rfl (hb hby at_127) rfl rfl (l' := #[.val (.int p0), .val (.int p1), .val (.int p2), .val (.int p3), .val (.int p4), .val (.int p5), .val (.int (1 : Int32)), .val (.int (1 : Int32)), .val (.ref b52_0), .val .null, .val (.ref b53_0), .val (.ref b54), .unset, .unset]) rfl k_) ?_
      refine own_k (T' := T63) (g' := (mkF m 131 #[.val (.int p0), .val (.int p1), .val (.int p2), .val (.int p3), .val (.int p4), .val (.int p5), .val (.int (1 : Int32)), .val (.int (1 : Int32)), .val (.ref b52_0), .val .null, .val (.ref b53_0), .val (.ref b54), .unset, .unset] [(.ref b54)])) (fun _ k_ => XS.aload X63.here hx rfl (hb hby at_129) rfl rfl  k_) ?_
      refine own_k (T' := T63) (g' := (mkF m 133 #[.val (.int p0), .val (.int p1), .val (.int p2), .val (.int p3), .val (.int p4), .val (.int p5), .val (.int (1 : Int32)), .val (.int (1 : Int32)), .val (.ref b52_0), .val .null, .val (.ref b53_0), .val (.ref b54), .unset, .unset] [.null, (.ref b54)])) (fun _ k_ => XS.aload X63.here hx rfl (hb hby at_131) rfl rfl  k_) ?_
      refine own_callV X63 hx hZ (C := "com/example/nepean/nepean/mapping/ColumnSettings") (y := (⟨"com/example/nepean/nepean/mapping/ColumnSettings", "sqlType", "(Ljava/lang/String;)Ljava/lang/String;"⟩ : MethodName)) (z := (⟨"com/example/nepean/nepean/mapping/ColumnSettings", "sqlType", "(Ljava/lang/String;)Ljava/lang/String;"⟩ : MethodName)) hown (hw _ (List.mem_of_getElem? (i := 56) rfl)) (hw _ (List.mem_of_getElem? (i := 57) rfl)) (notFace_of_selects (args := #[]) (mvT hZ (hw _ (List.mem_of_getElem? (i := 59) rfl)))) (hw _ (List.mem_of_getElem? (i := 59) rfl)) (hw _ (List.mem_of_getElem? (i := 58) rfl)) (hw _ (List.mem_of_getElem? (i := 60) rfl)) (hw _ (List.mem_of_getElem? (i := 36) rfl)) (by decide) (al := [.null]) q63_0 (rm_sqlType_15 l Z a0 g_COMPACT_STRINGS g_SIOOBE_FORMATTER hW b54 b52_0 T63.heap O63' q63_5) 0 (by decide) (by decide) rfl (by decide) (by decide) (by rw [hml]; rfl) (lenOf pd__28Ljava_2flang_2fString_3b_29Ljava_2flang_2fString_3b rfl) rfl (rest := []) (by show 2 * 0 + _ ≤ _; exact Nat.le_of_eq rfl) (hb hby at_133) ?_
      intro v64 T64 L64 X64 hQ64
      obtain ⟨rfl, Nq64, e64⟩ := hQ64
      have N64 := Fr.app N63 Nq64
      show own_Go p e below Φ T64 (mkF m 136 #[.val (.int p0), .val (.int p1), .val (.int p2), .val (.int p3), .val (.int p4), .val (.int p5), .val (.int (1 : Int32)), .val (.int (1 : Int32)), .val (.ref b52_0), .val .null, .val (.ref b53_0), .val (.ref b54), .unset, .unset] [(.ref b52_0)])
      refine own_k (T' := T64) (g' := (mkF m 138 #[.val (.int p0), .val (.int p1), .val (.int p2), .val (.int p3), .val (.int p4), .val (.int p5), .val (.int (1 : Int32)), .val (.int (1 : Int32)), .val (.ref b52_0), .val .null, .val (.ref b53_0), .val (.ref b54), .val (.ref b52_0), .unset] [])) (fun _ k_ => XS.astore X64.here hx rfl (hb hby at_136) rfl rfl (l' := #[.val (.int p0), .val (.int p1), .val (.int p2), .val (.int p3), .val (.int p4), .val (.int p5), .val (.int (1 : Int32)), .val (.int (1 : Int32)), .val (.ref b52_0), .val .null, .val (.ref b53_0), .val (.ref b54), .val (.ref b52_0), .unset]) rfl k_) ?_
      refine own_k (T' := T64) (g' := (mkF m 140 #[.val (.int p0), .val (.int p1), .val (.int p2), .val (.int p3), .val (.int p4), .val (.int p5), .val (.int (1 : Int32)), .val (.int (1 : Int32)), .val (.ref b52_0), .val .null, .val (.ref b53_0), .val (.ref b54), .val (.ref b52_0), .unset] [(.ref b54)])) (fun _ k_ => XS.aload X64.here hx rfl (hb hby at_138) rfl rfl  k_) ?_
      refine own_k (T' := T64) (g' := (mkF m 142 #[.val (.int p0), .val (.int p1), .val (.int p2), .val (.int p3), .val (.int p4), .val (.int p5), .val (.int (1 : Int32)), .val (.int (1 : Int32)), .val (.ref b52_0), .val .null, .val (.ref b53_0), .val (.ref b54), .val (.ref b52_0), .unset] [(.ref b53_0), (.ref b54)])) (fun _ k_ => XS.aload X64.here hx rfl (hb hby at_140) rfl rfl  k_) ?_
      refine own_callV X64 hx hZ (C := "com/example/nepean/nepean/mapping/ColumnSettings") (y := (⟨"com/example/nepean/nepean/mapping/ColumnSettings", "sqlType", "(Ljava/lang/String;)Ljava/lang/String;"⟩ : MethodName)) (z := (⟨"com/example/nepean/nepean/mapping/ColumnSettings", "sqlType", "(Ljava/lang/String;)Ljava/lang/String;"⟩ : MethodName)) hown (hw _ (List.mem_of_getElem? (i := 56) rfl)) (hw _ (List.mem_of_getElem? (i := 57) rfl)) (notFace_of_selects (args := #[]) (mvT hZ (hw _ (List.mem_of_getElem? (i := 59) rfl)))) (hw _ (List.mem_of_getElem? (i := 59) rfl)) (hw _ (List.mem_of_getElem? (i := 58) rfl)) (hw _ (List.mem_of_getElem? (i := 60) rfl)) (hw _ (List.mem_of_getElem? (i := 36) rfl)) (by decide) (al := [(.ref b53_0)]) q63_0 (rm_sqlType_14 l Z a0 g_COMPACT_STRINGS g_SIOOBE_FORMATTER hW b54 b53_0 b52_0 T63.heap O63' q63_5) 0 (by decide) (by decide) e64 (by decide) (by decide) (by rw [hml]; rfl) (lenOf pd__28Ljava_2flang_2fString_3b_29Ljava_2flang_2fString_3b rfl) rfl (rest := []) (by show 2 * 0 + _ ≤ _; exact Nat.le_of_eq rfl) (hb hby at_142) ?_
      intro v65 T65 L65 X65 hQ65
      obtain ⟨rfl, Nq65, e65⟩ := hQ65
      have N65 := Fr.app N64 Nq65
      show own_Go p e below Φ T65 (mkF m 145 #[.val (.int p0), .val (.int p1), .val (.int p2), .val (.int p3), .val (.int p4), .val (.int p5), .val (.int (1 : Int32)), .val (.int (1 : Int32)), .val (.ref b52_0), .val .null, .val (.ref b53_0), .val (.ref b54), .val (.ref b52_0), .unset] [(.ref b52_0)])
      refine own_k (T' := T65) (g' := (mkF m 147 #[.val (.int p0), .val (.int p1), .val (.int p2), .val (.int p3), .val (.int p4), .val (.int p5), .val (.int (1 : Int32)), .val (.int (1 : Int32)), .val (.ref b52_0), .val .null, .val (.ref b53_0), .val (.ref b54), .val (.ref b52_0), .val (.ref b52_0)] [])) (fun _ k_ => XS.astore X65.here hx rfl (hb hby at_145) rfl rfl (l' := #[.val (.int p0), .val (.int p1), .val (.int p2), .val (.int p3), .val (.int p4), .val (.int p5), .val (.int (1 : Int32)), .val (.int (1 : Int32)), .val (.ref b52_0), .val .null, .val (.ref b53_0), .val (.ref b54), .val (.ref b52_0), .val (.ref b52_0)]) rfl k_) ?_
      refine own_k (T' := T65) (g' := (mkF m 149 #[.val (.int p0), .val (.int p1), .val (.int p2), .val (.int p3), .val (.int p4), .val (.int p5), .val (.int (1 : Int32)), .val (.int (1 : Int32)), .val (.ref b52_0), .val .null, .val (.ref b53_0), .val (.ref b54), .val (.ref b52_0), .val (.ref b52_0)] [(.int (1 : Int32))])) (fun _ k_ => XS.iload X65.here hx rfl (hb hby at_147) rfl  k_) ?_
      refine own_k (T' := T65) (g' := (mkF m 152 #[.val (.int p0), .val (.int p1), .val (.int p2), .val (.int p3), .val (.int p4), .val (.int p5), .val (.int (1 : Int32)), .val (.int (1 : Int32)), .val (.ref b52_0), .val .null, .val (.ref b53_0), .val (.ref b54), .val (.ref b52_0), .val (.ref b52_0)] [])) (fun _ k_ => XS.ifNo X65.here hx rfl (hb hby at_149) rfl ((if0 _ _).trans (feq (by decide : ¬ ((1 : Int32) = (0 : Int32)))).1) k_) ?_
      refine own_k (T' := T65) (g' := (mkF m 154 #[.val (.int p0), .val (.int p1), .val (.int p2), .val (.int p3), .val (.int p4), .val (.int p5), .val (.int (1 : Int32)), .val (.int (1 : Int32)), .val (.ref b52_0), .val .null, .val (.ref b53_0), .val (.ref b54), .val (.ref b52_0), .val (.ref b52_0)] [(.ref b52_0)])) (fun _ k_ => XS.aload X65.here hx rfl (hb hby at_152) rfl rfl  k_) ?_
      refine own_k (T' := T65) (g' := (mkF m 156 #[.val (.int p0), .val (.int p1), .val (.int p2), .val (.int p3), .val (.int p4), .val (.int p5), .val (.int (1 : Int32)), .val (.int (1 : Int32)), .val (.ref b52_0), .val .null, .val (.ref b53_0), .val (.ref b54), .val (.ref b52_0), .val (.ref b52_0)] [(.ref b52_0), (.ref b52_0)])) (fun _ k_ => XS.aload X65.here hx rfl (hb hby at_154) rfl rfl  k_) ?_
      refine own_callS X65 hx hZ (y := (⟨"com/example/nepean/nepean/mapping/ColumnSettingsSqlTypePinLaw", "same", "(Ljava/lang/String;Ljava/lang/String;)Z"⟩ : MethodName)) hown (hw _ (List.mem_of_getElem? (i := 61) rfl)) (hw _ (List.mem_of_getElem? (i := 62) rfl)) (hw _ (List.mem_of_getElem? (i := 2) rfl)) (hw _ (List.mem_of_getElem? (i := 63) rfl)) (by decide) (al := [(.ref b52_0), (.ref b52_0)]) (rm_same_10 l Z a0 g_COMPACT_STRINGS g_SIOOBE_FORMATTER hW b52_0 T63.heap O63' (((q52_0.keep K53).ext E54).keep K63)) 0 (by decide) (by decide) e65 (by decide) (by decide) (by rw [hml]; rfl) (lenOf pd__28Ljava_2flang_2fString_3bLjava_2flang_2fString_3b_29Z rfl) rfl (rest := []) (by show 2 * 0 + _ ≤ _; exact Nat.le_of_eq rfl) (hb hby at_156) ?_
      intro v66 T66 L66 X66 hQ66
      obtain ⟨rfl, Nq66, e66⟩ := hQ66
      have N66 := Fr.app N65 Nq66
      show own_Go p e below Φ T66 (mkF m 159 #[.val (.int p0), .val (.int p1), .val (.int p2), .val (.int p3), .val (.int p4), .val (.int p5), .val (.int (1 : Int32)), .val (.int (1 : Int32)), .val (.ref b52_0), .val .null, .val (.ref b53_0), .val (.ref b54), .val (.ref b52_0), .val (.ref b52_0)] [(.int (1 : Int32))])
      refine own_k (T' := T66) (g' := (mkF m 162 #[.val (.int p0), .val (.int p1), .val (.int p2), .val (.int p3), .val (.int p4), .val (.int p5), .val (.int (1 : Int32)), .val (.int (1 : Int32)), .val (.ref b52_0), .val .null, .val (.ref b53_0), .val (.ref b54), .val (.ref b52_0), .val (.ref b52_0)] [])) (fun _ k_ => XS.ifNo X66.here hx rfl (hb hby at_159) rfl ((if0 _ _).trans (feq (by decide : ¬ ((1 : Int32) = (0 : Int32)))).1) k_) ?_
      refine own_k (T' := T66) (g' := (mkF m 164 #[.val (.int p0), .val (.int p1), .val (.int p2), .val (.int p3), .val (.int p4), .val (.int p5), .val (.int (1 : Int32)), .val (.int (1 : Int32)), .val (.ref b52_0), .val .null, .val (.ref b53_0), .val (.ref b54), .val (.ref b52_0), .val (.ref b52_0)] [(.ref b52_0)])) (fun _ k_ => XS.aload X66.here hx rfl (hb hby at_162) rfl rfl  k_) ?_
      refine own_k (T' := T66) (g' := (mkF m 166 #[.val (.int p0), .val (.int p1), .val (.int p2), .val (.int p3), .val (.int p4), .val (.int p5), .val (.int (1 : Int32)), .val (.int (1 : Int32)), .val (.ref b52_0), .val .null, .val (.ref b53_0), .val (.ref b54), .val (.ref b52_0), .val (.ref b52_0)] [(.ref b52_0), (.ref b52_0)])) (fun _ k_ => XS.aload X66.here hx rfl (hb hby at_164) rfl rfl  k_) ?_
      refine own_callS X66 hx hZ (y := (⟨"com/example/nepean/nepean/mapping/ColumnSettingsSqlTypePinLaw", "same", "(Ljava/lang/String;Ljava/lang/String;)Z"⟩ : MethodName)) hown (hw _ (List.mem_of_getElem? (i := 61) rfl)) (hw _ (List.mem_of_getElem? (i := 62) rfl)) (hw _ (List.mem_of_getElem? (i := 2) rfl)) (hw _ (List.mem_of_getElem? (i := 63) rfl)) (by decide) (al := [(.ref b52_0), (.ref b52_0)]) (rm_same_10 l Z a0 g_COMPACT_STRINGS g_SIOOBE_FORMATTER hW b52_0 T63.heap O63' (((q52_0.keep K53).ext E54).keep K63)) 0 (by decide) (by decide) e66 (by decide) (by decide) (by rw [hml]; rfl) (lenOf pd__28Ljava_2flang_2fString_3bLjava_2flang_2fString_3b_29Z rfl) rfl (rest := []) (by show 2 * 0 + _ ≤ _; exact Nat.le_of_eq rfl) (hb hby at_166) ?_
      intro v67 T67 L67 X67 hQ67
      obtain ⟨rfl, Nq67, e67⟩ := hQ67
      have N67 := Fr.app N66 Nq67
      show own_Go p e below Φ T67 (mkF m 169 #[.val (.int p0), .val (.int p1), .val (.int p2), .val (.int p3), .val (.int p4), .val (.int p5), .val (.int (1 : Int32)), .val (.int (1 : Int32)), .val (.ref b52_0), .val .null, .val (.ref b53_0), .val (.ref b54), .val (.ref b52_0), .val (.ref b52_0)] [(.int (1 : Int32))])
      refine own_k (T' := T67) (g' := (mkF m 172 #[.val (.int p0), .val (.int p1), .val (.int p2), .val (.int p3), .val (.int p4), .val (.int p5), .val (.int (1 : Int32)), .val (.int (1 : Int32)), .val (.ref b52_0), .val .null, .val (.ref b53_0), .val (.ref b54), .val (.ref b52_0), .val (.ref b52_0)] [])) (fun _ k_ => XS.ifNo X67.here hx rfl (hb hby at_169) rfl ((if0 _ _).trans (feq (by decide : ¬ ((1 : Int32) = (0 : Int32)))).1) k_) ?_
      refine own_k (T' := T67) (g' := (mkF m 173 #[.val (.int p0), .val (.int p1), .val (.int p2), .val (.int p3), .val (.int p4), .val (.int p5), .val (.int (1 : Int32)), .val (.int (1 : Int32)), .val (.ref b52_0), .val .null, .val (.ref b53_0), .val (.ref b54), .val (.ref b52_0), .val (.ref b52_0)] [(.int (1 : Int32))])) (fun _ k_ => XS.iconst X67.here hx rfl (hb hby at_172) k_) ?_
      refine own_k (T' := T67) (g' := (mkF m 177 #[.val (.int p0), .val (.int p1), .val (.int p2), .val (.int p3), .val (.int p4), .val (.int p5), .val (.int (1 : Int32)), .val (.int (1 : Int32)), .val (.ref b52_0), .val .null, .val (.ref b53_0), .val (.ref b54), .val (.ref b52_0), .val (.ref b52_0)] [(.int (1 : Int32))])) (fun _ k_ => XS.goto X67.here hx rfl (pc0 := 173) (pc' := 177) rfl (hb hby at_173) (by decide) (by decide) k_) ?_
      exact own_retN X67 hx (t := .boolean) hret (by simp) hlk (hb hby at_177) hF (⟨by rw [show nar .boolean (1 : Int32) = (1 : Int32) from by decide], N67, trivial⟩) (by decide) (by decide)
set_option maxRecDepth 65536 in
set_option maxHeartbeats 40000000 in
theorem comes_1 {Post : Tables → Env → Array Value → State → Outcome → State → Prop} (hpost : ∀ tb e args s v u, (limb_1_1.after args s (.returned v) u = true ∧ limb_1_2.after args s (.returned v) u = true ∧ True) → FrameEnd s (.returned v) u (Jvm.fieldLocs frame_1_writes args s ++ Jvm.arrayLocs frame_1_arrays args s ++ Jvm.staticLocs frame_1_statics s) 32 128 → Post tb e args s (.returned v) u) :
    ArmFor flags0 classFile x code maxLocals ret World_1 tables_1 room_1 Calls_1 rest_1 Pre_1 Post := by
  intro l hfl _ _ p e ha hc hk s m args below hf hA hF happ hP
  obtain ⟨hcalls, hrest, hpre⟩ := hP
  obtain ⟨-, -, -, hnamed, -, -, -, hat⟩ := (Spec.applies_iff hf).mp happ
  obtain ⟨hg, hn⟩ := and_e (Cond.before_iff.mp (show (Jvm.Cond.and given_1 narrow_1).before args s = true from hpre))
  obtain ⟨g1, g2⟩ := and_e hg
  obtain ⟨g3, g4⟩ := and_e g2
  obtain ⟨g5, g6⟩ := and_e g4
  obtain ⟨g7, g8⟩ := and_e g6
  obtain ⟨g9, g10⟩ := and_e g8
  obtain ⟨g11, g12⟩ := and_e g10
  obtain ⟨w0, w1, w2, w3, w4, w5, rfl⟩ : ∃ w0 w1 w2 w3 w4 w5 : Value, args = #[w0, w1, w2, w3, w4, w5] := by
    have hs : args.size = 6 := by simpa [Cond.value, given_1] using g1
    obtain ⟨L⟩ := args
    match L, hs with
    | [w0, w1, w2, w3, w4, w5], _ => exact ⟨w0, w1, w2, w3, w4, w5, rfl⟩
  have hw := fun d (hd : d ∈ tables_1) => atoms_spec (ws := Jvm.Cond.code x code maxLocals ret :: tables_1) hat d (List.mem_cons_of_mem _ hd)
  have hfit : Fit s := fun {y c} hc i hi => by
    obtain ⟨ha, rfl⟩ := Array.getElem?_eq_some_iff.mp hc
    have q := List.all_eq_true.mp ((Array.all_eq_true_iff_forall_mem.mp hF) _ (Array.getElem_mem ha)) i (List.mem_range.mpr hi)
    simpa [Array.getElem?_eq_getElem hi] using q
  obtain ⟨hsets, hown0⟩ := atoms_of _ (rest_1_c_eq ▸ (show rest_1_c.before _ s = true from hrest))
  obtain ⟨i0, ei0⟩ := is_v g3
  obtain rfl : w0 = (.int i0) := Option.some.inj ei0
  obtain ⟨i1, ei1⟩ := is_v g5
  obtain rfl : w1 = (.int i1) := Option.some.inj ei1
  obtain ⟨i2, ei2⟩ := is_v g7
  obtain rfl : w2 = (.int i2) := Option.some.inj ei2
  obtain ⟨i3, ei3⟩ := is_v g9
  obtain rfl : w3 = (.int i3) := Option.some.inj ei3
  obtain ⟨i4, ei4⟩ := is_v g11
  obtain rfl : w4 = (.int i4) := Option.some.inj ei4
  obtain ⟨i5, ei5⟩ := is_v g12
  obtain rfl : w5 = (.int i5) := Option.some.inj ei5
  obtain ⟨g_COMPACT_STRINGS, ev_g_COMPACT_STRINGS⟩ := is_v (Cond.before_iff.mp (hsets _ (List.mem_of_getElem? (i := 1) rfl)))
  have S_g_COMPACT_STRINGS := Sta.start ev_g_COMPACT_STRINGS (Or.inl (hsets _ (List.mem_of_getElem? (i := 0) rfl)))
  have P_g_COMPACT_STRINGS : ¬ (g_COMPACT_STRINGS = (0 : Int32)) := gotF (Cond.eq_ints ev_g_COMPACT_STRINGS (Term.int_eval (0))) (not_v (Cond.before_iff.mp (hsets _ (List.mem_of_getElem? (i := 2) rfl))))
  obtain ⟨g_SIOOBE_FORMATTER, ev_g_SIOOBE_FORMATTER, R_g_SIOOBE_FORMATTER⟩ := isR_v (Cond.before_iff.mp (hsets _ (List.mem_of_getElem? (i := 8) rfl)))
  have S_g_SIOOBE_FORMATTER := Sta.start ev_g_SIOOBE_FORMATTER (Or.inl (hsets _ (List.mem_of_getElem? (i := 7) rfl)))
  obtain ⟨n, o, h1, h2, h3, _, L, rfl, ⟨rfl, N, -⟩, hq⟩ := own_law l s _ g_COMPACT_STRINGS g_SIOOBE_FORMATTER ⟨hw, S_g_COMPACT_STRINGS, P_g_COMPACT_STRINGS, R_g_SIOOBE_FORMATTER, S_g_SIOOBE_FORMATTER⟩ i0 i1 i2 i3 i4 i5 s.heap (Old.start s)  tables_1 p e ha hc hk s m _ below hf ((Spec.applies_iff_loose hf).mp happ).1 ⟨rfl, State.Warmed39.refl s, rfl⟩ trivial
  refine ⟨n, _, h1, h2, h3, hpost _ _ _ _ _ _ ⟨Cond.after_iff.mpr rfl, Cond.after_iff.mpr (eq_i res_at (Term.int_eval (1)) rfl), trivial⟩ ⟨hq.1, hq.2.1, (hq.2.2.sift fun y hy => Or.inr (N y hy)).mono (by decide) (by decide)⟩⟩
theorem main_1_1 : Claimed_1_1 := comes_1 fun _ _ _ _ _ _ h hF => ⟨h.1, hF⟩
theorem main_1_2 : Claimed_1_2 := comes_1 fun _ _ _ _ _ _ h hF => ⟨h.2.1, hF⟩
end Jvm.Pilot.@@N@@
namespace Jvm.Pilot.@@N@@
open Jvm Jvm.ClassFile Sem Op Lib Jvm.Free Jvm.Stand Jvm.Pilot.@@N@@.Jvm.D
/-! MADE BY PROGRAM (witnessworld.py) out of the Statement's table words and the real class files: 21 classes; the members and pool entries that the words name. The judged class is class 1, her method 1. -/
namespace start1
open Jvm.ClassFile
def u (s : String) : CpInfo := .utf8 (stringToUtf16 s)
/-- a pool by its gaps: so many unusable entries, then the entry; so many at the end -/
def gap : Nat → List CpInfo → List CpInfo
  | 0, r => r
  | n + 1, r => .unusable :: gap n r
def poolList (es : List (Nat × CpInfo)) (last : Nat) : List CpInfo := es.foldr (fun e r => gap e.1 (e.2 :: r)) (gap last [])
def pool (es : List (Nat × CpInfo)) (last : Nat) : Array CpInfo := ⟨poolList es last⟩
def fileOf (pool : Array CpInfo) (this : Nat) (attrs : Array Attribute := #[]) (ms : Array MethodInfo := #[]) (fl : Nat := 33) (sup : Nat := 0) (ifs : Array Nat := #[]) (fds : Array FieldInfo := #[]) : ClassFile where
  minorVersion := 0
  majorVersion := 65
  constantPool := pool
  accessFlags := fl
  thisClass := this
  superClass := sup
  interfaces := ifs
  fields := fds
  methods := ms
  attributes := attrs
def plain (name : String) (sup : Option ClassId) : Class where
  name := name
  kind := .ordinary
  loader := none
  accessFlags := 33
  super := sup
  interfaces := #[]
  cf := none
  fields := #[]
  methods := #[]
  instanceTypes := #[]
  staticTypes := #[]
  resolved := #[]
  callSites := []
  init := .initialized
  statics := none
  mirror := none

def pool0 : Array CpInfo := pool [(5, u "<init>"), (0, u "()V"), (1, .class_ 10), (1, u "java/lang/Object")] 113

def k0c0 : Code := { maxStack := 0, maxLocals := 1, code := object_method_1_code, exceptionTable := #[], attributes := #[] }
def k0m0 : Method := { name := "<init>", desc := "()V", sig := { parameters := [], returnType := none }, accessFlags := 1, code := some k0c0 }
/-- java/lang/Object -/
def k0 : Class := { plain "java/lang/Object" none with
  accessFlags := 33
  interfaces := #[]
  cf := some (fileOf pool0 8 #[] #[{ accessFlags := 1, nameIndex := 5, descriptorIndex := 6, attributes := #[] }] 33 0 #[] #[])
  fields := #[]
  methods := #[k0m0]
  instanceTypes := #[]
  staticTypes := #[]
  resolved := Array.replicate 124 none
  statics := none }

def pool1 : Array CpInfo := pool [(2, .class_ 4), (1, u "java/lang/Object"), (0, u "<init>"), (0, u "()V"), (0, .methodref 8 9), (0, .class_ 10), (0, .nameAndType 11 12), (0, u "com/example/nepean/nepean/mapping/ColumnSettingsSqlTypePinLaw"), (0, u "str"), (0, u "(II)Ljava/lang/String;"), (0, .class_ 14), (0, u "com/example/nepean/nepean/mapping/ColumnSettings"), (0, .methodref 13 16), (0, .nameAndType 5 17), (0, u "(ZZZZLjava/lang/String;)V"), (0, .methodref 13 19), (0, .nameAndType 20 21), (0, u "sqlType"), (0, u "(Ljava/lang/String;)Ljava/lang/String;"), (0, .methodref 8 23), (0, .nameAndType 24 25), (0, u "same"), (0, u "(Ljava/lang/String;Ljava/lang/String;)Z"), (0, .class_ 27), (0, u "java/lang/String"), (0, .methodref 26 29), (0, .nameAndType 5 30), (0, u "([C)V"), (0, .methodref 26 32), (0, .nameAndType 33 34), (0, u "equals"), (0, u "(Ljava/lang/Object;)Z"), (2, u "law"), (0, u "(IIIIII)Z")] 3

def k1m0 : Method := { name := "<init>", desc := "()V", sig := { parameters := [], returnType := none }, accessFlags := 1, code := none }
def k1c1 : Code := { maxStack := 7, maxLocals := 14, code := code, exceptionTable := #[], attributes := #[] }
def k1m1 : Method := { name := "law", desc := "(IIIIII)Z", sig := { parameters := [.int, .int, .int, .int, .int, .int], returnType := some .boolean }, accessFlags := 9, code := some k1c1 }
def k1c2 : Code := { maxStack := 4, maxLocals := 3, code := method_3_code, exceptionTable := #[], attributes := #[] }
def k1m2 : Method := { name := "str", desc := "(II)Ljava/lang/String;", sig := { parameters := [.int, .int], returnType := some (.object "java/lang/String") }, accessFlags := 10, code := some k1c2 }
def k1c3 : Code := { maxStack := 2, maxLocals := 2, code := method_4_code, exceptionTable := #[], attributes := #[] }
def k1m3 : Method := { name := "same", desc := "(Ljava/lang/String;Ljava/lang/String;)Z", sig := { parameters := [(.object "java/lang/String"), (.object "java/lang/String")], returnType := some .boolean }, accessFlags := 10, code := some k1c3 }
/-- com/example/nepean/nepean/mapping/ColumnSettingsSqlTypePinLaw -/
def k1 : Class := { plain "com/example/nepean/nepean/mapping/ColumnSettingsSqlTypePinLaw" (some 0) with
  accessFlags := 49
  interfaces := #[]
  cf := some (fileOf pool1 8 #[] #[{ accessFlags := 1, nameIndex := 5, descriptorIndex := 6, attributes := #[] }, { accessFlags := 9, nameIndex := 37, descriptorIndex := 38, attributes := #[] }, { accessFlags := 10, nameIndex := 11, descriptorIndex := 12, attributes := #[] }, { accessFlags := 10, nameIndex := 24, descriptorIndex := 25, attributes := #[] }] 49 2 #[] #[])
  fields := #[]
  methods := #[k1m0, k1m1, k1m2, k1m3]
  instanceTypes := #[]
  staticTypes := #[]
  resolved := Array.replicate 42 none
  statics := none }

def pool2 : Array CpInfo := pool [(1, .class_ 2), (0, u "java/io/Serializable"), (0, .class_ 4), (0, u "java/lang/Object")] 2

/-- java/io/Serializable -/
def k2 : Class := { plain "java/io/Serializable" (some 0) with
  accessFlags := 1537
  interfaces := #[]
  cf := some (fileOf pool2 1 #[] #[] 1537 3 #[] #[])
  fields := #[]
  methods := #[]
  instanceTypes := #[]
  staticTypes := #[]
  resolved := Array.replicate 7 none
  statics := none }

def pool3 : Array CpInfo := pool [(1, .class_ 2), (0, u "java/lang/Comparable"), (0, .class_ 4), (0, u "java/lang/Object")] 7

/-- java/lang/Comparable -/
def k3 : Class := { plain "java/lang/Comparable" (some 0) with
  accessFlags := 1537
  interfaces := #[]
  cf := some (fileOf pool3 1 #[] #[] 1537 3 #[] #[])
  fields := #[]
  methods := #[]
  instanceTypes := #[]
  staticTypes := #[]
  resolved := Array.replicate 12 none
  statics := none }

def pool4 : Array CpInfo := pool [(2, .class_ 4), (1, u "java/lang/CharSequence"), (42, .class_ 48), (0, u "java/lang/CharSequence$1CodePointIterator"), (10, .class_ 60), (0, u "java/lang/CharSequence$1CharIterator"), (5, .class_ 67), (0, u "java/lang/Object")] 63

/-- java/lang/CharSequence -/
def k4 : Class := { plain "java/lang/CharSequence" (some 0) with
  accessFlags := 1537
  interfaces := #[]
  cf := some (fileOf pool4 2 #[.nestMembers #[47, 59]] #[] 1537 66 #[] #[])
  fields := #[]
  methods := #[]
  instanceTypes := #[]
  staticTypes := #[]
  resolved := Array.replicate 131 none
  statics := none }

def pool5 : Array CpInfo := pool [(1, .class_ 2), (0, u "java/lang/constant/Constable"), (0, .class_ 4), (0, u "java/lang/Object")] 6

/-- java/lang/constant/Constable -/
def k5 : Class := { plain "java/lang/constant/Constable" (some 0) with
  accessFlags := 1537
  interfaces := #[]
  cf := some (fileOf pool5 1 #[] #[] 1537 3 #[] #[])
  fields := #[]
  methods := #[]
  instanceTypes := #[]
  staticTypes := #[]
  resolved := Array.replicate 11 none
  statics := none }

def pool6 : Array CpInfo := pool [(1, .class_ 2), (0, u "java/lang/constant/ConstantDesc"), (0, .class_ 4), (0, u "java/lang/Object")] 32

/-- java/lang/constant/ConstantDesc -/
def k6 : Class := { plain "java/lang/constant/ConstantDesc" (some 0) with
  accessFlags := 1537
  interfaces := #[]
  cf := some (fileOf pool6 1 #[] #[] 1537 3 #[] #[])
  fields := #[]
  methods := #[]
  instanceTypes := #[]
  staticTypes := #[]
  resolved := Array.replicate 37 none
  statics := none }

def pool7 : Array CpInfo := pool [(1, .methodref 2 3), (0, .class_ 4), (0, .nameAndType 5 6), (0, u "java/lang/Object"), (0, u "<init>"), (0, u "()V"), (2, .fieldref 10 11), (0, .class_ 12), (0, .nameAndType 13 14), (0, u "java/lang/String"), (0, u "value"), (0, u "[B"), (0, .fieldref 10 16), (0, .nameAndType 17 18), (0, u "coder"), (0, u "B"), (2, u "hash"), (0, u "I"), (2, u "hashIsZero"), (0, u "Z"), (0, .methodref 10 28), (0, .nameAndType 5 29), (0, u "([CIILjava/lang/Void;)V"), (8, .fieldref 10 39), (0, .nameAndType 40 26), (0, u "COMPACT_STRINGS"), (1, .class_ 44), (1, u "java/lang/StringUTF16"), (0, u "compress"), (1, .methodref 42 48), (0, .nameAndType 49 50), (0, u "coderFromArrayLen"), (0, u "([BI)B"), (126, .methodref 42 178), (0, .nameAndType 45 179), (0, u "([CII)[B"), (363, u "equals"), (29, u "(Ljava/lang/Object;)Z"), (1, .class_ 576), (0, u "java/lang/CharSequence"), (22, u "CASE_INSENSITIVE_ORDER"), (0, u "Ljava/util/Comparator;"), (409, u "([C)V"), (90, u "serialPersistentFields"), (0, u "[Ljava/io/ObjectStreamField;"), (0, .class_ 1104), (0, u "java/lang/String$CaseInsensitiveComparator"), (1, .class_ 1107), (0, u "java/io/Serializable"), (0, .class_ 1109), (0, u "java/lang/Comparable"), (0, .class_ 1111), (0, u "java/lang/constant/Constable"), (0, .class_ 1113), (0, u "java/lang/constant/ConstantDesc"), (2, u "serialVersionUID"), (0, u "J"), (3, u "REPL"), (0, u "C"), (2, u "LATIN1"), (1, u "UTF16")] 323

def k7m0 : Method := { name := "<init>", desc := "()V", sig := { parameters := [], returnType := none }, accessFlags := 1, code := none }
def k7c1 : Code := { maxStack := 5, maxLocals := 2, code := jdk_42_method_3_code, exceptionTable := #[], attributes := #[] }
def k7m1 : Method := { name := "<init>", desc := "([C)V", sig := { parameters := [(.array .char)], returnType := none }, accessFlags := 1, code := some k7c1 }
def k7c2 : Code := { maxStack := 2, maxLocals := 3, code := jdk_42_method_66_code, exceptionTable := #[], attributes := #[] }
def k7m2 : Method := { name := "equals", desc := "(Ljava/lang/Object;)Z", sig := { parameters := [(.object "java/lang/Object")], returnType := some .boolean }, accessFlags := 1, code := some k7c2 }
def k7c3 : Code := { maxStack := 4, maxLocals := 6, code := jdk_42_method_149_code, exceptionTable := #[], attributes := #[] }
def k7m3 : Method := { name := "<init>", desc := "([CIILjava/lang/Void;)V", sig := { parameters := [(.array .char), .int, .int, (.object "java/lang/Void")], returnType := none }, accessFlags := 2, code := some k7c3 }
/-- java/lang/String -/
def k7 : Class := { plain "java/lang/String" (some 0) with
  accessFlags := 49
  interfaces := #[2, 3, 4, 5, 6]
  cf := some (fileOf pool7 10 #[.nestMembers #[1103]] #[{ accessFlags := 1, nameIndex := 5, descriptorIndex := 6, attributes := #[] }, { accessFlags := 1, nameIndex := 5, descriptorIndex := 1010, attributes := #[] }, { accessFlags := 1, nameIndex := 543, descriptorIndex := 573, attributes := #[] }, { accessFlags := 2, nameIndex := 5, descriptorIndex := 29, attributes := #[] }] 49 2 #[1106, 1108, 575, 1110, 1112] #[{ accessFlags := 18, nameIndex := 13, descriptorIndex := 14, attributes := #[] }, { accessFlags := 18, nameIndex := 17, descriptorIndex := 18, attributes := #[] }, { accessFlags := 2, nameIndex := 21, descriptorIndex := 22, attributes := #[] }, { accessFlags := 2, nameIndex := 25, descriptorIndex := 26, attributes := #[] }, { accessFlags := 26, nameIndex := 1116, descriptorIndex := 1117, attributes := #[] }, { accessFlags := 24, nameIndex := 40, descriptorIndex := 26, attributes := #[] }, { accessFlags := 26, nameIndex := 1101, descriptorIndex := 1102, attributes := #[] }, { accessFlags := 26, nameIndex := 1121, descriptorIndex := 1122, attributes := #[] }, { accessFlags := 25, nameIndex := 599, descriptorIndex := 600, attributes := #[] }, { accessFlags := 24, nameIndex := 1125, descriptorIndex := 18, attributes := #[] }, { accessFlags := 24, nameIndex := 1127, descriptorIndex := 18, attributes := #[] }])
  fields := #[{ name := "value", type := (.array .byte), accessFlags := 18, slot := 0, constantValue := 0 }, { name := "coder", type := .byte, accessFlags := 18, slot := 1, constantValue := 0 }, { name := "hash", type := .int, accessFlags := 2, slot := 2, constantValue := 0 }, { name := "hashIsZero", type := .boolean, accessFlags := 2, slot := 3, constantValue := 0 }, { name := "serialVersionUID", type := .long, accessFlags := 26, slot := 0, constantValue := 0 }, { name := "COMPACT_STRINGS", type := .boolean, accessFlags := 24, slot := 1, constantValue := 0 }, { name := "serialPersistentFields", type := (.array (.object "java/io/ObjectStreamField")), accessFlags := 26, slot := 2, constantValue := 0 }, { name := "REPL", type := .char, accessFlags := 26, slot := 3, constantValue := 0 }, { name := "CASE_INSENSITIVE_ORDER", type := (.object "java/util/Comparator"), accessFlags := 25, slot := 4, constantValue := 0 }, { name := "LATIN1", type := .byte, accessFlags := 24, slot := 5, constantValue := 0 }, { name := "UTF16", type := .byte, accessFlags := 24, slot := 6, constantValue := 0 }]
  methods := #[k7m0, k7m1, k7m2, k7m3]
  instanceTypes := #[(.array .byte), .byte, .int, .boolean]
  staticTypes := #[.long, .boolean, (.array (.object "java/io/ObjectStreamField")), .char, (.object "java/util/Comparator"), .byte, .byte]
  resolved := Array.replicate 1451 none
  statics := some 0 }

def pool8 : Array CpInfo := pool [(6, .class_ 8), (1, u "java/lang/Object"), (0, u "<init>"), (0, u "()V"), (1, .class_ 14), (1, u "java/lang/StringUTF16"), (31, u "$assertionsDisabled"), (0, u "Z"), (13, u "HI_BYTE_SHIFT"), (0, u "I"), (2, u "LO_BYTE_SHIFT"), (49, .methodref 12 116), (0, .nameAndType 117 118), (0, u "compress"), (0, u "([CI[BII)I"), (3, u "([CII)[B"), (138, u "coderFromArrayLen"), (0, u "([BI)B"), (106, .class_ 371), (1, u "java/lang/StringUTF16$LinesSpliterator"), (58, u "MAX_LENGTH"), (196, .class_ 628), (0, u "java/lang/StringUTF16$CodePointsSpliterator"), (0, .class_ 630), (0, u "java/lang/StringUTF16$CharsSpliterator")] 4

def k8m0 : Method := { name := "<init>", desc := "()V", sig := { parameters := [], returnType := none }, accessFlags := 0, code := none }
def k8c1 : Code := { maxStack := 2, maxLocals := 2, code := jdk_52_method_15_code, exceptionTable := #[], attributes := #[] }
def k8m1 : Method := { name := "coderFromArrayLen", desc := "([BI)B", sig := { parameters := [(.array .byte), .int], returnType := some .byte }, accessFlags := 8, code := some k8c1 }
def k8c2 : Code := { maxStack := 5, maxLocals := 6, code := jdk_52_method_16_code, exceptionTable := #[], attributes := #[] }
def k8m2 : Method := { name := "compress", desc := "([CII)[B", sig := { parameters := [(.array .char), .int, .int], returnType := some (.array .byte) }, accessFlags := 9, code := some k8c2 }
def k8c3 : Code := { maxStack := 3, maxLocals := 7, code := jdk_52_method_21_code, exceptionTable := #[], attributes := #[] }
def k8m3 : Method := { name := "compress", desc := "([CI[BII)I", sig := { parameters := [(.array .char), .int, (.array .byte), .int, .int], returnType := some .int }, accessFlags := 9, code := some k8c3 }
/-- java/lang/StringUTF16 -/
def k8 : Class := { plain "java/lang/StringUTF16" (some 0) with
  accessFlags := 48
  interfaces := #[]
  cf := some (fileOf pool8 12 #[.nestMembers #[627, 629, 369]] #[{ accessFlags := 0, nameIndex := 9, descriptorIndex := 10, attributes := #[] }, { accessFlags := 8, nameIndex := 261, descriptorIndex := 262, attributes := #[] }, { accessFlags := 9, nameIndex := 117, descriptorIndex := 122, attributes := #[] }, { accessFlags := 9, nameIndex := 117, descriptorIndex := 118, attributes := #[] }] 48 6 #[] #[{ accessFlags := 26, nameIndex := 61, descriptorIndex := 62, attributes := #[] }, { accessFlags := 26, nameIndex := 65, descriptorIndex := 62, attributes := #[] }, { accessFlags := 24, nameIndex := 430, descriptorIndex := 62, attributes := #[] }, { accessFlags := 4120, nameIndex := 46, descriptorIndex := 47, attributes := #[] }])
  fields := #[{ name := "HI_BYTE_SHIFT", type := .int, accessFlags := 26, slot := 0, constantValue := 0 }, { name := "LO_BYTE_SHIFT", type := .int, accessFlags := 26, slot := 1, constantValue := 0 }, { name := "MAX_LENGTH", type := .int, accessFlags := 24, slot := 2, constantValue := 0 }, { name := "$assertionsDisabled", type := .boolean, accessFlags := 4120, slot := 3, constantValue := 0 }]
  methods := #[k8m0, k8m1, k8m2, k8m3]
  instanceTypes := #[]
  staticTypes := #[.int, .int, .int, .boolean]
  resolved := Array.replicate 635 none
  statics := none }

def pool9 : Array CpInfo := pool [(1, .methodref 2 3), (0, .class_ 4), (0, .nameAndType 5 6), (0, u "java/lang/Object"), (0, u "<init>"), (0, u "()V"), (0, .class_ 8), (0, u "java/lang/Record")] 13

def k9c0 : Code := { maxStack := 1, maxLocals := 1, code := jdk_30_method_1_code, exceptionTable := #[], attributes := #[] }
def k9m0 : Method := { name := "<init>", desc := "()V", sig := { parameters := [], returnType := none }, accessFlags := 4, code := some k9c0 }
/-- java/lang/Record -/
def k9 : Class := { plain "java/lang/Record" (some 0) with
  accessFlags := 1057
  interfaces := #[]
  cf := some (fileOf pool9 7 #[] #[{ accessFlags := 4, nameIndex := 5, descriptorIndex := 6, attributes := #[] }] 1057 2 #[] #[])
  fields := #[]
  methods := #[k9m0]
  instanceTypes := #[]
  staticTypes := #[]
  resolved := Array.replicate 22 none
  statics := none }

def pool10 : Array CpInfo := pool [(1, .methodref 2 3), (0, .class_ 4), (0, .nameAndType 5 6), (0, u "java/lang/Record"), (0, u "<init>"), (0, u "()V"), (0, .fieldref 8 9), (0, .class_ 10), (0, .nameAndType 11 12), (0, u "com/example/nepean/nepean/mapping/ColumnSettings"), (0, u "nullable"), (0, u "Z"), (0, .fieldref 8 14), (0, .nameAndType 15 12), (0, u "unique"), (0, .fieldref 8 17), (0, .nameAndType 18 12), (0, u "insertable"), (0, .fieldref 8 20), (0, .nameAndType 21 12), (0, u "updatable"), (0, .fieldref 8 23), (0, .nameAndType 24 25), (0, u "definition"), (0, u "Ljava/lang/String;"), (14, u "(ZZZZLjava/lang/String;)V"), (2, u "DEFAULT"), (0, u "Lcom/example/nepean/nepean/mapping/ColumnSettings;"), (3, u "sqlType"), (0, u "(Ljava/lang/String;)Ljava/lang/String;")] 32

def k10c0 : Code := { maxStack := 2, maxLocals := 6, code := prog_5_method_1_code, exceptionTable := #[], attributes := #[] }
def k10m0 : Method := { name := "<init>", desc := "(ZZZZLjava/lang/String;)V", sig := { parameters := [.boolean, .boolean, .boolean, .boolean, (.object "java/lang/String")], returnType := none }, accessFlags := 1, code := some k10c0 }
def k10c1 : Code := { maxStack := 1, maxLocals := 2, code := prog_5_method_2_code, exceptionTable := #[], attributes := #[] }
def k10m1 : Method := { name := "sqlType", desc := "(Ljava/lang/String;)Ljava/lang/String;", sig := { parameters := [(.object "java/lang/String")], returnType := some (.object "java/lang/String") }, accessFlags := 1, code := some k10c1 }
/-- com/example/nepean/nepean/mapping/ColumnSettings -/
def k10 : Class := { plain "com/example/nepean/nepean/mapping/ColumnSettings" (some 9) with
  accessFlags := 49
  interfaces := #[]
  cf := some (fileOf pool10 8 #[] #[{ accessFlags := 1, nameIndex := 5, descriptorIndex := 40, attributes := #[] }, { accessFlags := 1, nameIndex := 48, descriptorIndex := 49, attributes := #[] }] 49 2 #[] #[{ accessFlags := 18, nameIndex := 11, descriptorIndex := 12, attributes := #[] }, { accessFlags := 18, nameIndex := 15, descriptorIndex := 12, attributes := #[] }, { accessFlags := 18, nameIndex := 18, descriptorIndex := 12, attributes := #[] }, { accessFlags := 18, nameIndex := 21, descriptorIndex := 12, attributes := #[] }, { accessFlags := 18, nameIndex := 24, descriptorIndex := 25, attributes := #[] }, { accessFlags := 25, nameIndex := 43, descriptorIndex := 44, attributes := #[] }])
  fields := #[{ name := "nullable", type := .boolean, accessFlags := 18, slot := 0, constantValue := 0 }, { name := "unique", type := .boolean, accessFlags := 18, slot := 1, constantValue := 0 }, { name := "insertable", type := .boolean, accessFlags := 18, slot := 2, constantValue := 0 }, { name := "updatable", type := .boolean, accessFlags := 18, slot := 3, constantValue := 0 }, { name := "definition", type := (.object "java/lang/String"), accessFlags := 18, slot := 4, constantValue := 0 }, { name := "DEFAULT", type := (.object "com/example/nepean/nepean/mapping/ColumnSettings"), accessFlags := 25, slot := 0, constantValue := 0 }]
  methods := #[k10m0, k10m1]
  instanceTypes := #[.boolean, .boolean, .boolean, .boolean, (.object "java/lang/String")]
  staticTypes := #[(.object "com/example/nepean/nepean/mapping/ColumnSettings")]
  resolved := Array.replicate 82 none
  statics := none }

def pool11 : Array CpInfo := pool [(4, .class_ 6), (1, u "java/lang/Object"), (0, u "<init>"), (0, u "()V"), (5, .class_ 16), (1, u "java/lang/StringLatin1"), (104, u "$assertionsDisabled"), (0, u "Z"), (98, .class_ 223), (1, u "java/lang/StringLatin1$LinesSpliterator"), (166, .class_ 391), (0, u "java/lang/StringLatin1$CharsSpliterator")] 3

def k11m0 : Method := { name := "<init>", desc := "()V", sig := { parameters := [], returnType := none }, accessFlags := 0, code := none }
/-- java/lang/StringLatin1 -/
def k11 : Class := { plain "java/lang/StringLatin1" (some 0) with
  accessFlags := 48
  interfaces := #[]
  cf := some (fileOf pool11 14 #[.nestMembers #[390, 221]] #[{ accessFlags := 0, nameIndex := 7, descriptorIndex := 8, attributes := #[] }] 48 4 #[] #[{ accessFlags := 4120, nameIndex := 121, descriptorIndex := 122, attributes := #[] }])
  fields := #[{ name := "$assertionsDisabled", type := .boolean, accessFlags := 4120, slot := 0, constantValue := 0 }]
  methods := #[k11m0]
  instanceTypes := #[]
  staticTypes := #[.boolean]
  resolved := Array.replicate 395 none
  statics := none }

def pool12 : Array CpInfo := pool [(2, .class_ 4), (1, u "java/lang/Object"), (0, u "<init>"), (0, u "()V"), (17, .class_ 26), (1, u "jdk/internal/util/Preconditions"), (28, .class_ 56), (0, u "jdk/internal/util/Preconditions$4"), (57, .class_ 115), (0, u "jdk/internal/util/Preconditions$1"), (7, u "SIOOBE_FORMATTER"), (0, u "Ljava/util/function/BiFunction;"), (0, .class_ 126), (0, u "jdk/internal/util/Preconditions$2"), (3, u "AIOOBE_FORMATTER"), (0, .class_ 132), (0, u "jdk/internal/util/Preconditions$3"), (3, u "IOOBE_FORMATTER")] 57

def k12m0 : Method := { name := "<init>", desc := "()V", sig := { parameters := [], returnType := none }, accessFlags := 1, code := none }
/-- jdk/internal/util/Preconditions -/
def k12 : Class := { plain "jdk/internal/util/Preconditions" (some 0) with
  accessFlags := 33
  interfaces := #[]
  cf := some (fileOf pool12 24 #[.nestMembers #[55, 131, 125, 114]] #[{ accessFlags := 1, nameIndex := 5, descriptorIndex := 6, attributes := #[] }] 33 2 #[] #[{ accessFlags := 25, nameIndex := 123, descriptorIndex := 124, attributes := #[] }, { accessFlags := 25, nameIndex := 130, descriptorIndex := 124, attributes := #[] }, { accessFlags := 25, nameIndex := 136, descriptorIndex := 124, attributes := #[] }])
  fields := #[{ name := "SIOOBE_FORMATTER", type := (.object "java/util/function/BiFunction"), accessFlags := 25, slot := 0, constantValue := 0 }, { name := "AIOOBE_FORMATTER", type := (.object "java/util/function/BiFunction"), accessFlags := 25, slot := 1, constantValue := 0 }, { name := "IOOBE_FORMATTER", type := (.object "java/util/function/BiFunction"), accessFlags := 25, slot := 2, constantValue := 0 }]
  methods := #[k12m0]
  instanceTypes := #[]
  staticTypes := #[(.object "java/util/function/BiFunction"), (.object "java/util/function/BiFunction"), (.object "java/util/function/BiFunction")]
  resolved := Array.replicate 194 none
  statics := some 1 }

def pool13 : Array CpInfo := pool [(9, u "<init>"), (6, .class_ 18), (1, u "java/lang/Object"), (0, u "()V"), (1, .class_ 23), (1, u "jdk/internal/util/ArraysSupport"), (0, u "LOG2_ARRAY_LONG_INDEX_SCALE"), (0, u "I"), (2, u "U"), (0, u "Ljdk/internal/misc/Unsafe;"), (8, u "BIG_ENDIAN"), (0, u "Z"), (8, u "LOG2_BYTE_BIT_SIZE"), (4, u "LOG2_ARRAY_INT_INDEX_SCALE"), (54, u "JLA"), (0, u "Ljdk/internal/access/JavaLangAccess;"), (11, u "LOG2_ARRAY_BOOLEAN_INDEX_SCALE"), (9, u "LOG2_ARRAY_BYTE_INDEX_SCALE"), (5, u "LOG2_ARRAY_CHAR_INDEX_SCALE"), (5, u "LOG2_ARRAY_SHORT_INDEX_SCALE"), (18, u "LOG2_ARRAY_FLOAT_INDEX_SCALE"), (24, u "LOG2_ARRAY_DOUBLE_INDEX_SCALE"), (89, u "T_BOOLEAN"), (2, u "T_CHAR"), (1, u "T_FLOAT"), (1, u "T_DOUBLE"), (1, u "T_BYTE"), (1, u "T_SHORT"), (1, u "T_INT"), (1, u "T_LONG"), (1, u "SOFT_MAX_ARRAY_LENGTH")] 83

def k13m0 : Method := { name := "<init>", desc := "()V", sig := { parameters := [], returnType := none }, accessFlags := 2, code := none }
/-- jdk/internal/util/ArraysSupport -/
def k13 : Class := { plain "jdk/internal/util/ArraysSupport" (some 0) with
  accessFlags := 33
  interfaces := #[]
  cf := some (fileOf pool13 21 #[] #[{ accessFlags := 2, nameIndex := 9, descriptorIndex := 19, attributes := #[] }] 33 16 #[] #[{ accessFlags := 24, nameIndex := 28, descriptorIndex := 29, attributes := #[] }, { accessFlags := 26, nameIndex := 38, descriptorIndex := 39, attributes := #[] }, { accessFlags := 25, nameIndex := 121, descriptorIndex := 25, attributes := #[] }, { accessFlags := 25, nameIndex := 131, descriptorIndex := 25, attributes := #[] }, { accessFlags := 25, nameIndex := 137, descriptorIndex := 25, attributes := #[] }, { accessFlags := 25, nameIndex := 143, descriptorIndex := 25, attributes := #[] }, { accessFlags := 25, nameIndex := 53, descriptorIndex := 25, attributes := #[] }, { accessFlags := 25, nameIndex := 24, descriptorIndex := 25, attributes := #[] }, { accessFlags := 25, nameIndex := 162, descriptorIndex := 25, attributes := #[] }, { accessFlags := 25, nameIndex := 187, descriptorIndex := 25, attributes := #[] }, { accessFlags := 26, nameIndex := 48, descriptorIndex := 25, attributes := #[] }, { accessFlags := 25, nameIndex := 277, descriptorIndex := 25, attributes := #[] }, { accessFlags := 25, nameIndex := 280, descriptorIndex := 25, attributes := #[] }, { accessFlags := 25, nameIndex := 282, descriptorIndex := 25, attributes := #[] }, { accessFlags := 25, nameIndex := 284, descriptorIndex := 25, attributes := #[] }, { accessFlags := 25, nameIndex := 286, descriptorIndex := 25, attributes := #[] }, { accessFlags := 25, nameIndex := 288, descriptorIndex := 25, attributes := #[] }, { accessFlags := 25, nameIndex := 290, descriptorIndex := 25, attributes := #[] }, { accessFlags := 25, nameIndex := 292, descriptorIndex := 25, attributes := #[] }, { accessFlags := 26, nameIndex := 108, descriptorIndex := 109, attributes := #[] }, { accessFlags := 25, nameIndex := 294, descriptorIndex := 25, attributes := #[] }])
  fields := #[{ name := "U", type := (.object "jdk/internal/misc/Unsafe"), accessFlags := 24, slot := 0, constantValue := 0 }, { name := "BIG_ENDIAN", type := .boolean, accessFlags := 26, slot := 1, constantValue := 0 }, { name := "LOG2_ARRAY_BOOLEAN_INDEX_SCALE", type := .int, accessFlags := 25, slot := 2, constantValue := 0 }, { name := "LOG2_ARRAY_BYTE_INDEX_SCALE", type := .int, accessFlags := 25, slot := 3, constantValue := 0 }, { name := "LOG2_ARRAY_CHAR_INDEX_SCALE", type := .int, accessFlags := 25, slot := 4, constantValue := 0 }, { name := "LOG2_ARRAY_SHORT_INDEX_SCALE", type := .int, accessFlags := 25, slot := 5, constantValue := 0 }, { name := "LOG2_ARRAY_INT_INDEX_SCALE", type := .int, accessFlags := 25, slot := 6, constantValue := 0 }, { name := "LOG2_ARRAY_LONG_INDEX_SCALE", type := .int, accessFlags := 25, slot := 7, constantValue := 0 }, { name := "LOG2_ARRAY_FLOAT_INDEX_SCALE", type := .int, accessFlags := 25, slot := 8, constantValue := 0 }, { name := "LOG2_ARRAY_DOUBLE_INDEX_SCALE", type := .int, accessFlags := 25, slot := 9, constantValue := 0 }, { name := "LOG2_BYTE_BIT_SIZE", type := .int, accessFlags := 26, slot := 10, constantValue := 0 }, { name := "T_BOOLEAN", type := .int, accessFlags := 25, slot := 11, constantValue := 0 }, { name := "T_CHAR", type := .int, accessFlags := 25, slot := 12, constantValue := 0 }, { name := "T_FLOAT", type := .int, accessFlags := 25, slot := 13, constantValue := 0 }, { name := "T_DOUBLE", type := .int, accessFlags := 25, slot := 14, constantValue := 0 }, { name := "T_BYTE", type := .int, accessFlags := 25, slot := 15, constantValue := 0 }, { name := "T_SHORT", type := .int, accessFlags := 25, slot := 16, constantValue := 0 }, { name := "T_INT", type := .int, accessFlags := 25, slot := 17, constantValue := 0 }, { name := "T_LONG", type := .int, accessFlags := 25, slot := 18, constantValue := 0 }, { name := "JLA", type := (.object "jdk/internal/access/JavaLangAccess"), accessFlags := 26, slot := 19, constantValue := 0 }, { name := "SOFT_MAX_ARRAY_LENGTH", type := .int, accessFlags := 25, slot := 20, constantValue := 0 }]
  methods := #[k13m0]
  instanceTypes := #[]
  staticTypes := #[(.object "jdk/internal/misc/Unsafe"), .boolean, .int, .int, .int, .int, .int, .int, .int, .int, .int, .int, .int, .int, .int, .int, .int, .int, .int, (.object "jdk/internal/access/JavaLangAccess"), .int]
  resolved := Array.replicate 378 none
  statics := none }

def pool14 : Array CpInfo := pool [(1, u "java/lang/Cloneable"), (0, .class_ 1), (0, u "java/lang/Object"), (0, .class_ 3)] 3

/-- java/lang/Cloneable -/
def k14 : Class := { plain "java/lang/Cloneable" (some 0) with
  accessFlags := 1537
  interfaces := #[]
  cf := some (fileOf pool14 2 #[] #[] 1537 4 #[] #[])
  fields := #[]
  methods := #[]
  instanceTypes := #[]
  staticTypes := #[]
  resolved := Array.replicate 8 none
  statics := none }

/-- the primitive byte -/
def k15 : Class := { plain "byte" none with kind := .primitive 'B', accessFlags := 0x411 }
/-- [B -/
def k16 : Class := { plain "[B" (some 0) with kind := .array 15 .byte, interfaces := #[14, 2], accessFlags := 1041 }

/-- the primitive char -/
def k17 : Class := { plain "char" none with kind := .primitive 'C', accessFlags := 0x411 }
/-- [C -/
def k18 : Class := { plain "[C" (some 0) with kind := .array 17 .char, interfaces := #[14, 2], accessFlags := 1041 }

/-- the primitive int -/
def k19 : Class := { plain "int" none with kind := .primitive 'I', accessFlags := 0x411 }
/-- [I -/
def k20 : Class := { plain "[I" (some 0) with kind := .array 19 .int, interfaces := #[14, 2], accessFlags := 1041 }

def heap : Heap := #[{ cls := 7, slots := #[.long 0, .int 1, .null, .int 0, .null, .int 0, .int 0], vm := .statics 7 },
  { cls := 12, slots := #[.null, .null, .null], vm := .statics 12 }]
def classes : Array Class := #[k0, k1, k2, k3, k4, k5, k6, k7, k8, k9, k10, k11, k12, k13, k14, k15, k16, k17, k18, k19, k20]
def interned : List (Array UInt16 × Addr) := []
def slotsUsed : Nat := 10
def theMethod : MethodId := ⟨1, 1⟩
def args0 : Array Value := #[.int 5, .int 5, .int 5, .int 5, .int 5, .int 5]
def aboutOver (below : List Frame) : State where
  vm := { classes := classes, interned := interned.toArray }
  heap := heap
  slotsUsed := slotsUsed
  threads := #[{ frames := .invoking theMethod args0 :: below }]
def below0 : List Frame := [.native { method := ⟨0, 0⟩, args := #[] }]
def about1 : State := aboutOver below0
def p0 : Program := .bare "" "" ""
def e0 : Env := launch0.env 0 0 0
theorem w_frames : about1.frames = Frame.invoking theMethod args0 :: below0 := rfl
set_option maxRecDepth 65536 in
theorem w_args : argsFit about1.vm theMethod args0 = true := by decide +kernel
set_option maxRecDepth 65536 in
theorem w_heap : heapFits about1 = true := by decide +kernel
set_option maxRecDepth 65536 in
theorem w_runnable : about1.curStatus? = some .runnable := by decide +kernel
set_option maxRecDepth 65536 in
theorem w_alone : about1.alone = true := by decide +kernel
set_option maxRecDepth 65536 in
theorem w_named : about1.methodNamed? x = some theMethod := by decide +kernel
set_option maxRecDepth 65536 in
theorem w_hears : about1.hears theMethod below0 = true := by decide +kernel
set_option maxRecDepth 65536 in
theorem w_ripe : about1.ripe theMethod args0 below0 = true := by decide +kernel
theorem w_running : about1.status = .running := rfl
set_option maxRecDepth 65536 in
theorem w_room : about1.hasRoom e0.platform room_1 = true :=
  launch0.hasRoom_least _ room_1 (by decide +kernel) (by decide +kernel) (by decide +kernel) (by decide +kernel) (by decide +kernel) (by decide +kernel)
theorem allAtoms_all (ts : List Jvm.Cond) (a : Array Jvm.Value) (st : Jvm.State) : (allAtoms ts).before a st = ts.all (fun c => c.before a st) := by
  induction ts with
  | nil => rfl
  | cons c t ih =>
    show (Jvm.Cond.and c (allAtoms t)).before a st = _
    rw [Jvm.Cond.before_and, ih, List.all_cons]
def words1 : List Jvm.Cond := Jvm.Cond.code x code maxLocals ret :: tables_1
/-- a 'code' word, met by the world's own term for the bytes: nothing is compared byte by byte -/
theorem code_word {y : MethodName} {bytes : ByteArray} {mx : Nat} {rt : Option FieldType} {a : Array Value} {s : State} {m : MethodId} {meth : Method} {c : Code} (h1 : s.methodNamed? y = some m) (h2 : s.vm.method? m = some meth) (h3 : meth.code = some c) (h4 : c.code = bytes)
    (h5 : (c.maxLocals == mx && c.exceptionTable.isEmpty && decide (c.maxStack ≤ mostOperands) && decide (meth.sig.returnType = rt) && !meth.locks && decide (parseMethodDescriptor y.desc = some meth.sig)) = true) : (Jvm.Cond.code y bytes mx rt).before a s = true := by
  simp only [Bool.and_eq_true, beq_iff_eq, Bool.not_eq_true', decide_eq_true_eq] at h5
  obtain ⟨⟨⟨⟨⟨g1, g2⟩, g3⟩, g4⟩, g5⟩, g6⟩ := h5
  simp [Cond.before, Cond.holds, Cond.value, h1, h2, h3, h4, g1, g2, g3, g4, g5, g6]
def isCode : Jvm.Cond → Bool
  | .code _ _ _ _ => true
  | _ => false
theorem all_split {L : List Jvm.Cond} {P : Jvm.Cond → Bool} (h1 : L.all (fun c => isCode c || P c) = true) (h2 : ∀ c ∈ L.filter isCode, P c = true) : L.all P = true := by
  refine List.all_eq_true.mpr fun c hc => ?_
  have h := List.all_eq_true.mp h1 c hc
  rcases Bool.eq_false_or_eq_true (isCode c) with hi | hi
  · exact h2 c (List.mem_filter.mpr ⟨hc, hi⟩)
  · simpa [hi] using h
set_option maxRecDepth 65536 in
theorem w_c0 : (Jvm.Cond.code x code maxLocals ret).before args0 about1 = true := code_word (m := ⟨1, 1⟩) (meth := k1m1) (c := k1c1) (by decide +kernel) rfl rfl rfl (by decide +kernel)
set_option maxRecDepth 65536 in
theorem w_c1 : (Jvm.Cond.code ({ cls := "com/example/nepean/nepean/mapping/ColumnSettingsSqlTypePinLaw", name := "str", desc := "(II)Ljava/lang/String;" } : Jvm.MethodName) method_3_code (3 : Nat) (Option.some (Jvm.ClassFile.FieldType.object "java/lang/String"))).before args0 about1 = true := code_word (m := ⟨1, 2⟩) (meth := k1m2) (c := k1c2) (by decide +kernel) rfl rfl rfl (by decide +kernel)
set_option maxRecDepth 65536 in
theorem w_c2 : (Jvm.Cond.code ({ cls := "java/lang/String", name := "<init>", desc := "([C)V" } : Jvm.MethodName) jdk_42_method_3_code (2 : Nat) (Option.none : Option Jvm.ClassFile.FieldType)).before args0 about1 = true := code_word (m := ⟨7, 1⟩) (meth := k7m1) (c := k7c1) (by decide +kernel) rfl rfl rfl (by decide +kernel)
set_option maxRecDepth 65536 in
theorem w_c3 : (Jvm.Cond.code ({ cls := "java/lang/String", name := "<init>", desc := "([CIILjava/lang/Void;)V" } : Jvm.MethodName) jdk_42_method_149_code (6 : Nat) (Option.none : Option Jvm.ClassFile.FieldType)).before args0 about1 = true := code_word (m := ⟨7, 3⟩) (meth := k7m3) (c := k7c3) (by decide +kernel) rfl rfl rfl (by decide +kernel)
set_option maxRecDepth 65536 in
theorem w_c4 : (Jvm.Cond.code ({ cls := "java/lang/Object", name := "<init>", desc := "()V" } : Jvm.MethodName) object_method_1_code (1 : Nat) (Option.none : Option Jvm.ClassFile.FieldType)).before args0 about1 = true := code_word (m := ⟨0, 0⟩) (meth := k0m0) (c := k0c0) (by decide +kernel) rfl rfl rfl (by decide +kernel)
set_option maxRecDepth 65536 in
theorem w_c5 : (Jvm.Cond.code ({ cls := "java/lang/StringUTF16", name := "compress", desc := "([CII)[B" } : Jvm.MethodName) jdk_52_method_16_code (6 : Nat) (Option.some (Jvm.ClassFile.FieldType.array Jvm.ClassFile.FieldType.byte))).before args0 about1 = true := code_word (m := ⟨8, 2⟩) (meth := k8m2) (c := k8c2) (by decide +kernel) rfl rfl rfl (by decide +kernel)
set_option maxRecDepth 65536 in
theorem w_c6 : (Jvm.Cond.code ({ cls := "java/lang/StringUTF16", name := "compress", desc := "([CI[BII)I" } : Jvm.MethodName) jdk_52_method_21_code (7 : Nat) (Option.some Jvm.ClassFile.FieldType.int)).before args0 about1 = true := code_word (m := ⟨8, 3⟩) (meth := k8m3) (c := k8c3) (by decide +kernel) rfl rfl rfl (by decide +kernel)
set_option maxRecDepth 65536 in
theorem w_c7 : (Jvm.Cond.code ({ cls := "java/lang/StringUTF16", name := "coderFromArrayLen", desc := "([BI)B" } : Jvm.MethodName) jdk_52_method_15_code (2 : Nat) (Option.some Jvm.ClassFile.FieldType.byte)).before args0 about1 = true := code_word (m := ⟨8, 1⟩) (meth := k8m1) (c := k8c1) (by decide +kernel) rfl rfl rfl (by decide +kernel)
set_option maxRecDepth 65536 in
theorem w_c8 : (Jvm.Cond.code ({ cls := "com/example/nepean/nepean/mapping/ColumnSettings", name := "<init>", desc := "(ZZZZLjava/lang/String;)V" } : Jvm.MethodName) prog_5_method_1_code (6 : Nat) (Option.none : Option Jvm.ClassFile.FieldType)).before args0 about1 = true := code_word (m := ⟨10, 0⟩) (meth := k10m0) (c := k10c0) (by decide +kernel) rfl rfl rfl (by decide +kernel)
set_option maxRecDepth 65536 in
theorem w_c9 : (Jvm.Cond.code ({ cls := "java/lang/Record", name := "<init>", desc := "()V" } : Jvm.MethodName) jdk_30_method_1_code (1 : Nat) (Option.none : Option Jvm.ClassFile.FieldType)).before args0 about1 = true := code_word (m := ⟨9, 0⟩) (meth := k9m0) (c := k9c0) (by decide +kernel) rfl rfl rfl (by decide +kernel)
set_option maxRecDepth 65536 in
theorem w_c10 : (Jvm.Cond.code ({ cls := "com/example/nepean/nepean/mapping/ColumnSettings", name := "sqlType", desc := "(Ljava/lang/String;)Ljava/lang/String;" } : Jvm.MethodName) prog_5_method_2_code (2 : Nat) (Option.some (Jvm.ClassFile.FieldType.object "java/lang/String"))).before args0 about1 = true := code_word (m := ⟨10, 1⟩) (meth := k10m1) (c := k10c1) (by decide +kernel) rfl rfl rfl (by decide +kernel)
set_option maxRecDepth 65536 in
theorem w_c11 : (Jvm.Cond.code ({ cls := "com/example/nepean/nepean/mapping/ColumnSettingsSqlTypePinLaw", name := "same", desc := "(Ljava/lang/String;Ljava/lang/String;)Z" } : Jvm.MethodName) method_4_code (2 : Nat) (Option.some Jvm.ClassFile.FieldType.boolean)).before args0 about1 = true := code_word (m := ⟨1, 3⟩) (meth := k1m3) (c := k1c3) (by decide +kernel) rfl rfl rfl (by decide +kernel)
set_option maxRecDepth 65536 in
theorem w_c12 : (Jvm.Cond.code ({ cls := "java/lang/String", name := "equals", desc := "(Ljava/lang/Object;)Z" } : Jvm.MethodName) jdk_42_method_66_code (3 : Nat) (Option.some Jvm.ClassFile.FieldType.boolean)).before args0 about1 = true := code_word (m := ⟨7, 2⟩) (meth := k7m2) (c := k7c2) (by decide +kernel) rfl rfl rfl (by decide +kernel)
def codes1 : List Jvm.Cond := [Jvm.Cond.code x code maxLocals ret, Jvm.Cond.code ({ cls := "com/example/nepean/nepean/mapping/ColumnSettingsSqlTypePinLaw", name := "str", desc := "(II)Ljava/lang/String;" } : Jvm.MethodName) method_3_code (3 : Nat) (Option.some (Jvm.ClassFile.FieldType.object "java/lang/String")), Jvm.Cond.code ({ cls := "java/lang/String", name := "<init>", desc := "([C)V" } : Jvm.MethodName) jdk_42_method_3_code (2 : Nat) (Option.none : Option Jvm.ClassFile.FieldType), Jvm.Cond.code ({ cls := "java/lang/String", name := "<init>", desc := "([CIILjava/lang/Void;)V" } : Jvm.MethodName) jdk_42_method_149_code (6 : Nat) (Option.none : Option Jvm.ClassFile.FieldType), Jvm.Cond.code ({ cls := "java/lang/Object", name := "<init>", desc := "()V" } : Jvm.MethodName) object_method_1_code (1 : Nat) (Option.none : Option Jvm.ClassFile.FieldType), Jvm.Cond.code ({ cls := "java/lang/StringUTF16", name := "compress", desc := "([CII)[B" } : Jvm.MethodName) jdk_52_method_16_code (6 : Nat) (Option.some (Jvm.ClassFile.FieldType.array Jvm.ClassFile.FieldType.byte)), Jvm.Cond.code ({ cls := "java/lang/StringUTF16", name := "compress", desc := "([CI[BII)I" } : Jvm.MethodName) jdk_52_method_21_code (7 : Nat) (Option.some Jvm.ClassFile.FieldType.int), Jvm.Cond.code ({ cls := "java/lang/StringUTF16", name := "coderFromArrayLen", desc := "([BI)B" } : Jvm.MethodName) jdk_52_method_15_code (2 : Nat) (Option.some Jvm.ClassFile.FieldType.byte), Jvm.Cond.code ({ cls := "com/example/nepean/nepean/mapping/ColumnSettings", name := "<init>", desc := "(ZZZZLjava/lang/String;)V" } : Jvm.MethodName) prog_5_method_1_code (6 : Nat) (Option.none : Option Jvm.ClassFile.FieldType), Jvm.Cond.code ({ cls := "java/lang/Record", name := "<init>", desc := "()V" } : Jvm.MethodName) jdk_30_method_1_code (1 : Nat) (Option.none : Option Jvm.ClassFile.FieldType), Jvm.Cond.code ({ cls := "com/example/nepean/nepean/mapping/ColumnSettings", name := "sqlType", desc := "(Ljava/lang/String;)Ljava/lang/String;" } : Jvm.MethodName) prog_5_method_2_code (2 : Nat) (Option.some (Jvm.ClassFile.FieldType.object "java/lang/String")), Jvm.Cond.code ({ cls := "com/example/nepean/nepean/mapping/ColumnSettingsSqlTypePinLaw", name := "same", desc := "(Ljava/lang/String;Ljava/lang/String;)Z" } : Jvm.MethodName) method_4_code (2 : Nat) (Option.some Jvm.ClassFile.FieldType.boolean), Jvm.Cond.code ({ cls := "java/lang/String", name := "equals", desc := "(Ljava/lang/Object;)Z" } : Jvm.MethodName) jdk_42_method_66_code (3 : Nat) (Option.some Jvm.ClassFile.FieldType.boolean)]
set_option maxRecDepth 65536 in
theorem codes_eq : words1.filter isCode = codes1 := rfl
theorem w_codes : ∀ c ∈ words1.filter isCode, c.before args0 about1 = true := by
  rw [codes_eq]
  intro c hc
  simp only [codes1, List.mem_cons, List.not_mem_nil, or_false] at hc
  rcases hc with rfl | rfl | rfl | rfl | rfl | rfl | rfl | rfl | rfl | rfl | rfl | rfl | rfl
  · exact w_c0
  · exact w_c1
  · exact w_c2
  · exact w_c3
  · exact w_c4
  · exact w_c5
  · exact w_c6
  · exact w_c7
  · exact w_c8
  · exact w_c9
  · exact w_c10
  · exact w_c11
  · exact w_c12
set_option maxRecDepth 65536 in
theorem w_t1 : (words1.take 24).all (fun c => isCode c || c.before args0 about1) = true := by decide +kernel
set_option maxRecDepth 65536 in
theorem w_t2 : ((words1.drop 24).take 24).all (fun c => isCode c || c.before args0 about1) = true := by decide +kernel
set_option maxRecDepth 65536 in
theorem w_t3 : ((words1.drop 24).drop 24).all (fun c => isCode c || c.before args0 about1) = true := by decide +kernel
theorem w_tables : (allAtoms (Jvm.Cond.code x code maxLocals ret :: tables_1)).before args0 about1 = true := by
  rw [allAtoms_all]
  show words1.all (fun c => c.before args0 about1) = true
  refine all_split ?_ w_codes
  rw [← List.take_append_drop 24 words1, List.all_append, w_t1, ← List.take_append_drop 24 (words1.drop 24), List.all_append, w_t2, w_t3]
  rfl
set_option maxRecDepth 65536 in
theorem w_rest : rest_1_c.before args0 about1 = true := by decide +kernel
set_option maxRecDepth 65536 in
theorem w_case : (Jvm.Cond.and given_1 narrow_1).before args0 about1 = true := by decide +kernel
theorem w_applies : (headSpec (Jvm.Cond.code x code maxLocals ret :: tables_1) room_1).applies x e0.platform about1 = true :=
  (Spec.applies_iff w_frames).mpr ⟨w_running, w_runnable, w_alone, w_named, w_hears, w_ripe, w_room, w_tables⟩
theorem atStart : AtStart classFile x code maxLocals ret World_1 tables_1 room_1 Calls_1 rest_1 Pre_1 launch0 p0 e0 about1 theMethod args0 below0 :=
  ⟨lists_1, trivial, launch0.admits_env _ _ _, launch0.least_env, fairChoices_fair.cas, fairChoices_fair.clock, w_frames, w_args, w_heap, w_applies, trivial, w_rest, w_case⟩
end start1
theorem witness_1 : WitnessClaimed_1 := ⟨start1.p0, start1.e0, start1.about1, start1.theMethod, start1.args0, start1.below0, start1.atStart⟩
end Jvm.Pilot.@@N@@
