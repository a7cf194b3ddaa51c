import JvmDerived
import JvmDerived.Pilot.@@N@@Statement
import JvmDerived.Pilot.@@N@@Code
set_option linter.unusedVariables false
set_option linter.unusedSimpArgs false
namespace Jvm.RoadKit
open Sem ClassFile Op Lib Jvm.Stand Jvm.Free Jvm.LawKit
section Own
variable {p : Program} {l : Launch} {e : Env} {R : Room} {s : State} {m : MethodId} {args : Array Value} {below : List Frame} {meth : Method} {c : Code} {T T' : State} {locs : List Loc} {cells slots : Nat} {Z : State} {a0 : Array Value} {h : Heap} {Φ : State → Prop} {g g' : JFrame} {Q : Option Value → Heap → List Loc → Prop} {kc ks pc : Nat} {Ls : Array Slot} {st rest : List Value}
/-- from the frame g of T the run comes to a state of which Φ holds -/
def own_Go (p : Program) (e : Env) (below : List Frame) (Φ : State → Prop) (T : State) (g : JFrame) : Prop := ∃ t, Steps p.tables e below (T.setTop g) t ∧ Φ t
theorem own_k (st : ∀ t, Steps p.tables e below (T'.setTop g') t → Steps p.tables e below (T.setTop g) t) (k : own_Go p e below Φ T' g') : own_Go p e below Φ T g := by
  obtain ⟨t, h1, h2⟩ := k
  exact ⟨t, st t h1, h2⟩
theorem own_s (st : Steps p.tables e below (T.setTop g) (T'.setTop g')) (k : own_Go p e below Φ T' g') : own_Go p e below Φ T g := by
  obtain ⟨t, h1, h2⟩ := k
  exact ⟨t, st.trans h1, h2⟩
def own_Fin (s : State) (below : List Frame) (Q : Option Value → Heap → List Loc → Prop) (kc ks : Nat) (t : State) : Prop := t.status = .running ∧ ∃ v L, Ended t below (.returned v) ∧ Q v t.heap L ∧ FrameEnd s (.returned v) t L kc ks
def own_Met (l : Launch) (Z : State) (y : MethodName) (bytes : ByteArray) (maxL : Nat) (ret : Option FieldType) (rm : Room) (av : Array Value) (h : Heap) (Q : Option Value → Heap → List Loc → Prop) : Prop :=
  ∀ ws : List Jvm.Cond, MetFree l y (head1 (Cond.code y bytes maxL ret :: ws) rm) (fun a U => a = av ∧ Z.Warmed39 U.vm ∧ U.heap = h) (fun _ _ _ _ _ => True) (fun _ U o U' => ∃ v L, o = .returned v ∧ Q v U'.heap L ∧ FrameEnd U o U' L rm.cells rm.slots)
theorem own_met {y : MethodName} {bytes : ByteArray} {maxL : Nat} {ret : Option FieldType} {rm : Room} {av : Array Value} (hpl : plainFor y = true)
    (body : ∀ (p : Program) (e : Env) (s : State) (m : MethodId) (below : List Frame) (meth : Method) (c : Code) (s₁ : State) (Φ : State → Prop), (∀ t, own_Fin s below Q rm.cells rm.slots t → Φ t) → Stand p l e rm s m av below meth c s₁ [] 0 0 → p.tables.exec = Jvm.exec → c.code = bytes → c.maxLocals = maxL → Z.Warmed39 s.vm → s.vm.findClass y.cls = some m.cls → meth.name = y.name → meth.sig.returnType = ret → meth.locks = false → s₁.heap = h →
      own_Go p e below Φ s₁ (entryFrame m av maxL)) : own_Met l Z y bytes maxL ret rm av h Q := by
  intro ws
  refine MetFree.of_bodySF hpl hisR ?_
  intro p e s m args below meth c s₁ Bd hml hP hK
  obtain ⟨rfl, hZ, hh⟩ := hP
  obtain ⟨t, h1, hrun, v, L, h2, h3, h4⟩ := body p e s m below meth c s₁ (own_Fin s below Q rm.cells rm.slots) (fun _ q => q) (Stand.of_body Bd) Bd.exec Bd.bytes hml hZ (findClass_of_methodNamed Bd.named) (name_of_methodNamed Bd.named Bd.method).1 Bd.returns Bd.notSynchronized (by rw [← hh, Bd.state]; rfl)
  exact ⟨t, _, h1, hrun, h2, v, L, rfl, h3, h4⟩
theorem own_fin {v : Option Value} (X : Stand p l e R s m args below meth c T locs cells slots) (hv : meth.sig.returnType = none → v = none) (hlk : meth.locks = false)
    (hs : ∀ fs, (∀ (f : JFrame) (acts : List Action), f.method = m → f.locked = none → f.entered = [] → (doReturn e (T.setTop f) acts v).1 = T.setFrames fs) → Steps p.tables e below (T.setTop g) (T.setFrames fs))
    (hF : ∀ t, own_Fin s below Q kc ks t → Φ t) (hQ : Q v T.heap locs) (hk : cells ≤ kc) (hn : slots ≤ ks) : own_Go p e below Φ T g := by
  obtain ⟨fs, hr, hrun, hended, hW, hsame⟩ := X.leave (v := v) hv hlk
  exact ⟨T.setFrames fs, hs fs hr, hF _ ⟨hrun, v, locs, hended, hQ, ⟨_, rfl⟩, hW, hsame.mono hk hn⟩⟩
theorem own_retI (X : Stand p l e R s m args below meth c T locs cells slots) (hx : p.tables.exec = Jvm.exec) {z : Int32} (hret : meth.sig.returnType = some .int) (hlk : meth.locks = false) (hd : decode c.code pc = .ok (.ireturn, 1)) (hF : ∀ t, own_Fin s below Q kc ks t → Φ t) (hQ : Q (some (.int z)) T.heap locs) (hk : cells ≤ kc) (hn : slots ≤ ks) :
    own_Go p e below Φ T (mkF m pc Ls (.int z :: rest)) :=
  own_fin X (fun q => by rw [hret] at q; cases q) hlk (fun fs hr => retOut X hx hret (narrow_int z) (Or.inl ⟨rfl, Or.inl rfl, z, rfl⟩) hd hr) hF hQ hk hn
where narrow_int (z : Int32) : narrow .int (.int z) = .int z := rfl
theorem own_retN (X : Stand p l e R s m args below meth c T locs cells slots) (hx : p.tables.exec = Jvm.exec) {z : Int32} {t : FieldType} (hret : meth.sig.returnType = some t) (ht : t = .boolean ∨ t = .byte ∨ t = .char ∨ t = .short) (hlk : meth.locks = false) (hd : decode c.code pc = .ok (.ireturn, 1)) (hF : ∀ t, own_Fin s below Q kc ks t → Φ t) (hQ : Q (some (.int (nar t z))) T.heap locs) (hk : cells ≤ kc) (hn : slots ≤ ks) :
    own_Go p e below Φ T (mkF m pc Ls (.int z :: rest)) :=
  own_fin X (fun q => by rw [hret] at q; cases q) hlk (fun fs hr => retN X hx hret ht hd hr) hF hQ hk hn
theorem own_retA (X : Stand p l e R s m args below meth c T locs cells slots) (hx : p.tables.exec = Jvm.exec) {w : Value} {t : FieldType} (hret : meth.sig.returnType = some t) (ht : t.isReference = true) (hw : w.isRef = true) (hlk : meth.locks = false) (hd : decode c.code pc = .ok (.areturn, 1)) (hF : ∀ t, own_Fin s below Q kc ks t → Φ t) (hQ : Q (some w) T.heap locs) (hk : cells ≤ kc) (hn : slots ≤ ks) :
    own_Go p e below Φ T (mkF m pc Ls (w :: rest)) :=
  own_fin X (fun q => by rw [hret] at q; cases q) hlk (fun fs hr => retOut X hx hret (by cases t <;> cases w <;> first | rfl | cases ht | cases hw) (Or.inr (Or.inr (Or.inr (Or.inr ⟨rfl, ht, hw⟩)))) hd hr) hF hQ hk hn
theorem own_retJ (X : Stand p l e R s m args below meth c T locs cells slots) (hx : p.tables.exec = Jvm.exec) {z : Int64} (hret : meth.sig.returnType = some .long) (hlk : meth.locks = false) (hd : decode c.code pc = .ok (.lreturn, 1)) (hF : ∀ t, own_Fin s below Q kc ks t → Φ t) (hQ : Q (some (.long z)) T.heap locs) (hk : cells ≤ kc) (hn : slots ≤ ks) :
    own_Go p e below Φ T (mkF m pc Ls (.long z :: rest)) :=
  own_fin X (fun q => by rw [hret] at q; cases q) hlk (fun fs hr => retOut X hx hret rfl (Or.inr (Or.inl ⟨rfl, rfl, z, rfl⟩)) hd hr) hF hQ hk hn
theorem own_ret0 (X : Stand p l e R s m args below meth c T locs cells slots) (hx : p.tables.exec = Jvm.exec) (hret : meth.sig.returnType = none) (hlk : meth.locks = false) (hd : decode c.code pc = .ok (.return_, 1)) (hF : ∀ t, own_Fin s below Q kc ks t → Φ t) (hQ : Q none T.heap locs) (hk : cells ≤ kc) (hn : slots ≤ ks) :
    own_Go p e below Φ T (mkF m pc Ls []) :=
  own_fin X (fun _ => rfl) hlk (fun fs hr => X.returnOut hx hret hd hr) hF hQ hk hn
theorem own_back {y : MethodName} {bytes : ByteArray} {maxL : Nat} {ret : Option FieldType} {rm : Room} {len W : Nat} {av : Array Value} (hM : own_Met l Z y bytes maxL ret rm av h Q)
    (hZ : Z.Warmed39 s.vm) (wc : (Cond.code y bytes maxL ret).before a0 Z = true) (wz : (Cond.initialized y.cls).before a0 Z = true) (hf : rm.frames + 1 ≤ R.frames) (hl : W + (maxL + 11) + rm.locals ≤ R.locals) :
    Back l R p e below s args y len W (fun A a => a = av ∧ A.U.heap = h ∧ A.cells + rm.cells ≤ R.cells ∧ A.slots + rm.slots ≤ R.slots)
      (fun A _ v B => ∃ L, Q v B.U.heap L ∧ B.locs = A.locs ++ L ∧ B.cells = A.cells + rm.cells ∧ B.slots = A.slots + rm.slots) :=
  backOf (Q := Q) (hM []) hZ wc wz hf hl
theorem own_callS (X : Stand p l e R s m args below meth c T locs cells slots) (hx : p.tables.exec = Jvm.exec) (hZ : Z.Warmed39 s.vm) {own : String} {index : Nat} {y : MethodName} {bytes : ByteArray} {maxL : Nat} {ret : Option FieldType} (hown : s.vm.findClass own = some m.cls)
    (w1 : (Cond.methodLink own index y).before a0 Z = true) (w2 : (Cond.static y).before a0 Z = true) (w3 : (Cond.initialized y.cls).before a0 Z = true) (w4 : (Cond.code y bytes maxL ret).before a0 Z = true) (hy : y.cls ≠ "java/lang/invoke/MethodHandle" ∧ y.cls ≠ "java/lang/invoke/VarHandle")
    {rm : Room} {al : List Value} (hM : own_Met l Z y bytes maxL ret rm al.toArray h Q) (W : Nat) (hf : rm.frames + 1 ≤ R.frames) (hl : W + (maxL + 11) + rm.locals ≤ R.locals) (eT : T.heap = h) (hc : cells + rm.cells ≤ R.cells) (hn : slots + rm.slots ≤ R.slots)
    (hsz : Ls.size = c.maxLocals) (hlen : ∀ sig, parseMethodDescriptor y.desc = some sig → al.length = sig.parameters.length) (hst : st = al.reverse ++ rest) (hW : 2 * 0 + (rest.map fun v => v.category).sum ≤ W) (hd : decode c.code pc = .ok (.invokestatic index, 3))
    (k : ∀ (v : Option Value) (T' : State) (L : List Loc), Stand p l e R s m args below meth c T' (locs ++ L) (cells + rm.cells) (slots + rm.slots) → Q v T'.heap L → own_Go p e below Φ T' (mkF m (pc + 3) Ls (v.toList ++ rest))) : own_Go p e below Φ T (mkF m pc Ls st) := by
  obtain ⟨v, vm₁, ⟨T', L', k', n'⟩, -, X', ⟨L, hQ, l1, l2, l3⟩, st'⟩ := Jvm.LawKit.callS X hx (y := y) hown (mvT hZ w1) (mvT hZ w2) (mvT hZ w3) (mvT hZ w4) hy (own_back (W := W) hM hZ w4 w3 hf hl) (g := mkF m pc Ls st) rfl hsz (argsL := al) (rest := rest) hlen hst hW hd (fun _ _ => ⟨rfl, eT, hc, hn⟩)
  dsimp only [Pt.U, Pt.locs, Pt.cells, Pt.slots] at X' l1 l2 l3 st' hQ
  subst l1 l2 l3
  exact own_k st' (k v T' L X' hQ)
theorem own_callV (X : Stand p l e R s m args below meth c T locs cells slots) (hx : p.tables.exec = Jvm.exec) (hZ : Z.Warmed39 s.vm) {own C : String} {index : Nat} {y z : MethodName} {bytes : ByteArray} {maxL : Nat} {ret : Option FieldType} (hown : s.vm.findClass own = some m.cls)
    (w1 : (Cond.methodLink own index y).before a0 Z = true) (w2 : (Cond.declares y).before a0 Z = true) (hnf : NotFace s y) (w3 : (Cond.selects C y z).before a0 Z = true) (w4 : (Cond.instanceMethod z).before a0 Z = true) (w5 : (Cond.code z bytes maxL ret).before a0 Z = true) (w6 : (Cond.initialized z.cls).before a0 Z = true) (hy : y.cls ≠ "java/lang/invoke/MethodHandle" ∧ y.cls ≠ "java/lang/invoke/VarHandle")
    {rm : Room} {al : List Value} {b : Addr} (E : Exa Z h b C) (hM : own_Met l Z z bytes maxL ret rm (.ref b :: al).toArray h Q) (W : Nat) (hf : rm.frames + 1 ≤ R.frames) (hl : W + (maxL + 11) + rm.locals ≤ R.locals) (eT : T.heap = h) (hc : cells + rm.cells ≤ R.cells) (hn : slots + rm.slots ≤ R.slots)
    (hsz : Ls.size = c.maxLocals) (hlen : ∀ sig, parseMethodDescriptor y.desc = some sig → al.length = sig.parameters.length) (hst : st = al.reverse ++ .ref b :: rest) (hW : 2 * 0 + (rest.map fun v => v.category).sum ≤ W) (hd : decode c.code pc = .ok (.invokevirtual index, 3))
    (k : ∀ (v : Option Value) (T' : State) (L : List Loc), Stand p l e R s m args below meth c T' (locs ++ L) (cells + rm.cells) (slots + rm.slots) → Q v T'.heap L → own_Go p e below Φ T' (mkF m (pc + 3) Ls (v.toList ++ rest))) : own_Go p e below Φ T (mkF m pc Ls st) := by
  obtain ⟨cB, kB, q1, q2, q3⟩ := isOf hZ eT E
  obtain ⟨v, vm₁, ⟨T', L', k', n'⟩, -, X', ⟨L, hQ, l1, l2, l3⟩, st'⟩ := X.virtualBack hx (y := y) (z := z) hown (mvT hZ w1) (mvT hZ w2) hnf (mvT hZ w3) (mvT hZ w4) hy (own_back (W := W) hM hZ w5 w6 hf hl) q1 q3 (g := mkF m pc Ls st) rfl hsz (Steps.refl _) (argsL := al) (rest := rest) hlen hst hW hd (fun _ _ => ⟨rfl, eT, hc, hn⟩)
  dsimp only [Pt.U, Pt.locs, Pt.cells, Pt.slots] at X' l1 l2 l3 st' hQ
  subst l1 l2 l3
  exact own_s st' (k v T' L X' hQ)
theorem own_callU (X : Stand p l e R s m args below meth c T locs cells slots) (hx : p.tables.exec = Jvm.exec) (hZ : Z.Warmed39 s.vm) {own C owner : String} {index : Nat} {y z : MethodName} {bytes : ByteArray} {maxL : Nat} {ret : Option FieldType} (hown : s.vm.findClass own = some m.cls)
    (w1 : (Cond.methodLink own index y).before a0 Z = true) (w2 : (Cond.sameMethod y.cls owner y.name y.desc).before a0 Z = true) (w2' : (Cond.declares ⟨owner, y.name, y.desc⟩).before a0 Z = true) (w3 : (Cond.selects C y z).before a0 Z = true) (w4 : (Cond.instanceMethod z).before a0 Z = true) (w5 : (Cond.code z bytes maxL ret).before a0 Z = true) (w6 : (Cond.initialized z.cls).before a0 Z = true) (hy : owner ≠ "java/lang/invoke/MethodHandle" ∧ owner ≠ "java/lang/invoke/VarHandle")
    {rm : Room} {al : List Value} {b : Addr} (E : Exa Z h b C) (hM : own_Met l Z z bytes maxL ret rm (.ref b :: al).toArray h Q) (W : Nat) (hf : rm.frames + 1 ≤ R.frames) (hl : W + (maxL + 11) + rm.locals ≤ R.locals) (eT : T.heap = h) (hc : cells + rm.cells ≤ R.cells) (hn : slots + rm.slots ≤ R.slots)
    (hsz : Ls.size = c.maxLocals) (hlen : ∀ sig, parseMethodDescriptor y.desc = some sig → al.length = sig.parameters.length) (hst : st = al.reverse ++ .ref b :: rest) (hW : 2 * 0 + (rest.map fun v => v.category).sum ≤ W) (hd : decode c.code pc = .ok (.invokevirtual index, 3))
    (k : ∀ (v : Option Value) (T' : State) (L : List Loc), Stand p l e R s m args below meth c T' (locs ++ L) (cells + rm.cells) (slots + rm.slots) → Q v T'.heap L → own_Go p e below Φ T' (mkF m (pc + 3) Ls (v.toList ++ rest))) : own_Go p e below Φ T (mkF m pc Ls st) := by
  obtain ⟨cB, kB, q1, q2, q3⟩ := isOf hZ eT E
  obtain ⟨v, vm₁, ⟨T', L', k', n'⟩, -, X', ⟨L, hQ, l1, l2, l3⟩, st'⟩ := X.virtualBackUp hx (x := y) (y := z) hown (mvT hZ w1) (mvT hZ w2) (mvT hZ w2') hy (mvT hZ w3) (mvT hZ w4) (own_back (W := W) hM hZ w5 w6 hf hl) q1 q3 (g := mkF m pc Ls st) rfl hsz (Steps.refl _) (argsL := al) (rest := rest) hlen hst hW hd (fun _ _ => ⟨rfl, eT, hc, hn⟩)
  dsimp only [Pt.U, Pt.locs, Pt.cells, Pt.slots] at X' l1 l2 l3 st' hQ
  subst l1 l2 l3
  exact own_s st' (k v T' L X' hQ)
theorem own_callN (X : Stand p l e R s m args below meth c T locs cells slots) (hx : p.tables.exec = Jvm.exec) (hZ : Z.Warmed39 s.vm) {own : String} {index : Nat} {y : MethodName} {bytes : ByteArray} {maxL : Nat} (hy1 : y.name = "<init>") (hown : s.vm.findClass own = some m.cls)
    (w1 : (Cond.methodLink own index y).before a0 Z = true) (w2 : (Cond.instanceMethod y).before a0 Z = true) (w3 : (Cond.code y bytes maxL none).before a0 Z = true) (w4 : (Cond.initialized y.cls).before a0 Z = true) (hy : y.cls ≠ "java/lang/invoke/MethodHandle" ∧ y.cls ≠ "java/lang/invoke/VarHandle")
    {rm : Room} {al : List Value} {b : Addr} (hM : own_Met l Z y bytes maxL none rm (.ref b :: al).toArray h Q) (W : Nat) (hf : rm.frames + 1 ≤ R.frames) (hl : W + (maxL + 11) + rm.locals ≤ R.locals) (eT : T.heap = h) (hc : cells + rm.cells ≤ R.cells) (hn : slots + rm.slots ≤ R.slots)
    (hsz : Ls.size = c.maxLocals) (hlen : ∀ sig, parseMethodDescriptor y.desc = some sig → al.length = sig.parameters.length) (hst : st = al.reverse ++ .ref b :: rest) (hW : 2 * 0 + (rest.map fun v => v.category).sum ≤ W) (hd : decode c.code pc = .ok (.invokespecial index, 3))
    (k : ∀ (v : Option Value) (T' : State) (L : List Loc), Stand p l e R s m args below meth c T' (locs ++ L) (cells + rm.cells) (slots + rm.slots) → Q v T'.heap L → own_Go p e below Φ T' (mkF m (pc + 3) Ls (v.toList ++ rest))) : own_Go p e below Φ T (mkF m pc Ls st) := by
  obtain ⟨v, vm₁, ⟨T', L', k', n'⟩, -, X', ⟨L, hQ, l1, l2, l3⟩, st'⟩ := X.specialBack hx (y := y) hy1 hown (mvT hZ w1) (mvT hZ w2) (mvT hZ w3) hy (own_back (W := W) hM hZ w3 w4 hf hl) (g := mkF m pc Ls st) rfl hsz (Steps.refl _) (a := b) (argsL := al) (rest := rest) hlen hst hW hd (fun _ _ => ⟨rfl, eT, hc, hn⟩)
  dsimp only [Pt.U, Pt.locs, Pt.cells, Pt.slots] at X' l1 l2 l3 st' hQ
  subst l1 l2 l3
  exact own_s st' (k v T' L X' hQ)
theorem own_iaload (X : Stand p l e R s m args below meth c T locs cells slots) (hx : p.tables.exec = Jvm.exec) (hZ : Z.Warmed39 s.vm) (eT : T.heap = h) {a : Addr} {k : ClassId} {n : Int32} {vs : List Value} {d : Value} (V : Arv Z h a k .int n vs d) {j : Int32} (hj : ¬ j < 0 ∧ j < n) {v : Value} (hv : vs.getD j.toNatClampNeg d = v) (hd : decode c.code pc = .ok (.iaload, 1)) (kk : own_Go p e below Φ T (mkF m (pc + 1) Ls (v :: rest))) : own_Go p e below Φ T (mkF m pc Ls (.int j :: .ref a :: rest)) := by
  obtain ⟨cl, A, -, S, N, H, -⟩ := V
  have hin := inb_of S hj
  exact own_k (fun t q => X.iaload hx (j := j) (v := v) (by rw [eT]; exact A.1) (State.isArrayOf_alike hZ.alike A.2.1) A.2.2 hin (H.at hin hv) (g := mkF m pc Ls (.int j :: .ref a :: rest)) rfl rfl hd t q) kk
theorem own_saload (X : Stand p l e R s m args below meth c T locs cells slots) (hx : p.tables.exec = Jvm.exec) (hZ : Z.Warmed39 s.vm) (eT : T.heap = h) {a : Addr} {k : ClassId} {n : Int32} {vs : List Value} {d : Value} (V : Arv Z h a k .short n vs d) {j : Int32} (hj : ¬ j < 0 ∧ j < n) {v : Value} (hv : vs.getD j.toNatClampNeg d = v) (hd : decode c.code pc = .ok (.saload, 1)) (kk : own_Go p e below Φ T (mkF m (pc + 1) Ls (v :: rest))) : own_Go p e below Φ T (mkF m pc Ls (.int j :: .ref a :: rest)) := by
  obtain ⟨cl, A, -, S, N, H, -⟩ := V
  have hin := inb_of S hj
  exact own_k (fun t q => X.saload hx (j := j) (v := v) (by rw [eT]; exact A.1) (State.isArrayOf_alike hZ.alike A.2.1) A.2.2 hin (H.at hin hv) (g := mkF m pc Ls (.int j :: .ref a :: rest)) rfl rfl hd t q) kk
theorem own_caload (X : Stand p l e R s m args below meth c T locs cells slots) (hx : p.tables.exec = Jvm.exec) (hZ : Z.Warmed39 s.vm) (eT : T.heap = h) {a : Addr} {k : ClassId} {n : Int32} {vs : List Value} {d : Value} (V : Arv Z h a k .char n vs d) {j : Int32} (hj : ¬ j < 0 ∧ j < n) {v : Value} (hv : vs.getD j.toNatClampNeg d = v) (hd : decode c.code pc = .ok (.caload, 1)) (kk : own_Go p e below Φ T (mkF m (pc + 1) Ls (v :: rest))) : own_Go p e below Φ T (mkF m pc Ls (.int j :: .ref a :: rest)) := by
  obtain ⟨cl, A, -, S, N, H, -⟩ := V
  have hin := inb_of S hj
  exact own_k (fun t q => X.caload hx (j := j) (v := v) (by rw [eT]; exact A.1) (State.isArrayOf_alike hZ.alike A.2.1) A.2.2 hin (H.at hin hv) (g := mkF m pc Ls (.int j :: .ref a :: rest)) rfl rfl hd t q) kk
theorem own_laload (X : Stand p l e R s m args below meth c T locs cells slots) (hx : p.tables.exec = Jvm.exec) (hZ : Z.Warmed39 s.vm) (eT : T.heap = h) {a : Addr} {k : ClassId} {n : Int32} {vs : List Value} {d : Value} (V : Arv Z h a k .long n vs d) {j : Int32} (hj : ¬ j < 0 ∧ j < n) {v : Value} (hv : vs.getD j.toNatClampNeg d = v) (hd : decode c.code pc = .ok (.laload, 1)) (kk : own_Go p e below Φ T (mkF m (pc + 1) Ls (v :: rest))) : own_Go p e below Φ T (mkF m pc Ls (.int j :: .ref a :: rest)) := by
  obtain ⟨cl, A, -, S, N, H, -⟩ := V
  have hin := inb_of S hj
  exact own_k (fun t q => X.laload hx (j := j) (v := v) (by rw [eT]; exact A.1) (State.isArrayOf_alike hZ.alike A.2.1) A.2.2 hin (H.at hin hv) (g := mkF m pc Ls (.int j :: .ref a :: rest)) rfl rfl hd t q) kk
theorem own_baload (X : Stand p l e R s m args below meth c T locs cells slots) (hx : p.tables.exec = Jvm.exec) (hZ : Z.Warmed39 s.vm) (eT : T.heap = h) {a : Addr} {k : ClassId} {n : Int32} {vs : List Value} {d : Value} (V : Arv Z h a k .byte n vs d) {j : Int32} (hj : ¬ j < 0 ∧ j < n) {v : Value} (hv : vs.getD j.toNatClampNeg d = v) (hd : decode c.code pc = .ok (.baload, 1)) (kk : own_Go p e below Φ T (mkF m (pc + 1) Ls (v :: rest))) : own_Go p e below Φ T (mkF m pc Ls (.int j :: .ref a :: rest)) := by
  obtain ⟨cl, A, -, S, N, H, -⟩ := V
  have hin := inb_of S hj
  exact own_k (fun t q => X.baloadBytes hx (j := j) (v := v) (by rw [eT]; exact A.1) (State.isArrayOf_alike hZ.alike A.2.1) A.2.2 hin (H.at hin hv) (g := mkF m pc Ls (.int j :: .ref a :: rest)) rfl rfl hd t q) kk
theorem own_aaload (X : Stand p l e R s m args below meth c T locs cells slots) (hx : p.tables.exec = Jvm.exec) (hZ : Z.Warmed39 s.vm) (eT : T.heap = h) {a : Addr} {k : ClassId} {n : Int32} {vs : List Value} {d : Value} {ty : FieldType} (V : Arv Z h a k ty n vs d) (ht : ty.isReference = true) {j : Int32} (hj : ¬ j < 0 ∧ j < n) {v : Value} (hv : vs.getD j.toNatClampNeg d = v) (hd : decode c.code pc = .ok (.aaload, 1)) (kk : own_Go p e below Φ T (mkF m (pc + 1) Ls (v :: rest))) : own_Go p e below Φ T (mkF m pc Ls (.int j :: .ref a :: rest)) := by
  obtain ⟨cl, A, -, S, N, H, -⟩ := V
  have hin := inb_of S hj
  exact own_k (fun t q => X.aaload hx (j := j) (v := v) (by rw [eT]; exact A.1) (State.isArrayOf_alike hZ.alike A.2.1) ht A.2.2 hin (H.at hin hv) (g := mkF m pc Ls (.int j :: .ref a :: rest)) rfl rfl hd t q) kk
theorem own_len (X : Stand p l e R s m args below meth c T locs cells slots) (hx : p.tables.exec = Jvm.exec) (hZ : Z.Warmed39 s.vm) (eT : T.heap = h) {a : Addr} {k : ClassId} {n : Int32} {vs : List Value} {d : Value} {ty : FieldType} (V : Arv Z h a k ty n vs d) (hd : decode c.code pc = .ok (.arraylength, 1)) (kk : own_Go p e below Φ T (mkF m (pc + 1) Ls (.int n :: rest))) : own_Go p e below Φ T (mkF m pc Ls (.ref a :: rest)) := by
  obtain ⟨cl, A, -, S, N, H, -⟩ := V
  refine own_k (fun t q => X.arraylength hx (by rw [eT]; exact A.1) (State.isArrayOf_alike hZ.alike A.2.1) (g := mkF m pc Ls (.ref a :: rest)) rfl rfl hd t q) ?_
  rw [len_of S N]
  exact kk
theorem own_iastore (X : Stand p l e R s m args below meth c T locs cells slots) (hx : p.tables.exec = Jvm.exec) (hZ : Z.Warmed39 s.vm) (eT : T.heap = h) {a : Addr} {k : ClassId} {n : Int32} {vs : List Value} {d : Value} (V : Arv Z h a k .int n vs d) {j : Int32} {x : Int32} (hj : ¬ j < 0 ∧ j < n) (i : Nat) (hi : j.toNatClampNeg = i) (hl : i < vs.length) (hd : decode c.code pc = .ok (.iastore, 1)) :
    ∃ T' h', Stand p l e R s m args below meth c T' (locs ++ [⟨a, j.toNatClampNeg⟩]) cells slots ∧ T'.heap = h' ∧ Wr h h' a j.toNatClampNeg (.int x) ∧ Arv Z h' a k .int n (vs.set i (.int x)) d ∧ ∀ t, Steps p.tables e below (T'.setTop (mkF m (pc + 1) Ls rest)) t → Steps p.tables e below (T.setTop (mkF m pc Ls ((.int x) :: .int j :: .ref a :: rest))) t := by
  obtain ⟨cl, A, q, S, N, H, G⟩ := V
  have hin := inb_of S hj
  obtain ⟨T', h', X', e', W, st'⟩ := stI X hx hZ eT A (j := j) (x := x) hin (g := mkF m pc Ls ((.int x) :: .int j :: .ref a :: rest)) rfl rfl hd
  exact ⟨T', h', X', e', W, Arv.set A q S N H G rfl W i hi hl, st'⟩
theorem own_lastore (X : Stand p l e R s m args below meth c T locs cells slots) (hx : p.tables.exec = Jvm.exec) (hZ : Z.Warmed39 s.vm) (eT : T.heap = h) {a : Addr} {k : ClassId} {n : Int32} {vs : List Value} {d : Value} (V : Arv Z h a k .long n vs d) {j : Int32} {x : Int64} (hj : ¬ j < 0 ∧ j < n) (i : Nat) (hi : j.toNatClampNeg = i) (hl : i < vs.length) (hd : decode c.code pc = .ok (.lastore, 1)) :
    ∃ T' h', Stand p l e R s m args below meth c T' (locs ++ [⟨a, j.toNatClampNeg⟩]) cells slots ∧ T'.heap = h' ∧ Wr h h' a j.toNatClampNeg (.long x) ∧ Arv Z h' a k .long n (vs.set i (.long x)) d ∧ ∀ t, Steps p.tables e below (T'.setTop (mkF m (pc + 1) Ls rest)) t → Steps p.tables e below (T.setTop (mkF m pc Ls ((.long x) :: .int j :: .ref a :: rest))) t := by
  obtain ⟨cl, A, q, S, N, H, G⟩ := V
  have hin := inb_of S hj
  obtain ⟨T', h', X', e', W, st'⟩ := stJ X hx hZ eT A (j := j) (x := x) hin (g := mkF m pc Ls ((.long x) :: .int j :: .ref a :: rest)) rfl rfl hd
  exact ⟨T', h', X', e', W, Arv.set A q S N H G rfl W i hi hl, st'⟩
theorem own_castore (X : Stand p l e R s m args below meth c T locs cells slots) (hx : p.tables.exec = Jvm.exec) (hZ : Z.Warmed39 s.vm) (eT : T.heap = h) {a : Addr} {k : ClassId} {n : Int32} {vs : List Value} {d : Value} (V : Arv Z h a k .char n vs d) {j : Int32} {x : Int32} (hj : ¬ j < 0 ∧ j < n) (i : Nat) (hi : j.toNatClampNeg = i) (hl : i < vs.length) (hd : decode c.code pc = .ok (.castore, 1)) :
    ∃ T' h', Stand p l e R s m args below meth c T' (locs ++ [⟨a, j.toNatClampNeg⟩]) cells slots ∧ T'.heap = h' ∧ Wr h h' a j.toNatClampNeg (.int (nar .char x)) ∧ Arv Z h' a k .char n (vs.set i (.int (nar .char x))) d ∧ ∀ t, Steps p.tables e below (T'.setTop (mkF m (pc + 1) Ls rest)) t → Steps p.tables e below (T.setTop (mkF m pc Ls ((.int x) :: .int j :: .ref a :: rest))) t := by
  obtain ⟨cl, A, q, S, N, H, G⟩ := V
  have hin := inb_of S hj
  obtain ⟨T', h', X', e', W, st'⟩ := stC X hx hZ eT A (j := j) (x := x) hin (g := mkF m pc Ls ((.int x) :: .int j :: .ref a :: rest)) rfl rfl hd
  exact ⟨T', h', X', e', W, Arv.set A q S N H G (fits_nar_char x) W i hi hl, st'⟩
theorem own_sastore (X : Stand p l e R s m args below meth c T locs cells slots) (hx : p.tables.exec = Jvm.exec) (hZ : Z.Warmed39 s.vm) (eT : T.heap = h) {a : Addr} {k : ClassId} {n : Int32} {vs : List Value} {d : Value} (V : Arv Z h a k .short n vs d) {j : Int32} {x : Int32} (hj : ¬ j < 0 ∧ j < n) (i : Nat) (hi : j.toNatClampNeg = i) (hl : i < vs.length) (hd : decode c.code pc = .ok (.sastore, 1)) :
    ∃ T' h', Stand p l e R s m args below meth c T' (locs ++ [⟨a, j.toNatClampNeg⟩]) cells slots ∧ T'.heap = h' ∧ Wr h h' a j.toNatClampNeg (.int (nar .short x)) ∧ Arv Z h' a k .short n (vs.set i (.int (nar .short x))) d ∧ ∀ t, Steps p.tables e below (T'.setTop (mkF m (pc + 1) Ls rest)) t → Steps p.tables e below (T.setTop (mkF m pc Ls ((.int x) :: .int j :: .ref a :: rest))) t := by
  obtain ⟨cl, A, q, S, N, H, G⟩ := V
  have hin := inb_of S hj
  obtain ⟨T', h', X', e', W, st'⟩ := stS X hx hZ eT A (j := j) (x := x) hin (g := mkF m pc Ls ((.int x) :: .int j :: .ref a :: rest)) rfl rfl hd
  exact ⟨T', h', X', e', W, Arv.set A q S N H G (fits_nar_short x) W i hi hl, st'⟩
theorem own_bastore (X : Stand p l e R s m args below meth c T locs cells slots) (hx : p.tables.exec = Jvm.exec) (hZ : Z.Warmed39 s.vm) (eT : T.heap = h) {a : Addr} {k : ClassId} {n : Int32} {vs : List Value} {d : Value} (V : Arv Z h a k .byte n vs d) {j : Int32} {x : Int32} (hj : ¬ j < 0 ∧ j < n) (i : Nat) (hi : j.toNatClampNeg = i) (hl : i < vs.length) (hd : decode c.code pc = .ok (.bastore, 1)) :
    ∃ T' h', Stand p l e R s m args below meth c T' (locs ++ [⟨a, j.toNatClampNeg⟩]) cells slots ∧ T'.heap = h' ∧ Wr h h' a j.toNatClampNeg (.int (nar .byte x)) ∧ Arv Z h' a k .byte n (vs.set i (.int (nar .byte x))) d ∧ ∀ t, Steps p.tables e below (T'.setTop (mkF m (pc + 1) Ls rest)) t → Steps p.tables e below (T.setTop (mkF m pc Ls ((.int x) :: .int j :: .ref a :: rest))) t := by
  obtain ⟨cl, A, q, S, N, H, G⟩ := V
  have hin := inb_of S hj
  obtain ⟨T', h', X', e', W, st'⟩ := stB X hx hZ eT A (j := j) (x := x) hin (g := mkF m pc Ls ((.int x) :: .int j :: .ref a :: rest)) rfl rfl hd
  exact ⟨T', h', X', e', W, Arv.set A q S N H G (fits_nar_byte x) W i hi hl, st'⟩
theorem own_aastore (X : Stand p l e R s m args below meth c T locs cells slots) (hx : p.tables.exec = Jvm.exec) (hZ : Z.Warmed39 s.vm) (eT : T.heap = h) {a : Addr} {k : ClassId} {n : Int32} {vs : List Value} {d : Value} {ty : FieldType} (V : Arv Z h a k ty n vs d) (ht : ty.isReference = true) {j : Int32} {v : Value} (hj : ¬ j < 0 ∧ j < n) (hf : fits ty v = true) (F : ∀ cl : Cell, Arr Z h a cl ty → cl.cls = k → Sto Z h a v) (i : Nat) (hi : j.toNatClampNeg = i) (hl : i < vs.length) (hd : decode c.code pc = .ok (.aastore, 1)) :
    ∃ T' h', Stand p l e R s m args below meth c T' (locs ++ [⟨a, j.toNatClampNeg⟩]) cells slots ∧ T'.heap = h' ∧ Wr h h' a j.toNatClampNeg v ∧ Arv Z h' a k ty n (vs.set i v) d ∧ ∀ t, Steps p.tables e below (T'.setTop (mkF m (pc + 1) Ls rest)) t → Steps p.tables e below (T.setTop (mkF m pc Ls (v :: .int j :: .ref a :: rest))) t := by
  obtain ⟨cl, A, q, S, N, H, G⟩ := V
  have hin := inb_of S hj
  obtain ⟨T', h', X', e', W, st'⟩ := stR X hx hZ eT A (j := j) (v := v) hin ht (F cl A q) (g := mkF m pc Ls (v :: .int j :: .ref a :: rest)) rfl rfl hd
  exact ⟨T', h', X', e', W, Arv.set A q S N H G hf W i hi hl, st'⟩
theorem own_newarr (X : Stand p l e R s m args below meth c T locs cells slots) (hx : p.tables.exec = Jvm.exec) (hZ : Z.Warmed39 s.vm) {aty : ArrayType} (w : (Cond.arrayClass (newarray.typeOf aty)).before a0 Z = true) (eT : T.heap = h) (hd : decode c.code pc = .ok (.newarray aty, 2)) {n : Int32} (hn : ¬ n < 0) {cap : Nat} (hcap : n.toNatClampNeg ≤ cap) (hb : cap * 8 ≤ 536870912) (hc : cells + 1 ≤ R.cells) (hl : slots + cap ≤ R.slots) {ad : String} (had : "[" ++ (newarray.typeOf aty).toString = ad) :
    ∃ T' h' cA, Stand p l e R s m args below meth c T' locs (cells + 1) (slots + cap) ∧ T'.heap = h' ∧ Ext h h' ∧ Arv Z h' h.size cA (newarray.typeOf aty) n (List.replicate cap (defaultValue (newarray.typeOf aty))) (defaultValue (newarray.typeOf aty)) ∧ Exa Z h' h.size ad ∧
      ∀ t, Steps p.tables e below (T'.setTop (mkF m (pc + 2) Ls (.ref h.size :: rest))) t → Steps p.tables e below (T.setTop (mkF m pc Ls (.int n :: rest))) t := by
  obtain ⟨T', h', cA, X', e', E', A', C', st'⟩ := newPE X hx hZ w eT (g := mkF m pc Ls (.int n :: rest)) rfl hd rfl hn hcap hb hc hl had
  exact ⟨T', h', cA, X', e', E', (Arv.new A' hn).pad (fun i => by have q := pad_rep [] (defaultValue (newarray.typeOf aty)) cap i; simpa using q), C', st'⟩
theorem own_newref (X : Stand p l e R s m args below meth c T locs cells slots) (hx : p.tables.exec = Jvm.exec) (hZ : Z.Warmed39 s.vm) {own C : String} {index : Nat} (hown : s.vm.findClass own = some m.cls) (w1 : (Cond.classLink own index C).before a0 Z = true) (w2 : (Cond.arrayOver (.object C)).before a0 Z = true) (eT : T.heap = h) (hd : decode c.code pc = .ok (.anewarray index, 3)) {n : Int32} (hn : ¬ n < 0) {cap : Nat} (hcap : n.toNatClampNeg ≤ cap) (hb : cap * 8 ≤ 536870912) (hc : cells + 1 ≤ R.cells) (hl : slots + cap ≤ R.slots) {ad : String} (had : "[" ++ (FieldType.object C).toString = ad) :
    ∃ T' h' cA, Stand p l e R s m args below meth c T' locs (cells + 1) (slots + cap) ∧ T'.heap = h' ∧ Ext h h' ∧ Arv Z h' h.size cA (.object C) n (List.replicate cap .null) .null ∧ Exa Z h' h.size ad ∧ Ovr Z cA C ∧
      ∀ t, Steps p.tables e below (T'.setTop (mkF m (pc + 3) Ls (.ref h.size :: rest))) t → Steps p.tables e below (T.setTop (mkF m pc Ls (.int n :: rest))) t := by
  obtain ⟨T', h', cA, X', e', E', A', C', O', st'⟩ := newRE X hx hZ hown w1 w2 eT (g := mkF m pc Ls (.int n :: rest)) rfl hd rfl hn hcap hb hc hl had
  exact ⟨T', h', cA, X', e', E', (Arv.new A' hn).pad (fun i => by have q := pad_rep [] (.null) cap i; simpa [defaultValue] using q), C', O', st'⟩
theorem own_newarr2 (X : Stand p l e R s m args below meth c T locs cells slots) (hx : p.tables.exec = Jvm.exec) (hZ : Z.Warmed39 s.vm) {own C : String} {ty : FieldType} {index : Nat} (hown : s.vm.findClass own = some m.cls) (hC : (FieldType.array ty).toString = C) (w1 : (Cond.classLink own index C).before a0 Z = true) (w2 : (Cond.arrayOver (.array ty)).before a0 Z = true) (eT : T.heap = h) (hd : decode c.code pc = .ok (.anewarray index, 3)) {n : Int32} (hn : ¬ n < 0) {cap : Nat} (hcap : n.toNatClampNeg ≤ cap) (hb : cap * 8 ≤ 536870912) (hc : cells + 1 ≤ R.cells) (hl : slots + cap ≤ R.slots) {ad : String} (had : "[" ++ C = ad) :
    ∃ T' h' cA, Stand p l e R s m args below meth c T' locs (cells + 1) (slots + cap) ∧ T'.heap = h' ∧ Ext h h' ∧ Arv Z h' h.size cA (.array ty) n (List.replicate cap .null) .null ∧ Exa Z h' h.size ad ∧ OvrA Z cA ty C ∧
      ∀ t, Steps p.tables e below (T'.setTop (mkF m (pc + 3) Ls (.ref h.size :: rest))) t → Steps p.tables e below (T.setTop (mkF m pc Ls (.int n :: rest))) t := by
  obtain ⟨T', h', cA, X', e', E', A', C', O', st'⟩ := newRA X hx hZ hown hC w1 w2 eT (g := mkF m pc Ls (.int n :: rest)) rfl hd rfl hn hcap hb hc hl had
  exact ⟨T', h', cA, X', e', E', (Arv.new A' hn).pad (fun i => by have q := pad_rep [] (.null) cap i; simpa [defaultValue] using q), C', O', st'⟩
theorem own_callP (X : Stand p l e R s m args below meth c T locs cells slots) (hx : p.tables.exec = Jvm.exec) (hZ : Z.Warmed39 s.vm) {own : String} {index kk : Nat} {y : MethodName} {bytes : ByteArray} {maxL : Nat} {ret : Option FieldType} (hown : s.vm.findClass own = some m.cls)
    (w1 : (Cond.methodLink own index y).before a0 Z = true) (w2 : (Cond.instanceMethod y).before a0 Z = true) (w3 : (Cond.privateMethod y).before a0 Z = true) (w4 : (Cond.code y bytes maxL ret).before a0 Z = true) (w5 : (Cond.initialized y.cls).before a0 Z = true) (w6 : (Cond.instantiable y.cls kk).before a0 Z = true) (hy : y.cls ≠ "java/lang/invoke/MethodHandle" ∧ y.cls ≠ "java/lang/invoke/VarHandle")
    {rm : Room} {al : List Value} {b : Addr} {C : String} (E : Exa Z h b C) (hM : own_Met l Z y bytes maxL ret rm (.ref b :: al).toArray h Q) (W : Nat) (hf : rm.frames + 1 ≤ R.frames) (hl : W + (maxL + 11) + rm.locals ≤ R.locals) (eT : T.heap = h) (hc : cells + rm.cells ≤ R.cells) (hn : slots + rm.slots ≤ R.slots)
    (hsz : Ls.size = c.maxLocals) (hlen : ∀ sig, parseMethodDescriptor y.desc = some sig → al.length = sig.parameters.length) (hst : st = al.reverse ++ .ref b :: rest) (hW : 2 * 0 + (rest.map fun v => v.category).sum ≤ W) (hd : decode c.code pc = .ok (.invokevirtual index, 3))
    (k : ∀ (v : Option Value) (T' : State) (L : List Loc), Stand p l e R s m args below meth c T' (locs ++ L) (cells + rm.cells) (slots + rm.slots) → Q v T'.heap L → own_Go p e below Φ T' (mkF m (pc + 3) Ls (v.toList ++ rest))) : own_Go p e below Φ T (mkF m pc Ls st) := by
  obtain ⟨cB, q1, q2⟩ := E.cell
  have hp : s.PrivateAt y := Cond.privateMethod_at (mvP hZ w3 (args := #[]))
  obtain ⟨cc, ki, z1, z2, -, z4, -⟩ := Cond.instantiable_spec (mvT (s := s) (args := args) hZ w6)
  have hsel : (Cond.selects y.cls y y).before args s = true := selects_self_of_private z1 z2 (by simp only [Bool.or_eq_false_iff] at z4; exact z4.1) hp (mvT hZ w2) hy
  obtain ⟨v, vm₁, ⟨T', L', k', n'⟩, -, X', ⟨L, hQ, l1, l2, l3⟩, st'⟩ := X.privateBack hx (y := y) hown (mvT hZ w1) (mvT hZ w2) hsel hp (mvT hZ w4) hy (own_back (W := W) hM hZ w4 w5 hf hl) (g := mkF m pc Ls st) rfl hsz (Steps.refl _) (a := b) (cell := cB) (by rw [eT]; exact q1) q2 (argsL := al) (rest := rest) hlen hst hW hd (fun _ _ => ⟨rfl, eT, hc, hn⟩)
  dsimp only [Pt.U, Pt.locs, Pt.cells, Pt.slots] at X' l1 l2 l3 st' hQ
  subst l1 l2 l3
  exact own_s st' (k v T' L X' hQ)
theorem own_eqI {args : Array Value} {t : Term} {n : Int32} (hq : (Cond.eq t (.int n)).value args Z none Z [] = some true) : t.eval args Z none [] Z = some (.int n) := eqv_i (Term.int_eval n) hq
theorem own_fldI {args : Array Value} {t : Term} {n : Int32} {a : Addr} {C f d : String} (ev : t.eval args Z none [] Z = some (.ref a)) (hq : (Cond.eq (.field t C f d) (.int n)).value args Z none Z [] = some true) : Fld Z Z.heap a C f d (.int n) := by
  have q := own_eqI hq
  rw [fld_at ev] at q
  exact Fld.start q
theorem own_nar_short (x : Int32) : nar .short x.toInt16.toInt32 = x.toInt16.toInt32 := by simp [nar]
theorem own_nar_byte (x : Int32) : nar .byte x.toInt8.toInt32 = x.toInt8.toInt32 := by simp [nar]
theorem own_nar_char (x : Int32) : nar .char x.toUInt32.toUInt16.toUInt32.toInt32 = x.toUInt32.toUInt16.toUInt32.toInt32 := by
  have e1 := c_i2c x
  have e2 := c_i2c (x.toUInt32.toUInt16.toUInt32.toInt32)
  exact Int32.toInt_inj.mp (by show (x.toUInt32.toUInt16.toUInt32.toInt32.toUInt32.toUInt16.toUInt32.toInt32).toInt = _; omega)
end Own
end Jvm.RoadKit
namespace Jvm.Pilot.@@N@@
open Jvm Jvm.ClassFile Sem Op Lib Jvm.Free Jvm.Stand Jvm.LawKit Jvm.RoadKit Bundle Jvm.Pilot.@@N@@.Jvm.D
def own_W (Z : State) (a0 : Array Value) (c_Keyword_SELECT : Addr) (c_Lexer_Kind_KEYWORD : Addr) (c_Keyword_IS : Addr) (c_Keyword_AND : Addr) (c_Keyword_END : Addr) (c_Keyword_CURRENT_DATE : Addr) (c_Keyword_TYPE : Addr) (c_Keyword_NULL : Addr) (c_Lexer_Kind_WORD : Addr) (c_Keyword_IN : Addr) (c_Lexer_Kind_INTEGER : Addr) (c_Lexer_Kind_STRING : Addr) (c_Lexer_Kind_SYMBOL : Addr) (c_Lexer_Kind_END : Addr) (g_COMPACT_STRINGS : Int32) (g_SIOOBE_FORMATTER : Value) : Prop := (∀ d ∈ tables_1, d.before a0 Z = true) ∧ (Sta Z Z.heap "com/example/nepean/nepean/query/Keyword" "SELECT" "Lcom/example/nepean/nepean/query/Keyword;" (.ref c_Keyword_SELECT)) ∧ (Exa Z Z.heap c_Keyword_SELECT "com/example/nepean/nepean/query/Keyword") ∧ (Sta Z Z.heap "com/example/nepean/nepean/query/Lexer$Kind" "KEYWORD" "Lcom/example/nepean/nepean/query/Lexer$Kind;" (.ref c_Lexer_Kind_KEYWORD)) ∧ (Exa Z Z.heap c_Lexer_Kind_KEYWORD "com/example/nepean/nepean/query/Lexer$Kind") ∧ (Sta Z Z.heap "com/example/nepean/nepean/query/Keyword" "IS" "Lcom/example/nepean/nepean/query/Keyword;" (.ref c_Keyword_IS)) ∧ (Exa Z Z.heap c_Keyword_IS "com/example/nepean/nepean/query/Keyword") ∧ (Sta Z Z.heap "com/example/nepean/nepean/query/Keyword" "AND" "Lcom/example/nepean/nepean/query/Keyword;" (.ref c_Keyword_AND)) ∧ (Exa Z Z.heap c_Keyword_AND "com/example/nepean/nepean/query/Keyword") ∧ (Sta Z Z.heap "com/example/nepean/nepean/query/Keyword" "END" "Lcom/example/nepean/nepean/query/Keyword;" (.ref c_Keyword_END)) ∧ (Exa Z Z.heap c_Keyword_END "com/example/nepean/nepean/query/Keyword") ∧ (Sta Z Z.heap "com/example/nepean/nepean/query/Keyword" "CURRENT_DATE" "Lcom/example/nepean/nepean/query/Keyword;" (.ref c_Keyword_CURRENT_DATE)) ∧ (Exa Z Z.heap c_Keyword_CURRENT_DATE "com/example/nepean/nepean/query/Keyword") ∧ (Sta Z Z.heap "com/example/nepean/nepean/query/Keyword" "TYPE" "Lcom/example/nepean/nepean/query/Keyword;" (.ref c_Keyword_TYPE)) ∧ (Exa Z Z.heap c_Keyword_TYPE "com/example/nepean/nepean/query/Keyword") ∧ (Sta Z Z.heap "com/example/nepean/nepean/query/Keyword" "NULL" "Lcom/example/nepean/nepean/query/Keyword;" (.ref c_Keyword_NULL)) ∧ (Exa Z Z.heap c_Keyword_NULL "com/example/nepean/nepean/query/Keyword") ∧ (Sta Z Z.heap "com/example/nepean/nepean/query/Lexer$Kind" "WORD" "Lcom/example/nepean/nepean/query/Lexer$Kind;" (.ref c_Lexer_Kind_WORD)) ∧ (Exa Z Z.heap c_Lexer_Kind_WORD "com/example/nepean/nepean/query/Lexer$Kind") ∧ (Sta Z Z.heap "com/example/nepean/nepean/query/Keyword" "IN" "Lcom/example/nepean/nepean/query/Keyword;" (.ref c_Keyword_IN)) ∧ (Exa Z Z.heap c_Keyword_IN "com/example/nepean/nepean/query/Keyword") ∧ (Sta Z Z.heap "com/example/nepean/nepean/query/Lexer$Kind" "INTEGER" "Lcom/example/nepean/nepean/query/Lexer$Kind;" (.ref c_Lexer_Kind_INTEGER)) ∧ (Exa Z Z.heap c_Lexer_Kind_INTEGER "com/example/nepean/nepean/query/Lexer$Kind") ∧ (Sta Z Z.heap "com/example/nepean/nepean/query/Lexer$Kind" "STRING" "Lcom/example/nepean/nepean/query/Lexer$Kind;" (.ref c_Lexer_Kind_STRING)) ∧ (Exa Z Z.heap c_Lexer_Kind_STRING "com/example/nepean/nepean/query/Lexer$Kind") ∧ (Sta Z Z.heap "com/example/nepean/nepean/query/Lexer$Kind" "SYMBOL" "Lcom/example/nepean/nepean/query/Lexer$Kind;" (.ref c_Lexer_Kind_SYMBOL)) ∧ (Exa Z Z.heap c_Lexer_Kind_SYMBOL "com/example/nepean/nepean/query/Lexer$Kind") ∧ (Sta Z Z.heap "com/example/nepean/nepean/query/Lexer$Kind" "END" "Lcom/example/nepean/nepean/query/Lexer$Kind;" (.ref c_Lexer_Kind_END)) ∧ (Exa Z Z.heap c_Lexer_Kind_END "com/example/nepean/nepean/query/Lexer$Kind") ∧ (Fld Z Z.heap c_Keyword_SELECT "java/lang/Enum" "ordinal" "I" (.int (0 : Int32))) ∧ (Fld Z Z.heap c_Keyword_IS "java/lang/Enum" "ordinal" "I" (.int (20 : Int32))) ∧ (Fld Z Z.heap c_Keyword_END "java/lang/Enum" "ordinal" "I" (.int (37 : Int32))) ∧ (Fld Z Z.heap c_Keyword_CURRENT_DATE "java/lang/Enum" "ordinal" "I" (.int (55 : Int32))) ∧ (Fld Z Z.heap c_Keyword_TYPE "java/lang/Enum" "ordinal" "I" (.int (63 : Int32))) ∧ (Fld Z Z.heap c_Keyword_AND "java/lang/Enum" "ordinal" "I" (.int (17 : Int32))) ∧ (Fld Z Z.heap c_Keyword_NULL "java/lang/Enum" "ordinal" "I" (.int (21 : Int32))) ∧ (Fld Z Z.heap c_Keyword_IN "java/lang/Enum" "ordinal" "I" (.int (25 : Int32))) ∧ (Sta Z Z.heap "java/lang/String" "COMPACT_STRINGS" "Z" (.int g_COMPACT_STRINGS)) ∧ (¬ (g_COMPACT_STRINGS = (0 : Int32))) ∧ (g_SIOOBE_FORMATTER.isRef = true) ∧ (Sta Z Z.heap "jdk/internal/util/Preconditions" "SIOOBE_FORMATTER" "Ljava/util/function/BiFunction;" g_SIOOBE_FORMATTER)
def own_Pk (c0 c1 c2 c3 c4 c5 c6 c7 : Addr) (n : Int32) (a : Addr) : Prop := (n = (0 : Int32) ∧ a = c0) ∨ (n = (1 : Int32) ∧ a = c1) ∨ (n = (2 : Int32) ∧ a = c2) ∨ (n = (3 : Int32) ∧ a = c3) ∨ (n = (4 : Int32) ∧ a = c4) ∨ (n = (5 : Int32) ∧ a = c5) ∨ (n = (6 : Int32) ∧ a = c6) ∨ (¬ n = (0 : Int32) ∧ ¬ n = (1 : Int32) ∧ ¬ n = (2 : Int32) ∧ ¬ n = (3 : Int32) ∧ ¬ n = (4 : Int32) ∧ ¬ n = (5 : Int32) ∧ ¬ n = (6 : Int32) ∧ a = c7)
theorem ef_1_I (m : MethodId) (x0 : Int32)  : entryFrame m #[(.int x0)] 1 = mkF m 0 #[.val (.int x0)] [] := by first | (simp [entryFrame, mkF, argsToLocals, Value.category]; done) | rfl
theorem pn_com_example_nepean_nepean_query_TokenIsPinLaw : plainName "com/example/nepean/nepean/query/TokenIsPinLaw" = true := by first | (simp [plainName, overriddenIn]; done) | decide +kernel
theorem d1_0 : decode method_2_code 0 = .ok (.iload_n 0, 1) := by decide +kernel
theorem d1_1 : decode method_2_code 1 = .ok (.ifCond .ne 7, 3) := by decide +kernel
theorem d1_4 : decode method_2_code 4 = .ok (.getstatic 7, 3) := by decide +kernel
theorem d1_7 : decode method_2_code 7 = .ok (.areturn, 1) := by decide +kernel
theorem d1_8 : decode method_2_code 8 = .ok (.iload_n 0, 1) := by decide +kernel
theorem d1_9 : decode method_2_code 9 = .ok (.iconst 1, 1) := by decide +kernel
theorem d1_10 : decode method_2_code 10 = .ok (.if_icmp .ne 7, 3) := by decide +kernel
theorem d1_13 : decode method_2_code 13 = .ok (.getstatic 13, 3) := by decide +kernel
theorem d1_16 : decode method_2_code 16 = .ok (.areturn, 1) := by decide +kernel
theorem d1_17 : decode method_2_code 17 = .ok (.iload_n 0, 1) := by decide +kernel
theorem d1_18 : decode method_2_code 18 = .ok (.iconst 2, 1) := by decide +kernel
theorem d1_19 : decode method_2_code 19 = .ok (.if_icmp .ne 7, 3) := by decide +kernel
theorem d1_22 : decode method_2_code 22 = .ok (.getstatic 16, 3) := by decide +kernel
theorem d1_25 : decode method_2_code 25 = .ok (.areturn, 1) := by decide +kernel
theorem d1_26 : decode method_2_code 26 = .ok (.iload_n 0, 1) := by decide +kernel
theorem d1_27 : decode method_2_code 27 = .ok (.iconst 3, 1) := by decide +kernel
theorem d1_28 : decode method_2_code 28 = .ok (.if_icmp .ne 7, 3) := by decide +kernel
theorem d1_31 : decode method_2_code 31 = .ok (.getstatic 19, 3) := by decide +kernel
theorem d1_34 : decode method_2_code 34 = .ok (.areturn, 1) := by decide +kernel
theorem d1_35 : decode method_2_code 35 = .ok (.iload_n 0, 1) := by decide +kernel
theorem d1_36 : decode method_2_code 36 = .ok (.iconst 4, 1) := by decide +kernel
theorem d1_37 : decode method_2_code 37 = .ok (.if_icmp .ne 7, 3) := by decide +kernel
theorem d1_40 : decode method_2_code 40 = .ok (.getstatic 22, 3) := by decide +kernel
theorem d1_43 : decode method_2_code 43 = .ok (.areturn, 1) := by decide +kernel
theorem d1_44 : decode method_2_code 44 = .ok (.iload_n 0, 1) := by decide +kernel
theorem d1_45 : decode method_2_code 45 = .ok (.iconst 5, 1) := by decide +kernel
theorem d1_46 : decode method_2_code 46 = .ok (.if_icmp .ne 7, 3) := by decide +kernel
theorem d1_49 : decode method_2_code 49 = .ok (.getstatic 25, 3) := by decide +kernel
theorem d1_52 : decode method_2_code 52 = .ok (.areturn, 1) := by decide +kernel
theorem d1_53 : decode method_2_code 53 = .ok (.iload_n 0, 1) := by decide +kernel
theorem d1_54 : decode method_2_code 54 = .ok (.bipush 6, 2) := by decide +kernel
theorem d1_56 : decode method_2_code 56 = .ok (.if_icmp .ne 7, 3) := by decide +kernel
theorem d1_59 : decode method_2_code 59 = .ok (.getstatic 28, 3) := by decide +kernel
theorem d1_62 : decode method_2_code 62 = .ok (.areturn, 1) := by decide +kernel
theorem d1_63 : decode method_2_code 63 = .ok (.getstatic 31, 3) := by decide +kernel
theorem d1_66 : decode method_2_code 66 = .ok (.areturn, 1) := by decide +kernel
set_option maxRecDepth 65536 in
set_option maxHeartbeats 40000000 in
theorem rm_pick (l : Launch) (Z : State) (a0 : Array Value) (c_Keyword_SELECT : Addr) (c_Lexer_Kind_KEYWORD : Addr) (c_Keyword_IS : Addr) (c_Keyword_AND : Addr) (c_Keyword_END : Addr) (c_Keyword_CURRENT_DATE : Addr) (c_Keyword_TYPE : Addr) (c_Keyword_NULL : Addr) (c_Lexer_Kind_WORD : Addr) (c_Keyword_IN : Addr) (c_Lexer_Kind_INTEGER : Addr) (c_Lexer_Kind_STRING : Addr) (c_Lexer_Kind_SYMBOL : Addr) (c_Lexer_Kind_END : Addr) (g_COMPACT_STRINGS : Int32) (g_SIOOBE_FORMATTER : Value) (hW : own_W Z a0 c_Keyword_SELECT c_Lexer_Kind_KEYWORD c_Keyword_IS c_Keyword_AND c_Keyword_END c_Keyword_CURRENT_DATE c_Keyword_TYPE c_Keyword_NULL c_Lexer_Kind_WORD c_Keyword_IN c_Lexer_Kind_INTEGER c_Lexer_Kind_STRING c_Lexer_Kind_SYMBOL c_Lexer_Kind_END g_COMPACT_STRINGS g_SIOOBE_FORMATTER) (n : Int32) (h0 : Heap) (O0 : Ext Z.heap h0)  :
    own_Met l Z (⟨"com/example/nepean/nepean/query/TokenIsPinLaw", "pick", "(I)Lcom/example/nepean/nepean/query/Keyword;"⟩ : MethodName) method_2_code 1 (some (.object "com/example/nepean/nepean/query/Keyword")) ({ frames := 0, cells := 0, slots := 0, locals := 0 } : Room) #[(.int n)] h0 (fun v h L => (∃ a, v = some (.ref a) ∧ own_Pk c_Keyword_SELECT c_Keyword_END c_Keyword_NULL c_Keyword_IS c_Keyword_IN c_Keyword_TYPE c_Keyword_CURRENT_DATE c_Keyword_AND n a) ∧ Fr Z.heap.size L ∧ h = h0) := by
  have hW_ := hW
  obtain ⟨hw, S_c_Keyword_SELECT, E_c_Keyword_SELECT, S_c_Lexer_Kind_KEYWORD, E_c_Lexer_Kind_KEYWORD, S_c_Keyword_IS, E_c_Keyword_IS, S_c_Keyword_AND, E_c_Keyword_AND, S_c_Keyword_END, E_c_Keyword_END, S_c_Keyword_CURRENT_DATE, E_c_Keyword_CURRENT_DATE, S_c_Keyword_TYPE, E_c_Keyword_TYPE, S_c_Keyword_NULL, E_c_Keyword_NULL, S_c_Lexer_Kind_WORD, E_c_Lexer_Kind_WORD, S_c_Keyword_IN, E_c_Keyword_IN, S_c_Lexer_Kind_INTEGER, E_c_Lexer_Kind_INTEGER, S_c_Lexer_Kind_STRING, E_c_Lexer_Kind_STRING, S_c_Lexer_Kind_SYMBOL, E_c_Lexer_Kind_SYMBOL, S_c_Lexer_Kind_END, E_c_Lexer_Kind_END, F_c_Keyword_SELECT_ordinal, F_c_Keyword_IS_ordinal, F_c_Keyword_END_ordinal, F_c_Keyword_CURRENT_DATE_ordinal, F_c_Keyword_TYPE_ordinal, F_c_Keyword_AND_ordinal, F_c_Keyword_NULL_ordinal, F_c_Keyword_IN_ordinal, S_g_COMPACT_STRINGS, P_g_COMPACT_STRINGS, R_g_SIOOBE_FORMATTER, S_g_SIOOBE_FORMATTER⟩ := hW_
  refine own_met (plainFor_of_name pn_com_example_nepean_nepean_query_TokenIsPinLaw) ?_
  intro p e s m below meth cc_ s₁ Φ hF X0 hx hby hml hZ hown hnm hret hlk e0
  have N0 := Fr.nil Z.heap.size
  refine own_k (T' := s₁) (g' := (mkF m 0 #[.val (.int n)] [])) (fun _ k_ => castTop (ef_1_I m n) k_) ?_
  refine own_k (T' := s₁) (g' := (mkF m 1 #[.val (.int n)] [(.int n)])) (fun _ k_ => XS.iloadN X0.here hx rfl (hb hby d1_0) rfl  k_) ?_
  by_cases hc1 : n = (0 : Int32)
  · refine own_k (T' := s₁) (g' := (mkF m 4 #[.val (.int n)] [])) (fun _ k_ => XS.ifNo X0.here hx rfl (hb hby d1_1) rfl ((if0 _ _).trans (teq hc1).2) k_) ?_
    obtain ⟨T2, X2, e2, st2⟩ := getS2 X0 hx hZ hown (host := "") (Or.inl (hw _ (List.mem_of_getElem? (i := 5) rfl))) Via.refl e0 (S_c_Keyword_SELECT.ext O0) (g := (mkF m 4 #[.val (.int n)] [])) rfl (hb hby d1_4)
    refine own_k (T' := T2) (g' := (mkF m 7 #[.val (.int n)] [(.ref c_Keyword_SELECT)])) st2 ?_
    exact own_retA X2 hx hret rfl rfl hlk (hb hby d1_7) hF (by rw [e2]; exact ⟨⟨c_Keyword_SELECT, rfl, Or.inl ⟨hc1, rfl⟩⟩, N0, rfl⟩) (by decide) (by decide)
  · refine own_k (T' := s₁) (g' := (mkF m 8 #[.val (.int n)] [])) (fun _ k_ => XS.ifYes X0.here hx rfl (pc0 := 1) (pc' := 8) rfl (hb hby d1_1) rfl ((if0 _ _).trans (feq hc1).2) (by decide) (by decide) k_) ?_
    refine own_k (T' := s₁) (g' := (mkF m 9 #[.val (.int n)] [(.int n)])) (fun _ k_ => XS.iloadN X0.here hx rfl (hb hby d1_8) rfl  k_) ?_
    refine own_k (T' := s₁) (g' := (mkF m 10 #[.val (.int n)] [(.int (1 : Int32)), (.int n)])) (fun _ k_ => XS.iconst X0.here hx rfl (hb hby d1_9) k_) ?_
    by_cases hc3 : n = (1 : Int32)
    · refine own_k (T' := s₁) (g' := (mkF m 13 #[.val (.int n)] [])) (fun _ k_ => XS.icmpNo X0.here hx rfl (hb hby d1_10) rfl ((teq hc3).2) k_) ?_
      obtain ⟨T4, X4, e4, st4⟩ := getS2 X0 hx hZ hown (host := "") (Or.inl (hw _ (List.mem_of_getElem? (i := 70) rfl))) Via.refl e0 (S_c_Keyword_END.ext O0) (g := (mkF m 13 #[.val (.int n)] [])) rfl (hb hby d1_13)
      refine own_k (T' := T4) (g' := (mkF m 16 #[.val (.int n)] [(.ref c_Keyword_END)])) st4 ?_
      exact own_retA X4 hx hret rfl rfl hlk (hb hby d1_16) hF (by rw [e4]; exact ⟨⟨c_Keyword_END, rfl, Or.inr (Or.inl ⟨hc3, rfl⟩)⟩, N0, rfl⟩) (by decide) (by decide)
    · refine own_k (T' := s₁) (g' := (mkF m 17 #[.val (.int n)] [])) (fun _ k_ => XS.icmpYes X0.here hx rfl (pc0 := 10) (pc' := 17) rfl (hb hby d1_10) rfl ((feq hc3).2) (by decide) (by decide) k_) ?_
      refine own_k (T' := s₁) (g' := (mkF m 18 #[.val (.int n)] [(.int n)])) (fun _ k_ => XS.iloadN X0.here hx rfl (hb hby d1_17) rfl  k_) ?_
      refine own_k (T' := s₁) (g' := (mkF m 19 #[.val (.int n)] [(.int (2 : Int32)), (.int n)])) (fun _ k_ => XS.iconst X0.here hx rfl (hb hby d1_18) k_) ?_
      by_cases hc5 : n = (2 : Int32)
      · refine own_k (T' := s₁) (g' := (mkF m 22 #[.val (.int n)] [])) (fun _ k_ => XS.icmpNo X0.here hx rfl (hb hby d1_19) rfl ((teq hc5).2) k_) ?_
        obtain ⟨T6, X6, e6, st6⟩ := getS2 X0 hx hZ hown (host := "") (Or.inl (hw _ (List.mem_of_getElem? (i := 76) rfl))) Via.refl e0 (S_c_Keyword_NULL.ext O0) (g := (mkF m 22 #[.val (.int n)] [])) rfl (hb hby d1_22)
        refine own_k (T' := T6) (g' := (mkF m 25 #[.val (.int n)] [(.ref c_Keyword_NULL)])) st6 ?_
        exact own_retA X6 hx hret rfl rfl hlk (hb hby d1_25) hF (by rw [e6]; exact ⟨⟨c_Keyword_NULL, rfl, Or.inr (Or.inr (Or.inl ⟨hc5, rfl⟩))⟩, N0, rfl⟩) (by decide) (by decide)
      · refine own_k (T' := s₁) (g' := (mkF m 26 #[.val (.int n)] [])) (fun _ k_ => XS.icmpYes X0.here hx rfl (pc0 := 19) (pc' := 26) rfl (hb hby d1_19) rfl ((feq hc5).2) (by decide) (by decide) k_) ?_
        refine own_k (T' := s₁) (g' := (mkF m 27 #[.val (.int n)] [(.int n)])) (fun _ k_ => XS.iloadN X0.here hx rfl (hb hby d1_26) rfl  k_) ?_
        refine own_k (T' := s₁) (g' := (mkF m 28 #[.val (.int n)] [(.int (3 : Int32)), (.int n)])) (fun _ k_ => XS.iconst X0.here hx rfl (hb hby d1_27) k_) ?_
        by_cases hc7 : n = (3 : Int32)
        · refine own_k (T' := s₁) (g' := (mkF m 31 #[.val (.int n)] [])) (fun _ k_ => XS.icmpNo X0.here hx rfl (hb hby d1_28) rfl ((teq hc7).2) k_) ?_
          obtain ⟨T8, X8, e8, st8⟩ := getS2 X0 hx hZ hown (host := "") (Or.inl (hw _ (List.mem_of_getElem? (i := 41) rfl))) Via.refl e0 (S_c_Keyword_IS.ext O0) (g := (mkF m 31 #[.val (.int n)] [])) rfl (hb hby d1_31)
          refine own_k (T' := T8) (g' := (mkF m 34 #[.val (.int n)] [(.ref c_Keyword_IS)])) st8 ?_
          exact own_retA X8 hx hret rfl rfl hlk (hb hby d1_34) hF (by rw [e8]; exact ⟨⟨c_Keyword_IS, rfl, Or.inr (Or.inr (Or.inr (Or.inl ⟨hc7, rfl⟩)))⟩, N0, rfl⟩) (by decide) (by decide)
        · refine own_k (T' := s₁) (g' := (mkF m 35 #[.val (.int n)] [])) (fun _ k_ => XS.icmpYes X0.here hx rfl (pc0 := 28) (pc' := 35) rfl (hb hby d1_28) rfl ((feq hc7).2) (by decide) (by decide) k_) ?_
          refine own_k (T' := s₁) (g' := (mkF m 36 #[.val (.int n)] [(.int n)])) (fun _ k_ => XS.iloadN X0.here hx rfl (hb hby d1_35) rfl  k_) ?_
          refine own_k (T' := s₁) (g' := (mkF m 37 #[.val (.int n)] [(.int (4 : Int32)), (.int n)])) (fun _ k_ => XS.iconst X0.here hx rfl (hb hby d1_36) k_) ?_
          by_cases hc9 : n = (4 : Int32)
          · refine own_k (T' := s₁) (g' := (mkF m 40 #[.val (.int n)] [])) (fun _ k_ => XS.icmpNo X0.here hx rfl (hb hby d1_37) rfl ((teq hc9).2) k_) ?_
            obtain ⟨T10, X10, e10, st10⟩ := getS2 X0 hx hZ hown (host := "") (Or.inl (hw _ (List.mem_of_getElem? (i := 83) rfl))) Via.refl e0 (S_c_Keyword_IN.ext O0) (g := (mkF m 40 #[.val (.int n)] [])) rfl (hb hby d1_40)
            refine own_k (T' := T10) (g' := (mkF m 43 #[.val (.int n)] [(.ref c_Keyword_IN)])) st10 ?_
            exact own_retA X10 hx hret rfl rfl hlk (hb hby d1_43) hF (by rw [e10]; exact ⟨⟨c_Keyword_IN, rfl, Or.inr (Or.inr (Or.inr (Or.inr (Or.inl ⟨hc9, rfl⟩))))⟩, N0, rfl⟩) (by decide) (by decide)
          · refine own_k (T' := s₁) (g' := (mkF m 44 #[.val (.int n)] [])) (fun _ k_ => XS.icmpYes X0.here hx rfl (pc0 := 37) (pc' := 44) rfl (hb hby d1_37) rfl ((feq hc9).2) (by decide) (by decide) k_) ?_
            refine own_k (T' := s₁) (g' := (mkF m 45 #[.val (.int n)] [(.int n)])) (fun _ k_ => XS.iloadN X0.here hx rfl (hb hby d1_44) rfl  k_) ?_
            refine own_k (T' := s₁) (g' := (mkF m 46 #[.val (.int n)] [(.int (5 : Int32)), (.int n)])) (fun _ k_ => XS.iconst X0.here hx rfl (hb hby d1_45) k_) ?_
            by_cases hc11 : n = (5 : Int32)
            · refine own_k (T' := s₁) (g' := (mkF m 49 #[.val (.int n)] [])) (fun _ k_ => XS.icmpNo X0.here hx rfl (hb hby d1_46) rfl ((teq hc11).2) k_) ?_
              obtain ⟨T12, X12, e12, st12⟩ := getS2 X0 hx hZ hown (host := "") (Or.inl (hw _ (List.mem_of_getElem? (i := 74) rfl))) Via.refl e0 (S_c_Keyword_TYPE.ext O0) (g := (mkF m 49 #[.val (.int n)] [])) rfl (hb hby d1_49)
              refine own_k (T' := T12) (g' := (mkF m 52 #[.val (.int n)] [(.ref c_Keyword_TYPE)])) st12 ?_
              exact own_retA X12 hx hret rfl rfl hlk (hb hby d1_52) hF (by rw [e12]; exact ⟨⟨c_Keyword_TYPE, rfl, Or.inr (Or.inr (Or.inr (Or.inr (Or.inr (Or.inl ⟨hc11, rfl⟩)))))⟩, N0, rfl⟩) (by decide) (by decide)
            · refine own_k (T' := s₁) (g' := (mkF m 53 #[.val (.int n)] [])) (fun _ k_ => XS.icmpYes X0.here hx rfl (pc0 := 46) (pc' := 53) rfl (hb hby d1_46) rfl ((feq hc11).2) (by decide) (by decide) k_) ?_
              refine own_k (T' := s₁) (g' := (mkF m 54 #[.val (.int n)] [(.int n)])) (fun _ k_ => XS.iloadN X0.here hx rfl (hb hby d1_53) rfl  k_) ?_
              refine own_k (T' := s₁) (g' := (mkF m 56 #[.val (.int n)] [(.int (6 : Int32)), (.int n)])) (fun _ k_ => XS.bipush X0.here hx rfl (hb hby d1_54) k_) ?_
              by_cases hc13 : n = (6 : Int32)
              · refine own_k (T' := s₁) (g' := (mkF m 59 #[.val (.int n)] [])) (fun _ k_ => XS.icmpNo X0.here hx rfl (hb hby d1_56) rfl ((teq hc13).2) k_) ?_
                obtain ⟨T14, X14, e14, st14⟩ := getS2 X0 hx hZ hown (host := "") (Or.inl (hw _ (List.mem_of_getElem? (i := 72) rfl))) Via.refl e0 (S_c_Keyword_CURRENT_DATE.ext O0) (g := (mkF m 59 #[.val (.int n)] [])) rfl (hb hby d1_59)
                refine own_k (T' := T14) (g' := (mkF m 62 #[.val (.int n)] [(.ref c_Keyword_CURRENT_DATE)])) st14 ?_
                exact own_retA X14 hx hret rfl rfl hlk (hb hby d1_62) hF (by rw [e14]; exact ⟨⟨c_Keyword_CURRENT_DATE, rfl, Or.inr (Or.inr (Or.inr (Or.inr (Or.inr (Or.inr (Or.inl ⟨hc13, rfl⟩))))))⟩, N0, rfl⟩) (by decide) (by decide)
              · refine own_k (T' := s₁) (g' := (mkF m 63 #[.val (.int n)] [])) (fun _ k_ => XS.icmpYes X0.here hx rfl (pc0 := 56) (pc' := 63) rfl (hb hby d1_56) rfl ((feq hc13).2) (by decide) (by decide) k_) ?_
                obtain ⟨T15, X15, e15, st15⟩ := getS2 X0 hx hZ hown (host := "") (Or.inl (hw _ (List.mem_of_getElem? (i := 68) rfl))) Via.refl e0 (S_c_Keyword_AND.ext O0) (g := (mkF m 63 #[.val (.int n)] [])) rfl (hb hby d1_63)
                refine own_k (T' := T15) (g' := (mkF m 66 #[.val (.int n)] [(.ref c_Keyword_AND)])) st15 ?_
                exact own_retA X15 hx hret rfl rfl hlk (hb hby d1_66) hF (by rw [e15]; exact ⟨⟨c_Keyword_AND, rfl, Or.inr (Or.inr (Or.inr (Or.inr (Or.inr (Or.inr (Or.inr (⟨hc1, hc3, hc5, hc7, hc9, hc11, hc13, rfl⟩)))))))⟩, N0, rfl⟩) (by decide) (by decide)
theorem ef_11_I (m : MethodId) (x0 : Int32)  : entryFrame m #[(.int x0)] 1 = mkF m 0 #[.val (.int x0)] [] := by first | (simp [entryFrame, mkF, argsToLocals, Value.category]; done) | rfl
theorem d11_0 : decode method_3_code 0 = .ok (.iload_n 0, 1) := by decide +kernel
theorem d11_1 : decode method_3_code 1 = .ok (.ifCond .ne 7, 3) := by decide +kernel
theorem d11_4 : decode method_3_code 4 = .ok (.getstatic 34, 3) := by decide +kernel
theorem d11_7 : decode method_3_code 7 = .ok (.areturn, 1) := by decide +kernel
theorem d11_8 : decode method_3_code 8 = .ok (.iload_n 0, 1) := by decide +kernel
theorem d11_9 : decode method_3_code 9 = .ok (.iconst 1, 1) := by decide +kernel
theorem d11_10 : decode method_3_code 10 = .ok (.if_icmp .ne 7, 3) := by decide +kernel
theorem d11_13 : decode method_3_code 13 = .ok (.getstatic 40, 3) := by decide +kernel
theorem d11_16 : decode method_3_code 16 = .ok (.areturn, 1) := by decide +kernel
theorem d11_17 : decode method_3_code 17 = .ok (.iload_n 0, 1) := by decide +kernel
theorem d11_18 : decode method_3_code 18 = .ok (.iconst 2, 1) := by decide +kernel
theorem d11_19 : decode method_3_code 19 = .ok (.if_icmp .ne 7, 3) := by decide +kernel
theorem d11_22 : decode method_3_code 22 = .ok (.getstatic 43, 3) := by decide +kernel
theorem d11_25 : decode method_3_code 25 = .ok (.areturn, 1) := by decide +kernel
theorem d11_26 : decode method_3_code 26 = .ok (.iload_n 0, 1) := by decide +kernel
theorem d11_27 : decode method_3_code 27 = .ok (.iconst 3, 1) := by decide +kernel
theorem d11_28 : decode method_3_code 28 = .ok (.if_icmp .ne 7, 3) := by decide +kernel
theorem d11_31 : decode method_3_code 31 = .ok (.getstatic 46, 3) := by decide +kernel
theorem d11_34 : decode method_3_code 34 = .ok (.areturn, 1) := by decide +kernel
theorem d11_35 : decode method_3_code 35 = .ok (.getstatic 49, 3) := by decide +kernel
theorem d11_38 : decode method_3_code 38 = .ok (.areturn, 1) := by decide +kernel
set_option maxRecDepth 65536 in
set_option maxHeartbeats 40000000 in
theorem rm_kind (l : Launch) (Z : State) (a0 : Array Value) (c_Keyword_SELECT : Addr) (c_Lexer_Kind_KEYWORD : Addr) (c_Keyword_IS : Addr) (c_Keyword_AND : Addr) (c_Keyword_END : Addr) (c_Keyword_CURRENT_DATE : Addr) (c_Keyword_TYPE : Addr) (c_Keyword_NULL : Addr) (c_Lexer_Kind_WORD : Addr) (c_Keyword_IN : Addr) (c_Lexer_Kind_INTEGER : Addr) (c_Lexer_Kind_STRING : Addr) (c_Lexer_Kind_SYMBOL : Addr) (c_Lexer_Kind_END : Addr) (g_COMPACT_STRINGS : Int32) (g_SIOOBE_FORMATTER : Value) (hW : own_W Z a0 c_Keyword_SELECT c_Lexer_Kind_KEYWORD c_Keyword_IS c_Keyword_AND c_Keyword_END c_Keyword_CURRENT_DATE c_Keyword_TYPE c_Keyword_NULL c_Lexer_Kind_WORD c_Keyword_IN c_Lexer_Kind_INTEGER c_Lexer_Kind_STRING c_Lexer_Kind_SYMBOL c_Lexer_Kind_END g_COMPACT_STRINGS g_SIOOBE_FORMATTER) (n : Int32) (h0 : Heap) (O0 : Ext Z.heap h0)  :
    own_Met l Z (⟨"com/example/nepean/nepean/query/TokenIsPinLaw", "plainKind", "(I)Lcom/example/nepean/nepean/query/Lexer$Kind;"⟩ : MethodName) method_3_code 1 (some (.object "com/example/nepean/nepean/query/Lexer$Kind")) ({ frames := 0, cells := 0, slots := 0, locals := 0 } : Room) #[(.int n)] h0 (fun v h L => (∃ a, v = some (.ref a)) ∧ Fr Z.heap.size L ∧ h = h0) := by
  have hW_ := hW
  obtain ⟨hw, S_c_Keyword_SELECT, E_c_Keyword_SELECT, S_c_Lexer_Kind_KEYWORD, E_c_Lexer_Kind_KEYWORD, S_c_Keyword_IS, E_c_Keyword_IS, S_c_Keyword_AND, E_c_Keyword_AND, S_c_Keyword_END, E_c_Keyword_END, S_c_Keyword_CURRENT_DATE, E_c_Keyword_CURRENT_DATE, S_c_Keyword_TYPE, E_c_Keyword_TYPE, S_c_Keyword_NULL, E_c_Keyword_NULL, S_c_Lexer_Kind_WORD, E_c_Lexer_Kind_WORD, S_c_Keyword_IN, E_c_Keyword_IN, S_c_Lexer_Kind_INTEGER, E_c_Lexer_Kind_INTEGER, S_c_Lexer_Kind_STRING, E_c_Lexer_Kind_STRING, S_c_Lexer_Kind_SYMBOL, E_c_Lexer_Kind_SYMBOL, S_c_Lexer_Kind_END, E_c_Lexer_Kind_END, F_c_Keyword_SELECT_ordinal, F_c_Keyword_IS_ordinal, F_c_Keyword_END_ordinal, F_c_Keyword_CURRENT_DATE_ordinal, F_c_Keyword_TYPE_ordinal, F_c_Keyword_AND_ordinal, F_c_Keyword_NULL_ordinal, F_c_Keyword_IN_ordinal, S_g_COMPACT_STRINGS, P_g_COMPACT_STRINGS, R_g_SIOOBE_FORMATTER, S_g_SIOOBE_FORMATTER⟩ := hW_
  refine own_met (plainFor_of_name pn_com_example_nepean_nepean_query_TokenIsPinLaw) ?_
  intro p e s m below meth cc_ s₁ Φ hF X0 hx hby hml hZ hown hnm hret hlk e0
  have N0 := Fr.nil Z.heap.size
  refine own_k (T' := s₁) (g' := (mkF m 0 #[.val (.int n)] [])) (fun _ k_ => castTop (ef_11_I m n) k_) ?_
  refine own_k (T' := s₁) (g' := (mkF m 1 #[.val (.int n)] [(.int n)])) (fun _ k_ => XS.iloadN X0.here hx rfl (hb hby d11_0) rfl  k_) ?_
  by_cases hc1 : n = (0 : Int32)
  · refine own_k (T' := s₁) (g' := (mkF m 4 #[.val (.int n)] [])) (fun _ k_ => XS.ifNo X0.here hx rfl (hb hby d11_1) rfl ((if0 _ _).trans (teq hc1).2) k_) ?_
    obtain ⟨T2, X2, e2, st2⟩ := getS2 X0 hx hZ hown (host := "") (Or.inl (hw _ (List.mem_of_getElem? (i := 81) rfl))) Via.refl e0 (S_c_Lexer_Kind_WORD.ext O0) (g := (mkF m 4 #[.val (.int n)] [])) rfl (hb hby d11_4)
    refine own_k (T' := T2) (g' := (mkF m 7 #[.val (.int n)] [(.ref c_Lexer_Kind_WORD)])) st2 ?_
    exact own_retA X2 hx hret rfl rfl hlk (hb hby d11_7) hF (by rw [e2]; exact ⟨⟨c_Lexer_Kind_WORD, rfl⟩, N0, rfl⟩) (by decide) (by decide)
  · refine own_k (T' := s₁) (g' := (mkF m 8 #[.val (.int n)] [])) (fun _ k_ => XS.ifYes X0.here hx rfl (pc0 := 1) (pc' := 8) rfl (hb hby d11_1) rfl ((if0 _ _).trans (feq hc1).2) (by decide) (by decide) k_) ?_
    refine own_k (T' := s₁) (g' := (mkF m 9 #[.val (.int n)] [(.int n)])) (fun _ k_ => XS.iloadN X0.here hx rfl (hb hby d11_8) rfl  k_) ?_
    refine own_k (T' := s₁) (g' := (mkF m 10 #[.val (.int n)] [(.int (1 : Int32)), (.int n)])) (fun _ k_ => XS.iconst X0.here hx rfl (hb hby d11_9) k_) ?_
    by_cases hc3 : n = (1 : Int32)
    · refine own_k (T' := s₁) (g' := (mkF m 13 #[.val (.int n)] [])) (fun _ k_ => XS.icmpNo X0.here hx rfl (hb hby d11_10) rfl ((teq hc3).2) k_) ?_
      obtain ⟨T4, X4, e4, st4⟩ := getS2 X0 hx hZ hown (host := "") (Or.inl (hw _ (List.mem_of_getElem? (i := 87) rfl))) Via.refl e0 (S_c_Lexer_Kind_STRING.ext O0) (g := (mkF m 13 #[.val (.int n)] [])) rfl (hb hby d11_13)
      refine own_k (T' := T4) (g' := (mkF m 16 #[.val (.int n)] [(.ref c_Lexer_Kind_STRING)])) st4 ?_
      exact own_retA X4 hx hret rfl rfl hlk (hb hby d11_16) hF (by rw [e4]; exact ⟨⟨c_Lexer_Kind_STRING, rfl⟩, N0, rfl⟩) (by decide) (by decide)
    · refine own_k (T' := s₁) (g' := (mkF m 17 #[.val (.int n)] [])) (fun _ k_ => XS.icmpYes X0.here hx rfl (pc0 := 10) (pc' := 17) rfl (hb hby d11_10) rfl ((feq hc3).2) (by decide) (by decide) k_) ?_
      refine own_k (T' := s₁) (g' := (mkF m 18 #[.val (.int n)] [(.int n)])) (fun _ k_ => XS.iloadN X0.here hx rfl (hb hby d11_17) rfl  k_) ?_
      refine own_k (T' := s₁) (g' := (mkF m 19 #[.val (.int n)] [(.int (2 : Int32)), (.int n)])) (fun _ k_ => XS.iconst X0.here hx rfl (hb hby d11_18) k_) ?_
      by_cases hc5 : n = (2 : Int32)
      · refine own_k (T' := s₁) (g' := (mkF m 22 #[.val (.int n)] [])) (fun _ k_ => XS.icmpNo X0.here hx rfl (hb hby d11_19) rfl ((teq hc5).2) k_) ?_
        obtain ⟨T6, X6, e6, st6⟩ := getS2 X0 hx hZ hown (host := "") (Or.inl (hw _ (List.mem_of_getElem? (i := 85) rfl))) Via.refl e0 (S_c_Lexer_Kind_INTEGER.ext O0) (g := (mkF m 22 #[.val (.int n)] [])) rfl (hb hby d11_22)
        refine own_k (T' := T6) (g' := (mkF m 25 #[.val (.int n)] [(.ref c_Lexer_Kind_INTEGER)])) st6 ?_
        exact own_retA X6 hx hret rfl rfl hlk (hb hby d11_25) hF (by rw [e6]; exact ⟨⟨c_Lexer_Kind_INTEGER, rfl⟩, N0, rfl⟩) (by decide) (by decide)
      · refine own_k (T' := s₁) (g' := (mkF m 26 #[.val (.int n)] [])) (fun _ k_ => XS.icmpYes X0.here hx rfl (pc0 := 19) (pc' := 26) rfl (hb hby d11_19) rfl ((feq hc5).2) (by decide) (by decide) k_) ?_
        refine own_k (T' := s₁) (g' := (mkF m 27 #[.val (.int n)] [(.int n)])) (fun _ k_ => XS.iloadN X0.here hx rfl (hb hby d11_26) rfl  k_) ?_
        refine own_k (T' := s₁) (g' := (mkF m 28 #[.val (.int n)] [(.int (3 : Int32)), (.int n)])) (fun _ k_ => XS.iconst X0.here hx rfl (hb hby d11_27) k_) ?_
        by_cases hc7 : n = (3 : Int32)
        · refine own_k (T' := s₁) (g' := (mkF m 31 #[.val (.int n)] [])) (fun _ k_ => XS.icmpNo X0.here hx rfl (hb hby d11_28) rfl ((teq hc7).2) k_) ?_
          obtain ⟨T8, X8, e8, st8⟩ := getS2 X0 hx hZ hown (host := "") (Or.inl (hw _ (List.mem_of_getElem? (i := 89) rfl))) Via.refl e0 (S_c_Lexer_Kind_SYMBOL.ext O0) (g := (mkF m 31 #[.val (.int n)] [])) rfl (hb hby d11_31)
          refine own_k (T' := T8) (g' := (mkF m 34 #[.val (.int n)] [(.ref c_Lexer_Kind_SYMBOL)])) st8 ?_
          exact own_retA X8 hx hret rfl rfl hlk (hb hby d11_34) hF (by rw [e8]; exact ⟨⟨c_Lexer_Kind_SYMBOL, rfl⟩, N0, rfl⟩) (by decide) (by decide)
        · refine own_k (T' := s₁) (g' := (mkF m 35 #[.val (.int n)] [])) (fun _ k_ => XS.icmpYes X0.here hx rfl (pc0 := 28) (pc' := 35) rfl (hb hby d11_28) rfl ((feq hc7).2) (by decide) (by decide) k_) ?_
          obtain ⟨T9, X9, e9, st9⟩ := getS2 X0 hx hZ hown (host := "") (Or.inl (hw _ (List.mem_of_getElem? (i := 91) rfl))) Via.refl e0 (S_c_Lexer_Kind_END.ext O0) (g := (mkF m 35 #[.val (.int n)] [])) rfl (hb hby d11_35)
          refine own_k (T' := T9) (g' := (mkF m 38 #[.val (.int n)] [(.ref c_Lexer_Kind_END)])) st9 ?_
          exact own_retA X9 hx hret rfl rfl hlk (hb hby d11_38) hF (by rw [e9]; exact ⟨⟨c_Lexer_Kind_END, rfl⟩, N0, rfl⟩) (by decide) (by decide)
theorem own_rem9 (x : Int32) : 0 ≤ ((x &&& (2147483647 : Int32)) % (9 : Int32)).toInt ∧ ((x &&& (2147483647 : Int32)) % (9 : Int32)).toInt < 9 := by
  have e1 : (x &&& 2147483647).toInt = x.toInt % (2 ^ 31 : Nat) := c_mask x 2147483647 31 (by decide) (by decide)
  have e2 := (c_irem (x &&& 2147483647) (9 : Int32) 9 (by decide)).1 (by omega)
  omega
theorem own_rem8 (x : Int32) : 0 ≤ ((x &&& (2147483647 : Int32)) % (8 : Int32)).toInt ∧ ((x &&& (2147483647 : Int32)) % (8 : Int32)).toInt < 8 := by
  have e1 : (x &&& 2147483647).toInt = x.toInt % (2 ^ 31 : Nat) := c_mask x 2147483647 31 (by decide) (by decide)
  have e2 := (c_irem (x &&& 2147483647) (8 : Int32) 8 (by decide)).1 (by omega)
  omega
theorem own_lt8 {k : Int32} (h : 0 ≤ k.toInt ∧ k.toInt < 9) (q : ¬ k = (8 : Int32)) : 0 ≤ k.toInt ∧ k.toInt < 8 := by
  have : ¬ k.toInt = 8 := fun e => q (Int32.toInt_inj.mp (by rw [e]; decide))
  omega
theorem own_no8 {ia4 ib5 : Int32} (h : ia4 = (8 : Int32)) (q : 0 ≤ ib5.toInt ∧ ib5.toInt < 8) : ¬ ia4 = ib5 := fun e => by
  rw [← e, h] at q
  revert q
  decide
theorem own_lat (x : Int32) : ¬ ((255 : Int32) < ((x &&& (255 : Int32)).toUInt32.toUInt16.toUInt32.toInt32)) := by
  rw [i2c_mask, Int32.lt_iff_toInt_lt]
  have e1 : (x &&& 255).toInt = x.toInt % (2 ^ 8 : Nat) := c_mask x 255 8 (by decide) (by decide)
  have e2 : (255 : Int32).toInt = 255 := by decide
  omega
theorem own_small {n : Int32} (q : 0 ≤ n.toInt ∧ n.toInt < 8) : n = 0 ∨ n = 1 ∨ n = 2 ∨ n = 3 ∨ n = 4 ∨ n = 5 ∨ n = 6 ∨ n = 7 := by
  have e : n.toInt = 0 ∨ n.toInt = 1 ∨ n.toInt = 2 ∨ n.toInt = 3 ∨ n.toInt = 4 ∨ n.toInt = 5 ∨ n.toInt = 6 ∨ n.toInt = 7 := by omega
  rcases e with e | e | e | e | e | e | e | e
  · exact Or.inl (Int32.toInt_inj.mp (by rw [e]; decide))
  · exact Or.inr (Or.inl (Int32.toInt_inj.mp (by rw [e]; decide)))
  · exact Or.inr (Or.inr (Or.inl (Int32.toInt_inj.mp (by rw [e]; decide))))
  · exact Or.inr (Or.inr (Or.inr (Or.inl (Int32.toInt_inj.mp (by rw [e]; decide)))))
  · exact Or.inr (Or.inr (Or.inr (Or.inr (Or.inl (Int32.toInt_inj.mp (by rw [e]; decide))))))
  · exact Or.inr (Or.inr (Or.inr (Or.inr (Or.inr (Or.inl (Int32.toInt_inj.mp (by rw [e]; decide)))))))
  · exact Or.inr (Or.inr (Or.inr (Or.inr (Or.inr (Or.inr (Or.inl (Int32.toInt_inj.mp (by rw [e]; decide))))))))
  · exact Or.inr (Or.inr (Or.inr (Or.inr (Or.inr (Or.inr (Or.inr (Int32.toInt_inj.mp (by rw [e]; decide))))))))
theorem own_pk_iff {c0 c1 c2 c3 c4 c5 c6 c7 : Addr} (n01 : c0 ≠ c1) (n02 : c0 ≠ c2) (n03 : c0 ≠ c3) (n04 : c0 ≠ c4) (n05 : c0 ≠ c5) (n06 : c0 ≠ c6) (n07 : c0 ≠ c7) (n12 : c1 ≠ c2) (n13 : c1 ≠ c3) (n14 : c1 ≠ c4) (n15 : c1 ≠ c5) (n16 : c1 ≠ c6) (n17 : c1 ≠ c7) (n23 : c2 ≠ c3) (n24 : c2 ≠ c4) (n25 : c2 ≠ c5) (n26 : c2 ≠ c6) (n27 : c2 ≠ c7) (n34 : c3 ≠ c4) (n35 : c3 ≠ c5) (n36 : c3 ≠ c6) (n37 : c3 ≠ c7) (n45 : c4 ≠ c5) (n46 : c4 ≠ c6) (n47 : c4 ≠ c7) (n56 : c5 ≠ c6) (n57 : c5 ≠ c7) (n67 : c6 ≠ c7) {n m : Int32} {a b : Addr} (hn : 0 ≤ n.toInt ∧ n.toInt < 8) (hm : 0 ≤ m.toInt ∧ m.toInt < 8) (p : own_Pk c0 c1 c2 c3 c4 c5 c6 c7 n a) (q : own_Pk c0 c1 c2 c3 c4 c5 c6 c7 m b) : a = b ↔ n = m := by
  have pa : own_Pk c0 c1 c2 c3 c4 c5 c6 c7 n a → (n = 0 ∧ a = c0) ∨ (n = 1 ∧ a = c1) ∨ (n = 2 ∧ a = c2) ∨ (n = 3 ∧ a = c3) ∨ (n = 4 ∧ a = c4) ∨ (n = 5 ∧ a = c5) ∨ (n = 6 ∧ a = c6) ∨ (n = 7 ∧ a = c7) := by
    intro p
    rcases own_small hn with rfl | rfl | rfl | rfl | rfl | rfl | rfl | rfl <;> simp [own_Pk] at p ⊢ <;> exact p
  have pb : own_Pk c0 c1 c2 c3 c4 c5 c6 c7 m b → (m = 0 ∧ b = c0) ∨ (m = 1 ∧ b = c1) ∨ (m = 2 ∧ b = c2) ∨ (m = 3 ∧ b = c3) ∨ (m = 4 ∧ b = c4) ∨ (m = 5 ∧ b = c5) ∨ (m = 6 ∧ b = c6) ∨ (m = 7 ∧ b = c7) := by
    intro p
    rcases own_small hm with rfl | rfl | rfl | rfl | rfl | rfl | rfl | rfl <;> simp [own_Pk] at p ⊢ <;> exact p
  rcases pa p with ⟨rfl, rfl⟩ | ⟨rfl, rfl⟩ | ⟨rfl, rfl⟩ | ⟨rfl, rfl⟩ | ⟨rfl, rfl⟩ | ⟨rfl, rfl⟩ | ⟨rfl, rfl⟩ | ⟨rfl, rfl⟩ <;>
    rcases pb q with ⟨rfl, rfl⟩ | ⟨rfl, rfl⟩ | ⟨rfl, rfl⟩ | ⟨rfl, rfl⟩ | ⟨rfl, rfl⟩ | ⟨rfl, rfl⟩ | ⟨rfl, rfl⟩ | ⟨rfl, rfl⟩ <;>
    simp_all [Ne.symm]
theorem ef_0_IIII (m : MethodId) (x0 : Int32) (x1 : Int32) (x2 : Int32) (x3 : Int32)  : entryFrame m #[(.int x0), (.int x1), (.int x2), (.int x3)] maxLocals = mkF m 0 #[.val (.int x0), .val (.int x1), .val (.int x2), .val (.int x3), .unset, .unset, .unset, .unset, .unset, .unset, .unset, .unset, .unset] [] := by first | (simp [entryFrame, mkF, argsToLocals, Value.category, maxLocals]; done) | rfl
theorem pd__28I_29Lcom_2fexample_2fnepean_2fnepean_2fquery_2fLexer_24Kind_3b : parseMethodDescriptor "(I)Lcom/example/nepean/nepean/query/Lexer$Kind;" = some ⟨[.int], some (.object "com/example/nepean/nepean/query/Lexer$Kind")⟩ := by decide +kernel
theorem pd__28_5bC_29V : parseMethodDescriptor "([C)V" = some ⟨[(.array .char)], none⟩ := by decide +kernel
theorem ef_2_RR (m : MethodId) (x0 : Addr) (x1 : Addr)  : entryFrame m #[(.ref x0), (.ref x1)] 2 = mkF m 0 #[.val (.ref x0), .val (.ref x1)] [] := by first | (simp [entryFrame, mkF, argsToLocals, Value.category]; done) | rfl
theorem pn_java_lang_String : plainName "java/lang/String" = true := by first | (simp [plainName, overriddenIn]; done) | decide +kernel
theorem d2_0 : decode jdk_42_method_3_code 0 = .ok (.aload_n 0, 1) := by decide +kernel
theorem d2_1 : decode jdk_42_method_3_code 1 = .ok (.aload_n 1, 1) := by decide +kernel
theorem d2_2 : decode jdk_42_method_3_code 2 = .ok (.iconst 0, 1) := by decide +kernel
theorem d2_3 : decode jdk_42_method_3_code 3 = .ok (.aload_n 1, 1) := by decide +kernel
theorem d2_4 : decode jdk_42_method_3_code 4 = .ok (.arraylength, 1) := by decide +kernel
theorem d2_5 : decode jdk_42_method_3_code 5 = .ok (.aconst_null, 1) := by decide +kernel
theorem d2_6 : decode jdk_42_method_3_code 6 = .ok (.invokespecial 27, 3) := by decide +kernel
theorem pd__28_5bCIILjava_2flang_2fVoid_3b_29V : parseMethodDescriptor "([CIILjava/lang/Void;)V" = some ⟨[(.array .char), .int, .int, (.object "java/lang/Void")], none⟩ := by decide +kernel
theorem ef_3_RRIIN (m : MethodId) (x0 : Addr) (x1 : Addr) (x2 : Int32) (x3 : Int32)  : entryFrame m #[(.ref x0), (.ref x1), (.int x2), (.int x3), .null] 6 = mkF m 0 #[.val (.ref x0), .val (.ref x1), .val (.int x2), .val (.int x3), .val .null, .unset] [] := by first | (simp [entryFrame, mkF, argsToLocals, Value.category]; done) | rfl
theorem d3_0 : decode jdk_42_method_149_code 0 = .ok (.aload_n 0, 1) := by decide +kernel
theorem d3_1 : decode jdk_42_method_149_code 1 = .ok (.invokespecial 1, 3) := by decide +kernel
theorem d3_4 : decode jdk_42_method_149_code 4 = .ok (.iload_n 3, 1) := by decide +kernel
theorem d3_5 : decode jdk_42_method_149_code 5 = .ok (.ifCond .ne 22, 3) := by decide +kernel
theorem d3_27 : decode jdk_42_method_149_code 27 = .ok (.getstatic 38, 3) := by decide +kernel
theorem d3_30 : decode jdk_42_method_149_code 30 = .ok (.ifCond .eq 28, 3) := by decide +kernel
theorem d3_33 : decode jdk_42_method_149_code 33 = .ok (.aload_n 1, 1) := by decide +kernel
theorem d3_34 : decode jdk_42_method_149_code 34 = .ok (.iload_n 2, 1) := by decide +kernel
theorem d3_35 : decode jdk_42_method_149_code 35 = .ok (.iload_n 3, 1) := by decide +kernel
theorem d3_36 : decode jdk_42_method_149_code 36 = .ok (.invokestatic 177, 3) := by decide +kernel
theorem pd__28_5bCII_29_5bB : parseMethodDescriptor "([CII)[B" = some ⟨[(.array .char), .int, .int], some (.array .byte)⟩ := by decide +kernel
theorem ef_5_RII (m : MethodId) (x0 : Addr) (x1 : Int32) (x2 : Int32)  : entryFrame m #[(.ref x0), (.int x1), (.int x2)] 6 = mkF m 0 #[.val (.ref x0), .val (.int x1), .val (.int x2), .unset, .unset, .unset] [] := by first | (simp [entryFrame, mkF, argsToLocals, Value.category]; done) | rfl
theorem pn_java_lang_StringUTF16 : plainName "java/lang/StringUTF16" = true := by first | (simp [plainName, overriddenIn]; done) | decide +kernel
theorem d5_0 : decode jdk_52_method_16_code 0 = .ok (.iload_n 2, 1) := by decide +kernel
theorem d5_1 : decode jdk_52_method_16_code 1 = .ok (.newarray .byte, 2) := by decide +kernel
theorem d5_3 : decode jdk_52_method_16_code 3 = .ok (.astore_n 3, 1) := by decide +kernel
theorem d5_4 : decode jdk_52_method_16_code 4 = .ok (.aload_n 0, 1) := by decide +kernel
theorem d5_5 : decode jdk_52_method_16_code 5 = .ok (.iload_n 1, 1) := by decide +kernel
theorem d5_6 : decode jdk_52_method_16_code 6 = .ok (.aload_n 3, 1) := by decide +kernel
theorem d5_7 : decode jdk_52_method_16_code 7 = .ok (.iconst 0, 1) := by decide +kernel
theorem d5_8 : decode jdk_52_method_16_code 8 = .ok (.iload_n 2, 1) := by decide +kernel
theorem d5_9 : decode jdk_52_method_16_code 9 = .ok (.invokestatic 115, 3) := by decide +kernel
theorem pd__28_5bCI_5bBII_29I : parseMethodDescriptor "([CI[BII)I" = some ⟨[(.array .char), .int, (.array .byte), .int, .int], some .int⟩ := by decide +kernel
theorem ef_6_RIRII (m : MethodId) (x0 : Addr) (x1 : Int32) (x2 : Addr) (x3 : Int32) (x4 : Int32)  : entryFrame m #[(.ref x0), (.int x1), (.ref x2), (.int x3), (.int x4)] 7 = mkF m 0 #[.val (.ref x0), .val (.int x1), .val (.ref x2), .val (.int x3), .val (.int x4), .unset, .unset] [] := by first | (simp [entryFrame, mkF, argsToLocals, Value.category]; done) | rfl
theorem d6_0 : decode jdk_52_method_21_code 0 = .ok (.iconst 0, 1) := by decide +kernel
theorem d6_1 : decode jdk_52_method_21_code 1 = .ok (.istore 5, 2) := by decide +kernel
theorem d6_3 : decode jdk_52_method_21_code 3 = .ok (.iload 5, 2) := by decide +kernel
theorem d6_5 : decode jdk_52_method_21_code 5 = .ok (.iload 4, 2) := by decide +kernel
theorem d6_7 : decode jdk_52_method_21_code 7 = .ok (.if_icmp .ge 37, 3) := by decide +kernel
theorem d6_10 : decode jdk_52_method_21_code 10 = .ok (.aload_n 0, 1) := by decide +kernel
theorem d6_11 : decode jdk_52_method_21_code 11 = .ok (.iload_n 1, 1) := by decide +kernel
theorem d6_12 : decode jdk_52_method_21_code 12 = .ok (.caload, 1) := by decide +kernel
theorem d6_13 : decode jdk_52_method_21_code 13 = .ok (.istore 6, 2) := by decide +kernel
theorem d6_15 : decode jdk_52_method_21_code 15 = .ok (.iload 6, 2) := by decide +kernel
theorem d6_17 : decode jdk_52_method_21_code 17 = .ok (.sipush 255, 3) := by decide +kernel
theorem d6_20 : decode jdk_52_method_21_code 20 = .ok (.if_icmp .le 6, 3) := by decide +kernel
theorem d6_26 : decode jdk_52_method_21_code 26 = .ok (.aload_n 2, 1) := by decide +kernel
theorem d6_27 : decode jdk_52_method_21_code 27 = .ok (.iload_n 3, 1) := by decide +kernel
theorem d6_28 : decode jdk_52_method_21_code 28 = .ok (.iload 6, 2) := by decide +kernel
theorem d6_30 : decode jdk_52_method_21_code 30 = .ok (.i2b, 1) := by decide +kernel
theorem d6_31 : decode jdk_52_method_21_code 31 = .ok (.bastore, 1) := by decide +kernel
theorem d6_32 : decode jdk_52_method_21_code 32 = .ok (.iinc 1 1, 3) := by decide +kernel
theorem d6_35 : decode jdk_52_method_21_code 35 = .ok (.iinc 3 1, 3) := by decide +kernel
theorem d6_38 : decode jdk_52_method_21_code 38 = .ok (.iinc 5 1, 3) := by decide +kernel
theorem d6_41 : decode jdk_52_method_21_code 41 = .ok (.goto (-38), 3) := by decide +kernel
theorem d6_44 : decode jdk_52_method_21_code 44 = .ok (.iload 4, 2) := by decide +kernel
theorem d6_46 : decode jdk_52_method_21_code 46 = .ok (.ireturn, 1) := by decide +kernel
set_option maxRecDepth 65536 in
set_option maxHeartbeats 40000000 in
theorem rm_compress_0 (l : Launch) (Z : State) (a0 : Array Value) (c_Keyword_SELECT : Addr) (c_Lexer_Kind_KEYWORD : Addr) (c_Keyword_IS : Addr) (c_Keyword_AND : Addr) (c_Keyword_END : Addr) (c_Keyword_CURRENT_DATE : Addr) (c_Keyword_TYPE : Addr) (c_Keyword_NULL : Addr) (c_Lexer_Kind_WORD : Addr) (c_Keyword_IN : Addr) (c_Lexer_Kind_INTEGER : Addr) (c_Lexer_Kind_STRING : Addr) (c_Lexer_Kind_SYMBOL : Addr) (c_Lexer_Kind_END : Addr) (g_COMPACT_STRINGS : Int32) (g_SIOOBE_FORMATTER : Value) (hW : own_W Z a0 c_Keyword_SELECT c_Lexer_Kind_KEYWORD c_Keyword_IS c_Keyword_AND c_Keyword_END c_Keyword_CURRENT_DATE c_Keyword_TYPE c_Keyword_NULL c_Lexer_Kind_WORD c_Keyword_IN c_Lexer_Kind_INTEGER c_Lexer_Kind_STRING c_Lexer_Kind_SYMBOL c_Lexer_Kind_END g_COMPACT_STRINGS g_SIOOBE_FORMATTER) (a1 : Addr) (a2 : Addr) (q3 : ClassId) (i4 : Int32) (i5 : Int32) (q6 : ClassId) (h0 : Heap) (O0 : Old Z Z.heap.size h0) (h_1 : Arv Z h0 a1 q3 .char (2 : Int32) [(.int i4), (.int i5)] (.int (0 : Int32))) (h_2 : ¬ ((255 : Int32) < i4)) (h_3 : Arv Z h0 a2 q6 .byte (2 : Int32) [(.int (0 : Int32)), (.int (0 : Int32))] (.int (0 : Int32))) (h_4 : Z.heap.size ≤ a2) (h_5 : a1 ≠ a2) (h_6 : ¬ ((255 : Int32) < i5)) (h_7 : Exa Z h0 a2 "[B") :
    own_Met l Z (⟨"java/lang/StringUTF16", "compress", "([CI[BII)I"⟩ : MethodName) jdk_52_method_21_code 7 (some .int) ({ frames := 0, cells := 0, slots := 0, locals := 0 } : Room) #[(.ref a1), (.int (0 : Int32)), (.ref a2), (.int (0 : Int32)), (.int (2 : Int32))] h0 (fun v h L => v = some (.int (2 : Int32)) ∧ Fr Z.heap.size L ∧ Keep h0 h [a2] ∧ Arv Z h a2 q6 .byte (2 : Int32) [(.int (i4.toInt8.toInt32)), (.int (i5.toInt8.toInt32))] (.int (0 : Int32)) ∧ Exa Z h a2 "[B") := by
  have hW_ := hW
  obtain ⟨hw, S_c_Keyword_SELECT, E_c_Keyword_SELECT, S_c_Lexer_Kind_KEYWORD, E_c_Lexer_Kind_KEYWORD, S_c_Keyword_IS, E_c_Keyword_IS, S_c_Keyword_AND, E_c_Keyword_AND, S_c_Keyword_END, E_c_Keyword_END, S_c_Keyword_CURRENT_DATE, E_c_Keyword_CURRENT_DATE, S_c_Keyword_TYPE, E_c_Keyword_TYPE, S_c_Keyword_NULL, E_c_Keyword_NULL, S_c_Lexer_Kind_WORD, E_c_Lexer_Kind_WORD, S_c_Keyword_IN, E_c_Keyword_IN, S_c_Lexer_Kind_INTEGER, E_c_Lexer_Kind_INTEGER, S_c_Lexer_Kind_STRING, E_c_Lexer_Kind_STRING, S_c_Lexer_Kind_SYMBOL, E_c_Lexer_Kind_SYMBOL, S_c_Lexer_Kind_END, E_c_Lexer_Kind_END, F_c_Keyword_SELECT_ordinal, F_c_Keyword_IS_ordinal, F_c_Keyword_END_ordinal, F_c_Keyword_CURRENT_DATE_ordinal, F_c_Keyword_TYPE_ordinal, F_c_Keyword_AND_ordinal, F_c_Keyword_NULL_ordinal, F_c_Keyword_IN_ordinal, S_g_COMPACT_STRINGS, P_g_COMPACT_STRINGS, R_g_SIOOBE_FORMATTER, S_g_SIOOBE_FORMATTER⟩ := hW_
  refine own_met (plainFor_of_name pn_java_lang_StringUTF16) ?_
  intro p e s m below meth cc_ s₁ Φ hF X0 hx hby hml hZ hown hnm hret hlk e0
  have N0 := Fr.nil Z.heap.size
  refine own_k (T' := s₁) (g' := (mkF m 0 #[.val (.ref a1), .val (.int (0 : Int32)), .val (.ref a2), .val (.int (0 : Int32)), .val (.int (2 : Int32)), .unset, .unset] [])) (fun _ k_ => castTop (ef_6_RIRII m a1 (0 : Int32) a2 (0 : Int32) (2 : Int32)) k_) ?_
  refine own_k (T' := s₁) (g' := (mkF m 1 #[.val (.ref a1), .val (.int (0 : Int32)), .val (.ref a2), .val (.int (0 : Int32)), .val (.int (2 : Int32)), .unset, .unset] [(.int (0 : Int32))])) (fun _ k_ => XS.iconst X0.here hx rfl (hb hby d6_0) k_) ?_
  refine own_k (T' := s₁) (g' := (mkF m 3 #[.val (.ref a1), .val (.int (0 : Int32)), .val (.ref a2), .val (.int (0 : Int32)), .val (.int (2 : Int32)), .val (.int (0 : Int32)), .unset] [])) (fun _ k_ => XS.istore X0.here hx rfl (hb hby d6_1) rfl (l' := #[.val (.ref a1), .val (.int (0 : Int32)), .val (.ref a2), .val (.int (0 : Int32)), .val (.int (2 : Int32)), .val (.int (0 : Int32)), .unset]) rfl k_) ?_
  refine own_k (T' := s₁) (g' := (mkF m 5 #[.val (.ref a1), .val (.int (0 : Int32)), .val (.ref a2), .val (.int (0 : Int32)), .val (.int (2 : Int32)), .val (.int (0 : Int32)), .unset] [(.int (0 : Int32))])) (fun _ k_ => XS.iload X0.here hx rfl (hb hby d6_3) rfl  k_) ?_
  refine own_k (T' := s₁) (g' := (mkF m 7 #[.val (.ref a1), .val (.int (0 : Int32)), .val (.ref a2), .val (.int (0 : Int32)), .val (.int (2 : Int32)), .val (.int (0 : Int32)), .unset] [(.int (2 : Int32)), (.int (0 : Int32))])) (fun _ k_ => XS.iload X0.here hx rfl (hb hby d6_5) rfl  k_) ?_
  refine own_k (T' := s₁) (g' := (mkF m 10 #[.val (.ref a1), .val (.int (0 : Int32)), .val (.ref a2), .val (.int (0 : Int32)), .val (.int (2 : Int32)), .val (.int (0 : Int32)), .unset] [])) (fun _ k_ => XS.icmpNo X0.here hx rfl (hb hby d6_7) rfl ((tlt (by decide : ((0 : Int32) < (2 : Int32)))).2.1) k_) ?_
  refine own_k (T' := s₁) (g' := (mkF m 11 #[.val (.ref a1), .val (.int (0 : Int32)), .val (.ref a2), .val (.int (0 : Int32)), .val (.int (2 : Int32)), .val (.int (0 : Int32)), .unset] [(.ref a1)])) (fun _ k_ => XS.aloadN X0.here hx rfl (hb hby d6_10) rfl rfl  k_) ?_
  refine own_k (T' := s₁) (g' := (mkF m 12 #[.val (.ref a1), .val (.int (0 : Int32)), .val (.ref a2), .val (.int (0 : Int32)), .val (.int (2 : Int32)), .val (.int (0 : Int32)), .unset] [(.int (0 : Int32)), (.ref a1)])) (fun _ k_ => XS.iloadN X0.here hx rfl (hb hby d6_11) rfl  k_) ?_
  refine own_caload X0 hx hZ e0 h_1 (j := (0 : Int32)) ⟨by decide, by decide⟩ (v := (.int i4)) rfl (hb hby d6_12) ?_
  show own_Go p e below Φ s₁ (mkF m 13 #[.val (.ref a1), .val (.int (0 : Int32)), .val (.ref a2), .val (.int (0 : Int32)), .val (.int (2 : Int32)), .val (.int (0 : Int32)), .unset] [(.int i4)])
  refine own_k (T' := s₁) (g' := (mkF m 15 #[.val (.ref a1), .val (.int (0 : Int32)), .val (.ref a2), .val (.int (0 : Int32)), .val (.int (2 : Int32)), .val (.int (0 : Int32)), .val (.int i4)] [])) (fun _ k_ => XS.istore X0.here hx rfl (hb hby d6_13) rfl (l' := #[.val (.ref a1), .val (.int (0 : Int32)), .val (.ref a2), .val (.int (0 : Int32)), .val (.int (2 : Int32)), .val (.int (0 : Int32)), .val (.int i4)]) rfl k_) ?_
  refine own_k (T' := s₁) (g' := (mkF m 17 #[.val (.ref a1), .val (.int (0 : Int32)), .val (.ref a2), .val (.int (0 : Int32)), .val (.int (2 : Int32)), .val (.int (0 : Int32)), .val (.int i4)] [(.int i4)])) (fun _ k_ => XS.iload X0.here hx rfl (hb hby d6_15) rfl  k_) ?_
  refine own_k (T' := s₁) (g' := (mkF m 20 #[.val (.ref a1), .val (.int (0 : Int32)), .val (.ref a2), .val (.int (0 : Int32)), .val (.int (2 : Int32)), .val (.int (0 : Int32)), .val (.int i4)] [(.int (255 : Int32)), (.int i4)])) (fun _ k_ => XS.sipush X0.here hx rfl (hb hby d6_17) k_) ?_
  refine own_k (T' := s₁) (g' := (mkF m 26 #[.val (.ref a1), .val (.int (0 : Int32)), .val (.ref a2), .val (.int (0 : Int32)), .val (.int (2 : Int32)), .val (.int (0 : Int32)), .val (.int i4)] [])) (fun _ k_ => XS.icmpYes X0.here hx rfl (pc0 := 20) (pc' := 26) rfl (hb hby d6_20) rfl ((flt h_2).2.2.2) (by decide) (by decide) k_) ?_
  refine own_k (T' := s₁) (g' := (mkF m 27 #[.val (.ref a1), .val (.int (0 : Int32)), .val (.ref a2), .val (.int (0 : Int32)), .val (.int (2 : Int32)), .val (.int (0 : Int32)), .val (.int i4)] [(.ref a2)])) (fun _ k_ => XS.aloadN X0.here hx rfl (hb hby d6_26) rfl rfl  k_) ?_
  refine own_k (T' := s₁) (g' := (mkF m 28 #[.val (.ref a1), .val (.int (0 : Int32)), .val (.ref a2), .val (.int (0 : Int32)), .val (.int (2 : Int32)), .val (.int (0 : Int32)), .val (.int i4)] [(.int (0 : Int32)), (.ref a2)])) (fun _ k_ => XS.iloadN X0.here hx rfl (hb hby d6_27) rfl  k_) ?_
  refine own_k (T' := s₁) (g' := (mkF m 30 #[.val (.ref a1), .val (.int (0 : Int32)), .val (.ref a2), .val (.int (0 : Int32)), .val (.int (2 : Int32)), .val (.int (0 : Int32)), .val (.int i4)] [(.int i4), (.int (0 : Int32)), (.ref a2)])) (fun _ k_ => XS.iload X0.here hx rfl (hb hby d6_28) rfl  k_) ?_
  refine own_k (T' := s₁) (g' := (mkF m 31 #[.val (.ref a1), .val (.int (0 : Int32)), .val (.ref a2), .val (.int (0 : Int32)), .val (.int (2 : Int32)), .val (.int (0 : Int32)), .val (.int i4)] [(.int (i4.toInt8.toInt32)), (.int (0 : Int32)), (.ref a2)])) (fun _ k_ => XS.i2b X0.here hx rfl (hb hby d6_30) rfl k_) ?_
  obtain ⟨T1, h1, X1, e1, W1, V1, st1⟩ := own_bastore (pc := 31) (Ls := #[.val (.ref a1), .val (.int (0 : Int32)), .val (.ref a2), .val (.int (0 : Int32)), .val (.int (2 : Int32)), .val (.int (0 : Int32)), .val (.int i4)]) (rest := []) X0 hx hZ e0 h_3 (j := (0 : Int32)) (x := (i4.toInt8.toInt32)) ⟨by decide, by decide⟩ 0 rfl (Nat.le_of_ble_eq_true rfl) (hb hby d6_31)
  have V1 : Arv Z h1 a2 q6 .byte (2 : Int32) [(.int (nar .byte (i4.toInt8.toInt32))), (.int (0 : Int32))] (.int (0 : Int32)) := V1
  rw [show nar .byte (i4.toInt8.toInt32) = (i4.toInt8.toInt32) from own_nar_byte _] at V1
  have O1' := O0.wr W1 h_4
  have N1 := Fr.snoc X1 N0 h_4
  refine own_k (T' := T1) (g' := (mkF m 32 #[.val (.ref a1), .val (.int (0 : Int32)), .val (.ref a2), .val (.int (0 : Int32)), .val (.int (2 : Int32)), .val (.int (0 : Int32)), .val (.int i4)] [])) st1 ?_
  refine own_k (T' := T1) (g' := (mkF m 35 #[.val (.ref a1), .val (.int ((0 : Int32) + (1 : Int32))), .val (.ref a2), .val (.int (0 : Int32)), .val (.int (2 : Int32)), .val (.int (0 : Int32)), .val (.int i4)] [])) (fun _ k_ => XS.iinc X1.here hx rfl (hb hby d6_32) rfl (l' := #[.val (.ref a1), .val (.int ((0 : Int32) + (1 : Int32))), .val (.ref a2), .val (.int (0 : Int32)), .val (.int (2 : Int32)), .val (.int (0 : Int32)), .val (.int i4)]) rfl k_) ?_
  rw [show ((0 : Int32) + (1 : Int32)) = (1 : Int32) from by decide]
  refine own_k (T' := T1) (g' := (mkF m 38 #[.val (.ref a1), .val (.int (1 : Int32)), .val (.ref a2), .val (.int ((0 : Int32) + (1 : Int32))), .val (.int (2 : Int32)), .val (.int (0 : Int32)), .val (.int i4)] [])) (fun _ k_ => XS.iinc X1.here hx rfl (hb hby d6_35) rfl (l' := #[.val (.ref a1), .val (.int (1 : Int32)), .val (.ref a2), .val (.int ((0 : Int32) + (1 : Int32))), .val (.int (2 : Int32)), .val (.int (0 : Int32)), .val (.int i4)]) rfl k_) ?_
  rw [show ((0 : Int32) + (1 : Int32)) = (1 : Int32) from by decide]
  refine own_k (T' := T1) (g' := (mkF m 41 #[.val (.ref a1), .val (.int (1 : Int32)), .val (.ref a2), .val (.int (1 : Int32)), .val (.int (2 : Int32)), .val (.int ((0 : Int32) + (1 : Int32))), .val (.int i4)] [])) (fun _ k_ => XS.iinc X1.here hx rfl (hb hby d6_38) rfl (l' := #[.val (.ref a1), .val (.int (1 : Int32)), .val (.ref a2), .val (.int (1 : Int32)), .val (.int (2 : Int32)), .val (.int ((0 : Int32) + (1 : Int32))), .val (.int i4)]) rfl k_) ?_
  rw [show ((0 : Int32) + (1 : Int32)) = (1 : Int32) from by decide]
  refine own_k (T' := T1) (g' := (mkF m 3 #[.val (.ref a1), .val (.int (1 : Int32)), .val (.ref a2), .val (.int (1 : Int32)), .val (.int (2 : Int32)), .val (.int (1 : Int32)), .val (.int i4)] [])) (fun _ k_ => XS.goto X1.here hx rfl (pc0 := 41) (pc' := 3) rfl (hb hby d6_41) (by decide) (by decide) k_) ?_
  refine own_k (T' := T1) (g' := (mkF m 5 #[.val (.ref a1), .val (.int (1 : Int32)), .val (.ref a2), .val (.int (1 : Int32)), .val (.int (2 : Int32)), .val (.int (1 : Int32)), .val (.int i4)] [(.int (1 : Int32))])) (fun _ k_ => XS.iload X1.here hx rfl (hb hby d6_3) rfl  k_) ?_
  refine own_k (T' := T1) (g' := (mkF m 7 #[.val (.ref a1), .val (.int (1 : Int32)), .val (.ref a2), .val (.int (1 : Int32)), .val (.int (2 : Int32)), .val (.int (1 : Int32)), .val (.int i4)] [(.int (2 : Int32)), (.int (1 : Int32))])) (fun _ k_ => XS.iload X1.here hx rfl (hb hby d6_5) rfl  k_) ?_
  refine own_k (T' := T1) (g' := (mkF m 10 #[.val (.ref a1), .val (.int (1 : Int32)), .val (.ref a2), .val (.int (1 : Int32)), .val (.int (2 : Int32)), .val (.int (1 : Int32)), .val (.int i4)] [])) (fun _ k_ => XS.icmpNo X1.here hx rfl (hb hby d6_7) rfl ((tlt (by decide : ((1 : Int32) < (2 : Int32)))).2.1) k_) ?_
  refine own_k (T' := T1) (g' := (mkF m 11 #[.val (.ref a1), .val (.int (1 : Int32)), .val (.ref a2), .val (.int (1 : Int32)), .val (.int (2 : Int32)), .val (.int (1 : Int32)), .val (.int i4)] [(.ref a1)])) (fun _ k_ => XS.aloadN X1.here hx rfl (hb hby d6_10) rfl rfl  k_) ?_
  refine own_k (T' := T1) (g' := (mkF m 12 #[.val (.ref a1), .val (.int (1 : Int32)), .val (.ref a2), .val (.int (1 : Int32)), .val (.int (2 : Int32)), .val (.int (1 : Int32)), .val (.int i4)] [(.int (1 : Int32)), (.ref a1)])) (fun _ k_ => XS.iloadN X1.here hx rfl (hb hby d6_11) rfl  k_) ?_
  refine own_caload X1 hx hZ e1 (h_1.other W1 h_5) (j := (1 : Int32)) ⟨by decide, by decide⟩ (v := (.int i5)) rfl (hb hby d6_12) ?_
  show own_Go p e below Φ T1 (mkF m 13 #[.val (.ref a1), .val (.int (1 : Int32)), .val (.ref a2), .val (.int (1 : Int32)), .val (.int (2 : Int32)), .val (.int (1 : Int32)), .val (.int i4)] [(.int i5)])
  refine own_k (T' := T1) (g' := (mkF m 15 #[.val (.ref a1), .val (.int (1 : Int32)), .val (.ref a2), .val (.int (1 : Int32)), .val (.int (2 : Int32)), .val (.int (1 : Int32)), .val (.int i5)] [])) (fun _ k_ => XS.istore X1.here hx rfl (hb hby d6_13) rfl (l' := #[.val (.ref a1), .val (.int (1 : Int32)), .val (.ref a2), .val (.int (1 : Int32)), .val (.int (2 : Int32)), .val (.int (1 : Int32)), .val (.int i5)]) rfl k_) ?_
  refine own_k (T' := T1) (g' := (mkF m 17 #[.val (.ref a1), .val (.int (1 : Int32)), .val (.ref a2), .val (.int (1 : Int32)), .val (.int (2 : Int32)), .val (.int (1 : Int32)), .val (.int i5)] [(.int i5)])) (fun _ k_ => XS.iload X1.here hx rfl (hb hby d6_15) rfl  k_) ?_
  refine own_k (T' := T1) (g' := (mkF m 20 #[.val (.ref a1), .val (.int (1 : Int32)), .val (.ref a2), .val (.int (1 : Int32)), .val (.int (2 : Int32)), .val (.int (1 : Int32)), .val (.int i5)] [(.int (255 : Int32)), (.int i5)])) (fun _ k_ => XS.sipush X1.here hx rfl (hb hby d6_17) k_) ?_
  refine own_k (T' := T1) (g' := (mkF m 26 #[.val (.ref a1), .val (.int (1 : Int32)), .val (.ref a2), .val (.int (1 : Int32)), .val (.int (2 : Int32)), .val (.int (1 : Int32)), .val (.int i5)] [])) (fun _ k_ => XS.icmpYes X1.here hx rfl (pc0 := 20) (pc' := 26) rfl (hb hby d6_20) rfl ((flt h_6).2.2.2) (by decide) (by decide) k_) ?_
  refine own_k (T' := T1) (g' := (mkF m 27 #[.val (.ref a1), .val (.int (1 : Int32)), .val (.ref a2), .val (.int (1 : Int32)), .val (.int (2 : Int32)), .val (.int (1 : Int32)), .val (.int i5)] [(.ref a2)])) (fun _ k_ => XS.aloadN X1.here hx rfl (hb hby d6_26) rfl rfl  k_) ?_
  refine own_k (T' := T1) (g' := (mkF m 28 #[.val (.ref a1), .val (.int (1 : Int32)), .val (.ref a2), .val (.int (1 : Int32)), .val (.int (2 : Int32)), .val (.int (1 : Int32)), .val (.int i5)] [(.int (1 : Int32)), (.ref a2)])) (fun _ k_ => XS.iloadN X1.here hx rfl (hb hby d6_27) rfl  k_) ?_
  refine own_k (T' := T1) (g' := (mkF m 30 #[.val (.ref a1), .val (.int (1 : Int32)), .val (.ref a2), .val (.int (1 : Int32)), .val (.int (2 : Int32)), .val (.int (1 : Int32)), .val (.int i5)] [(.int i5), (.int (1 : Int32)), (.ref a2)])) (fun _ k_ => XS.iload X1.here hx rfl (hb hby d6_28) rfl  k_) ?_
  refine own_k (T' := T1) (g' := (mkF m 31 #[.val (.ref a1), .val (.int (1 : Int32)), .val (.ref a2), .val (.int (1 : Int32)), .val (.int (2 : Int32)), .val (.int (1 : Int32)), .val (.int i5)] [(.int (i5.toInt8.toInt32)), (.int (1 : Int32)), (.ref a2)])) (fun _ k_ => XS.i2b X1.here hx rfl (hb hby d6_30) rfl k_) ?_
  obtain ⟨T2, h2, X2, e2, W2, V2, st2⟩ := own_bastore (pc := 31) (Ls := #[.val (.ref a1), .val (.int (1 : Int32)), .val (.ref a2), .val (.int (1 : Int32)), .val (.int (2 : Int32)), .val (.int (1 : Int32)), .val (.int i5)]) (rest := []) X1 hx hZ e1 V1 (j := (1 : Int32)) (x := (i5.toInt8.toInt32)) ⟨by decide, by decide⟩ 1 rfl (Nat.le_of_ble_eq_true rfl) (hb hby d6_31)
  have V2 : Arv Z h2 a2 q6 .byte (2 : Int32) [(.int (i4.toInt8.toInt32)), (.int (nar .byte (i5.toInt8.toInt32)))] (.int (0 : Int32)) := V2
  rw [show nar .byte (i5.toInt8.toInt32) = (i5.toInt8.toInt32) from own_nar_byte _] at V2
  have O2' := O1'.wr W2 h_4
  have N2 := Fr.snoc X2 N1 h_4
  refine own_k (T' := T2) (g' := (mkF m 32 #[.val (.ref a1), .val (.int (1 : Int32)), .val (.ref a2), .val (.int (1 : Int32)), .val (.int (2 : Int32)), .val (.int (1 : Int32)), .val (.int i5)] [])) st2 ?_
  refine own_k (T' := T2) (g' := (mkF m 35 #[.val (.ref a1), .val (.int ((1 : Int32) + (1 : Int32))), .val (.ref a2), .val (.int (1 : Int32)), .val (.int (2 : Int32)), .val (.int (1 : Int32)), .val (.int i5)] [])) (fun _ k_ => XS.iinc X2.here hx rfl (hb hby d6_32) rfl (l' := #[.val (.ref a1), .val (.int ((1 : Int32) + (1 : Int32))), .val (.ref a2), .val (.int (1 : Int32)), .val (.int (2 : Int32)), .val (.int (1 : Int32)), .val (.int i5)]) rfl k_) ?_
  rw [show ((1 : Int32) + (1 : Int32)) = (2 : Int32) from by decide]
  refine own_k (T' := T2) (g' := (mkF m 38 #[.val (.ref a1), .val (.int (2 : Int32)), .val (.ref a2), .val (.int ((1 : Int32) + (1 : Int32))), .val (.int (2 : Int32)), .val (.int (1 : Int32)), .val (.int i5)] [])) (fun _ k_ => XS.iinc X2.here hx rfl (hb hby d6_35) rfl (l' := #[.val (.ref a1), .val (.int (2 : Int32)), .val (.ref a2), .val (.int ((1 : Int32) + (1 : Int32))), .val (.int (2 : Int32)), .val (.int (1 : Int32)), .val (.int i5)]) rfl k_) ?_
  rw [show ((1 : Int32) + (1 : Int32)) = (2 : Int32) from by decide]
  refine own_k (T' := T2) (g' := (mkF m 41 #[.val (.ref a1), .val (.int (2 : Int32)), .val (.ref a2), .val (.int (2 : Int32)), .val (.int (2 : Int32)), .val (.int ((1 : Int32) + (1 : Int32))), .val (.int i5)] [])) (fun _ k_ => XS.iinc X2.here hx rfl (hb hby d6_38) rfl (l' := #[.val (.ref a1), .val (.int (2 : Int32)), .val (.ref a2), .val (.int (2 : Int32)), .val (.int (2 : Int32)), .val (.int ((1 : Int32) + (1 : Int32))), .val (.int i5)]) rfl k_) ?_
  rw [show ((1 : Int32) + (1 : Int32)) = (2 : Int32) from by decide]
  refine own_k (T' := T2) (g' := (mkF m 3 #[.val (.ref a1), .val (.int (2 : Int32)), .val (.ref a2), .val (.int (2 : Int32)), .val (.int (2 : Int32)), .val (.int (2 : Int32)), .val (.int i5)] [])) (fun _ k_ => XS.goto X2.here hx rfl (pc0 := 41) (pc' := 3) rfl (hb hby d6_41) (by decide) (by decide) k_) ?_
  refine own_k (T' := T2) (g' := (mkF m 5 #[.val (.ref a1), .val (.int (2 : Int32)), .val (.ref a2), .val (.int (2 : Int32)), .val (.int (2 : Int32)), .val (.int (2 : Int32)), .val (.int i5)] [(.int (2 : Int32))])) (fun _ k_ => XS.iload X2.here hx rfl (hb hby d6_3) rfl  k_) ?_
  refine own_k (T' := T2) (g' := (mkF m 7 #[.val (.ref a1), .val (.int (2 : Int32)), .val (.ref a2), .val (.int (2 : Int32)), .val (.int (2 : Int32)), .val (.int (2 : Int32)), .val (.int i5)] [(.int (2 : Int32)), (.int (2 : Int32))])) (fun _ k_ => XS.iload X2.here hx rfl (hb hby d6_5) rfl  k_) ?_
  refine own_k (T' := T2) (g' := (mkF m 44 #[.val (.ref a1), .val (.int (2 : Int32)), .val (.ref a2), .val (.int (2 : Int32)), .val (.int (2 : Int32)), .val (.int (2 : Int32)), .val (.int i5)] [])) (fun _ k_ => XS.icmpYes X2.here hx rfl (pc0 := 7) (pc' := 44) rfl (hb hby d6_7) rfl ((flt (by decide : ¬ ((2 : Int32) < (2 : Int32)))).2.1) (by decide) (by decide) k_) ?_
  refine own_k (T' := T2) (g' := (mkF m 46 #[.val (.ref a1), .val (.int (2 : Int32)), .val (.ref a2), .val (.int (2 : Int32)), .val (.int (2 : Int32)), .val (.int (2 : Int32)), .val (.int i5)] [(.int (2 : Int32))])) (fun _ k_ => XS.iload X2.here hx rfl (hb hby d6_44) rfl  k_) ?_
  have kp0 : Keep h0 h0 [a2] := Keep.refl h0 [a2]
  have kp1 : Keep h0 h1 [a2] := kp0.wr W1 (Or.inl (List.mem_of_getElem? (i := 0) rfl))
  have kp2 : Keep h0 h2 [a2] := kp1.wr W2 (Or.inl (List.mem_of_getElem? (i := 0) rfl))
  exact own_retI X2 hx hret hlk (hb hby d6_46) hF (by rw [e2]; exact ⟨rfl, N2, kp2, V2, ((h_7.wr W1).wr W2)⟩) (by decide) (by decide)
theorem d5_12 : decode jdk_52_method_16_code 12 = .ok (.istore 4, 2) := by decide +kernel
theorem d5_14 : decode jdk_52_method_16_code 14 = .ok (.iload 4, 2) := by decide +kernel
theorem d5_16 : decode jdk_52_method_16_code 16 = .ok (.iload_n 2, 1) := by decide +kernel
theorem d5_17 : decode jdk_52_method_16_code 17 = .ok (.if_icmp .eq 40, 3) := by decide +kernel
theorem d5_57 : decode jdk_52_method_16_code 57 = .ok (.aload_n 3, 1) := by decide +kernel
theorem d5_58 : decode jdk_52_method_16_code 58 = .ok (.areturn, 1) := by decide +kernel
set_option maxRecDepth 65536 in
set_option maxHeartbeats 40000000 in
theorem rm_compress_1 (l : Launch) (Z : State) (a0 : Array Value) (c_Keyword_SELECT : Addr) (c_Lexer_Kind_KEYWORD : Addr) (c_Keyword_IS : Addr) (c_Keyword_AND : Addr) (c_Keyword_END : Addr) (c_Keyword_CURRENT_DATE : Addr) (c_Keyword_TYPE : Addr) (c_Keyword_NULL : Addr) (c_Lexer_Kind_WORD : Addr) (c_Keyword_IN : Addr) (c_Lexer_Kind_INTEGER : Addr) (c_Lexer_Kind_STRING : Addr) (c_Lexer_Kind_SYMBOL : Addr) (c_Lexer_Kind_END : Addr) (g_COMPACT_STRINGS : Int32) (g_SIOOBE_FORMATTER : Value) (hW : own_W Z a0 c_Keyword_SELECT c_Lexer_Kind_KEYWORD c_Keyword_IS c_Keyword_AND c_Keyword_END c_Keyword_CURRENT_DATE c_Keyword_TYPE c_Keyword_NULL c_Lexer_Kind_WORD c_Keyword_IN c_Lexer_Kind_INTEGER c_Lexer_Kind_STRING c_Lexer_Kind_SYMBOL c_Lexer_Kind_END g_COMPACT_STRINGS g_SIOOBE_FORMATTER) (a1 : Addr) (q2 : ClassId) (i3 : Int32) (i4 : Int32) (h0 : Heap) (O0 : Old Z Z.heap.size h0) (h_1 : ¬ ((255 : Int32) < i3)) (h_2 : ¬ ((255 : Int32) < i4)) (h_3 : Arv Z h0 a1 q2 .char (2 : Int32) [(.int i3), (.int i4)] (.int (0 : Int32))) :
    own_Met l Z (⟨"java/lang/StringUTF16", "compress", "([CII)[B"⟩ : MethodName) jdk_52_method_16_code 6 (some (.array .byte)) ({ frames := 1, cells := 1, slots := 2, locals := 18 } : Room) #[(.ref a1), (.int (0 : Int32)), (.int (2 : Int32))] h0 (fun v h L => ∃ (b1 : Addr) (k1 : ClassId), v = some (.ref b1) ∧ Fr Z.heap.size L ∧ Keep h0 h [] ∧ h0.size ≤ b1 ∧ Exa Z h b1 "[B" ∧ Arv Z h b1 k1 .byte (2 : Int32) [(.int (i3.toInt8.toInt32)), (.int (i4.toInt8.toInt32))] (.int (0 : Int32))) := by
  have hW_ := hW
  obtain ⟨hw, S_c_Keyword_SELECT, E_c_Keyword_SELECT, S_c_Lexer_Kind_KEYWORD, E_c_Lexer_Kind_KEYWORD, S_c_Keyword_IS, E_c_Keyword_IS, S_c_Keyword_AND, E_c_Keyword_AND, S_c_Keyword_END, E_c_Keyword_END, S_c_Keyword_CURRENT_DATE, E_c_Keyword_CURRENT_DATE, S_c_Keyword_TYPE, E_c_Keyword_TYPE, S_c_Keyword_NULL, E_c_Keyword_NULL, S_c_Lexer_Kind_WORD, E_c_Lexer_Kind_WORD, S_c_Keyword_IN, E_c_Keyword_IN, S_c_Lexer_Kind_INTEGER, E_c_Lexer_Kind_INTEGER, S_c_Lexer_Kind_STRING, E_c_Lexer_Kind_STRING, S_c_Lexer_Kind_SYMBOL, E_c_Lexer_Kind_SYMBOL, S_c_Lexer_Kind_END, E_c_Lexer_Kind_END, F_c_Keyword_SELECT_ordinal, F_c_Keyword_IS_ordinal, F_c_Keyword_END_ordinal, F_c_Keyword_CURRENT_DATE_ordinal, F_c_Keyword_TYPE_ordinal, F_c_Keyword_AND_ordinal, F_c_Keyword_NULL_ordinal, F_c_Keyword_IN_ordinal, S_g_COMPACT_STRINGS, P_g_COMPACT_STRINGS, R_g_SIOOBE_FORMATTER, S_g_SIOOBE_FORMATTER⟩ := hW_
  refine own_met (plainFor_of_name pn_java_lang_StringUTF16) ?_
  intro p e s m below meth cc_ s₁ Φ hF X0 hx hby hml hZ hown hnm hret hlk e0
  have N0 := Fr.nil Z.heap.size
  refine own_k (T' := s₁) (g' := (mkF m 0 #[.val (.ref a1), .val (.int (0 : Int32)), .val (.int (2 : Int32)), .unset, .unset, .unset] [])) (fun _ k_ => castTop (ef_5_RII m a1 (0 : Int32) (2 : Int32)) k_) ?_
  refine own_k (T' := s₁) (g' := (mkF m 1 #[.val (.ref a1), .val (.int (0 : Int32)), .val (.int (2 : Int32)), .unset, .unset, .unset] [(.int (2 : Int32))])) (fun _ k_ => XS.iloadN X0.here hx rfl (hb hby d5_0) rfl  k_) ?_
  obtain ⟨T1, h1, k1, X1, e1, E1, V1, A1, st1⟩ := own_newarr (pc := 1) (Ls := #[.val (.ref a1), .val (.int (0 : Int32)), .val (.int (2 : Int32)), .unset, .unset, .unset]) (rest := []) X0 hx hZ (hw _ (List.mem_of_getElem? (i := 30) rfl)) e0 (hb hby d5_1) (n := (2 : Int32)) (by decide) (cap := 2) (by decide) (by decide) (by decide) (by decide) (ad := "[B") (by decide)
  obtain ⟨b1, g1⟩ : ∃ z, z = h0.size := ⟨_, rfl⟩
  rw [← g1] at V1 A1 st1
  have O1' := O0.ext E1
  have V1 : Arv Z h1 b1 k1 .byte (2 : Int32) [(.int (0 : Int32)), (.int (0 : Int32))] (.int (0 : Int32)) := V1
  refine own_k (T' := T1) (g' := (mkF m 3 #[.val (.ref a1), .val (.int (0 : Int32)), .val (.int (2 : Int32)), .unset, .unset, .unset] [(.ref b1)])) st1 ?_
  refine own_k (T' := T1) (g' := (mkF m 4 #[.val (.ref a1), .val (.int (0 : Int32)), .val (.int (2 : Int32)), .val (.ref b1), .unset, .unset] [])) (fun _ k_ => XS.astoreN X1.here hx rfl (hb hby d5_3) rfl rfl (l' := #[.val (.ref a1), .val (.int (0 : Int32)), .val (.int (2 : Int32)), .val (.ref b1), .unset, .unset]) rfl k_) ?_
  refine own_k (T' := T1) (g' := (mkF m 5 #[.val (.ref a1), .val (.int (0 : Int32)), .val (.int (2 : Int32)), .val (.ref b1), .unset, .unset] [(.ref a1)])) (fun _ k_ => XS.aloadN X1.here hx rfl (hb hby d5_4) rfl rfl  k_) ?_
  refine own_k (T' := T1) (g' := (mkF m 6 #[.val (.ref a1), .val (.int (0 : Int32)), .val (.int (2 : Int32)), .val (.ref b1), .unset, .unset] [(.int (0 : Int32)), (.ref a1)])) (fun _ k_ => XS.iloadN X1.here hx rfl (hb hby d5_5) rfl  k_) ?_
  refine own_k (T' := T1) (g' := (mkF m 7 #[.val (.ref a1), .val (.int (0 : Int32)), .val (.int (2 : Int32)), .val (.ref b1), .unset, .unset] [(.ref b1), (.int (0 : Int32)), (.ref a1)])) (fun _ k_ => XS.aloadN X1.here hx rfl (hb hby d5_6) rfl rfl  k_) ?_
  refine own_k (T' := T1) (g' := (mkF m 8 #[.val (.ref a1), .val (.int (0 : Int32)), .val (.int (2 : Int32)), .val (.ref b1), .unset, .unset] [(.int (0 : Int32)), (.ref b1), (.int (0 : Int32)), (.ref a1)])) (fun _ k_ => XS.iconst X1.here hx rfl (hb hby d5_7) k_) ?_
  refine own_k (T' := T1) (g' := (mkF m 9 #[.val (.ref a1), .val (.int (0 : Int32)), .val (.int (2 : Int32)), .val (.ref b1), .unset, .unset] [(.int (2 : Int32)), (.int (0 : Int32)), (.ref b1), (.int (0 : Int32)), (.ref a1)])) (fun _ k_ => XS.iloadN X1.here hx rfl (hb hby d5_8) rfl  k_) ?_
  refine own_callS X1 hx hZ (y := (⟨"java/lang/StringUTF16", "compress", "([CI[BII)I"⟩ : MethodName)) hown (hw _ (List.mem_of_getElem? (i := 31) rfl)) (hw _ (List.mem_of_getElem? (i := 32) rfl)) (hw _ (List.mem_of_getElem? (i := 28) rfl)) (hw _ (List.mem_of_getElem? (i := 33) rfl)) (by decide) (al := [(.ref a1), (.int (0 : Int32)), (.ref b1), (.int (0 : Int32)), (.int (2 : Int32))]) (rm_compress_0 l Z a0 c_Keyword_SELECT c_Lexer_Kind_KEYWORD c_Keyword_IS c_Keyword_AND c_Keyword_END c_Keyword_CURRENT_DATE c_Keyword_TYPE c_Keyword_NULL c_Lexer_Kind_WORD c_Keyword_IN c_Lexer_Kind_INTEGER c_Lexer_Kind_STRING c_Lexer_Kind_SYMBOL c_Lexer_Kind_END g_COMPACT_STRINGS g_SIOOBE_FORMATTER hW a1 b1 q2 i3 i4 k1 h1 O1' (h_3.ext E1) h_1 V1 (Nat.le_trans O0.2.1 (Nat.le_of_eq g1.symm)) (Nat.ne_of_lt (Nat.lt_of_lt_of_le h_3.lt (Nat.le_of_eq g1.symm))) h_2 A1) 0 (by decide) (by decide) e1 (by decide) (by decide) (by rw [hml]; rfl) (lenOf pd__28_5bCI_5bBII_29I rfl) rfl (rest := []) (by show 2 * 0 + _ ≤ _; exact Nat.le_of_eq rfl) (hb hby d5_9) ?_
  intro v2 T2 L2 X2 hQ2
  obtain ⟨rfl, Nq2, K2, q2_0, q2_1⟩ := hQ2
  have N2 := Fr.app N0 Nq2
  have O2' := O1'.keep K2 (allS (Nat.le_trans O0.2.1 (Nat.le_of_eq g1.symm)) all0)
  show own_Go p e below Φ T2 (mkF m 12 #[.val (.ref a1), .val (.int (0 : Int32)), .val (.int (2 : Int32)), .val (.ref b1), .unset, .unset] [(.int (2 : Int32))])
  refine own_k (T' := T2) (g' := (mkF m 14 #[.val (.ref a1), .val (.int (0 : Int32)), .val (.int (2 : Int32)), .val (.ref b1), .val (.int (2 : Int32)), .unset] [])) (fun _ k_ => XS.istore X2.here hx rfl (hb hby d5_12) rfl (l' := #[.val (.ref a1), .val (.int (0 : Int32)), .val (.int (2 : Int32)), .val (.ref b1), .val (.int (2 : Int32)), .unset]) rfl k_) ?_
  refine own_k (T' := T2) (g' := (mkF m 16 #[.val (.ref a1), .val (.int (0 : Int32)), .val (.int (2 : Int32)), .val (.ref b1), .val (.int (2 : Int32)), .unset] [(.int (2 : Int32))])) (fun _ k_ => XS.iload X2.here hx rfl (hb hby d5_14) rfl  k_) ?_
  refine own_k (T' := T2) (g' := (mkF m 17 #[.val (.ref a1), .val (.int (0 : Int32)), .val (.int (2 : Int32)), .val (.ref b1), .val (.int (2 : Int32)), .unset] [(.int (2 : Int32)), (.int (2 : Int32))])) (fun _ k_ => XS.iloadN X2.here hx rfl (hb hby d5_16) rfl  k_) ?_
  refine own_k (T' := T2) (g' := (mkF m 57 #[.val (.ref a1), .val (.int (0 : Int32)), .val (.int (2 : Int32)), .val (.ref b1), .val (.int (2 : Int32)), .unset] [])) (fun _ k_ => XS.icmpYes X2.here hx rfl (pc0 := 17) (pc' := 57) rfl (hb hby d5_17) rfl ((teq (by decide : ((2 : Int32) = (2 : Int32)))).1) (by decide) (by decide) k_) ?_
  refine own_k (T' := T2) (g' := (mkF m 58 #[.val (.ref a1), .val (.int (0 : Int32)), .val (.int (2 : Int32)), .val (.ref b1), .val (.int (2 : Int32)), .unset] [(.ref b1)])) (fun _ k_ => XS.aloadN X2.here hx rfl (hb hby d5_57) rfl rfl  k_) ?_
  have kp0 : Keep h0 h0 [] := Keep.refl h0 []
  have kp1 : Keep h0 h1 [] := kp0.ext E1
  have kp2 : Keep h0 T2.heap [] := kp1.trans K2 (allS (Or.inr (Nat.le_trans kp0.1 (Nat.le_of_eq g1.symm))) all0)
  exact own_retA X2 hx hret rfl rfl hlk (hb hby d5_58) hF (⟨b1, k1, rfl, N2, kp2, (Nat.le_trans kp0.1 (Nat.le_of_eq g1.symm)), q2_1, q2_0⟩) (by decide) (by decide)
theorem d3_39 : decode jdk_42_method_149_code 39 = .ok (.astore 5, 2) := by decide +kernel
theorem d3_41 : decode jdk_42_method_149_code 41 = .ok (.aload_n 0, 1) := by decide +kernel
theorem d3_42 : decode jdk_42_method_149_code 42 = .ok (.aload 5, 2) := by decide +kernel
theorem d3_44 : decode jdk_42_method_149_code 44 = .ok (.iload_n 3, 1) := by decide +kernel
theorem d3_45 : decode jdk_42_method_149_code 45 = .ok (.invokestatic 47, 3) := by decide +kernel
theorem pd__28_5bBI_29B : parseMethodDescriptor "([BI)B" = some ⟨[(.array .byte), .int], some .byte⟩ := by decide +kernel
theorem ef_7_RI (m : MethodId) (x0 : Addr) (x1 : Int32)  : entryFrame m #[(.ref x0), (.int x1)] 2 = mkF m 0 #[.val (.ref x0), .val (.int x1)] [] := by first | (simp [entryFrame, mkF, argsToLocals, Value.category]; done) | rfl
theorem d7_0 : decode jdk_52_method_15_code 0 = .ok (.iload_n 1, 1) := by decide +kernel
theorem d7_1 : decode jdk_52_method_15_code 1 = .ok (.aload_n 0, 1) := by decide +kernel
theorem d7_2 : decode jdk_52_method_15_code 2 = .ok (.arraylength, 1) := by decide +kernel
theorem d7_3 : decode jdk_52_method_15_code 3 = .ok (.isub, 1) := by decide +kernel
theorem d7_4 : decode jdk_52_method_15_code 4 = .ok (.bipush 31, 2) := by decide +kernel
theorem d7_6 : decode jdk_52_method_15_code 6 = .ok (.iushr, 1) := by decide +kernel
theorem d7_7 : decode jdk_52_method_15_code 7 = .ok (.i2b, 1) := by decide +kernel
theorem d7_8 : decode jdk_52_method_15_code 8 = .ok (.ireturn, 1) := by decide +kernel
set_option maxRecDepth 65536 in
set_option maxHeartbeats 40000000 in
theorem rm_coderFromArrayLen_2 (l : Launch) (Z : State) (a0 : Array Value) (c_Keyword_SELECT : Addr) (c_Lexer_Kind_KEYWORD : Addr) (c_Keyword_IS : Addr) (c_Keyword_AND : Addr) (c_Keyword_END : Addr) (c_Keyword_CURRENT_DATE : Addr) (c_Keyword_TYPE : Addr) (c_Keyword_NULL : Addr) (c_Lexer_Kind_WORD : Addr) (c_Keyword_IN : Addr) (c_Lexer_Kind_INTEGER : Addr) (c_Lexer_Kind_STRING : Addr) (c_Lexer_Kind_SYMBOL : Addr) (c_Lexer_Kind_END : Addr) (g_COMPACT_STRINGS : Int32) (g_SIOOBE_FORMATTER : Value) (hW : own_W Z a0 c_Keyword_SELECT c_Lexer_Kind_KEYWORD c_Keyword_IS c_Keyword_AND c_Keyword_END c_Keyword_CURRENT_DATE c_Keyword_TYPE c_Keyword_NULL c_Lexer_Kind_WORD c_Keyword_IN c_Lexer_Kind_INTEGER c_Lexer_Kind_STRING c_Lexer_Kind_SYMBOL c_Lexer_Kind_END g_COMPACT_STRINGS g_SIOOBE_FORMATTER) (a1 : Addr) (q2 : ClassId) (i3 : Int32) (i4 : Int32) (h0 : Heap) (O0 : Old Z Z.heap.size h0) (h_1 : Arv Z h0 a1 q2 .byte (2 : Int32) [(.int i3), (.int i4)] (.int (0 : Int32))) :
    own_Met l Z (⟨"java/lang/StringUTF16", "coderFromArrayLen", "([BI)B"⟩ : MethodName) jdk_52_method_15_code 2 (some .byte) ({ frames := 0, cells := 0, slots := 0, locals := 0 } : Room) #[(.ref a1), (.int (2 : Int32))] h0 (fun v h L => v = some (.int (0 : Int32)) ∧ Fr Z.heap.size L ∧ h = h0) := by
  have hW_ := hW
  obtain ⟨hw, S_c_Keyword_SELECT, E_c_Keyword_SELECT, S_c_Lexer_Kind_KEYWORD, E_c_Lexer_Kind_KEYWORD, S_c_Keyword_IS, E_c_Keyword_IS, S_c_Keyword_AND, E_c_Keyword_AND, S_c_Keyword_END, E_c_Keyword_END, S_c_Keyword_CURRENT_DATE, E_c_Keyword_CURRENT_DATE, S_c_Keyword_TYPE, E_c_Keyword_TYPE, S_c_Keyword_NULL, E_c_Keyword_NULL, S_c_Lexer_Kind_WORD, E_c_Lexer_Kind_WORD, S_c_Keyword_IN, E_c_Keyword_IN, S_c_Lexer_Kind_INTEGER, E_c_Lexer_Kind_INTEGER, S_c_Lexer_Kind_STRING, E_c_Lexer_Kind_STRING, S_c_Lexer_Kind_SYMBOL, E_c_Lexer_Kind_SYMBOL, S_c_Lexer_Kind_END, E_c_Lexer_Kind_END, F_c_Keyword_SELECT_ordinal, F_c_Keyword_IS_ordinal, F_c_Keyword_END_ordinal, F_c_Keyword_CURRENT_DATE_ordinal, F_c_Keyword_TYPE_ordinal, F_c_Keyword_AND_ordinal, F_c_Keyword_NULL_ordinal, F_c_Keyword_IN_ordinal, S_g_COMPACT_STRINGS, P_g_COMPACT_STRINGS, R_g_SIOOBE_FORMATTER, S_g_SIOOBE_FORMATTER⟩ := hW_
  refine own_met (plainFor_of_name pn_java_lang_StringUTF16) ?_
  intro p e s m below meth cc_ s₁ Φ hF X0 hx hby hml hZ hown hnm hret hlk e0
  have N0 := Fr.nil Z.heap.size
  refine own_k (T' := s₁) (g' := (mkF m 0 #[.val (.ref a1), .val (.int (2 : Int32))] [])) (fun _ k_ => castTop (ef_7_RI m a1 (2 : Int32)) k_) ?_
  refine own_k (T' := s₁) (g' := (mkF m 1 #[.val (.ref a1), .val (.int (2 : Int32))] [(.int (2 : Int32))])) (fun _ k_ => XS.iloadN X0.here hx rfl (hb hby d7_0) rfl  k_) ?_
  refine own_k (T' := s₁) (g' := (mkF m 2 #[.val (.ref a1), .val (.int (2 : Int32))] [(.ref a1), (.int (2 : Int32))])) (fun _ k_ => XS.aloadN X0.here hx rfl (hb hby d7_1) rfl rfl  k_) ?_
  refine own_len X0 hx hZ e0 h_1 (hb hby d7_2) ?_
  show own_Go p e below Φ s₁ (mkF m 3 #[.val (.ref a1), .val (.int (2 : Int32))] [(.int (2 : Int32)), (.int (2 : Int32))])
  refine own_k (T' := s₁) (g' := (mkF m 4 #[.val (.ref a1), .val (.int (2 : Int32))] [(.int ((2 : Int32) - (2 : Int32)))])) (fun _ k_ => XS.isub X0.here hx rfl (hb hby d7_3) rfl k_) ?_
  rw [show ((2 : Int32) - (2 : Int32)) = (0 : Int32) from by decide]
  refine own_k (T' := s₁) (g' := (mkF m 6 #[.val (.ref a1), .val (.int (2 : Int32))] [(.int (31 : Int32)), (.int (0 : Int32))])) (fun _ k_ => XS.bipush X0.here hx rfl (hb hby d7_4) k_) ?_
  refine own_k (T' := s₁) (g' := (mkF m 7 #[.val (.ref a1), .val (.int (2 : Int32))] [(.int (((0 : Int32).toUInt32 >>> ((31 : Int32) &&& 31).toUInt32).toInt32))])) (fun _ k_ => XS.iushr X0.here hx rfl (hb hby d7_6) rfl k_) ?_
  rw [show (((0 : Int32).toUInt32 >>> ((31 : Int32) &&& 31).toUInt32).toInt32) = (0 : Int32) from by decide]
  refine own_k (T' := s₁) (g' := (mkF m 8 #[.val (.ref a1), .val (.int (2 : Int32))] [(.int ((0 : Int32).toInt8.toInt32))])) (fun _ k_ => XS.i2b X0.here hx rfl (hb hby d7_7) rfl k_) ?_
  rw [show ((0 : Int32).toInt8.toInt32) = (0 : Int32) from by decide]
  exact own_retN X0 hx (t := .byte) hret (by simp) hlk (hb hby d7_8) hF (by rw [e0]; exact ⟨by rw [show nar .byte (0 : Int32) = (0 : Int32) from by decide], N0, rfl⟩) (by decide) (by decide)
theorem d3_48 : decode jdk_42_method_149_code 48 = .ok (.putfield 15, 3) := by decide +kernel
theorem d3_51 : decode jdk_42_method_149_code 51 = .ok (.aload_n 0, 1) := by decide +kernel
theorem d3_52 : decode jdk_42_method_149_code 52 = .ok (.aload 5, 2) := by decide +kernel
theorem d3_54 : decode jdk_42_method_149_code 54 = .ok (.putfield 9, 3) := by decide +kernel
theorem d3_57 : decode jdk_42_method_149_code 57 = .ok (.return_, 1) := by decide +kernel
set_option maxRecDepth 65536 in
set_option maxHeartbeats 40000000 in
theorem rm_init_3 (l : Launch) (Z : State) (a0 : Array Value) (c_Keyword_SELECT : Addr) (c_Lexer_Kind_KEYWORD : Addr) (c_Keyword_IS : Addr) (c_Keyword_AND : Addr) (c_Keyword_END : Addr) (c_Keyword_CURRENT_DATE : Addr) (c_Keyword_TYPE : Addr) (c_Keyword_NULL : Addr) (c_Lexer_Kind_WORD : Addr) (c_Keyword_IN : Addr) (c_Lexer_Kind_INTEGER : Addr) (c_Lexer_Kind_STRING : Addr) (c_Lexer_Kind_SYMBOL : Addr) (c_Lexer_Kind_END : Addr) (g_COMPACT_STRINGS : Int32) (g_SIOOBE_FORMATTER : Value) (hW : own_W Z a0 c_Keyword_SELECT c_Lexer_Kind_KEYWORD c_Keyword_IS c_Keyword_AND c_Keyword_END c_Keyword_CURRENT_DATE c_Keyword_TYPE c_Keyword_NULL c_Lexer_Kind_WORD c_Keyword_IN c_Lexer_Kind_INTEGER c_Lexer_Kind_STRING c_Lexer_Kind_SYMBOL c_Lexer_Kind_END g_COMPACT_STRINGS g_SIOOBE_FORMATTER) (a1 : Addr) (a2 : Addr) (q3 : ClassId) (i4 : Int32) (i5 : Int32) (h0 : Heap) (O0 : Old Z Z.heap.size h0) (h_1 : ¬ ((255 : Int32) < i4)) (h_2 : ¬ ((255 : Int32) < i5)) (h_3 : Arv Z h0 a2 q3 .char (2 : Int32) [(.int i4), (.int i5)] (.int (0 : Int32))) (h_4 : Fld Z h0 a1 "java/lang/String" "coder" "B" (.int (0 : Int32))) (h_5 : Exa Z h0 a1 "java/lang/String") (h_6 : Z.heap.size ≤ a1) (h_7 : Fld Z h0 a1 "java/lang/String" "value" "[B" .null) :
    own_Met l Z (⟨"java/lang/String", "<init>", "([CIILjava/lang/Void;)V"⟩ : MethodName) jdk_42_method_149_code 6 none ({ frames := 2, cells := 1, slots := 2, locals := 35 } : Room) #[(.ref a1), (.ref a2), (.int (0 : Int32)), (.int (2 : Int32)), .null] h0 (fun v h L => ∃ (b3_0 : Addr) (k3_1 : ClassId), v = none ∧ Fr Z.heap.size L ∧ Keep h0 h [a1] ∧ h0.size ≤ b3_0 ∧ Exa Z h a1 "java/lang/String" ∧ Fld Z h a1 "java/lang/String" "coder" "B" (.int (0 : Int32)) ∧ Fld Z h a1 "java/lang/String" "value" "[B" (.ref b3_0) ∧ Exa Z h b3_0 "[B" ∧ Arv Z h b3_0 k3_1 .byte (2 : Int32) [(.int (i4.toInt8.toInt32)), (.int (i5.toInt8.toInt32))] (.int (0 : Int32))) := by
  have hW_ := hW
  obtain ⟨hw, S_c_Keyword_SELECT, E_c_Keyword_SELECT, S_c_Lexer_Kind_KEYWORD, E_c_Lexer_Kind_KEYWORD, S_c_Keyword_IS, E_c_Keyword_IS, S_c_Keyword_AND, E_c_Keyword_AND, S_c_Keyword_END, E_c_Keyword_END, S_c_Keyword_CURRENT_DATE, E_c_Keyword_CURRENT_DATE, S_c_Keyword_TYPE, E_c_Keyword_TYPE, S_c_Keyword_NULL, E_c_Keyword_NULL, S_c_Lexer_Kind_WORD, E_c_Lexer_Kind_WORD, S_c_Keyword_IN, E_c_Keyword_IN, S_c_Lexer_Kind_INTEGER, E_c_Lexer_Kind_INTEGER, S_c_Lexer_Kind_STRING, E_c_Lexer_Kind_STRING, S_c_Lexer_Kind_SYMBOL, E_c_Lexer_Kind_SYMBOL, S_c_Lexer_Kind_END, E_c_Lexer_Kind_END, F_c_Keyword_SELECT_ordinal, F_c_Keyword_IS_ordinal, F_c_Keyword_END_ordinal, F_c_Keyword_CURRENT_DATE_ordinal, F_c_Keyword_TYPE_ordinal, F_c_Keyword_AND_ordinal, F_c_Keyword_NULL_ordinal, F_c_Keyword_IN_ordinal, S_g_COMPACT_STRINGS, P_g_COMPACT_STRINGS, R_g_SIOOBE_FORMATTER, S_g_SIOOBE_FORMATTER⟩ := hW_
  refine own_met (plainFor_of_name pn_java_lang_String) ?_
  intro p e s m below meth cc_ s₁ Φ hF X0 hx hby hml hZ hown hnm hret hlk e0
  have N0 := Fr.nil Z.heap.size
  refine own_k (T' := s₁) (g' := (mkF m 0 #[.val (.ref a1), .val (.ref a2), .val (.int (0 : Int32)), .val (.int (2 : Int32)), .val .null, .unset] [])) (fun _ k_ => castTop (ef_3_RRIIN m a1 a2 (0 : Int32) (2 : Int32)) k_) ?_
  refine own_k (T' := s₁) (g' := (mkF m 1 #[.val (.ref a1), .val (.ref a2), .val (.int (0 : Int32)), .val (.int (2 : Int32)), .val .null, .unset] [(.ref a1)])) (fun _ k_ => XS.aloadN X0.here hx rfl (hb hby d3_0) rfl rfl  k_) ?_
  obtain ⟨T1, X1, e1, st1⟩ := initO X0 hx hZ hown (hw _ (List.mem_of_getElem? (i := 22) rfl)) (hw _ (List.mem_of_getElem? (i := 23) rfl)) (hw _ (List.mem_of_getElem? (i := 24) rfl)) e0 (g := (mkF m 1 #[.val (.ref a1), .val (.ref a2), .val (.int (0 : Int32)), .val (.int (2 : Int32)), .val .null, .unset] [(.ref a1)])) rfl (by rw [hml]; rfl) rfl (hb hby d3_1) (by decide) (W := 0) (by show 2 * 0 + _ ≤ _; exact Nat.le_of_eq rfl) (by decide)
  refine own_k (T' := T1) (g' := (mkF m 4 #[.val (.ref a1), .val (.ref a2), .val (.int (0 : Int32)), .val (.int (2 : Int32)), .val .null, .unset] [])) st1 ?_
  refine own_k (T' := T1) (g' := (mkF m 5 #[.val (.ref a1), .val (.ref a2), .val (.int (0 : Int32)), .val (.int (2 : Int32)), .val .null, .unset] [(.int (2 : Int32))])) (fun _ k_ => XS.iloadN X1.here hx rfl (hb hby d3_4) rfl  k_) ?_
  refine own_k (T' := T1) (g' := (mkF m 27 #[.val (.ref a1), .val (.ref a2), .val (.int (0 : Int32)), .val (.int (2 : Int32)), .val .null, .unset] [])) (fun _ k_ => XS.ifYes X1.here hx rfl (pc0 := 5) (pc' := 27) rfl (hb hby d3_5) rfl ((if0 _ _).trans (feq (by decide : ¬ ((2 : Int32) = (0 : Int32)))).2) (by decide) (by decide) k_) ?_
  obtain ⟨T2, X2, e2, st2⟩ := getS2 X1 hx hZ hown (host := "") (Or.inl (hw _ (List.mem_of_getElem? (i := 25) rfl))) Via.refl e1 (S_g_COMPACT_STRINGS.ext O0.2) (g := (mkF m 27 #[.val (.ref a1), .val (.ref a2), .val (.int (0 : Int32)), .val (.int (2 : Int32)), .val .null, .unset] [])) rfl (hb hby d3_27)
  refine own_k (T' := T2) (g' := (mkF m 30 #[.val (.ref a1), .val (.ref a2), .val (.int (0 : Int32)), .val (.int (2 : Int32)), .val .null, .unset] [(.int g_COMPACT_STRINGS)])) st2 ?_
  refine own_k (T' := T2) (g' := (mkF m 33 #[.val (.ref a1), .val (.ref a2), .val (.int (0 : Int32)), .val (.int (2 : Int32)), .val .null, .unset] [])) (fun _ k_ => XS.ifNo X2.here hx rfl (hb hby d3_30) rfl ((if0 _ _).trans (feq P_g_COMPACT_STRINGS).1) k_) ?_
  refine own_k (T' := T2) (g' := (mkF m 34 #[.val (.ref a1), .val (.ref a2), .val (.int (0 : Int32)), .val (.int (2 : Int32)), .val .null, .unset] [(.ref a2)])) (fun _ k_ => XS.aloadN X2.here hx rfl (hb hby d3_33) rfl rfl  k_) ?_
  refine own_k (T' := T2) (g' := (mkF m 35 #[.val (.ref a1), .val (.ref a2), .val (.int (0 : Int32)), .val (.int (2 : Int32)), .val .null, .unset] [(.int (0 : Int32)), (.ref a2)])) (fun _ k_ => XS.iloadN X2.here hx rfl (hb hby d3_34) rfl  k_) ?_
  refine own_k (T' := T2) (g' := (mkF m 36 #[.val (.ref a1), .val (.ref a2), .val (.int (0 : Int32)), .val (.int (2 : Int32)), .val .null, .unset] [(.int (2 : Int32)), (.int (0 : Int32)), (.ref a2)])) (fun _ k_ => XS.iloadN X2.here hx rfl (hb hby d3_35) rfl  k_) ?_
  refine own_callS X2 hx hZ (y := (⟨"java/lang/StringUTF16", "compress", "([CII)[B"⟩ : MethodName)) hown (hw _ (List.mem_of_getElem? (i := 26) rfl)) (hw _ (List.mem_of_getElem? (i := 27) rfl)) (hw _ (List.mem_of_getElem? (i := 28) rfl)) (hw _ (List.mem_of_getElem? (i := 29) rfl)) (by decide) (al := [(.ref a2), (.int (0 : Int32)), (.int (2 : Int32))]) (rm_compress_1 l Z a0 c_Keyword_SELECT c_Lexer_Kind_KEYWORD c_Keyword_IS c_Keyword_AND c_Keyword_END c_Keyword_CURRENT_DATE c_Keyword_TYPE c_Keyword_NULL c_Lexer_Kind_WORD c_Keyword_IN c_Lexer_Kind_INTEGER c_Lexer_Kind_STRING c_Lexer_Kind_SYMBOL c_Lexer_Kind_END g_COMPACT_STRINGS g_SIOOBE_FORMATTER hW a2 q3 i4 i5 h0 O0 h_1 h_2 h_3) 0 (by decide) (by decide) e2 (by decide) (by decide) (by rw [hml]; rfl) (lenOf pd__28_5bCII_29_5bB rfl) rfl (rest := []) (by show 2 * 0 + _ ≤ _; exact Nat.le_of_eq rfl) (hb hby d3_36) ?_
  intro v3 T3 L3 X3 hQ3
  obtain ⟨b3_0, k3_1, rfl, Nq3, K3, ge3_0, q3_0, q3_1⟩ := hQ3
  have N3 := Fr.app N0 Nq3
  have O3' := O0.keep K3 all0
  show own_Go p e below Φ T3 (mkF m 39 #[.val (.ref a1), .val (.ref a2), .val (.int (0 : Int32)), .val (.int (2 : Int32)), .val .null, .unset] [(.ref b3_0)])
  refine own_k (T' := T3) (g' := (mkF m 41 #[.val (.ref a1), .val (.ref a2), .val (.int (0 : Int32)), .val (.int (2 : Int32)), .val .null, .val (.ref b3_0)] [])) (fun _ k_ => XS.astore X3.here hx rfl (hb hby d3_39) rfl rfl (l' := #[.val (.ref a1), .val (.ref a2), .val (.int (0 : Int32)), .val (.int (2 : Int32)), .val .null, .val (.ref b3_0)]) rfl k_) ?_
  refine own_k (T' := T3) (g' := (mkF m 42 #[.val (.ref a1), .val (.ref a2), .val (.int (0 : Int32)), .val (.int (2 : Int32)), .val .null, .val (.ref b3_0)] [(.ref a1)])) (fun _ k_ => XS.aloadN X3.here hx rfl (hb hby d3_41) rfl rfl  k_) ?_
  refine own_k (T' := T3) (g' := (mkF m 44 #[.val (.ref a1), .val (.ref a2), .val (.int (0 : Int32)), .val (.int (2 : Int32)), .val .null, .val (.ref b3_0)] [(.ref b3_0), (.ref a1)])) (fun _ k_ => XS.aload X3.here hx rfl (hb hby d3_42) rfl rfl  k_) ?_
  refine own_k (T' := T3) (g' := (mkF m 45 #[.val (.ref a1), .val (.ref a2), .val (.int (0 : Int32)), .val (.int (2 : Int32)), .val .null, .val (.ref b3_0)] [(.int (2 : Int32)), (.ref b3_0), (.ref a1)])) (fun _ k_ => XS.iloadN X3.here hx rfl (hb hby d3_44) rfl  k_) ?_
  refine own_callS X3 hx hZ (y := (⟨"java/lang/StringUTF16", "coderFromArrayLen", "([BI)B"⟩ : MethodName)) hown (hw _ (List.mem_of_getElem? (i := 34) rfl)) (hw _ (List.mem_of_getElem? (i := 35) rfl)) (hw _ (List.mem_of_getElem? (i := 28) rfl)) (hw _ (List.mem_of_getElem? (i := 36) rfl)) (by decide) (al := [(.ref b3_0), (.int (2 : Int32))]) (rm_coderFromArrayLen_2 l Z a0 c_Keyword_SELECT c_Lexer_Kind_KEYWORD c_Keyword_IS c_Keyword_AND c_Keyword_END c_Keyword_CURRENT_DATE c_Keyword_TYPE c_Keyword_NULL c_Lexer_Kind_WORD c_Keyword_IN c_Lexer_Kind_INTEGER c_Lexer_Kind_STRING c_Lexer_Kind_SYMBOL c_Lexer_Kind_END g_COMPACT_STRINGS g_SIOOBE_FORMATTER hW b3_0 k3_1 (i4.toInt8.toInt32) (i5.toInt8.toInt32) T3.heap O3' q3_1) 1 (by decide) (by decide) rfl (by decide) (by decide) (by rw [hml]; rfl) (lenOf pd__28_5bBI_29B rfl) rfl (rest := [(.ref a1)]) (by show 2 * 0 + _ ≤ _; exact Nat.le_of_eq rfl) (hb hby d3_45) ?_
  intro v4 T4 L4 X4 hQ4
  obtain ⟨rfl, Nq4, e4⟩ := hQ4
  have N4 := Fr.app N3 Nq4
  show own_Go p e below Φ T4 (mkF m 48 #[.val (.ref a1), .val (.ref a2), .val (.int (0 : Int32)), .val (.int (2 : Int32)), .val .null, .val (.ref b3_0)] [(.int (0 : Int32)), (.ref a1)])
  obtain ⟨T5, h5, X5, e5, W5, st5⟩ := putFN X4 hx hZ hown (hw _ (List.mem_of_getElem? (i := 37) rfl)) Via.refl e4 (h_4.keep K3 nin0) (h_5.keep K3) (Or.inr ⟨(hw _ (List.mem_of_getElem? (i := 38) rfl)), rfl, hnm⟩) (hw _ (List.mem_of_getElem? (i := 13) rfl)) (ty := .byte) (v' := (.int (nar .byte (0 : Int32)))) (by decide) rfl (fits_nar_byte _) (g := (mkF m 48 #[.val (.ref a1), .val (.ref a2), .val (.int (0 : Int32)), .val (.int (2 : Int32)), .val .null, .val (.ref b3_0)] [(.int (0 : Int32)), (.ref a1)])) rfl rfl (hb hby d3_48)
  have w5 := Fld.same W5 (h_4.keep K3 nin0)
  rw [show nar .byte (0 : Int32) = (0 : Int32) from by decide] at w5
  have O5' := O3'.wr W5 h_6
  have N5 := Fr.snoc X5 N4 h_6
  refine own_k (T' := T5) (g' := (mkF m 51 #[.val (.ref a1), .val (.ref a2), .val (.int (0 : Int32)), .val (.int (2 : Int32)), .val .null, .val (.ref b3_0)] [])) st5 ?_
  refine own_k (T' := T5) (g' := (mkF m 52 #[.val (.ref a1), .val (.ref a2), .val (.int (0 : Int32)), .val (.int (2 : Int32)), .val .null, .val (.ref b3_0)] [(.ref a1)])) (fun _ k_ => XS.aloadN X5.here hx rfl (hb hby d3_51) rfl rfl  k_) ?_
  refine own_k (T' := T5) (g' := (mkF m 54 #[.val (.ref a1), .val (.ref a2), .val (.int (0 : Int32)), .val (.int (2 : Int32)), .val .null, .val (.ref b3_0)] [(.ref b3_0), (.ref a1)])) (fun _ k_ => XS.aload X5.here hx rfl (hb hby d3_52) rfl rfl  k_) ?_
  have f6 := ((h_7.keep K3 nin0).other W5 (Or.inr (slot_ne (Or.inr (hw _ (List.mem_of_getElem? (i := 40) rfl))) (Or.inr (hw _ (List.mem_of_getElem? (i := 38) rfl))) (by decide) (t := (.array .byte)) (t' := .byte) (by decide) (by decide))))
  obtain ⟨T7, h7, X7, e7, W7, st7⟩ := putF X5 hx hZ hown (host := "") (Or.inl (hw _ (List.mem_of_getElem? (i := 39) rfl))) Via.refl e5 f6 ((h_5.keep K3).wr W5) (Or.inr ⟨(hw _ (List.mem_of_getElem? (i := 40) rfl)), rfl, hnm⟩) (hw _ (List.mem_of_getElem? (i := 13) rfl)) (ty := (.array .byte)) (by decide) rfl rfl (g := (mkF m 54 #[.val (.ref a1), .val (.ref a2), .val (.int (0 : Int32)), .val (.int (2 : Int32)), .val .null, .val (.ref b3_0)] [(.ref b3_0), (.ref a1)])) rfl rfl (hb hby d3_54)
  have w7 := Fld.same W7 f6
  have O7' := O5'.wr W7 h_6
  have N7 := Fr.snoc X7 N5 h_6
  refine own_k (T' := T7) (g' := (mkF m 57 #[.val (.ref a1), .val (.ref a2), .val (.int (0 : Int32)), .val (.int (2 : Int32)), .val .null, .val (.ref b3_0)] [])) st7 ?_
  have kp0 : Keep h0 h0 [a1] := Keep.refl h0 [a1]
  have kp1 : Keep h0 T3.heap [a1] := kp0.trans K3 all0
  have kp2 : Keep h0 h5 [a1] := kp1.wr W5 (Or.inl (List.mem_of_getElem? (i := 0) rfl))
  have kp3 : Keep h0 h7 [a1] := kp2.wr W7 (Or.inl (List.mem_of_getElem? (i := 0) rfl))
  have f8 := (w5.other W7 (Or.inr (slot_ne (Or.inr (hw _ (List.mem_of_getElem? (i := 38) rfl))) (Or.inr (hw _ (List.mem_of_getElem? (i := 40) rfl))) (by decide) (t := .byte) (t' := (.array .byte)) (by decide) (by decide))))
  have f9 := ((q3_1.other W5 (Ne.symm (Nat.ne_of_lt (Nat.lt_of_lt_of_le h_5.lt ge3_0)))).other W7 (Ne.symm (Nat.ne_of_lt (Nat.lt_of_lt_of_le h_5.lt ge3_0))))
  exact own_ret0 X7 hx hret hlk (hb hby d3_57) hF (by rw [e7]; exact ⟨b3_0, k3_1, rfl, N7, kp3, (Nat.le_trans kp0.1 ge3_0), (((h_5.keep K3).wr W5).wr W7), f8, w7, ((q3_0.wr W5).wr W7), f9⟩) (by decide) (by decide)
theorem d2_9 : decode jdk_42_method_3_code 9 = .ok (.return_, 1) := by decide +kernel
set_option maxRecDepth 65536 in
set_option maxHeartbeats 40000000 in
theorem rm_init_4 (l : Launch) (Z : State) (a0 : Array Value) (c_Keyword_SELECT : Addr) (c_Lexer_Kind_KEYWORD : Addr) (c_Keyword_IS : Addr) (c_Keyword_AND : Addr) (c_Keyword_END : Addr) (c_Keyword_CURRENT_DATE : Addr) (c_Keyword_TYPE : Addr) (c_Keyword_NULL : Addr) (c_Lexer_Kind_WORD : Addr) (c_Keyword_IN : Addr) (c_Lexer_Kind_INTEGER : Addr) (c_Lexer_Kind_STRING : Addr) (c_Lexer_Kind_SYMBOL : Addr) (c_Lexer_Kind_END : Addr) (g_COMPACT_STRINGS : Int32) (g_SIOOBE_FORMATTER : Value) (hW : own_W Z a0 c_Keyword_SELECT c_Lexer_Kind_KEYWORD c_Keyword_IS c_Keyword_AND c_Keyword_END c_Keyword_CURRENT_DATE c_Keyword_TYPE c_Keyword_NULL c_Lexer_Kind_WORD c_Keyword_IN c_Lexer_Kind_INTEGER c_Lexer_Kind_STRING c_Lexer_Kind_SYMBOL c_Lexer_Kind_END g_COMPACT_STRINGS g_SIOOBE_FORMATTER) (a1 : Addr) (a2 : Addr) (q3 : ClassId) (i4 : Int32) (i5 : Int32) (h0 : Heap) (O0 : Old Z Z.heap.size h0) (h_1 : Arv Z h0 a2 q3 .char (2 : Int32) [(.int i4), (.int i5)] (.int (0 : Int32))) (h_2 : ¬ ((255 : Int32) < i4)) (h_3 : ¬ ((255 : Int32) < i5)) (h_4 : Fld Z h0 a1 "java/lang/String" "coder" "B" (.int (0 : Int32))) (h_5 : Exa Z h0 a1 "java/lang/String") (h_6 : Z.heap.size ≤ a1) (h_7 : Fld Z h0 a1 "java/lang/String" "value" "[B" .null) :
    own_Met l Z (⟨"java/lang/String", "<init>", "([C)V"⟩ : MethodName) jdk_42_method_3_code 2 none ({ frames := 3, cells := 1, slots := 2, locals := 52 } : Room) #[(.ref a1), (.ref a2)] h0 (fun v h L => ∃ (b1_0 : Addr) (k1_1 : ClassId), v = none ∧ Fr Z.heap.size L ∧ Keep h0 h [a1] ∧ h0.size ≤ b1_0 ∧ Exa Z h a1 "java/lang/String" ∧ Fld Z h a1 "java/lang/String" "coder" "B" (.int (0 : Int32)) ∧ Fld Z h a1 "java/lang/String" "value" "[B" (.ref b1_0) ∧ Exa Z h b1_0 "[B" ∧ Arv Z h b1_0 k1_1 .byte (2 : Int32) [(.int (i4.toInt8.toInt32)), (.int (i5.toInt8.toInt32))] (.int (0 : Int32))) := by
  have hW_ := hW
  obtain ⟨hw, S_c_Keyword_SELECT, E_c_Keyword_SELECT, S_c_Lexer_Kind_KEYWORD, E_c_Lexer_Kind_KEYWORD, S_c_Keyword_IS, E_c_Keyword_IS, S_c_Keyword_AND, E_c_Keyword_AND, S_c_Keyword_END, E_c_Keyword_END, S_c_Keyword_CURRENT_DATE, E_c_Keyword_CURRENT_DATE, S_c_Keyword_TYPE, E_c_Keyword_TYPE, S_c_Keyword_NULL, E_c_Keyword_NULL, S_c_Lexer_Kind_WORD, E_c_Lexer_Kind_WORD, S_c_Keyword_IN, E_c_Keyword_IN, S_c_Lexer_Kind_INTEGER, E_c_Lexer_Kind_INTEGER, S_c_Lexer_Kind_STRING, E_c_Lexer_Kind_STRING, S_c_Lexer_Kind_SYMBOL, E_c_Lexer_Kind_SYMBOL, S_c_Lexer_Kind_END, E_c_Lexer_Kind_END, F_c_Keyword_SELECT_ordinal, F_c_Keyword_IS_ordinal, F_c_Keyword_END_ordinal, F_c_Keyword_CURRENT_DATE_ordinal, F_c_Keyword_TYPE_ordinal, F_c_Keyword_AND_ordinal, F_c_Keyword_NULL_ordinal, F_c_Keyword_IN_ordinal, S_g_COMPACT_STRINGS, P_g_COMPACT_STRINGS, R_g_SIOOBE_FORMATTER, S_g_SIOOBE_FORMATTER⟩ := hW_
  refine own_met (plainFor_of_name pn_java_lang_String) ?_
  intro p e s m below meth cc_ s₁ Φ hF X0 hx hby hml hZ hown hnm hret hlk e0
  have N0 := Fr.nil Z.heap.size
  refine own_k (T' := s₁) (g' := (mkF m 0 #[.val (.ref a1), .val (.ref a2)] [])) (fun _ k_ => castTop (ef_2_RR m a1 a2) k_) ?_
  refine own_k (T' := s₁) (g' := (mkF m 1 #[.val (.ref a1), .val (.ref a2)] [(.ref a1)])) (fun _ k_ => XS.aloadN X0.here hx rfl (hb hby d2_0) rfl rfl  k_) ?_
  refine own_k (T' := s₁) (g' := (mkF m 2 #[.val (.ref a1), .val (.ref a2)] [(.ref a2), (.ref a1)])) (fun _ k_ => XS.aloadN X0.here hx rfl (hb hby d2_1) rfl rfl  k_) ?_
  refine own_k (T' := s₁) (g' := (mkF m 3 #[.val (.ref a1), .val (.ref a2)] [(.int (0 : Int32)), (.ref a2), (.ref a1)])) (fun _ k_ => XS.iconst X0.here hx rfl (hb hby d2_2) k_) ?_
  refine own_k (T' := s₁) (g' := (mkF m 4 #[.val (.ref a1), .val (.ref a2)] [(.ref a2), (.int (0 : Int32)), (.ref a2), (.ref a1)])) (fun _ k_ => XS.aloadN X0.here hx rfl (hb hby d2_3) rfl rfl  k_) ?_
  refine own_len X0 hx hZ e0 h_1 (hb hby d2_4) ?_
  show own_Go p e below Φ s₁ (mkF m 5 #[.val (.ref a1), .val (.ref a2)] [(.int (2 : Int32)), (.int (0 : Int32)), (.ref a2), (.ref a1)])
  refine own_k (T' := s₁) (g' := (mkF m 6 #[.val (.ref a1), .val (.ref a2)] [.null, (.int (2 : Int32)), (.int (0 : Int32)), (.ref a2), (.ref a1)])) (fun _ k_ => XS.aconstNull X0.here hx rfl (hb hby d2_5) k_) ?_
  refine own_callN X0 hx hZ (y := (⟨"java/lang/String", "<init>", "([CIILjava/lang/Void;)V"⟩ : MethodName)) rfl hown (hw _ (List.mem_of_getElem? (i := 18) rfl)) (hw _ (List.mem_of_getElem? (i := 19) rfl)) (hw _ (List.mem_of_getElem? (i := 21) rfl)) (hw _ (List.mem_of_getElem? (i := 14) rfl)) (by decide) (al := [(.ref a2), (.int (0 : Int32)), (.int (2 : Int32)), .null]) (b := a1) (rm_init_3 l Z a0 c_Keyword_SELECT c_Lexer_Kind_KEYWORD c_Keyword_IS c_Keyword_AND c_Keyword_END c_Keyword_CURRENT_DATE c_Keyword_TYPE c_Keyword_NULL c_Lexer_Kind_WORD c_Keyword_IN c_Lexer_Kind_INTEGER c_Lexer_Kind_STRING c_Lexer_Kind_SYMBOL c_Lexer_Kind_END g_COMPACT_STRINGS g_SIOOBE_FORMATTER hW a1 a2 q3 i4 i5 h0 O0 h_2 h_3 h_1 h_4 h_5 h_6 h_7) 0 (by decide) (by decide) e0 (by decide) (by decide) (by rw [hml]; rfl) (lenOf pd__28_5bCIILjava_2flang_2fVoid_3b_29V rfl) rfl (rest := []) (by show 2 * 0 + _ ≤ _; exact Nat.le_of_eq rfl) (hb hby d2_6) ?_
  intro v1 T1 L1 X1 hQ1
  obtain ⟨b1_0, k1_1, rfl, Nq1, K1, ge1_0, q1_0, q1_1, q1_2, q1_3, q1_4⟩ := hQ1
  have N1 := Fr.app N0 Nq1
  have O1' := O0.keep K1 (allS h_6 all0)
  show own_Go p e below Φ T1 (mkF m 9 #[.val (.ref a1), .val (.ref a2)] [])
  have kp0 : Keep h0 h0 [a1] := Keep.refl h0 [a1]
  have kp1 : Keep h0 T1.heap [a1] := kp0.trans K1 (allS (Or.inl (List.mem_of_getElem? (i := 0) rfl)) all0)
  exact own_ret0 X1 hx hret hlk (hb hby d2_9) hF (⟨b1_0, k1_1, rfl, N1, kp1, (Nat.le_trans kp0.1 ge1_0), q1_0, q1_1, q1_2, q1_3, q1_4⟩) (by decide) (by decide)
theorem pd__28I_29Lcom_2fexample_2fnepean_2fnepean_2fquery_2fKeyword_3b : parseMethodDescriptor "(I)Lcom/example/nepean/nepean/query/Keyword;" = some ⟨[.int], some (.object "com/example/nepean/nepean/query/Keyword")⟩ := by decide +kernel
theorem pd__28Lcom_2fexample_2fnepean_2fnepean_2fquery_2fLexer_24Kind_3bLjava_2flang_2fString_3bLcom_2fexample_2fnepean_2fnepean_2fquery_2fKeyword_3bI_29V : parseMethodDescriptor "(Lcom/example/nepean/nepean/query/Lexer$Kind;Ljava/lang/String;Lcom/example/nepean/nepean/query/Keyword;I)V" = some ⟨[(.object "com/example/nepean/nepean/query/Lexer$Kind"), (.object "java/lang/String"), (.object "com/example/nepean/nepean/query/Keyword"), .int], none⟩ := by decide +kernel
theorem ef_8_RRRNI (m : MethodId) (x0 : Addr) (x1 : Addr) (x2 : Addr) (x4 : Int32)  : entryFrame m #[(.ref x0), (.ref x1), (.ref x2), .null, (.int x4)] 5 = mkF m 0 #[.val (.ref x0), .val (.ref x1), .val (.ref x2), .val .null, .val (.int x4)] [] := by first | (simp [entryFrame, mkF, argsToLocals, Value.category]; done) | rfl
theorem pn_com_example_nepean_nepean_query_Lexer_Token : plainName "com/example/nepean/nepean/query/Lexer$Token" = true := by first | (simp [plainName, overriddenIn]; done) | decide +kernel
theorem d8_0 : decode prog_18_method_1_code 0 = .ok (.aload_n 0, 1) := by decide +kernel
theorem d8_1 : decode prog_18_method_1_code 1 = .ok (.invokespecial 1, 3) := by decide +kernel
theorem pd__28_29V : parseMethodDescriptor "()V" = some ⟨[], none⟩ := by decide +kernel
theorem ef_9_R (m : MethodId) (x0 : Addr)  : entryFrame m #[(.ref x0)] 1 = mkF m 0 #[.val (.ref x0)] [] := by first | (simp [entryFrame, mkF, argsToLocals, Value.category]; done) | rfl
theorem pn_java_lang_Record : plainName "java/lang/Record" = true := by first | (simp [plainName, overriddenIn]; done) | decide +kernel
theorem d9_0 : decode jdk_30_method_1_code 0 = .ok (.aload_n 0, 1) := by decide +kernel
theorem d9_1 : decode jdk_30_method_1_code 1 = .ok (.invokespecial 1, 3) := by decide +kernel
theorem d9_4 : decode jdk_30_method_1_code 4 = .ok (.return_, 1) := by decide +kernel
set_option maxRecDepth 65536 in
set_option maxHeartbeats 40000000 in
theorem rm_init_5 (l : Launch) (Z : State) (a0 : Array Value) (c_Keyword_SELECT : Addr) (c_Lexer_Kind_KEYWORD : Addr) (c_Keyword_IS : Addr) (c_Keyword_AND : Addr) (c_Keyword_END : Addr) (c_Keyword_CURRENT_DATE : Addr) (c_Keyword_TYPE : Addr) (c_Keyword_NULL : Addr) (c_Lexer_Kind_WORD : Addr) (c_Keyword_IN : Addr) (c_Lexer_Kind_INTEGER : Addr) (c_Lexer_Kind_STRING : Addr) (c_Lexer_Kind_SYMBOL : Addr) (c_Lexer_Kind_END : Addr) (g_COMPACT_STRINGS : Int32) (g_SIOOBE_FORMATTER : Value) (hW : own_W Z a0 c_Keyword_SELECT c_Lexer_Kind_KEYWORD c_Keyword_IS c_Keyword_AND c_Keyword_END c_Keyword_CURRENT_DATE c_Keyword_TYPE c_Keyword_NULL c_Lexer_Kind_WORD c_Keyword_IN c_Lexer_Kind_INTEGER c_Lexer_Kind_STRING c_Lexer_Kind_SYMBOL c_Lexer_Kind_END g_COMPACT_STRINGS g_SIOOBE_FORMATTER) (a1 : Addr) (h0 : Heap) (O0 : Old Z Z.heap.size h0)  :
    own_Met l Z (⟨"java/lang/Record", "<init>", "()V"⟩ : MethodName) jdk_30_method_1_code 1 none ({ frames := 1, cells := 0, slots := 0, locals := 12 } : Room) #[(.ref a1)] h0 (fun v h L => v = none ∧ Fr Z.heap.size L ∧ h = h0) := by
  have hW_ := hW
  obtain ⟨hw, S_c_Keyword_SELECT, E_c_Keyword_SELECT, S_c_Lexer_Kind_KEYWORD, E_c_Lexer_Kind_KEYWORD, S_c_Keyword_IS, E_c_Keyword_IS, S_c_Keyword_AND, E_c_Keyword_AND, S_c_Keyword_END, E_c_Keyword_END, S_c_Keyword_CURRENT_DATE, E_c_Keyword_CURRENT_DATE, S_c_Keyword_TYPE, E_c_Keyword_TYPE, S_c_Keyword_NULL, E_c_Keyword_NULL, S_c_Lexer_Kind_WORD, E_c_Lexer_Kind_WORD, S_c_Keyword_IN, E_c_Keyword_IN, S_c_Lexer_Kind_INTEGER, E_c_Lexer_Kind_INTEGER, S_c_Lexer_Kind_STRING, E_c_Lexer_Kind_STRING, S_c_Lexer_Kind_SYMBOL, E_c_Lexer_Kind_SYMBOL, S_c_Lexer_Kind_END, E_c_Lexer_Kind_END, F_c_Keyword_SELECT_ordinal, F_c_Keyword_IS_ordinal, F_c_Keyword_END_ordinal, F_c_Keyword_CURRENT_DATE_ordinal, F_c_Keyword_TYPE_ordinal, F_c_Keyword_AND_ordinal, F_c_Keyword_NULL_ordinal, F_c_Keyword_IN_ordinal, S_g_COMPACT_STRINGS, P_g_COMPACT_STRINGS, R_g_SIOOBE_FORMATTER, S_g_SIOOBE_FORMATTER⟩ := hW_
  refine own_met (plainFor_of_name pn_java_lang_Record) ?_
  intro p e s m below meth cc_ s₁ Φ hF X0 hx hby hml hZ hown hnm hret hlk e0
  have N0 := Fr.nil Z.heap.size
  refine own_k (T' := s₁) (g' := (mkF m 0 #[.val (.ref a1)] [])) (fun _ k_ => castTop (ef_9_R m a1) k_) ?_
  refine own_k (T' := s₁) (g' := (mkF m 1 #[.val (.ref a1)] [(.ref a1)])) (fun _ k_ => XS.aloadN X0.here hx rfl (hb hby d9_0) rfl rfl  k_) ?_
  obtain ⟨T1, X1, e1, st1⟩ := initO X0 hx hZ hown (hw _ (List.mem_of_getElem? (i := 54) rfl)) (hw _ (List.mem_of_getElem? (i := 23) rfl)) (hw _ (List.mem_of_getElem? (i := 24) rfl)) e0 (g := (mkF m 1 #[.val (.ref a1)] [(.ref a1)])) rfl (by rw [hml]; rfl) rfl (hb hby d9_1) (by decide) (W := 0) (by show 2 * 0 + _ ≤ _; exact Nat.le_of_eq rfl) (by decide)
  refine own_k (T' := T1) (g' := (mkF m 4 #[.val (.ref a1)] [])) st1 ?_
  exact own_ret0 X1 hx hret hlk (hb hby d9_4) hF (by rw [e1]; exact ⟨rfl, N0, rfl⟩) (by decide) (by decide)
theorem d8_4 : decode prog_18_method_1_code 4 = .ok (.aload_n 0, 1) := by decide +kernel
theorem d8_5 : decode prog_18_method_1_code 5 = .ok (.aload_n 1, 1) := by decide +kernel
theorem d8_6 : decode prog_18_method_1_code 6 = .ok (.putfield 7, 3) := by decide +kernel
theorem d8_9 : decode prog_18_method_1_code 9 = .ok (.aload_n 0, 1) := by decide +kernel
theorem d8_10 : decode prog_18_method_1_code 10 = .ok (.aload_n 2, 1) := by decide +kernel
theorem d8_11 : decode prog_18_method_1_code 11 = .ok (.putfield 13, 3) := by decide +kernel
theorem d8_14 : decode prog_18_method_1_code 14 = .ok (.aload_n 0, 1) := by decide +kernel
theorem d8_15 : decode prog_18_method_1_code 15 = .ok (.aload_n 3, 1) := by decide +kernel
theorem d8_16 : decode prog_18_method_1_code 16 = .ok (.putfield 17, 3) := by decide +kernel
theorem d8_19 : decode prog_18_method_1_code 19 = .ok (.aload_n 0, 1) := by decide +kernel
theorem d8_20 : decode prog_18_method_1_code 20 = .ok (.iload 4, 2) := by decide +kernel
theorem d8_22 : decode prog_18_method_1_code 22 = .ok (.putfield 21, 3) := by decide +kernel
theorem d8_25 : decode prog_18_method_1_code 25 = .ok (.return_, 1) := by decide +kernel
set_option maxRecDepth 65536 in
set_option maxHeartbeats 40000000 in
theorem rm_init_6 (l : Launch) (Z : State) (a0 : Array Value) (c_Keyword_SELECT : Addr) (c_Lexer_Kind_KEYWORD : Addr) (c_Keyword_IS : Addr) (c_Keyword_AND : Addr) (c_Keyword_END : Addr) (c_Keyword_CURRENT_DATE : Addr) (c_Keyword_TYPE : Addr) (c_Keyword_NULL : Addr) (c_Lexer_Kind_WORD : Addr) (c_Keyword_IN : Addr) (c_Lexer_Kind_INTEGER : Addr) (c_Lexer_Kind_STRING : Addr) (c_Lexer_Kind_SYMBOL : Addr) (c_Lexer_Kind_END : Addr) (g_COMPACT_STRINGS : Int32) (g_SIOOBE_FORMATTER : Value) (hW : own_W Z a0 c_Keyword_SELECT c_Lexer_Kind_KEYWORD c_Keyword_IS c_Keyword_AND c_Keyword_END c_Keyword_CURRENT_DATE c_Keyword_TYPE c_Keyword_NULL c_Lexer_Kind_WORD c_Keyword_IN c_Lexer_Kind_INTEGER c_Lexer_Kind_STRING c_Lexer_Kind_SYMBOL c_Lexer_Kind_END g_COMPACT_STRINGS g_SIOOBE_FORMATTER) (a1 : Addr) (a2 : Addr) (a3 : Addr) (i4 : Int32) (h0 : Heap) (O0 : Old Z Z.heap.size h0) (h_1 : Fld Z h0 a1 "com/example/nepean/nepean/query/Lexer$Token" "kind" "Lcom/example/nepean/nepean/query/Lexer$Kind;" .null) (h_2 : Exa Z h0 a1 "com/example/nepean/nepean/query/Lexer$Token") (h_3 : Z.heap.size ≤ a1) (h_4 : Fld Z h0 a1 "com/example/nepean/nepean/query/Lexer$Token" "text" "Ljava/lang/String;" .null) (h_5 : Fld Z h0 a1 "com/example/nepean/nepean/query/Lexer$Token" "keyword" "Lcom/example/nepean/nepean/query/Keyword;" .null) (h_6 : Fld Z h0 a1 "com/example/nepean/nepean/query/Lexer$Token" "position" "I" (.int (0 : Int32))) :
    own_Met l Z (⟨"com/example/nepean/nepean/query/Lexer$Token", "<init>", "(Lcom/example/nepean/nepean/query/Lexer$Kind;Ljava/lang/String;Lcom/example/nepean/nepean/query/Keyword;I)V"⟩ : MethodName) prog_18_method_1_code 5 none ({ frames := 2, cells := 0, slots := 0, locals := 24 } : Room) #[(.ref a1), (.ref a2), (.ref a3), .null, (.int i4)] h0 (fun v h L => v = none ∧ Fr Z.heap.size L ∧ Keep h0 h [a1] ∧ Exa Z h a1 "com/example/nepean/nepean/query/Lexer$Token" ∧ Fld Z h a1 "com/example/nepean/nepean/query/Lexer$Token" "kind" "Lcom/example/nepean/nepean/query/Lexer$Kind;" (.ref a2) ∧ Fld Z h a1 "com/example/nepean/nepean/query/Lexer$Token" "text" "Ljava/lang/String;" (.ref a3) ∧ Fld Z h a1 "com/example/nepean/nepean/query/Lexer$Token" "keyword" "Lcom/example/nepean/nepean/query/Keyword;" .null ∧ Fld Z h a1 "com/example/nepean/nepean/query/Lexer$Token" "position" "I" (.int i4)) := by
  have hW_ := hW
  obtain ⟨hw, S_c_Keyword_SELECT, E_c_Keyword_SELECT, S_c_Lexer_Kind_KEYWORD, E_c_Lexer_Kind_KEYWORD, S_c_Keyword_IS, E_c_Keyword_IS, S_c_Keyword_AND, E_c_Keyword_AND, S_c_Keyword_END, E_c_Keyword_END, S_c_Keyword_CURRENT_DATE, E_c_Keyword_CURRENT_DATE, S_c_Keyword_TYPE, E_c_Keyword_TYPE, S_c_Keyword_NULL, E_c_Keyword_NULL, S_c_Lexer_Kind_WORD, E_c_Lexer_Kind_WORD, S_c_Keyword_IN, E_c_Keyword_IN, S_c_Lexer_Kind_INTEGER, E_c_Lexer_Kind_INTEGER, S_c_Lexer_Kind_STRING, E_c_Lexer_Kind_STRING, S_c_Lexer_Kind_SYMBOL, E_c_Lexer_Kind_SYMBOL, S_c_Lexer_Kind_END, E_c_Lexer_Kind_END, F_c_Keyword_SELECT_ordinal, F_c_Keyword_IS_ordinal, F_c_Keyword_END_ordinal, F_c_Keyword_CURRENT_DATE_ordinal, F_c_Keyword_TYPE_ordinal, F_c_Keyword_AND_ordinal, F_c_Keyword_NULL_ordinal, F_c_Keyword_IN_ordinal, S_g_COMPACT_STRINGS, P_g_COMPACT_STRINGS, R_g_SIOOBE_FORMATTER, S_g_SIOOBE_FORMATTER⟩ := hW_
  refine own_met (plainFor_of_name pn_com_example_nepean_nepean_query_Lexer_Token) ?_
  intro p e s m below meth cc_ s₁ Φ hF X0 hx hby hml hZ hown hnm hret hlk e0
  have N0 := Fr.nil Z.heap.size
  refine own_k (T' := s₁) (g' := (mkF m 0 #[.val (.ref a1), .val (.ref a2), .val (.ref a3), .val .null, .val (.int i4)] [])) (fun _ k_ => castTop (ef_8_RRRNI m a1 a2 a3 i4) k_) ?_
  refine own_k (T' := s₁) (g' := (mkF m 1 #[.val (.ref a1), .val (.ref a2), .val (.ref a3), .val .null, .val (.int i4)] [(.ref a1)])) (fun _ k_ => XS.aloadN X0.here hx rfl (hb hby d8_0) rfl rfl  k_) ?_
  refine own_callN X0 hx hZ (y := (⟨"java/lang/Record", "<init>", "()V"⟩ : MethodName)) rfl hown (hw _ (List.mem_of_getElem? (i := 49) rfl)) (hw _ (List.mem_of_getElem? (i := 50) rfl)) (hw _ (List.mem_of_getElem? (i := 53) rfl)) (hw _ (List.mem_of_getElem? (i := 52) rfl)) (by decide) (al := []) (b := a1) (rm_init_5 l Z a0 c_Keyword_SELECT c_Lexer_Kind_KEYWORD c_Keyword_IS c_Keyword_AND c_Keyword_END c_Keyword_CURRENT_DATE c_Keyword_TYPE c_Keyword_NULL c_Lexer_Kind_WORD c_Keyword_IN c_Lexer_Kind_INTEGER c_Lexer_Kind_STRING c_Lexer_Kind_SYMBOL c_Lexer_Kind_END g_COMPACT_STRINGS g_SIOOBE_FORMATTER hW a1 h0 O0) 0 (by decide) (by decide) e0 (by decide) (by decide) (by rw [hml]; rfl) (lenOf pd__28_29V rfl) rfl (rest := []) (by show 2 * 0 + _ ≤ _; exact Nat.le_of_eq rfl) (hb hby d8_1) ?_
  intro v1 T1 L1 X1 hQ1
  obtain ⟨rfl, Nq1, e1⟩ := hQ1
  have N1 := Fr.app N0 Nq1
  show own_Go p e below Φ T1 (mkF m 4 #[.val (.ref a1), .val (.ref a2), .val (.ref a3), .val .null, .val (.int i4)] [])
  refine own_k (T' := T1) (g' := (mkF m 5 #[.val (.ref a1), .val (.ref a2), .val (.ref a3), .val .null, .val (.int i4)] [(.ref a1)])) (fun _ k_ => XS.aloadN X1.here hx rfl (hb hby d8_4) rfl rfl  k_) ?_
  refine own_k (T' := T1) (g' := (mkF m 6 #[.val (.ref a1), .val (.ref a2), .val (.ref a3), .val .null, .val (.int i4)] [(.ref a2), (.ref a1)])) (fun _ k_ => XS.aloadN X1.here hx rfl (hb hby d8_5) rfl rfl  k_) ?_
  obtain ⟨T2, h2, X2, e2, W2, st2⟩ := putF X1 hx hZ hown (host := "") (Or.inl (hw _ (List.mem_of_getElem? (i := 55) rfl))) Via.refl e1 h_1 h_2 (Or.inr ⟨(hw _ (List.mem_of_getElem? (i := 56) rfl)), rfl, hnm⟩) (hw _ (List.mem_of_getElem? (i := 44) rfl)) (ty := (.object "com/example/nepean/nepean/query/Lexer$Kind")) (by decide) rfl rfl (g := (mkF m 6 #[.val (.ref a1), .val (.ref a2), .val (.ref a3), .val .null, .val (.int i4)] [(.ref a2), (.ref a1)])) rfl rfl (hb hby d8_6)
  have w2 := Fld.same W2 h_1
  have O2' := O0.wr W2 h_3
  have N2 := Fr.snoc X2 N1 h_3
  refine own_k (T' := T2) (g' := (mkF m 9 #[.val (.ref a1), .val (.ref a2), .val (.ref a3), .val .null, .val (.int i4)] [])) st2 ?_
  refine own_k (T' := T2) (g' := (mkF m 10 #[.val (.ref a1), .val (.ref a2), .val (.ref a3), .val .null, .val (.int i4)] [(.ref a1)])) (fun _ k_ => XS.aloadN X2.here hx rfl (hb hby d8_9) rfl rfl  k_) ?_
  refine own_k (T' := T2) (g' := (mkF m 11 #[.val (.ref a1), .val (.ref a2), .val (.ref a3), .val .null, .val (.int i4)] [(.ref a3), (.ref a1)])) (fun _ k_ => XS.aloadN X2.here hx rfl (hb hby d8_10) rfl rfl  k_) ?_
  have f3 := (h_4.other W2 (Or.inr (slot_ne (Or.inr (hw _ (List.mem_of_getElem? (i := 58) rfl))) (Or.inr (hw _ (List.mem_of_getElem? (i := 56) rfl))) (by decide) (t := (.object "java/lang/String")) (t' := (.object "com/example/nepean/nepean/query/Lexer$Kind")) (by decide) (by decide))))
  obtain ⟨T4, h4, X4, e4, W4, st4⟩ := putF X2 hx hZ hown (host := "") (Or.inl (hw _ (List.mem_of_getElem? (i := 57) rfl))) Via.refl e2 f3 (h_2.wr W2) (Or.inr ⟨(hw _ (List.mem_of_getElem? (i := 58) rfl)), rfl, hnm⟩) (hw _ (List.mem_of_getElem? (i := 44) rfl)) (ty := (.object "java/lang/String")) (by decide) rfl rfl (g := (mkF m 11 #[.val (.ref a1), .val (.ref a2), .val (.ref a3), .val .null, .val (.int i4)] [(.ref a3), (.ref a1)])) rfl rfl (hb hby d8_11)
  have w4 := Fld.same W4 f3
  have O4' := O2'.wr W4 h_3
  have N4 := Fr.snoc X4 N2 h_3
  refine own_k (T' := T4) (g' := (mkF m 14 #[.val (.ref a1), .val (.ref a2), .val (.ref a3), .val .null, .val (.int i4)] [])) st4 ?_
  refine own_k (T' := T4) (g' := (mkF m 15 #[.val (.ref a1), .val (.ref a2), .val (.ref a3), .val .null, .val (.int i4)] [(.ref a1)])) (fun _ k_ => XS.aloadN X4.here hx rfl (hb hby d8_14) rfl rfl  k_) ?_
  refine own_k (T' := T4) (g' := (mkF m 16 #[.val (.ref a1), .val (.ref a2), .val (.ref a3), .val .null, .val (.int i4)] [.null, (.ref a1)])) (fun _ k_ => XS.aloadN X4.here hx rfl (hb hby d8_15) rfl rfl  k_) ?_
  have f5 := ((h_5.other W2 (Or.inr (slot_ne (Or.inr (hw _ (List.mem_of_getElem? (i := 60) rfl))) (Or.inr (hw _ (List.mem_of_getElem? (i := 56) rfl))) (by decide) (t := (.object "com/example/nepean/nepean/query/Keyword")) (t' := (.object "com/example/nepean/nepean/query/Lexer$Kind")) (by decide) (by decide)))).other W4 (Or.inr (slot_ne (Or.inr (hw _ (List.mem_of_getElem? (i := 60) rfl))) (Or.inr (hw _ (List.mem_of_getElem? (i := 58) rfl))) (by decide) (t := (.object "com/example/nepean/nepean/query/Keyword")) (t' := (.object "java/lang/String")) (by decide) (by decide))))
  obtain ⟨T6, h6, X6, e6, W6, st6⟩ := putF X4 hx hZ hown (host := "") (Or.inl (hw _ (List.mem_of_getElem? (i := 59) rfl))) Via.refl e4 f5 ((h_2.wr W2).wr W4) (Or.inr ⟨(hw _ (List.mem_of_getElem? (i := 60) rfl)), rfl, hnm⟩) (hw _ (List.mem_of_getElem? (i := 44) rfl)) (ty := (.object "com/example/nepean/nepean/query/Keyword")) (by decide) rfl rfl (g := (mkF m 16 #[.val (.ref a1), .val (.ref a2), .val (.ref a3), .val .null, .val (.int i4)] [.null, (.ref a1)])) rfl rfl (hb hby d8_16)
  have w6 := Fld.same W6 f5
  have O6' := O4'.wr W6 h_3
  have N6 := Fr.snoc X6 N4 h_3
  refine own_k (T' := T6) (g' := (mkF m 19 #[.val (.ref a1), .val (.ref a2), .val (.ref a3), .val .null, .val (.int i4)] [])) st6 ?_
  refine own_k (T' := T6) (g' := (mkF m 20 #[.val (.ref a1), .val (.ref a2), .val (.ref a3), .val .null, .val (.int i4)] [(.ref a1)])) (fun _ k_ => XS.aloadN X6.here hx rfl (hb hby d8_19) rfl rfl  k_) ?_
  refine own_k (T' := T6) (g' := (mkF m 22 #[.val (.ref a1), .val (.ref a2), .val (.ref a3), .val .null, .val (.int i4)] [(.int i4), (.ref a1)])) (fun _ k_ => XS.iload X6.here hx rfl (hb hby d8_20) rfl  k_) ?_
  have f7 := (((h_6.other W2 (Or.inr (slot_ne (Or.inr (hw _ (List.mem_of_getElem? (i := 62) rfl))) (Or.inr (hw _ (List.mem_of_getElem? (i := 56) rfl))) (by decide) (t := .int) (t' := (.object "com/example/nepean/nepean/query/Lexer$Kind")) (by decide) (by decide)))).other W4 (Or.inr (slot_ne (Or.inr (hw _ (List.mem_of_getElem? (i := 62) rfl))) (Or.inr (hw _ (List.mem_of_getElem? (i := 58) rfl))) (by decide) (t := .int) (t' := (.object "java/lang/String")) (by decide) (by decide)))).other W6 (Or.inr (slot_ne (Or.inr (hw _ (List.mem_of_getElem? (i := 62) rfl))) (Or.inr (hw _ (List.mem_of_getElem? (i := 60) rfl))) (by decide) (t := .int) (t' := (.object "com/example/nepean/nepean/query/Keyword")) (by decide) (by decide))))
  obtain ⟨T8, h8, X8, e8, W8, st8⟩ := putF X6 hx hZ hown (host := "") (Or.inl (hw _ (List.mem_of_getElem? (i := 61) rfl))) Via.refl e6 f7 (((h_2.wr W2).wr W4).wr W6) (Or.inr ⟨(hw _ (List.mem_of_getElem? (i := 62) rfl)), rfl, hnm⟩) (hw _ (List.mem_of_getElem? (i := 44) rfl)) (ty := .int) (by decide) rfl rfl (g := (mkF m 22 #[.val (.ref a1), .val (.ref a2), .val (.ref a3), .val .null, .val (.int i4)] [(.int i4), (.ref a1)])) rfl rfl (hb hby d8_22)
  have w8 := Fld.same W8 f7
  have O8' := O6'.wr W8 h_3
  have N8 := Fr.snoc X8 N6 h_3
  refine own_k (T' := T8) (g' := (mkF m 25 #[.val (.ref a1), .val (.ref a2), .val (.ref a3), .val .null, .val (.int i4)] [])) st8 ?_
  have kp0 : Keep h0 h0 [a1] := Keep.refl h0 [a1]
  have kp1 : Keep h0 h2 [a1] := kp0.wr W2 (Or.inl (List.mem_of_getElem? (i := 0) rfl))
  have kp2 : Keep h0 h4 [a1] := kp1.wr W4 (Or.inl (List.mem_of_getElem? (i := 0) rfl))
  have kp3 : Keep h0 h6 [a1] := kp2.wr W6 (Or.inl (List.mem_of_getElem? (i := 0) rfl))
  have kp4 : Keep h0 h8 [a1] := kp3.wr W8 (Or.inl (List.mem_of_getElem? (i := 0) rfl))
  have f9 := (((w2.other W4 (Or.inr (slot_ne (Or.inr (hw _ (List.mem_of_getElem? (i := 56) rfl))) (Or.inr (hw _ (List.mem_of_getElem? (i := 58) rfl))) (by decide) (t := (.object "com/example/nepean/nepean/query/Lexer$Kind")) (t' := (.object "java/lang/String")) (by decide) (by decide)))).other W6 (Or.inr (slot_ne (Or.inr (hw _ (List.mem_of_getElem? (i := 56) rfl))) (Or.inr (hw _ (List.mem_of_getElem? (i := 60) rfl))) (by decide) (t := (.object "com/example/nepean/nepean/query/Lexer$Kind")) (t' := (.object "com/example/nepean/nepean/query/Keyword")) (by decide) (by decide)))).other W8 (Or.inr (slot_ne (Or.inr (hw _ (List.mem_of_getElem? (i := 56) rfl))) (Or.inr (hw _ (List.mem_of_getElem? (i := 62) rfl))) (by decide) (t := (.object "com/example/nepean/nepean/query/Lexer$Kind")) (t' := .int) (by decide) (by decide))))
  have f10 := ((w4.other W6 (Or.inr (slot_ne (Or.inr (hw _ (List.mem_of_getElem? (i := 58) rfl))) (Or.inr (hw _ (List.mem_of_getElem? (i := 60) rfl))) (by decide) (t := (.object "java/lang/String")) (t' := (.object "com/example/nepean/nepean/query/Keyword")) (by decide) (by decide)))).other W8 (Or.inr (slot_ne (Or.inr (hw _ (List.mem_of_getElem? (i := 58) rfl))) (Or.inr (hw _ (List.mem_of_getElem? (i := 62) rfl))) (by decide) (t := (.object "java/lang/String")) (t' := .int) (by decide) (by decide))))
  have f11 := (w6.other W8 (Or.inr (slot_ne (Or.inr (hw _ (List.mem_of_getElem? (i := 60) rfl))) (Or.inr (hw _ (List.mem_of_getElem? (i := 62) rfl))) (by decide) (t := (.object "com/example/nepean/nepean/query/Keyword")) (t' := .int) (by decide) (by decide))))
  exact own_ret0 X8 hx hret hlk (hb hby d8_25) hF (by rw [e8]; exact ⟨rfl, N8, kp4, ((((h_2.wr W2).wr W4).wr W6).wr W8), f9, f10, f11, w8⟩) (by decide) (by decide)
theorem pd__28Lcom_2fexample_2fnepean_2fnepean_2fquery_2fKeyword_3b_29Z : parseMethodDescriptor "(Lcom/example/nepean/nepean/query/Keyword;)Z" = some ⟨[(.object "com/example/nepean/nepean/query/Keyword")], some .boolean⟩ := by decide +kernel
theorem ef_10_RR (m : MethodId) (x0 : Addr) (x1 : Addr)  : entryFrame m #[(.ref x0), (.ref x1)] 2 = mkF m 0 #[.val (.ref x0), .val (.ref x1)] [] := by first | (simp [entryFrame, mkF, argsToLocals, Value.category]; done) | rfl
theorem d10_0 : decode prog_18_method_2_code 0 = .ok (.aload_n 0, 1) := by decide +kernel
theorem d10_1 : decode prog_18_method_2_code 1 = .ok (.getfield 17, 3) := by decide +kernel
theorem d10_4 : decode prog_18_method_2_code 4 = .ok (.aload_n 1, 1) := by decide +kernel
theorem d10_5 : decode prog_18_method_2_code 5 = .ok (.if_acmp .ne 7, 3) := by decide +kernel
theorem d10_12 : decode prog_18_method_2_code 12 = .ok (.iconst 0, 1) := by decide +kernel
theorem d10_13 : decode prog_18_method_2_code 13 = .ok (.ireturn, 1) := by decide +kernel
set_option maxRecDepth 65536 in
set_option maxHeartbeats 40000000 in
theorem rm_is_7 (l : Launch) (Z : State) (a0 : Array Value) (c_Keyword_SELECT : Addr) (c_Lexer_Kind_KEYWORD : Addr) (c_Keyword_IS : Addr) (c_Keyword_AND : Addr) (c_Keyword_END : Addr) (c_Keyword_CURRENT_DATE : Addr) (c_Keyword_TYPE : Addr) (c_Keyword_NULL : Addr) (c_Lexer_Kind_WORD : Addr) (c_Keyword_IN : Addr) (c_Lexer_Kind_INTEGER : Addr) (c_Lexer_Kind_STRING : Addr) (c_Lexer_Kind_SYMBOL : Addr) (c_Lexer_Kind_END : Addr) (g_COMPACT_STRINGS : Int32) (g_SIOOBE_FORMATTER : Value) (hW : own_W Z a0 c_Keyword_SELECT c_Lexer_Kind_KEYWORD c_Keyword_IS c_Keyword_AND c_Keyword_END c_Keyword_CURRENT_DATE c_Keyword_TYPE c_Keyword_NULL c_Lexer_Kind_WORD c_Keyword_IN c_Lexer_Kind_INTEGER c_Lexer_Kind_STRING c_Lexer_Kind_SYMBOL c_Lexer_Kind_END g_COMPACT_STRINGS g_SIOOBE_FORMATTER) (a1 : Addr) (a2 : Addr) (h0 : Heap) (O0 : Old Z Z.heap.size h0) (h_1 : Fld Z h0 a1 "com/example/nepean/nepean/query/Lexer$Token" "keyword" "Lcom/example/nepean/nepean/query/Keyword;" .null) :
    own_Met l Z (⟨"com/example/nepean/nepean/query/Lexer$Token", "is", "(Lcom/example/nepean/nepean/query/Keyword;)Z"⟩ : MethodName) prog_18_method_2_code 2 (some .boolean) ({ frames := 0, cells := 0, slots := 0, locals := 0 } : Room) #[(.ref a1), (.ref a2)] h0 (fun v h L => v = some (.int (0 : Int32)) ∧ Fr Z.heap.size L ∧ h = h0) := by
  have hW_ := hW
  obtain ⟨hw, S_c_Keyword_SELECT, E_c_Keyword_SELECT, S_c_Lexer_Kind_KEYWORD, E_c_Lexer_Kind_KEYWORD, S_c_Keyword_IS, E_c_Keyword_IS, S_c_Keyword_AND, E_c_Keyword_AND, S_c_Keyword_END, E_c_Keyword_END, S_c_Keyword_CURRENT_DATE, E_c_Keyword_CURRENT_DATE, S_c_Keyword_TYPE, E_c_Keyword_TYPE, S_c_Keyword_NULL, E_c_Keyword_NULL, S_c_Lexer_Kind_WORD, E_c_Lexer_Kind_WORD, S_c_Keyword_IN, E_c_Keyword_IN, S_c_Lexer_Kind_INTEGER, E_c_Lexer_Kind_INTEGER, S_c_Lexer_Kind_STRING, E_c_Lexer_Kind_STRING, S_c_Lexer_Kind_SYMBOL, E_c_Lexer_Kind_SYMBOL, S_c_Lexer_Kind_END, E_c_Lexer_Kind_END, F_c_Keyword_SELECT_ordinal, F_c_Keyword_IS_ordinal, F_c_Keyword_END_ordinal, F_c_Keyword_CURRENT_DATE_ordinal, F_c_Keyword_TYPE_ordinal, F_c_Keyword_AND_ordinal, F_c_Keyword_NULL_ordinal, F_c_Keyword_IN_ordinal, S_g_COMPACT_STRINGS, P_g_COMPACT_STRINGS, R_g_SIOOBE_FORMATTER, S_g_SIOOBE_FORMATTER⟩ := hW_
  refine own_met (plainFor_of_name pn_com_example_nepean_nepean_query_Lexer_Token) ?_
  intro p e s m below meth cc_ s₁ Φ hF X0 hx hby hml hZ hown hnm hret hlk e0
  have N0 := Fr.nil Z.heap.size
  refine own_k (T' := s₁) (g' := (mkF m 0 #[.val (.ref a1), .val (.ref a2)] [])) (fun _ k_ => castTop (ef_10_RR m a1 a2) k_) ?_
  refine own_k (T' := s₁) (g' := (mkF m 1 #[.val (.ref a1), .val (.ref a2)] [(.ref a1)])) (fun _ k_ => XS.aloadN X0.here hx rfl (hb hby d10_0) rfl rfl  k_) ?_
  obtain ⟨T1, X1, e1, st1⟩ := getF X0 hx hZ hown (host := "") (Or.inl (hw _ (List.mem_of_getElem? (i := 59) rfl))) Via.refl e0 h_1 (g := (mkF m 1 #[.val (.ref a1), .val (.ref a2)] [(.ref a1)])) rfl rfl (hb hby d10_1)
  refine own_k (T' := T1) (g' := (mkF m 4 #[.val (.ref a1), .val (.ref a2)] [.null])) st1 ?_
  refine own_k (T' := T1) (g' := (mkF m 5 #[.val (.ref a1), .val (.ref a2)] [(.ref a2), .null])) (fun _ k_ => XS.aloadN X1.here hx rfl (hb hby d10_4) rfl rfl  k_) ?_
  refine own_k (T' := T1) (g' := (mkF m 12 #[.val (.ref a1), .val (.ref a2)] [])) (fun _ k_ => Jvm.RoadKit.acmp (g := (mkF m 5 #[.val (.ref a1), .val (.ref a2)] [(.ref a2), .null])) X1 hx rfl rfl rfl (pc0 := 5) (pc' := 12) (same := false) rfl (hb hby d10_5) rfl (decide_eq_false nofun) (by decide) (by decide) k_) ?_
  refine own_k (T' := T1) (g' := (mkF m 13 #[.val (.ref a1), .val (.ref a2)] [(.int (0 : Int32))])) (fun _ k_ => XS.iconst X1.here hx rfl (hb hby d10_12) k_) ?_
  exact own_retN X1 hx (t := .boolean) hret (by simp) hlk (hb hby d10_13) hF (by rw [e1]; exact ⟨by rw [show nar .boolean (0 : Int32) = (0 : Int32) from by decide], N0, rfl⟩) (by decide) (by decide)
theorem ef_8_RRRRI (m : MethodId) (x0 : Addr) (x1 : Addr) (x2 : Addr) (x3 : Addr) (x4 : Int32)  : entryFrame m #[(.ref x0), (.ref x1), (.ref x2), (.ref x3), (.int x4)] 5 = mkF m 0 #[.val (.ref x0), .val (.ref x1), .val (.ref x2), .val (.ref x3), .val (.int x4)] [] := by first | (simp [entryFrame, mkF, argsToLocals, Value.category]; done) | rfl
set_option maxRecDepth 65536 in
set_option maxHeartbeats 40000000 in
theorem rm_init_8 (l : Launch) (Z : State) (a0 : Array Value) (c_Keyword_SELECT : Addr) (c_Lexer_Kind_KEYWORD : Addr) (c_Keyword_IS : Addr) (c_Keyword_AND : Addr) (c_Keyword_END : Addr) (c_Keyword_CURRENT_DATE : Addr) (c_Keyword_TYPE : Addr) (c_Keyword_NULL : Addr) (c_Lexer_Kind_WORD : Addr) (c_Keyword_IN : Addr) (c_Lexer_Kind_INTEGER : Addr) (c_Lexer_Kind_STRING : Addr) (c_Lexer_Kind_SYMBOL : Addr) (c_Lexer_Kind_END : Addr) (g_COMPACT_STRINGS : Int32) (g_SIOOBE_FORMATTER : Value) (hW : own_W Z a0 c_Keyword_SELECT c_Lexer_Kind_KEYWORD c_Keyword_IS c_Keyword_AND c_Keyword_END c_Keyword_CURRENT_DATE c_Keyword_TYPE c_Keyword_NULL c_Lexer_Kind_WORD c_Keyword_IN c_Lexer_Kind_INTEGER c_Lexer_Kind_STRING c_Lexer_Kind_SYMBOL c_Lexer_Kind_END g_COMPACT_STRINGS g_SIOOBE_FORMATTER) (a1 : Addr) (a2 : Addr) (a3 : Addr) (i4 : Int32) (h0 : Heap) (O0 : Old Z Z.heap.size h0) (h_1 : Fld Z h0 a1 "com/example/nepean/nepean/query/Lexer$Token" "kind" "Lcom/example/nepean/nepean/query/Lexer$Kind;" .null) (h_2 : Exa Z h0 a1 "com/example/nepean/nepean/query/Lexer$Token") (h_3 : Z.heap.size ≤ a1) (h_4 : Fld Z h0 a1 "com/example/nepean/nepean/query/Lexer$Token" "text" "Ljava/lang/String;" .null) (h_5 : Fld Z h0 a1 "com/example/nepean/nepean/query/Lexer$Token" "keyword" "Lcom/example/nepean/nepean/query/Keyword;" .null) (h_6 : Fld Z h0 a1 "com/example/nepean/nepean/query/Lexer$Token" "position" "I" (.int (0 : Int32))) :
    own_Met l Z (⟨"com/example/nepean/nepean/query/Lexer$Token", "<init>", "(Lcom/example/nepean/nepean/query/Lexer$Kind;Ljava/lang/String;Lcom/example/nepean/nepean/query/Keyword;I)V"⟩ : MethodName) prog_18_method_1_code 5 none ({ frames := 2, cells := 0, slots := 0, locals := 24 } : Room) #[(.ref a1), (.ref c_Lexer_Kind_KEYWORD), (.ref a2), (.ref a3), (.int i4)] h0 (fun v h L => v = none ∧ Fr Z.heap.size L ∧ Keep h0 h [a1] ∧ Exa Z h a1 "com/example/nepean/nepean/query/Lexer$Token" ∧ Fld Z h a1 "com/example/nepean/nepean/query/Lexer$Token" "kind" "Lcom/example/nepean/nepean/query/Lexer$Kind;" (.ref c_Lexer_Kind_KEYWORD) ∧ Fld Z h a1 "com/example/nepean/nepean/query/Lexer$Token" "text" "Ljava/lang/String;" (.ref a2) ∧ Fld Z h a1 "com/example/nepean/nepean/query/Lexer$Token" "keyword" "Lcom/example/nepean/nepean/query/Keyword;" (.ref a3) ∧ Fld Z h a1 "com/example/nepean/nepean/query/Lexer$Token" "position" "I" (.int i4)) := by
  have hW_ := hW
  obtain ⟨hw, S_c_Keyword_SELECT, E_c_Keyword_SELECT, S_c_Lexer_Kind_KEYWORD, E_c_Lexer_Kind_KEYWORD, S_c_Keyword_IS, E_c_Keyword_IS, S_c_Keyword_AND, E_c_Keyword_AND, S_c_Keyword_END, E_c_Keyword_END, S_c_Keyword_CURRENT_DATE, E_c_Keyword_CURRENT_DATE, S_c_Keyword_TYPE, E_c_Keyword_TYPE, S_c_Keyword_NULL, E_c_Keyword_NULL, S_c_Lexer_Kind_WORD, E_c_Lexer_Kind_WORD, S_c_Keyword_IN, E_c_Keyword_IN, S_c_Lexer_Kind_INTEGER, E_c_Lexer_Kind_INTEGER, S_c_Lexer_Kind_STRING, E_c_Lexer_Kind_STRING, S_c_Lexer_Kind_SYMBOL, E_c_Lexer_Kind_SYMBOL, S_c_Lexer_Kind_END, E_c_Lexer_Kind_END, F_c_Keyword_SELECT_ordinal, F_c_Keyword_IS_ordinal, F_c_Keyword_END_ordinal, F_c_Keyword_CURRENT_DATE_ordinal, F_c_Keyword_TYPE_ordinal, F_c_Keyword_AND_ordinal, F_c_Keyword_NULL_ordinal, F_c_Keyword_IN_ordinal, S_g_COMPACT_STRINGS, P_g_COMPACT_STRINGS, R_g_SIOOBE_FORMATTER, S_g_SIOOBE_FORMATTER⟩ := hW_
  refine own_met (plainFor_of_name pn_com_example_nepean_nepean_query_Lexer_Token) ?_
  intro p e s m below meth cc_ s₁ Φ hF X0 hx hby hml hZ hown hnm hret hlk e0
  have N0 := Fr.nil Z.heap.size
  refine own_k (T' := s₁) (g' := (mkF m 0 #[.val (.ref a1), .val (.ref c_Lexer_Kind_KEYWORD), .val (.ref a2), .val (.ref a3), .val (.int i4)] [])) (fun _ k_ => castTop (ef_8_RRRRI m a1 c_Lexer_Kind_KEYWORD a2 a3 i4) k_) ?_
  refine own_k (T' := s₁) (g' := (mkF m 1 #[.val (.ref a1), .val (.ref c_Lexer_Kind_KEYWORD), .val (.ref a2), .val (.ref a3), .val (.int i4)] [(.ref a1)])) (fun _ k_ => XS.aloadN X0.here hx rfl (hb hby d8_0) rfl rfl  k_) ?_
  refine own_callN X0 hx hZ (y := (⟨"java/lang/Record", "<init>", "()V"⟩ : MethodName)) rfl hown (hw _ (List.mem_of_getElem? (i := 49) rfl)) (hw _ (List.mem_of_getElem? (i := 50) rfl)) (hw _ (List.mem_of_getElem? (i := 53) rfl)) (hw _ (List.mem_of_getElem? (i := 52) rfl)) (by decide) (al := []) (b := a1) (rm_init_5 l Z a0 c_Keyword_SELECT c_Lexer_Kind_KEYWORD c_Keyword_IS c_Keyword_AND c_Keyword_END c_Keyword_CURRENT_DATE c_Keyword_TYPE c_Keyword_NULL c_Lexer_Kind_WORD c_Keyword_IN c_Lexer_Kind_INTEGER c_Lexer_Kind_STRING c_Lexer_Kind_SYMBOL c_Lexer_Kind_END g_COMPACT_STRINGS g_SIOOBE_FORMATTER hW a1 h0 O0) 0 (by decide) (by decide) e0 (by decide) (by decide) (by rw [hml]; rfl) (lenOf pd__28_29V rfl) rfl (rest := []) (by show 2 * 0 + _ ≤ _; exact Nat.le_of_eq rfl) (hb hby d8_1) ?_
  intro v1 T1 L1 X1 hQ1
  obtain ⟨rfl, Nq1, e1⟩ := hQ1
  have N1 := Fr.app N0 Nq1
  show own_Go p e below Φ T1 (mkF m 4 #[.val (.ref a1), .val (.ref c_Lexer_Kind_KEYWORD), .val (.ref a2), .val (.ref a3), .val (.int i4)] [])
  refine own_k (T' := T1) (g' := (mkF m 5 #[.val (.ref a1), .val (.ref c_Lexer_Kind_KEYWORD), .val (.ref a2), .val (.ref a3), .val (.int i4)] [(.ref a1)])) (fun _ k_ => XS.aloadN X1.here hx rfl (hb hby d8_4) rfl rfl  k_) ?_
  refine own_k (T' := T1) (g' := (mkF m 6 #[.val (.ref a1), .val (.ref c_Lexer_Kind_KEYWORD), .val (.ref a2), .val (.ref a3), .val (.int i4)] [(.ref c_Lexer_Kind_KEYWORD), (.ref a1)])) (fun _ k_ => XS.aloadN X1.here hx rfl (hb hby d8_5) rfl rfl  k_) ?_
  obtain ⟨T2, h2, X2, e2, W2, st2⟩ := putF X1 hx hZ hown (host := "") (Or.inl (hw _ (List.mem_of_getElem? (i := 55) rfl))) Via.refl e1 h_1 h_2 (Or.inr ⟨(hw _ (List.mem_of_getElem? (i := 56) rfl)), rfl, hnm⟩) (hw _ (List.mem_of_getElem? (i := 44) rfl)) (ty := (.object "com/example/nepean/nepean/query/Lexer$Kind")) (by decide) rfl rfl (g := (mkF m 6 #[.val (.ref a1), .val (.ref c_Lexer_Kind_KEYWORD), .val (.ref a2), .val (.ref a3), .val (.int i4)] [(.ref c_Lexer_Kind_KEYWORD), (.ref a1)])) rfl rfl (hb hby d8_6)
  have w2 := Fld.same W2 h_1
  have O2' := O0.wr W2 h_3
  have N2 := Fr.snoc X2 N1 h_3
  refine own_k (T' := T2) (g' := (mkF m 9 #[.val (.ref a1), .val (.ref c_Lexer_Kind_KEYWORD), .val (.ref a2), .val (.ref a3), .val (.int i4)] [])) st2 ?_
  refine own_k (T' := T2) (g' := (mkF m 10 #[.val (.ref a1), .val (.ref c_Lexer_Kind_KEYWORD), .val (.ref a2), .val (.ref a3), .val (.int i4)] [(.ref a1)])) (fun _ k_ => XS.aloadN X2.here hx rfl (hb hby d8_9) rfl rfl  k_) ?_
  refine own_k (T' := T2) (g' := (mkF m 11 #[.val (.ref a1), .val (.ref c_Lexer_Kind_KEYWORD), .val (.ref a2), .val (.ref a3), .val (.int i4)] [(.ref a2), (.ref a1)])) (fun _ k_ => XS.aloadN X2.here hx rfl (hb hby d8_10) rfl rfl  k_) ?_
  have f3 := (h_4.other W2 (Or.inr (slot_ne (Or.inr (hw _ (List.mem_of_getElem? (i := 58) rfl))) (Or.inr (hw _ (List.mem_of_getElem? (i := 56) rfl))) (by decide) (t := (.object "java/lang/String")) (t' := (.object "com/example/nepean/nepean/query/Lexer$Kind")) (by decide) (by decide))))
  obtain ⟨T4, h4, X4, e4, W4, st4⟩ := putF X2 hx hZ hown (host := "") (Or.inl (hw _ (List.mem_of_getElem? (i := 57) rfl))) Via.refl e2 f3 (h_2.wr W2) (Or.inr ⟨(hw _ (List.mem_of_getElem? (i := 58) rfl)), rfl, hnm⟩) (hw _ (List.mem_of_getElem? (i := 44) rfl)) (ty := (.object "java/lang/String")) (by decide) rfl rfl (g := (mkF m 11 #[.val (.ref a1), .val (.ref c_Lexer_Kind_KEYWORD), .val (.ref a2), .val (.ref a3), .val (.int i4)] [(.ref a2), (.ref a1)])) rfl rfl (hb hby d8_11)
  have w4 := Fld.same W4 f3
  have O4' := O2'.wr W4 h_3
  have N4 := Fr.snoc X4 N2 h_3
  refine own_k (T' := T4) (g' := (mkF m 14 #[.val (.ref a1), .val (.ref c_Lexer_Kind_KEYWORD), .val (.ref a2), .val (.ref a3), .val (.int i4)] [])) st4 ?_
  refine own_k (T' := T4) (g' := (mkF m 15 #[.val (.ref a1), .val (.ref c_Lexer_Kind_KEYWORD), .val (.ref a2), .val (.ref a3), .val (.int i4)] [(.ref a1)])) (fun _ k_ => XS.aloadN X4.here hx rfl (hb hby d8_14) rfl rfl  k_) ?_
  refine own_k (T' := T4) (g' := (mkF m 16 #[.val (.ref a1), .val (.ref c_Lexer_Kind_KEYWORD), .val (.ref a2), .val (.ref a3), .val (.int i4)] [(.ref a3), (.ref a1)])) (fun _ k_ => XS.aloadN X4.here hx rfl (hb hby d8_15) rfl rfl  k_) ?_
  have f5 := ((h_5.other W2 (Or.inr (slot_ne (Or.inr (hw _ (List.mem_of_getElem? (i := 60) rfl))) (Or.inr (hw _ (List.mem_of_getElem? (i := 56) rfl))) (by decide) (t := (.object "com/example/nepean/nepean/query/Keyword")) (t' := (.object "com/example/nepean/nepean/query/Lexer$Kind")) (by decide) (by decide)))).other W4 (Or.inr (slot_ne (Or.inr (hw _ (List.mem_of_getElem? (i := 60) rfl))) (Or.inr (hw _ (List.mem_of_getElem? (i := 58) rfl))) (by decide) (t := (.object "com/example/nepean/nepean/query/Keyword")) (t' := (.object "java/lang/String")) (by decide) (by decide))))
  obtain ⟨T6, h6, X6, e6, W6, st6⟩ := putF X4 hx hZ hown (host := "") (Or.inl (hw _ (List.mem_of_getElem? (i := 59) rfl))) Via.refl e4 f5 ((h_2.wr W2).wr W4) (Or.inr ⟨(hw _ (List.mem_of_getElem? (i := 60) rfl)), rfl, hnm⟩) (hw _ (List.mem_of_getElem? (i := 44) rfl)) (ty := (.object "com/example/nepean/nepean/query/Keyword")) (by decide) rfl rfl (g := (mkF m 16 #[.val (.ref a1), .val (.ref c_Lexer_Kind_KEYWORD), .val (.ref a2), .val (.ref a3), .val (.int i4)] [(.ref a3), (.ref a1)])) rfl rfl (hb hby d8_16)
  have w6 := Fld.same W6 f5
  have O6' := O4'.wr W6 h_3
  have N6 := Fr.snoc X6 N4 h_3
  refine own_k (T' := T6) (g' := (mkF m 19 #[.val (.ref a1), .val (.ref c_Lexer_Kind_KEYWORD), .val (.ref a2), .val (.ref a3), .val (.int i4)] [])) st6 ?_
  refine own_k (T' := T6) (g' := (mkF m 20 #[.val (.ref a1), .val (.ref c_Lexer_Kind_KEYWORD), .val (.ref a2), .val (.ref a3), .val (.int i4)] [(.ref a1)])) (fun _ k_ => XS.aloadN X6.here hx rfl (hb hby d8_19) rfl rfl  k_) ?_
  refine own_k (T' := T6) (g' := (mkF m 22 #[.val (.ref a1), .val (.ref c_Lexer_Kind_KEYWORD), .val (.ref a2), .val (.ref a3), .val (.int i4)] [(.int i4), (.ref a1)])) (fun _ k_ => XS.iload X6.here hx rfl (hb hby d8_20) rfl  k_) ?_
  have f7 := (((h_6.other W2 (Or.inr (slot_ne (Or.inr (hw _ (List.mem_of_getElem? (i := 62) rfl))) (Or.inr (hw _ (List.mem_of_getElem? (i := 56) rfl))) (by decide) (t := .int) (t' := (.object "com/example/nepean/nepean/query/Lexer$Kind")) (by decide) (by decide)))).other W4 (Or.inr (slot_ne (Or.inr (hw _ (List.mem_of_getElem? (i := 62) rfl))) (Or.inr (hw _ (List.mem_of_getElem? (i := 58) rfl))) (by decide) (t := .int) (t' := (.object "java/lang/String")) (by decide) (by decide)))).other W6 (Or.inr (slot_ne (Or.inr (hw _ (List.mem_of_getElem? (i := 62) rfl))) (Or.inr (hw _ (List.mem_of_getElem? (i := 60) rfl))) (by decide) (t := .int) (t' := (.object "com/example/nepean/nepean/query/Keyword")) (by decide) (by decide))))
  obtain ⟨T8, h8, X8, e8, W8, st8⟩ := putF X6 hx hZ hown (host := "") (Or.inl (hw _ (List.mem_of_getElem? (i := 61) rfl))) Via.refl e6 f7 (((h_2.wr W2).wr W4).wr W6) (Or.inr ⟨(hw _ (List.mem_of_getElem? (i := 62) rfl)), rfl, hnm⟩) (hw _ (List.mem_of_getElem? (i := 44) rfl)) (ty := .int) (by decide) rfl rfl (g := (mkF m 22 #[.val (.ref a1), .val (.ref c_Lexer_Kind_KEYWORD), .val (.ref a2), .val (.ref a3), .val (.int i4)] [(.int i4), (.ref a1)])) rfl rfl (hb hby d8_22)
  have w8 := Fld.same W8 f7
  have O8' := O6'.wr W8 h_3
  have N8 := Fr.snoc X8 N6 h_3
  refine own_k (T' := T8) (g' := (mkF m 25 #[.val (.ref a1), .val (.ref c_Lexer_Kind_KEYWORD), .val (.ref a2), .val (.ref a3), .val (.int i4)] [])) st8 ?_
  have kp0 : Keep h0 h0 [a1] := Keep.refl h0 [a1]
  have kp1 : Keep h0 h2 [a1] := kp0.wr W2 (Or.inl (List.mem_of_getElem? (i := 0) rfl))
  have kp2 : Keep h0 h4 [a1] := kp1.wr W4 (Or.inl (List.mem_of_getElem? (i := 0) rfl))
  have kp3 : Keep h0 h6 [a1] := kp2.wr W6 (Or.inl (List.mem_of_getElem? (i := 0) rfl))
  have kp4 : Keep h0 h8 [a1] := kp3.wr W8 (Or.inl (List.mem_of_getElem? (i := 0) rfl))
  have f9 := (((w2.other W4 (Or.inr (slot_ne (Or.inr (hw _ (List.mem_of_getElem? (i := 56) rfl))) (Or.inr (hw _ (List.mem_of_getElem? (i := 58) rfl))) (by decide) (t := (.object "com/example/nepean/nepean/query/Lexer$Kind")) (t' := (.object "java/lang/String")) (by decide) (by decide)))).other W6 (Or.inr (slot_ne (Or.inr (hw _ (List.mem_of_getElem? (i := 56) rfl))) (Or.inr (hw _ (List.mem_of_getElem? (i := 60) rfl))) (by decide) (t := (.object "com/example/nepean/nepean/query/Lexer$Kind")) (t' := (.object "com/example/nepean/nepean/query/Keyword")) (by decide) (by decide)))).other W8 (Or.inr (slot_ne (Or.inr (hw _ (List.mem_of_getElem? (i := 56) rfl))) (Or.inr (hw _ (List.mem_of_getElem? (i := 62) rfl))) (by decide) (t := (.object "com/example/nepean/nepean/query/Lexer$Kind")) (t' := .int) (by decide) (by decide))))
  have f10 := ((w4.other W6 (Or.inr (slot_ne (Or.inr (hw _ (List.mem_of_getElem? (i := 58) rfl))) (Or.inr (hw _ (List.mem_of_getElem? (i := 60) rfl))) (by decide) (t := (.object "java/lang/String")) (t' := (.object "com/example/nepean/nepean/query/Keyword")) (by decide) (by decide)))).other W8 (Or.inr (slot_ne (Or.inr (hw _ (List.mem_of_getElem? (i := 58) rfl))) (Or.inr (hw _ (List.mem_of_getElem? (i := 62) rfl))) (by decide) (t := (.object "java/lang/String")) (t' := .int) (by decide) (by decide))))
  have f11 := (w6.other W8 (Or.inr (slot_ne (Or.inr (hw _ (List.mem_of_getElem? (i := 60) rfl))) (Or.inr (hw _ (List.mem_of_getElem? (i := 62) rfl))) (by decide) (t := (.object "com/example/nepean/nepean/query/Keyword")) (t' := .int) (by decide) (by decide))))
  exact own_ret0 X8 hx hret hlk (hb hby d8_25) hF (by rw [e8]; exact ⟨rfl, N8, kp4, ((((h_2.wr W2).wr W4).wr W6).wr W8), f9, f10, f11, w8⟩) (by decide) (by decide)
theorem d10_8 : decode prog_18_method_2_code 8 = .ok (.iconst 1, 1) := by decide +kernel
theorem d10_9 : decode prog_18_method_2_code 9 = .ok (.goto 4, 3) := by decide +kernel
set_option maxRecDepth 65536 in
set_option maxHeartbeats 40000000 in
theorem rm_is_9 (l : Launch) (Z : State) (a0 : Array Value) (c_Keyword_SELECT : Addr) (c_Lexer_Kind_KEYWORD : Addr) (c_Keyword_IS : Addr) (c_Keyword_AND : Addr) (c_Keyword_END : Addr) (c_Keyword_CURRENT_DATE : Addr) (c_Keyword_TYPE : Addr) (c_Keyword_NULL : Addr) (c_Lexer_Kind_WORD : Addr) (c_Keyword_IN : Addr) (c_Lexer_Kind_INTEGER : Addr) (c_Lexer_Kind_STRING : Addr) (c_Lexer_Kind_SYMBOL : Addr) (c_Lexer_Kind_END : Addr) (g_COMPACT_STRINGS : Int32) (g_SIOOBE_FORMATTER : Value) (hW : own_W Z a0 c_Keyword_SELECT c_Lexer_Kind_KEYWORD c_Keyword_IS c_Keyword_AND c_Keyword_END c_Keyword_CURRENT_DATE c_Keyword_TYPE c_Keyword_NULL c_Lexer_Kind_WORD c_Keyword_IN c_Lexer_Kind_INTEGER c_Lexer_Kind_STRING c_Lexer_Kind_SYMBOL c_Lexer_Kind_END g_COMPACT_STRINGS g_SIOOBE_FORMATTER) (a1 : Addr) (a2 : Addr) (a3 : Addr) (h0 : Heap) (O0 : Old Z Z.heap.size h0) (h_1 : Fld Z h0 a1 "com/example/nepean/nepean/query/Lexer$Token" "keyword" "Lcom/example/nepean/nepean/query/Keyword;" (.ref a3)) (h_2 : (a3 = a2)) :
    own_Met l Z (⟨"com/example/nepean/nepean/query/Lexer$Token", "is", "(Lcom/example/nepean/nepean/query/Keyword;)Z"⟩ : MethodName) prog_18_method_2_code 2 (some .boolean) ({ frames := 0, cells := 0, slots := 0, locals := 0 } : Room) #[(.ref a1), (.ref a2)] h0 (fun v h L => v = some (.int (1 : Int32)) ∧ Fr Z.heap.size L ∧ h = h0) := by
  have hW_ := hW
  obtain ⟨hw, S_c_Keyword_SELECT, E_c_Keyword_SELECT, S_c_Lexer_Kind_KEYWORD, E_c_Lexer_Kind_KEYWORD, S_c_Keyword_IS, E_c_Keyword_IS, S_c_Keyword_AND, E_c_Keyword_AND, S_c_Keyword_END, E_c_Keyword_END, S_c_Keyword_CURRENT_DATE, E_c_Keyword_CURRENT_DATE, S_c_Keyword_TYPE, E_c_Keyword_TYPE, S_c_Keyword_NULL, E_c_Keyword_NULL, S_c_Lexer_Kind_WORD, E_c_Lexer_Kind_WORD, S_c_Keyword_IN, E_c_Keyword_IN, S_c_Lexer_Kind_INTEGER, E_c_Lexer_Kind_INTEGER, S_c_Lexer_Kind_STRING, E_c_Lexer_Kind_STRING, S_c_Lexer_Kind_SYMBOL, E_c_Lexer_Kind_SYMBOL, S_c_Lexer_Kind_END, E_c_Lexer_Kind_END, F_c_Keyword_SELECT_ordinal, F_c_Keyword_IS_ordinal, F_c_Keyword_END_ordinal, F_c_Keyword_CURRENT_DATE_ordinal, F_c_Keyword_TYPE_ordinal, F_c_Keyword_AND_ordinal, F_c_Keyword_NULL_ordinal, F_c_Keyword_IN_ordinal, S_g_COMPACT_STRINGS, P_g_COMPACT_STRINGS, R_g_SIOOBE_FORMATTER, S_g_SIOOBE_FORMATTER⟩ := hW_
  refine own_met (plainFor_of_name pn_com_example_nepean_nepean_query_Lexer_Token) ?_
  intro p e s m below meth cc_ s₁ Φ hF X0 hx hby hml hZ hown hnm hret hlk e0
  have N0 := Fr.nil Z.heap.size
  refine own_k (T' := s₁) (g' := (mkF m 0 #[.val (.ref a1), .val (.ref a2)] [])) (fun _ k_ => castTop (ef_10_RR m a1 a2) k_) ?_
  refine own_k (T' := s₁) (g' := (mkF m 1 #[.val (.ref a1), .val (.ref a2)] [(.ref a1)])) (fun _ k_ => XS.aloadN X0.here hx rfl (hb hby d10_0) rfl rfl  k_) ?_
  obtain ⟨T1, X1, e1, st1⟩ := getF X0 hx hZ hown (host := "") (Or.inl (hw _ (List.mem_of_getElem? (i := 59) rfl))) Via.refl e0 h_1 (g := (mkF m 1 #[.val (.ref a1), .val (.ref a2)] [(.ref a1)])) rfl rfl (hb hby d10_1)
  refine own_k (T' := T1) (g' := (mkF m 4 #[.val (.ref a1), .val (.ref a2)] [(.ref a3)])) st1 ?_
  refine own_k (T' := T1) (g' := (mkF m 5 #[.val (.ref a1), .val (.ref a2)] [(.ref a2), (.ref a3)])) (fun _ k_ => XS.aloadN X1.here hx rfl (hb hby d10_4) rfl rfl  k_) ?_
  refine own_k (T' := T1) (g' := (mkF m 8 #[.val (.ref a1), .val (.ref a2)] [])) (fun _ k_ => Jvm.RoadKit.acmp (g := (mkF m 5 #[.val (.ref a1), .val (.ref a2)] [(.ref a2), (.ref a3)])) X1 hx rfl rfl rfl (pc0 := 5) (pc' := 8) (same := true) rfl (hb hby d10_5) rfl (decide_eq_true (congrArg Value.ref h_2)) (by decide) (by decide) k_) ?_
  refine own_k (T' := T1) (g' := (mkF m 9 #[.val (.ref a1), .val (.ref a2)] [(.int (1 : Int32))])) (fun _ k_ => XS.iconst X1.here hx rfl (hb hby d10_8) k_) ?_
  refine own_k (T' := T1) (g' := (mkF m 13 #[.val (.ref a1), .val (.ref a2)] [(.int (1 : Int32))])) (fun _ k_ => XS.goto X1.here hx rfl (pc0 := 9) (pc' := 13) rfl (hb hby d10_9) (by decide) (by decide) k_) ?_
  exact own_retN X1 hx (t := .boolean) hret (by simp) hlk (hb hby d10_13) hF (by rw [e1]; exact ⟨by rw [show nar .boolean (1 : Int32) = (1 : Int32) from by decide], N0, rfl⟩) (by decide) (by decide)
set_option maxRecDepth 65536 in
set_option maxHeartbeats 40000000 in
theorem rm_is_10 (l : Launch) (Z : State) (a0 : Array Value) (c_Keyword_SELECT : Addr) (c_Lexer_Kind_KEYWORD : Addr) (c_Keyword_IS : Addr) (c_Keyword_AND : Addr) (c_Keyword_END : Addr) (c_Keyword_CURRENT_DATE : Addr) (c_Keyword_TYPE : Addr) (c_Keyword_NULL : Addr) (c_Lexer_Kind_WORD : Addr) (c_Keyword_IN : Addr) (c_Lexer_Kind_INTEGER : Addr) (c_Lexer_Kind_STRING : Addr) (c_Lexer_Kind_SYMBOL : Addr) (c_Lexer_Kind_END : Addr) (g_COMPACT_STRINGS : Int32) (g_SIOOBE_FORMATTER : Value) (hW : own_W Z a0 c_Keyword_SELECT c_Lexer_Kind_KEYWORD c_Keyword_IS c_Keyword_AND c_Keyword_END c_Keyword_CURRENT_DATE c_Keyword_TYPE c_Keyword_NULL c_Lexer_Kind_WORD c_Keyword_IN c_Lexer_Kind_INTEGER c_Lexer_Kind_STRING c_Lexer_Kind_SYMBOL c_Lexer_Kind_END g_COMPACT_STRINGS g_SIOOBE_FORMATTER) (a1 : Addr) (a2 : Addr) (a3 : Addr) (h0 : Heap) (O0 : Old Z Z.heap.size h0) (h_1 : Fld Z h0 a1 "com/example/nepean/nepean/query/Lexer$Token" "keyword" "Lcom/example/nepean/nepean/query/Keyword;" (.ref a3)) (h_2 : ¬ (a3 = a2)) :
    own_Met l Z (⟨"com/example/nepean/nepean/query/Lexer$Token", "is", "(Lcom/example/nepean/nepean/query/Keyword;)Z"⟩ : MethodName) prog_18_method_2_code 2 (some .boolean) ({ frames := 0, cells := 0, slots := 0, locals := 0 } : Room) #[(.ref a1), (.ref a2)] h0 (fun v h L => v = some (.int (0 : Int32)) ∧ Fr Z.heap.size L ∧ h = h0) := by
  have hW_ := hW
  obtain ⟨hw, S_c_Keyword_SELECT, E_c_Keyword_SELECT, S_c_Lexer_Kind_KEYWORD, E_c_Lexer_Kind_KEYWORD, S_c_Keyword_IS, E_c_Keyword_IS, S_c_Keyword_AND, E_c_Keyword_AND, S_c_Keyword_END, E_c_Keyword_END, S_c_Keyword_CURRENT_DATE, E_c_Keyword_CURRENT_DATE, S_c_Keyword_TYPE, E_c_Keyword_TYPE, S_c_Keyword_NULL, E_c_Keyword_NULL, S_c_Lexer_Kind_WORD, E_c_Lexer_Kind_WORD, S_c_Keyword_IN, E_c_Keyword_IN, S_c_Lexer_Kind_INTEGER, E_c_Lexer_Kind_INTEGER, S_c_Lexer_Kind_STRING, E_c_Lexer_Kind_STRING, S_c_Lexer_Kind_SYMBOL, E_c_Lexer_Kind_SYMBOL, S_c_Lexer_Kind_END, E_c_Lexer_Kind_END, F_c_Keyword_SELECT_ordinal, F_c_Keyword_IS_ordinal, F_c_Keyword_END_ordinal, F_c_Keyword_CURRENT_DATE_ordinal, F_c_Keyword_TYPE_ordinal, F_c_Keyword_AND_ordinal, F_c_Keyword_NULL_ordinal, F_c_Keyword_IN_ordinal, S_g_COMPACT_STRINGS, P_g_COMPACT_STRINGS, R_g_SIOOBE_FORMATTER, S_g_SIOOBE_FORMATTER⟩ := hW_
  refine own_met (plainFor_of_name pn_com_example_nepean_nepean_query_Lexer_Token) ?_
  intro p e s m below meth cc_ s₁ Φ hF X0 hx hby hml hZ hown hnm hret hlk e0
  have N0 := Fr.nil Z.heap.size
  refine own_k (T' := s₁) (g' := (mkF m 0 #[.val (.ref a1), .val (.ref a2)] [])) (fun _ k_ => castTop (ef_10_RR m a1 a2) k_) ?_
  refine own_k (T' := s₁) (g' := (mkF m 1 #[.val (.ref a1), .val (.ref a2)] [(.ref a1)])) (fun _ k_ => XS.aloadN X0.here hx rfl (hb hby d10_0) rfl rfl  k_) ?_
  obtain ⟨T1, X1, e1, st1⟩ := getF X0 hx hZ hown (host := "") (Or.inl (hw _ (List.mem_of_getElem? (i := 59) rfl))) Via.refl e0 h_1 (g := (mkF m 1 #[.val (.ref a1), .val (.ref a2)] [(.ref a1)])) rfl rfl (hb hby d10_1)
  refine own_k (T' := T1) (g' := (mkF m 4 #[.val (.ref a1), .val (.ref a2)] [(.ref a3)])) st1 ?_
  refine own_k (T' := T1) (g' := (mkF m 5 #[.val (.ref a1), .val (.ref a2)] [(.ref a2), (.ref a3)])) (fun _ k_ => XS.aloadN X1.here hx rfl (hb hby d10_4) rfl rfl  k_) ?_
  refine own_k (T' := T1) (g' := (mkF m 12 #[.val (.ref a1), .val (.ref a2)] [])) (fun _ k_ => Jvm.RoadKit.acmp (g := (mkF m 5 #[.val (.ref a1), .val (.ref a2)] [(.ref a2), (.ref a3)])) X1 hx rfl rfl rfl (pc0 := 5) (pc' := 12) (same := false) rfl (hb hby d10_5) rfl (decide_eq_false fun q => h_2 (Value.ref.inj q)) (by decide) (by decide) k_) ?_
  refine own_k (T' := T1) (g' := (mkF m 13 #[.val (.ref a1), .val (.ref a2)] [(.int (0 : Int32))])) (fun _ k_ => XS.iconst X1.here hx rfl (hb hby d10_12) k_) ?_
  exact own_retN X1 hx (t := .boolean) hret (by simp) hlk (hb hby d10_13) hF (by rw [e1]; exact ⟨by rw [show nar .boolean (0 : Int32) = (0 : Int32) from by decide], N0, rfl⟩) (by decide) (by decide)
set_option maxRecDepth 65536 in
set_option maxHeartbeats 40000000 in
theorem own_law (l : Launch) (Z : State) (a0 : Array Value) (c_Keyword_SELECT : Addr) (c_Lexer_Kind_KEYWORD : Addr) (c_Keyword_IS : Addr) (c_Keyword_AND : Addr) (c_Keyword_END : Addr) (c_Keyword_CURRENT_DATE : Addr) (c_Keyword_TYPE : Addr) (c_Keyword_NULL : Addr) (c_Lexer_Kind_WORD : Addr) (c_Keyword_IN : Addr) (c_Lexer_Kind_INTEGER : Addr) (c_Lexer_Kind_STRING : Addr) (c_Lexer_Kind_SYMBOL : Addr) (c_Lexer_Kind_END : Addr) (g_COMPACT_STRINGS : Int32) (g_SIOOBE_FORMATTER : Value) (hW : own_W Z a0 c_Keyword_SELECT c_Lexer_Kind_KEYWORD c_Keyword_IS c_Keyword_AND c_Keyword_END c_Keyword_CURRENT_DATE c_Keyword_TYPE c_Keyword_NULL c_Lexer_Kind_WORD c_Keyword_IN c_Lexer_Kind_INTEGER c_Lexer_Kind_STRING c_Lexer_Kind_SYMBOL c_Lexer_Kind_END g_COMPACT_STRINGS g_SIOOBE_FORMATTER) (p0 : Int32) (p1 : Int32) (p2 : Int32) (p3 : Int32) (h0 : Heap) (O0 : Old Z Z.heap.size h0)  :
    own_Met l Z x code maxLocals ret room_1 #[(.int p0), (.int p1), (.int p2), (.int p3)] h0 (fun v h L => v = some (.int (1 : Int32)) ∧ Fr Z.heap.size L ∧ True) := by
  have hW_ := hW
  obtain ⟨hw, S_c_Keyword_SELECT, E_c_Keyword_SELECT, S_c_Lexer_Kind_KEYWORD, E_c_Lexer_Kind_KEYWORD, S_c_Keyword_IS, E_c_Keyword_IS, S_c_Keyword_AND, E_c_Keyword_AND, S_c_Keyword_END, E_c_Keyword_END, S_c_Keyword_CURRENT_DATE, E_c_Keyword_CURRENT_DATE, S_c_Keyword_TYPE, E_c_Keyword_TYPE, S_c_Keyword_NULL, E_c_Keyword_NULL, S_c_Lexer_Kind_WORD, E_c_Lexer_Kind_WORD, S_c_Keyword_IN, E_c_Keyword_IN, S_c_Lexer_Kind_INTEGER, E_c_Lexer_Kind_INTEGER, S_c_Lexer_Kind_STRING, E_c_Lexer_Kind_STRING, S_c_Lexer_Kind_SYMBOL, E_c_Lexer_Kind_SYMBOL, S_c_Lexer_Kind_END, E_c_Lexer_Kind_END, F_c_Keyword_SELECT_ordinal, F_c_Keyword_IS_ordinal, F_c_Keyword_END_ordinal, F_c_Keyword_CURRENT_DATE_ordinal, F_c_Keyword_TYPE_ordinal, F_c_Keyword_AND_ordinal, F_c_Keyword_NULL_ordinal, F_c_Keyword_IN_ordinal, S_g_COMPACT_STRINGS, P_g_COMPACT_STRINGS, R_g_SIOOBE_FORMATTER, S_g_SIOOBE_FORMATTER⟩ := hW_
  refine own_met (plainFor_of_name pn_com_example_nepean_nepean_query_TokenIsPinLaw) ?_
  intro p e s m below meth cc_ s₁ Φ hF X0 hx hby hml hZ hown hnm hret hlk e0
  have N0 := Fr.nil Z.heap.size
  refine own_k (T' := s₁) (g' := (mkF m 0 #[.val (.int p0), .val (.int p1), .val (.int p2), .val (.int p3), .unset, .unset, .unset, .unset, .unset, .unset, .unset, .unset, .unset] [])) (fun _ k_ => castTop (ef_0_IIII m p0 p1 p2 p3) k_) ?_
  refine own_k (T' := s₁) (g' := (mkF m 1 #[.val (.int p0), .val (.int p1), .val (.int p2), .val (.int p3), .unset, .unset, .unset, .unset, .unset, .unset, .unset, .unset, .unset] [(.int p0)])) (fun _ k_ => XS.iloadN X0.here hx rfl (hb hby at_0) rfl  k_) ?_
  refine own_k (T' := s₁) (g' := (mkF m 3 #[.val (.int p0), .val (.int p1), .val (.int p2), .val (.int p3), .unset, .unset, .unset, .unset, .unset, .unset, .unset, .unset, .unset] [(.int (2147483647 : Int32)), (.int p0)])) (X0.ldcInt hx hown (mvT hZ (hw _ (List.mem_of_getElem? (i := 0) rfl))) (g := (mkF m 1 #[.val (.int p0), .val (.int p1), .val (.int p2), .val (.int p3), .unset, .unset, .unset, .unset, .unset, .unset, .unset, .unset, .unset] [(.int p0)])) rfl (hb hby at_1)) ?_
  refine own_k (T' := s₁) (g' := (mkF m 4 #[.val (.int p0), .val (.int p1), .val (.int p2), .val (.int p3), .unset, .unset, .unset, .unset, .unset, .unset, .unset, .unset, .unset] [(.int (p0 &&& (2147483647 : Int32)))])) (fun _ k_ => XS.iand X0.here hx rfl (hb hby at_3) rfl k_) ?_
  refine own_k (T' := s₁) (g' := (mkF m 6 #[.val (.int p0), .val (.int p1), .val (.int p2), .val (.int p3), .unset, .unset, .unset, .unset, .unset, .unset, .unset, .unset, .unset] [(.int (9 : Int32)), (.int (p0 &&& (2147483647 : Int32)))])) (fun _ k_ => XS.bipush X0.here hx rfl (hb hby at_4) k_) ?_
  refine own_k (T' := s₁) (g' := (mkF m 7 #[.val (.int p0), .val (.int p1), .val (.int p2), .val (.int p3), .unset, .unset, .unset, .unset, .unset, .unset, .unset, .unset, .unset] [(.int ((p0 &&& (2147483647 : Int32)) % (9 : Int32)))])) (fun _ k_ => iremM X0 hx rfl (hb hby at_6) rfl (by decide) k_) ?_
  refine own_k (T' := s₁) (g' := (mkF m 9 #[.val (.int p0), .val (.int p1), .val (.int p2), .val (.int p3), .val (.int ((p0 &&& (2147483647 : Int32)) % (9 : Int32))), .unset, .unset, .unset, .unset, .unset, .unset, .unset, .unset] [])) (fun _ k_ => XS.istore X0.here hx rfl (hb hby at_7) rfl (l' := #[.val (.int p0), .val (.int p1), .val (.int p2), .val (.int p3), .val (.int ((p0 &&& (2147483647 : Int32)) % (9 : Int32))), .unset, .unset, .unset, .unset, .unset, .unset, .unset, .unset]) rfl k_) ?_
  obtain ⟨ia4, h_ia4⟩ : ∃ k, k = ((p0 &&& (2147483647 : Int32)) % (9 : Int32)) := ⟨_, rfl⟩
  rw [← h_ia4]
  have r4 : 0 ≤ ia4.toInt ∧ ia4.toInt < 9 := h_ia4 ▸ own_rem9 _
  refine own_k (T' := s₁) (g' := (mkF m 10 #[.val (.int p0), .val (.int p1), .val (.int p2), .val (.int p3), .val (.int ia4), .unset, .unset, .unset, .unset, .unset, .unset, .unset, .unset] [(.int p1)])) (fun _ k_ => XS.iloadN X0.here hx rfl (hb hby at_9) rfl  k_) ?_
  refine own_k (T' := s₁) (g' := (mkF m 12 #[.val (.int p0), .val (.int p1), .val (.int p2), .val (.int p3), .val (.int ia4), .unset, .unset, .unset, .unset, .unset, .unset, .unset, .unset] [(.int (2147483647 : Int32)), (.int p1)])) (X0.ldcInt hx hown (mvT hZ (hw _ (List.mem_of_getElem? (i := 0) rfl))) (g := (mkF m 10 #[.val (.int p0), .val (.int p1), .val (.int p2), .val (.int p3), .val (.int ia4), .unset, .unset, .unset, .unset, .unset, .unset, .unset, .unset] [(.int p1)])) rfl (hb hby at_10)) ?_
  refine own_k (T' := s₁) (g' := (mkF m 13 #[.val (.int p0), .val (.int p1), .val (.int p2), .val (.int p3), .val (.int ia4), .unset, .unset, .unset, .unset, .unset, .unset, .unset, .unset] [(.int (p1 &&& (2147483647 : Int32)))])) (fun _ k_ => XS.iand X0.here hx rfl (hb hby at_12) rfl k_) ?_
  refine own_k (T' := s₁) (g' := (mkF m 15 #[.val (.int p0), .val (.int p1), .val (.int p2), .val (.int p3), .val (.int ia4), .unset, .unset, .unset, .unset, .unset, .unset, .unset, .unset] [(.int (8 : Int32)), (.int (p1 &&& (2147483647 : Int32)))])) (fun _ k_ => XS.bipush X0.here hx rfl (hb hby at_13) k_) ?_
  refine own_k (T' := s₁) (g' := (mkF m 16 #[.val (.int p0), .val (.int p1), .val (.int p2), .val (.int p3), .val (.int ia4), .unset, .unset, .unset, .unset, .unset, .unset, .unset, .unset] [(.int ((p1 &&& (2147483647 : Int32)) % (8 : Int32)))])) (fun _ k_ => iremM X0 hx rfl (hb hby at_15) rfl (by decide) k_) ?_
  refine own_k (T' := s₁) (g' := (mkF m 18 #[.val (.int p0), .val (.int p1), .val (.int p2), .val (.int p3), .val (.int ia4), .val (.int ((p1 &&& (2147483647 : Int32)) % (8 : Int32))), .unset, .unset, .unset, .unset, .unset, .unset, .unset] [])) (fun _ k_ => XS.istore X0.here hx rfl (hb hby at_16) rfl (l' := #[.val (.int p0), .val (.int p1), .val (.int p2), .val (.int p3), .val (.int ia4), .val (.int ((p1 &&& (2147483647 : Int32)) % (8 : Int32))), .unset, .unset, .unset, .unset, .unset, .unset, .unset]) rfl k_) ?_
  obtain ⟨ib5, h_ib5⟩ : ∃ k, k = ((p1 &&& (2147483647 : Int32)) % (8 : Int32)) := ⟨_, rfl⟩
  rw [← h_ib5]
  have r5 : 0 ≤ ib5.toInt ∧ ib5.toInt < 8 := h_ib5 ▸ own_rem8 _
  refine own_k (T' := s₁) (g' := (mkF m 20 #[.val (.int p0), .val (.int p1), .val (.int p2), .val (.int p3), .val (.int ia4), .val (.int ib5), .unset, .unset, .unset, .unset, .unset, .unset, .unset] [(.int ia4)])) (fun _ k_ => XS.iload X0.here hx rfl (hb hby at_18) rfl  k_) ?_
  refine own_k (T' := s₁) (g' := (mkF m 22 #[.val (.int p0), .val (.int p1), .val (.int p2), .val (.int p3), .val (.int ia4), .val (.int ib5), .unset, .unset, .unset, .unset, .unset, .unset, .unset] [(.int (8 : Int32)), (.int ia4)])) (fun _ k_ => XS.bipush X0.here hx rfl (hb hby at_20) k_) ?_
  by_cases hc1 : ia4 = (8 : Int32)
  · refine own_k (T' := s₁) (g' := (mkF m 25 #[.val (.int p0), .val (.int p1), .val (.int p2), .val (.int p3), .val (.int ia4), .val (.int ib5), .unset, .unset, .unset, .unset, .unset, .unset, .unset] [])) (fun _ k_ => XS.icmpNo X0.here hx rfl (hb hby at_22) rfl ((teq hc1).2) k_) ?_
    have h8 := hc1
    refine own_k (T' := s₁) (g' := (mkF m 26 #[.val (.int p0), .val (.int p1), .val (.int p2), .val (.int p3), .val (.int ia4), .val (.int ib5), .unset, .unset, .unset, .unset, .unset, .unset, .unset] [.null])) (fun _ k_ => XS.aconstNull X0.here hx rfl (hb hby at_25) k_) ?_
    refine own_k (T' := s₁) (g' := (mkF m 34 #[.val (.int p0), .val (.int p1), .val (.int p2), .val (.int p3), .val (.int ia4), .val (.int ib5), .unset, .unset, .unset, .unset, .unset, .unset, .unset] [.null])) (fun _ k_ => XS.goto X0.here hx rfl (pc0 := 26) (pc' := 34) rfl (hb hby at_26) (by decide) (by decide) k_) ?_
    refine own_k (T' := s₁) (g' := (mkF m 36 #[.val (.int p0), .val (.int p1), .val (.int p2), .val (.int p3), .val (.int ia4), .val (.int ib5), .val .null, .unset, .unset, .unset, .unset, .unset, .unset] [])) (fun _ k_ => XS.astore X0.here hx rfl (hb hby at_34) rfl rfl (l' := #[.val (.int p0), .val (.int p1), .val (.int p2), .val (.int p3), .val (.int ia4), .val (.int ib5), .val .null, .unset, .unset, .unset, .unset, .unset, .unset]) rfl k_) ?_
    refine own_k (T' := s₁) (g' := (mkF m 38 #[.val (.int p0), .val (.int p1), .val (.int p2), .val (.int p3), .val (.int ia4), .val (.int ib5), .val .null, .unset, .unset, .unset, .unset, .unset, .unset] [(.int ia4)])) (fun _ k_ => XS.iload X0.here hx rfl (hb hby at_36) rfl  k_) ?_
    refine own_k (T' := s₁) (g' := (mkF m 40 #[.val (.int p0), .val (.int p1), .val (.int p2), .val (.int p3), .val (.int ia4), .val (.int ib5), .val .null, .unset, .unset, .unset, .unset, .unset, .unset] [(.int (8 : Int32)), (.int ia4)])) (fun _ k_ => XS.bipush X0.here hx rfl (hb hby at_38) k_) ?_
    refine own_k (T' := s₁) (g' := (mkF m 43 #[.val (.int p0), .val (.int p1), .val (.int p2), .val (.int p3), .val (.int ia4), .val (.int ib5), .val .null, .unset, .unset, .unset, .unset, .unset, .unset] [])) (fun _ k_ => XS.icmpNo X0.here hx rfl (hb hby at_40) rfl ((teq hc1).2) k_) ?_
    refine own_k (T' := s₁) (g' := (mkF m 44 #[.val (.int p0), .val (.int p1), .val (.int p2), .val (.int p3), .val (.int ia4), .val (.int ib5), .val .null, .unset, .unset, .unset, .unset, .unset, .unset] [(.int p2)])) (fun _ k_ => XS.iloadN X0.here hx rfl (hb hby at_43) rfl  k_) ?_
    refine own_k (T' := s₁) (g' := (mkF m 46 #[.val (.int p0), .val (.int p1), .val (.int p2), .val (.int p3), .val (.int ia4), .val (.int ib5), .val .null, .unset, .unset, .unset, .unset, .unset, .unset] [(.int (16 : Int32)), (.int p2)])) (fun _ k_ => XS.bipush X0.here hx rfl (hb hby at_44) k_) ?_
    refine own_k (T' := s₁) (g' := (mkF m 47 #[.val (.int p0), .val (.int p1), .val (.int p2), .val (.int p3), .val (.int ia4), .val (.int ib5), .val .null, .unset, .unset, .unset, .unset, .unset, .unset] [(.int ((p2.toUInt32 >>> ((16 : Int32) &&& 31).toUInt32).toInt32))])) (fun _ k_ => XS.iushr X0.here hx rfl (hb hby at_46) rfl k_) ?_
    refine own_k (T' := s₁) (g' := (mkF m 48 #[.val (.int p0), .val (.int p1), .val (.int p2), .val (.int p3), .val (.int ia4), .val (.int ib5), .val .null, .unset, .unset, .unset, .unset, .unset, .unset] [(.int (5 : Int32)), (.int ((p2.toUInt32 >>> ((16 : Int32) &&& 31).toUInt32).toInt32))])) (fun _ k_ => XS.iconst X0.here hx rfl (hb hby at_47) k_) ?_
    refine own_k (T' := s₁) (g' := (mkF m 49 #[.val (.int p0), .val (.int p1), .val (.int p2), .val (.int p3), .val (.int ia4), .val (.int ib5), .val .null, .unset, .unset, .unset, .unset, .unset, .unset] [(.int (((p2.toUInt32 >>> ((16 : Int32) &&& 31).toUInt32).toInt32) % (5 : Int32)))])) (fun _ k_ => iremM X0 hx rfl (hb hby at_48) rfl (by decide) k_) ?_
    refine own_callS X0 hx hZ (y := (⟨"com/example/nepean/nepean/query/TokenIsPinLaw", "plainKind", "(I)Lcom/example/nepean/nepean/query/Lexer$Kind;"⟩ : MethodName)) hown (hw _ (List.mem_of_getElem? (i := 78) rfl)) (hw _ (List.mem_of_getElem? (i := 79) rfl)) (hw _ (List.mem_of_getElem? (i := 3) rfl)) (hw _ (List.mem_of_getElem? (i := 80) rfl)) (by decide) (al := [(.int (((p2.toUInt32 >>> ((16 : Int32) &&& 31).toUInt32).toInt32) % (5 : Int32)))]) (rm_kind l Z a0 c_Keyword_SELECT c_Lexer_Kind_KEYWORD c_Keyword_IS c_Keyword_AND c_Keyword_END c_Keyword_CURRENT_DATE c_Keyword_TYPE c_Keyword_NULL c_Lexer_Kind_WORD c_Keyword_IN c_Lexer_Kind_INTEGER c_Lexer_Kind_STRING c_Lexer_Kind_SYMBOL c_Lexer_Kind_END g_COMPACT_STRINGS g_SIOOBE_FORMATTER hW (((p2.toUInt32 >>> ((16 : Int32) &&& 31).toUInt32).toInt32) % (5 : Int32)) h0 O0.2) 0 (by decide) (by decide) e0 (by decide) (by decide) (by rw [hml]; rfl) (lenOf pd__28I_29Lcom_2fexample_2fnepean_2fnepean_2fquery_2fLexer_24Kind_3b rfl) rfl (rest := []) (by show 2 * 0 + _ ≤ _; exact Nat.le_of_eq rfl) (hb hby at_49) ?_
    intro v3 T3 L3 X3 hQ3
    obtain ⟨⟨a2, rfl⟩, Nq3, e3⟩ := hQ3
    have N3 := Fr.app N0 Nq3
    show own_Go p e below Φ T3 (mkF m 52 #[.val (.int p0), .val (.int p1), .val (.int p2), .val (.int p3), .val (.int ia4), .val (.int ib5), .val .null, .unset, .unset, .unset, .unset, .unset, .unset] [(.ref a2)])
    refine own_k (T' := T3) (g' := (mkF m 58 #[.val (.int p0), .val (.int p1), .val (.int p2), .val (.int p3), .val (.int ia4), .val (.int ib5), .val .null, .unset, .unset, .unset, .unset, .unset, .unset] [(.ref a2)])) (fun _ k_ => XS.goto X3.here hx rfl (pc0 := 52) (pc' := 58) rfl (hb hby at_52) (by decide) (by decide) k_) ?_
    refine own_k (T' := T3) (g' := (mkF m 60 #[.val (.int p0), .val (.int p1), .val (.int p2), .val (.int p3), .val (.int ia4), .val (.int ib5), .val .null, .val (.ref a2), .unset, .unset, .unset, .unset, .unset] [])) (fun _ k_ => XS.astore X3.here hx rfl (hb hby at_58) rfl rfl (l' := #[.val (.int p0), .val (.int p1), .val (.int p2), .val (.int p3), .val (.int ia4), .val (.int ib5), .val .null, .val (.ref a2), .unset, .unset, .unset, .unset, .unset]) rfl k_) ?_
    refine own_k (T' := T3) (g' := (mkF m 61 #[.val (.int p0), .val (.int p1), .val (.int p2), .val (.int p3), .val (.int ia4), .val (.int ib5), .val .null, .val (.ref a2), .unset, .unset, .unset, .unset, .unset] [(.int (2 : Int32))])) (fun _ k_ => XS.iconst X3.here hx rfl (hb hby at_60) k_) ?_
    obtain ⟨T4, h4, k4, X4, e4, E4, V4, A4, st4⟩ := own_newarr (pc := 61) (Ls := #[.val (.int p0), .val (.int p1), .val (.int p2), .val (.int p3), .val (.int ia4), .val (.int ib5), .val .null, .val (.ref a2), .unset, .unset, .unset, .unset, .unset]) (rest := []) X3 hx hZ (hw _ (List.mem_of_getElem? (i := 11) rfl)) e3 (hb hby at_61) (n := (2 : Int32)) (by decide) (cap := 2) (by decide) (by decide) (by decide) (by decide) (ad := "[C") (by decide)
    obtain ⟨b4, g4⟩ : ∃ z, z = h0.size := ⟨_, rfl⟩
    rw [← g4] at V4 A4 st4
    have O4' := O0.ext E4
    have V4 : Arv Z h4 b4 k4 .char (2 : Int32) [(.int (0 : Int32)), (.int (0 : Int32))] (.int (0 : Int32)) := V4
    refine own_k (T' := T4) (g' := (mkF m 63 #[.val (.int p0), .val (.int p1), .val (.int p2), .val (.int p3), .val (.int ia4), .val (.int ib5), .val .null, .val (.ref a2), .unset, .unset, .unset, .unset, .unset] [(.ref b4)])) st4 ?_
    refine own_k (T' := T4) (g' := (mkF m 65 #[.val (.int p0), .val (.int p1), .val (.int p2), .val (.int p3), .val (.int ia4), .val (.int ib5), .val .null, .val (.ref a2), .val (.ref b4), .unset, .unset, .unset, .unset] [])) (fun _ k_ => XS.astore X4.here hx rfl (hb hby at_63) rfl rfl (l' := #[.val (.int p0), .val (.int p1), .val (.int p2), .val (.int p3), .val (.int ia4), .val (.int ib5), .val .null, .val (.ref a2), .val (.ref b4), .unset, .unset, .unset, .unset]) rfl k_) ?_
    refine own_k (T' := T4) (g' := (mkF m 67 #[.val (.int p0), .val (.int p1), .val (.int p2), .val (.int p3), .val (.int ia4), .val (.int ib5), .val .null, .val (.ref a2), .val (.ref b4), .unset, .unset, .unset, .unset] [(.ref b4)])) (fun _ k_ => XS.aload X4.here hx rfl (hb hby at_65) rfl rfl  k_) ?_
    refine own_k (T' := T4) (g' := (mkF m 68 #[.val (.int p0), .val (.int p1), .val (.int p2), .val (.int p3), .val (.int ia4), .val (.int ib5), .val .null, .val (.ref a2), .val (.ref b4), .unset, .unset, .unset, .unset] [(.int (0 : Int32)), (.ref b4)])) (fun _ k_ => XS.iconst X4.here hx rfl (hb hby at_67) k_) ?_
    refine own_k (T' := T4) (g' := (mkF m 69 #[.val (.int p0), .val (.int p1), .val (.int p2), .val (.int p3), .val (.int ia4), .val (.int ib5), .val .null, .val (.ref a2), .val (.ref b4), .unset, .unset, .unset, .unset] [(.int p2), (.int (0 : Int32)), (.ref b4)])) (fun _ k_ => XS.iloadN X4.here hx rfl (hb hby at_68) rfl  k_) ?_
    refine own_k (T' := T4) (g' := (mkF m 72 #[.val (.int p0), .val (.int p1), .val (.int p2), .val (.int p3), .val (.int ia4), .val (.int ib5), .val .null, .val (.ref a2), .val (.ref b4), .unset, .unset, .unset, .unset] [(.int (255 : Int32)), (.int p2), (.int (0 : Int32)), (.ref b4)])) (fun _ k_ => XS.sipush X4.here hx rfl (hb hby at_69) k_) ?_
    refine own_k (T' := T4) (g' := (mkF m 73 #[.val (.int p0), .val (.int p1), .val (.int p2), .val (.int p3), .val (.int ia4), .val (.int ib5), .val .null, .val (.ref a2), .val (.ref b4), .unset, .unset, .unset, .unset] [(.int (p2 &&& (255 : Int32))), (.int (0 : Int32)), (.ref b4)])) (fun _ k_ => XS.iand X4.here hx rfl (hb hby at_72) rfl k_) ?_
    refine own_k (T' := T4) (g' := (mkF m 74 #[.val (.int p0), .val (.int p1), .val (.int p2), .val (.int p3), .val (.int ia4), .val (.int ib5), .val .null, .val (.ref a2), .val (.ref b4), .unset, .unset, .unset, .unset] [(.int ((p2 &&& (255 : Int32)).toUInt32.toUInt16.toUInt32.toInt32)), (.int (0 : Int32)), (.ref b4)])) (fun _ k_ => XS.i2c X4.here hx rfl (hb hby at_73) rfl k_) ?_
    obtain ⟨T5, h5, X5, e5, W5, V5, st5⟩ := own_castore (pc := 74) (Ls := #[.val (.int p0), .val (.int p1), .val (.int p2), .val (.int p3), .val (.int ia4), .val (.int ib5), .val .null, .val (.ref a2), .val (.ref b4), .unset, .unset, .unset, .unset]) (rest := []) X4 hx hZ e4 V4 (j := (0 : Int32)) (x := ((p2 &&& (255 : Int32)).toUInt32.toUInt16.toUInt32.toInt32)) ⟨by decide, by decide⟩ 0 rfl (Nat.le_of_ble_eq_true rfl) (hb hby at_74)
    have V5 : Arv Z h5 b4 k4 .char (2 : Int32) [(.int (nar .char ((p2 &&& (255 : Int32)).toUInt32.toUInt16.toUInt32.toInt32))), (.int (0 : Int32))] (.int (0 : Int32)) := V5
    rw [show nar .char ((p2 &&& (255 : Int32)).toUInt32.toUInt16.toUInt32.toInt32) = ((p2 &&& (255 : Int32)).toUInt32.toUInt16.toUInt32.toInt32) from own_nar_char _] at V5
    have O5' := O4'.wr W5 (Nat.le_trans O0.2.1 (Nat.le_of_eq g4.symm))
    have N5 := Fr.snoc X5 N3 (Nat.le_trans O0.2.1 (Nat.le_of_eq g4.symm))
    refine own_k (T' := T5) (g' := (mkF m 75 #[.val (.int p0), .val (.int p1), .val (.int p2), .val (.int p3), .val (.int ia4), .val (.int ib5), .val .null, .val (.ref a2), .val (.ref b4), .unset, .unset, .unset, .unset] [])) st5 ?_
    refine own_k (T' := T5) (g' := (mkF m 77 #[.val (.int p0), .val (.int p1), .val (.int p2), .val (.int p3), .val (.int ia4), .val (.int ib5), .val .null, .val (.ref a2), .val (.ref b4), .unset, .unset, .unset, .unset] [(.ref b4)])) (fun _ k_ => XS.aload X5.here hx rfl (hb hby at_75) rfl rfl  k_) ?_
    refine own_k (T' := T5) (g' := (mkF m 78 #[.val (.int p0), .val (.int p1), .val (.int p2), .val (.int p3), .val (.int ia4), .val (.int ib5), .val .null, .val (.ref a2), .val (.ref b4), .unset, .unset, .unset, .unset] [(.int (1 : Int32)), (.ref b4)])) (fun _ k_ => XS.iconst X5.here hx rfl (hb hby at_77) k_) ?_
    refine own_k (T' := T5) (g' := (mkF m 79 #[.val (.int p0), .val (.int p1), .val (.int p2), .val (.int p3), .val (.int ia4), .val (.int ib5), .val .null, .val (.ref a2), .val (.ref b4), .unset, .unset, .unset, .unset] [(.int p2), (.int (1 : Int32)), (.ref b4)])) (fun _ k_ => XS.iloadN X5.here hx rfl (hb hby at_78) rfl  k_) ?_
    refine own_k (T' := T5) (g' := (mkF m 81 #[.val (.int p0), .val (.int p1), .val (.int p2), .val (.int p3), .val (.int ia4), .val (.int ib5), .val .null, .val (.ref a2), .val (.ref b4), .unset, .unset, .unset, .unset] [(.int (8 : Int32)), (.int p2), (.int (1 : Int32)), (.ref b4)])) (fun _ k_ => XS.bipush X5.here hx rfl (hb hby at_79) k_) ?_
    refine own_k (T' := T5) (g' := (mkF m 82 #[.val (.int p0), .val (.int p1), .val (.int p2), .val (.int p3), .val (.int ia4), .val (.int ib5), .val .null, .val (.ref a2), .val (.ref b4), .unset, .unset, .unset, .unset] [(.int ((p2.toUInt32 >>> ((8 : Int32) &&& 31).toUInt32).toInt32)), (.int (1 : Int32)), (.ref b4)])) (fun _ k_ => XS.iushr X5.here hx rfl (hb hby at_81) rfl k_) ?_
    refine own_k (T' := T5) (g' := (mkF m 85 #[.val (.int p0), .val (.int p1), .val (.int p2), .val (.int p3), .val (.int ia4), .val (.int ib5), .val .null, .val (.ref a2), .val (.ref b4), .unset, .unset, .unset, .unset] [(.int (255 : Int32)), (.int ((p2.toUInt32 >>> ((8 : Int32) &&& 31).toUInt32).toInt32)), (.int (1 : Int32)), (.ref b4)])) (fun _ k_ => XS.sipush X5.here hx rfl (hb hby at_82) k_) ?_
    refine own_k (T' := T5) (g' := (mkF m 86 #[.val (.int p0), .val (.int p1), .val (.int p2), .val (.int p3), .val (.int ia4), .val (.int ib5), .val .null, .val (.ref a2), .val (.ref b4), .unset, .unset, .unset, .unset] [(.int (((p2.toUInt32 >>> ((8 : Int32) &&& 31).toUInt32).toInt32) &&& (255 : Int32))), (.int (1 : Int32)), (.ref b4)])) (fun _ k_ => XS.iand X5.here hx rfl (hb hby at_85) rfl k_) ?_
    refine own_k (T' := T5) (g' := (mkF m 87 #[.val (.int p0), .val (.int p1), .val (.int p2), .val (.int p3), .val (.int ia4), .val (.int ib5), .val .null, .val (.ref a2), .val (.ref b4), .unset, .unset, .unset, .unset] [(.int ((((p2.toUInt32 >>> ((8 : Int32) &&& 31).toUInt32).toInt32) &&& (255 : Int32)).toUInt32.toUInt16.toUInt32.toInt32)), (.int (1 : Int32)), (.ref b4)])) (fun _ k_ => XS.i2c X5.here hx rfl (hb hby at_86) rfl k_) ?_
    obtain ⟨T6, h6, X6, e6, W6, V6, st6⟩ := own_castore (pc := 87) (Ls := #[.val (.int p0), .val (.int p1), .val (.int p2), .val (.int p3), .val (.int ia4), .val (.int ib5), .val .null, .val (.ref a2), .val (.ref b4), .unset, .unset, .unset, .unset]) (rest := []) X5 hx hZ e5 V5 (j := (1 : Int32)) (x := ((((p2.toUInt32 >>> ((8 : Int32) &&& 31).toUInt32).toInt32) &&& (255 : Int32)).toUInt32.toUInt16.toUInt32.toInt32)) ⟨by decide, by decide⟩ 1 rfl (Nat.le_of_ble_eq_true rfl) (hb hby at_87)
    have V6 : Arv Z h6 b4 k4 .char (2 : Int32) [(.int ((p2 &&& (255 : Int32)).toUInt32.toUInt16.toUInt32.toInt32)), (.int (nar .char ((((p2.toUInt32 >>> ((8 : Int32) &&& 31).toUInt32).toInt32) &&& (255 : Int32)).toUInt32.toUInt16.toUInt32.toInt32)))] (.int (0 : Int32)) := V6
    rw [show nar .char ((((p2.toUInt32 >>> ((8 : Int32) &&& 31).toUInt32).toInt32) &&& (255 : Int32)).toUInt32.toUInt16.toUInt32.toInt32) = ((((p2.toUInt32 >>> ((8 : Int32) &&& 31).toUInt32).toInt32) &&& (255 : Int32)).toUInt32.toUInt16.toUInt32.toInt32) from own_nar_char _] at V6
    have O6' := O5'.wr W6 (Nat.le_trans O0.2.1 (Nat.le_of_eq g4.symm))
    have N6 := Fr.snoc X6 N5 (Nat.le_trans O0.2.1 (Nat.le_of_eq g4.symm))
    refine own_k (T' := T6) (g' := (mkF m 88 #[.val (.int p0), .val (.int p1), .val (.int p2), .val (.int p3), .val (.int ia4), .val (.int ib5), .val .null, .val (.ref a2), .val (.ref b4), .unset, .unset, .unset, .unset] [])) st6 ?_
    obtain ⟨T7, h7, X7, e7, E7, A7, D7, -, st7⟩ := newO X6 hx hZ hown (hw _ (List.mem_of_getElem? (i := 12) rfl)) (hw _ (List.mem_of_getElem? (i := 13) rfl)) (hw _ (List.mem_of_getElem? (i := 14) rfl)) e6 (g := (mkF m 88 #[.val (.int p0), .val (.int p1), .val (.int p2), .val (.int p3), .val (.int ia4), .val (.int ib5), .val .null, .val (.ref a2), .val (.ref b4), .unset, .unset, .unset, .unset] [])) rfl (hb hby at_88) (by decide) (by decide)
    obtain ⟨b7, g7⟩ : ∃ z, z = h6.size := ⟨_, rfl⟩
    rw [← g7] at A7 D7 st7
    have O7' := O6'.ext E7
    have F7_coder : Fld Z h7 b7 "java/lang/String" "coder" "B" (.int (0 : Int32)) := D7 (Or.inr (hw _ (List.mem_of_getElem? (i := 38) rfl))) (ty := .byte) (by decide)
    have F7_value : Fld Z h7 b7 "java/lang/String" "value" "[B" .null := D7 (Or.inr (hw _ (List.mem_of_getElem? (i := 40) rfl))) (ty := (.array .byte)) (by decide)
    refine own_k (T' := T7) (g' := (mkF m 91 #[.val (.int p0), .val (.int p1), .val (.int p2), .val (.int p3), .val (.int ia4), .val (.int ib5), .val .null, .val (.ref a2), .val (.ref b4), .unset, .unset, .unset, .unset] [(.ref b7)])) st7 ?_
    refine own_k (T' := T7) (g' := (mkF m 92 #[.val (.int p0), .val (.int p1), .val (.int p2), .val (.int p3), .val (.int ia4), .val (.int ib5), .val .null, .val (.ref a2), .val (.ref b4), .unset, .unset, .unset, .unset] [(.ref b7), (.ref b7)])) (fun _ k_ => XS.dup X7.here hx rfl (hb hby at_91) rfl rfl k_) ?_
    refine own_k (T' := T7) (g' := (mkF m 94 #[.val (.int p0), .val (.int p1), .val (.int p2), .val (.int p3), .val (.int ia4), .val (.int ib5), .val .null, .val (.ref a2), .val (.ref b4), .unset, .unset, .unset, .unset] [(.ref b4), (.ref b7), (.ref b7)])) (fun _ k_ => XS.aload X7.here hx rfl (hb hby at_92) rfl rfl  k_) ?_
    refine own_callN X7 hx hZ (y := (⟨"java/lang/String", "<init>", "([C)V"⟩ : MethodName)) rfl hown (hw _ (List.mem_of_getElem? (i := 15) rfl)) (hw _ (List.mem_of_getElem? (i := 16) rfl)) (hw _ (List.mem_of_getElem? (i := 17) rfl)) (hw _ (List.mem_of_getElem? (i := 14) rfl)) (by decide) (al := [(.ref b4)]) (b := b7) (rm_init_4 l Z a0 c_Keyword_SELECT c_Lexer_Kind_KEYWORD c_Keyword_IS c_Keyword_AND c_Keyword_END c_Keyword_CURRENT_DATE c_Keyword_TYPE c_Keyword_NULL c_Lexer_Kind_WORD c_Keyword_IN c_Lexer_Kind_INTEGER c_Lexer_Kind_STRING c_Lexer_Kind_SYMBOL c_Lexer_Kind_END g_COMPACT_STRINGS g_SIOOBE_FORMATTER hW b7 b4 k4 ((p2 &&& (255 : Int32)).toUInt32.toUInt16.toUInt32.toInt32) ((((p2.toUInt32 >>> ((8 : Int32) &&& 31).toUInt32).toInt32) &&& (255 : Int32)).toUInt32.toUInt16.toUInt32.toInt32) h7 O7' (V6.ext E7) (own_lat p2) (own_lat ((p2.toUInt32 >>> ((8 : Int32) &&& 31).toUInt32).toInt32)) F7_coder A7 (Nat.le_trans O6'.2.1 (Nat.le_of_eq g7.symm)) F7_value) 1 (by decide) (by decide) e7 (by decide) (by decide) (by rw [hml]; rfl) (lenOf pd__28_5bC_29V rfl) rfl (rest := [(.ref b7)]) (by show 2 * 0 + _ ≤ _; exact Nat.le_of_eq rfl) (hb hby at_94) ?_
    intro v8 T8 L8 X8 hQ8
    obtain ⟨b8_0, k8_1, rfl, Nq8, K8, ge8_0, q8_0, q8_1, q8_2, q8_3, q8_4⟩ := hQ8
    have N8 := Fr.app N6 Nq8
    have O8' := O7'.keep K8 (allS (Nat.le_trans O6'.2.1 (Nat.le_of_eq g7.symm)) all0)
    show own_Go p e below Φ T8 (mkF m 97 #[.val (.int p0), .val (.int p1), .val (.int p2), .val (.int p3), .val (.int ia4), .val (.int ib5), .val .null, .val (.ref a2), .val (.ref b4), .unset, .unset, .unset, .unset] [(.ref b7)])
    refine own_k (T' := T8) (g' := (mkF m 99 #[.val (.int p0), .val (.int p1), .val (.int p2), .val (.int p3), .val (.int ia4), .val (.int ib5), .val .null, .val (.ref a2), .val (.ref b4), .val (.ref b7), .unset, .unset, .unset] [])) (fun _ k_ => XS.astore X8.here hx rfl (hb hby at_97) rfl rfl (l' := #[.val (.int p0), .val (.int p1), .val (.int p2), .val (.int p3), .val (.int ia4), .val (.int ib5), .val .null, .val (.ref a2), .val (.ref b4), .val (.ref b7), .unset, .unset, .unset]) rfl k_) ?_
    refine own_k (T' := T8) (g' := (mkF m 101 #[.val (.int p0), .val (.int p1), .val (.int p2), .val (.int p3), .val (.int ia4), .val (.int ib5), .val .null, .val (.ref a2), .val (.ref b4), .val (.ref b7), .unset, .unset, .unset] [(.int ib5)])) (fun _ k_ => XS.iload X8.here hx rfl (hb hby at_99) rfl  k_) ?_
    refine own_callS X8 hx hZ (y := (⟨"com/example/nepean/nepean/query/TokenIsPinLaw", "pick", "(I)Lcom/example/nepean/nepean/query/Keyword;"⟩ : MethodName)) hown (hw _ (List.mem_of_getElem? (i := 1) rfl)) (hw _ (List.mem_of_getElem? (i := 2) rfl)) (hw _ (List.mem_of_getElem? (i := 3) rfl)) (hw _ (List.mem_of_getElem? (i := 4) rfl)) (by decide) (al := [(.int ib5)]) (rm_pick l Z a0 c_Keyword_SELECT c_Lexer_Kind_KEYWORD c_Keyword_IS c_Keyword_AND c_Keyword_END c_Keyword_CURRENT_DATE c_Keyword_TYPE c_Keyword_NULL c_Lexer_Kind_WORD c_Keyword_IN c_Lexer_Kind_INTEGER c_Lexer_Kind_STRING c_Lexer_Kind_SYMBOL c_Lexer_Kind_END g_COMPACT_STRINGS g_SIOOBE_FORMATTER hW ib5 T8.heap O8'.2) 0 (by decide) (by decide) rfl (by decide) (by decide) (by rw [hml]; rfl) (lenOf pd__28I_29Lcom_2fexample_2fnepean_2fnepean_2fquery_2fKeyword_3b rfl) rfl (rest := []) (by show 2 * 0 + _ ≤ _; exact Nat.le_of_eq rfl) (hb hby at_101) ?_
    intro v10 T10 L10 X10 hQ10
    obtain ⟨⟨a9, rfl, hP_a9⟩, Nq10, e10⟩ := hQ10
    have N10 := Fr.app N8 Nq10
    show own_Go p e below Φ T10 (mkF m 104 #[.val (.int p0), .val (.int p1), .val (.int p2), .val (.int p3), .val (.int ia4), .val (.int ib5), .val .null, .val (.ref a2), .val (.ref b4), .val (.ref b7), .unset, .unset, .unset] [(.ref a9)])
    refine own_k (T' := T10) (g' := (mkF m 106 #[.val (.int p0), .val (.int p1), .val (.int p2), .val (.int p3), .val (.int ia4), .val (.int ib5), .val .null, .val (.ref a2), .val (.ref b4), .val (.ref b7), .val (.ref a9), .unset, .unset] [])) (fun _ k_ => XS.astore X10.here hx rfl (hb hby at_104) rfl rfl (l' := #[.val (.int p0), .val (.int p1), .val (.int p2), .val (.int p3), .val (.int ia4), .val (.int ib5), .val .null, .val (.ref a2), .val (.ref b4), .val (.ref b7), .val (.ref a9), .unset, .unset]) rfl k_) ?_
    obtain ⟨T11, h11, X11, e11, E11, A11, D11, -, st11⟩ := newO X10 hx hZ hown (hw _ (List.mem_of_getElem? (i := 43) rfl)) (hw _ (List.mem_of_getElem? (i := 44) rfl)) (hw _ (List.mem_of_getElem? (i := 45) rfl)) e10 (g := (mkF m 106 #[.val (.int p0), .val (.int p1), .val (.int p2), .val (.int p3), .val (.int ia4), .val (.int ib5), .val .null, .val (.ref a2), .val (.ref b4), .val (.ref b7), .val (.ref a9), .unset, .unset] [])) rfl (hb hby at_106) (by decide) (by decide)
    obtain ⟨b11, g11⟩ : ∃ z, z = T8.heap.size := ⟨_, rfl⟩
    rw [← g11] at A11 D11 st11
    have O11' := O8'.ext E11
    have F11_kind : Fld Z h11 b11 "com/example/nepean/nepean/query/Lexer$Token" "kind" "Lcom/example/nepean/nepean/query/Lexer$Kind;" .null := D11 (Or.inr (hw _ (List.mem_of_getElem? (i := 56) rfl))) (ty := (.object "com/example/nepean/nepean/query/Lexer$Kind")) (by decide)
    have F11_text : Fld Z h11 b11 "com/example/nepean/nepean/query/Lexer$Token" "text" "Ljava/lang/String;" .null := D11 (Or.inr (hw _ (List.mem_of_getElem? (i := 58) rfl))) (ty := (.object "java/lang/String")) (by decide)
    have F11_keyword : Fld Z h11 b11 "com/example/nepean/nepean/query/Lexer$Token" "keyword" "Lcom/example/nepean/nepean/query/Keyword;" .null := D11 (Or.inr (hw _ (List.mem_of_getElem? (i := 60) rfl))) (ty := (.object "com/example/nepean/nepean/query/Keyword")) (by decide)
    have F11_position : Fld Z h11 b11 "com/example/nepean/nepean/query/Lexer$Token" "position" "I" (.int (0 : Int32)) := D11 (Or.inr (hw _ (List.mem_of_getElem? (i := 62) rfl))) (ty := .int) (by decide)
    refine own_k (T' := T11) (g' := (mkF m 109 #[.val (.int p0), .val (.int p1), .val (.int p2), .val (.int p3), .val (.int ia4), .val (.int ib5), .val .null, .val (.ref a2), .val (.ref b4), .val (.ref b7), .val (.ref a9), .unset, .unset] [(.ref b11)])) st11 ?_
    refine own_k (T' := T11) (g' := (mkF m 110 #[.val (.int p0), .val (.int p1), .val (.int p2), .val (.int p3), .val (.int ia4), .val (.int ib5), .val .null, .val (.ref a2), .val (.ref b4), .val (.ref b7), .val (.ref a9), .unset, .unset] [(.ref b11), (.ref b11)])) (fun _ k_ => XS.dup X11.here hx rfl (hb hby at_109) rfl rfl k_) ?_
    refine own_k (T' := T11) (g' := (mkF m 112 #[.val (.int p0), .val (.int p1), .val (.int p2), .val (.int p3), .val (.int ia4), .val (.int ib5), .val .null, .val (.ref a2), .val (.ref b4), .val (.ref b7), .val (.ref a9), .unset, .unset] [(.ref a2), (.ref b11), (.ref b11)])) (fun _ k_ => XS.aload X11.here hx rfl (hb hby at_110) rfl rfl  k_) ?_
    refine own_k (T' := T11) (g' := (mkF m 114 #[.val (.int p0), .val (.int p1), .val (.int p2), .val (.int p3), .val (.int ia4), .val (.int ib5), .val .null, .val (.ref a2), .val (.ref b4), .val (.ref b7), .val (.ref a9), .unset, .unset] [(.ref b7), (.ref a2), (.ref b11), (.ref b11)])) (fun _ k_ => XS.aload X11.here hx rfl (hb hby at_112) rfl rfl  k_) ?_
    refine own_k (T' := T11) (g' := (mkF m 116 #[.val (.int p0), .val (.int p1), .val (.int p2), .val (.int p3), .val (.int ia4), .val (.int ib5), .val .null, .val (.ref a2), .val (.ref b4), .val (.ref b7), .val (.ref a9), .unset, .unset] [.null, (.ref b7), (.ref a2), (.ref b11), (.ref b11)])) (fun _ k_ => XS.aload X11.here hx rfl (hb hby at_114) rfl rfl  k_) ?_
    refine own_k (T' := T11) (g' := (mkF m 117 #[.val (.int p0), .val (.int p1), .val (.int p2), .val (.int p3), .val (.int ia4), .val (.int ib5), .val .null, .val (.ref a2), .val (.ref b4), .val (.ref b7), .val (.ref a9), .unset, .unset] [(.int p3), .null, (.ref b7), (.ref a2), (.ref b11), (.ref b11)])) (fun _ k_ => XS.iloadN X11.here hx rfl (hb hby at_116) rfl  k_) ?_
    refine own_callN X11 hx hZ (y := (⟨"com/example/nepean/nepean/query/Lexer$Token", "<init>", "(Lcom/example/nepean/nepean/query/Lexer$Kind;Ljava/lang/String;Lcom/example/nepean/nepean/query/Keyword;I)V"⟩ : MethodName)) rfl hown (hw _ (List.mem_of_getElem? (i := 46) rfl)) (hw _ (List.mem_of_getElem? (i := 47) rfl)) (hw _ (List.mem_of_getElem? (i := 48) rfl)) (hw _ (List.mem_of_getElem? (i := 45) rfl)) (by decide) (al := [(.ref a2), (.ref b7), .null, (.int p3)]) (b := b11) (rm_init_6 l Z a0 c_Keyword_SELECT c_Lexer_Kind_KEYWORD c_Keyword_IS c_Keyword_AND c_Keyword_END c_Keyword_CURRENT_DATE c_Keyword_TYPE c_Keyword_NULL c_Lexer_Kind_WORD c_Keyword_IN c_Lexer_Kind_INTEGER c_Lexer_Kind_STRING c_Lexer_Kind_SYMBOL c_Lexer_Kind_END g_COMPACT_STRINGS g_SIOOBE_FORMATTER hW b11 a2 b7 p3 h11 O11' F11_kind A11 (Nat.le_trans O8'.2.1 (Nat.le_of_eq g11.symm)) F11_text F11_keyword F11_position) 1 (by decide) (by decide) e11 (by decide) (by decide) (by rw [hml]; rfl) (lenOf pd__28Lcom_2fexample_2fnepean_2fnepean_2fquery_2fLexer_24Kind_3bLjava_2flang_2fString_3bLcom_2fexample_2fnepean_2fnepean_2fquery_2fKeyword_3bI_29V rfl) rfl (rest := [(.ref b11)]) (by show 2 * 0 + _ ≤ _; exact Nat.le_of_eq rfl) (hb hby at_117) ?_
    intro v12 T12 L12 X12 hQ12
    obtain ⟨rfl, Nq12, K12, q12_0, q12_1, q12_2, q12_3, q12_4⟩ := hQ12
    have N12 := Fr.app N10 Nq12
    have O12' := O11'.keep K12 (allS (Nat.le_trans O8'.2.1 (Nat.le_of_eq g11.symm)) all0)
    show own_Go p e below Φ T12 (mkF m 120 #[.val (.int p0), .val (.int p1), .val (.int p2), .val (.int p3), .val (.int ia4), .val (.int ib5), .val .null, .val (.ref a2), .val (.ref b4), .val (.ref b7), .val (.ref a9), .unset, .unset] [(.ref b11)])
    refine own_k (T' := T12) (g' := (mkF m 122 #[.val (.int p0), .val (.int p1), .val (.int p2), .val (.int p3), .val (.int ia4), .val (.int ib5), .val .null, .val (.ref a2), .val (.ref b4), .val (.ref b7), .val (.ref a9), .val (.ref b11), .unset] [])) (fun _ k_ => XS.astore X12.here hx rfl (hb hby at_120) rfl rfl (l' := #[.val (.int p0), .val (.int p1), .val (.int p2), .val (.int p3), .val (.int ia4), .val (.int ib5), .val .null, .val (.ref a2), .val (.ref b4), .val (.ref b7), .val (.ref a9), .val (.ref b11), .unset]) rfl k_) ?_
    refine own_k (T' := T12) (g' := (mkF m 124 #[.val (.int p0), .val (.int p1), .val (.int p2), .val (.int p3), .val (.int ia4), .val (.int ib5), .val .null, .val (.ref a2), .val (.ref b4), .val (.ref b7), .val (.ref a9), .val (.ref b11), .unset] [(.ref b11)])) (fun _ k_ => XS.aload X12.here hx rfl (hb hby at_122) rfl rfl  k_) ?_
    refine own_k (T' := T12) (g' := (mkF m 126 #[.val (.int p0), .val (.int p1), .val (.int p2), .val (.int p3), .val (.int ia4), .val (.int ib5), .val .null, .val (.ref a2), .val (.ref b4), .val (.ref b7), .val (.ref a9), .val (.ref b11), .unset] [(.ref a9), (.ref b11)])) (fun _ k_ => XS.aload X12.here hx rfl (hb hby at_124) rfl rfl  k_) ?_
    refine own_callV X12 hx hZ (C := "com/example/nepean/nepean/query/Lexer$Token") (y := (⟨"com/example/nepean/nepean/query/Lexer$Token", "is", "(Lcom/example/nepean/nepean/query/Keyword;)Z"⟩ : MethodName)) (z := (⟨"com/example/nepean/nepean/query/Lexer$Token", "is", "(Lcom/example/nepean/nepean/query/Keyword;)Z"⟩ : MethodName)) hown (hw _ (List.mem_of_getElem? (i := 63) rfl)) (hw _ (List.mem_of_getElem? (i := 64) rfl)) (notFace_of_selects (args := #[]) (mvT hZ (hw _ (List.mem_of_getElem? (i := 66) rfl)))) (hw _ (List.mem_of_getElem? (i := 66) rfl)) (hw _ (List.mem_of_getElem? (i := 65) rfl)) (hw _ (List.mem_of_getElem? (i := 67) rfl)) (hw _ (List.mem_of_getElem? (i := 45) rfl)) (by decide) (al := [(.ref a9)]) q12_0 (rm_is_7 l Z a0 c_Keyword_SELECT c_Lexer_Kind_KEYWORD c_Keyword_IS c_Keyword_AND c_Keyword_END c_Keyword_CURRENT_DATE c_Keyword_TYPE c_Keyword_NULL c_Lexer_Kind_WORD c_Keyword_IN c_Lexer_Kind_INTEGER c_Lexer_Kind_STRING c_Lexer_Kind_SYMBOL c_Lexer_Kind_END g_COMPACT_STRINGS g_SIOOBE_FORMATTER hW b11 a9 T12.heap O12' q12_3) 0 (by decide) (by decide) rfl (by decide) (by decide) (by rw [hml]; rfl) (lenOf pd__28Lcom_2fexample_2fnepean_2fnepean_2fquery_2fKeyword_3b_29Z rfl) rfl (rest := []) (by show 2 * 0 + _ ≤ _; exact Nat.le_of_eq rfl) (hb hby at_126) ?_
    intro v13 T13 L13 X13 hQ13
    obtain ⟨rfl, Nq13, e13⟩ := hQ13
    have N13 := Fr.app N12 Nq13
    show own_Go p e below Φ T13 (mkF m 129 #[.val (.int p0), .val (.int p1), .val (.int p2), .val (.int p3), .val (.int ia4), .val (.int ib5), .val .null, .val (.ref a2), .val (.ref b4), .val (.ref b7), .val (.ref a9), .val (.ref b11), .unset] [(.int (0 : Int32))])
    refine own_k (T' := T13) (g' := (mkF m 131 #[.val (.int p0), .val (.int p1), .val (.int p2), .val (.int p3), .val (.int ia4), .val (.int ib5), .val .null, .val (.ref a2), .val (.ref b4), .val (.ref b7), .val (.ref a9), .val (.ref b11), .val (.int (0 : Int32))] [])) (fun _ k_ => XS.istore X13.here hx rfl (hb hby at_129) rfl (l' := #[.val (.int p0), .val (.int p1), .val (.int p2), .val (.int p3), .val (.int ia4), .val (.int ib5), .val .null, .val (.ref a2), .val (.ref b4), .val (.ref b7), .val (.ref a9), .val (.ref b11), .val (.int (0 : Int32))]) rfl k_) ?_
    refine own_k (T' := T13) (g' := (mkF m 133 #[.val (.int p0), .val (.int p1), .val (.int p2), .val (.int p3), .val (.int ia4), .val (.int ib5), .val .null, .val (.ref a2), .val (.ref b4), .val (.ref b7), .val (.ref a9), .val (.ref b11), .val (.int (0 : Int32))] [(.int (0 : Int32))])) (fun _ k_ => XS.iload X13.here hx rfl (hb hby at_131) rfl  k_) ?_
    refine own_k (T' := T13) (g' := (mkF m 135 #[.val (.int p0), .val (.int p1), .val (.int p2), .val (.int p3), .val (.int ia4), .val (.int ib5), .val .null, .val (.ref a2), .val (.ref b4), .val (.ref b7), .val (.ref a9), .val (.ref b11), .val (.int (0 : Int32))] [(.int ia4), (.int (0 : Int32))])) (fun _ k_ => XS.iload X13.here hx rfl (hb hby at_133) rfl  k_) ?_
    refine own_k (T' := T13) (g' := (mkF m 137 #[.val (.int p0), .val (.int p1), .val (.int p2), .val (.int p3), .val (.int ia4), .val (.int ib5), .val .null, .val (.ref a2), .val (.ref b4), .val (.ref b7), .val (.ref a9), .val (.ref b11), .val (.int (0 : Int32))] [(.int ib5), (.int ia4), (.int (0 : Int32))])) (fun _ k_ => XS.iload X13.here hx rfl (hb hby at_135) rfl  k_) ?_
    refine own_k (T' := T13) (g' := (mkF m 144 #[.val (.int p0), .val (.int p1), .val (.int p2), .val (.int p3), .val (.int ia4), .val (.int ib5), .val .null, .val (.ref a2), .val (.ref b4), .val (.ref b7), .val (.ref a9), .val (.ref b11), .val (.int (0 : Int32))] [(.int (0 : Int32))])) (fun _ k_ => XS.icmpYes X13.here hx rfl (pc0 := 137) (pc' := 144) rfl (hb hby at_137) rfl ((feq (own_no8  h8 r5)).2) (by decide) (by decide) k_) ?_
    refine own_k (T' := T13) (g' := (mkF m 145 #[.val (.int p0), .val (.int p1), .val (.int p2), .val (.int p3), .val (.int ia4), .val (.int ib5), .val .null, .val (.ref a2), .val (.ref b4), .val (.ref b7), .val (.ref a9), .val (.ref b11), .val (.int (0 : Int32))] [(.int (0 : Int32)), (.int (0 : Int32))])) (fun _ k_ => XS.iconst X13.here hx rfl (hb hby at_144) k_) ?_
    refine own_k (T' := T13) (g' := (mkF m 148 #[.val (.int p0), .val (.int p1), .val (.int p2), .val (.int p3), .val (.int ia4), .val (.int ib5), .val .null, .val (.ref a2), .val (.ref b4), .val (.ref b7), .val (.ref a9), .val (.ref b11), .val (.int (0 : Int32))] [])) (fun _ k_ => XS.icmpNo X13.here hx rfl (hb hby at_145) rfl ((teq (by decide : ((0 : Int32) = (0 : Int32)))).2) k_) ?_
    refine own_k (T' := T13) (g' := (mkF m 149 #[.val (.int p0), .val (.int p1), .val (.int p2), .val (.int p3), .val (.int ia4), .val (.int ib5), .val .null, .val (.ref a2), .val (.ref b4), .val (.ref b7), .val (.ref a9), .val (.ref b11), .val (.int (0 : Int32))] [(.int (1 : Int32))])) (fun _ k_ => XS.iconst X13.here hx rfl (hb hby at_148) k_) ?_
    refine own_k (T' := T13) (g' := (mkF m 153 #[.val (.int p0), .val (.int p1), .val (.int p2), .val (.int p3), .val (.int ia4), .val (.int ib5), .val .null, .val (.ref a2), .val (.ref b4), .val (.ref b7), .val (.ref a9), .val (.ref b11), .val (.int (0 : Int32))] [(.int (1 : Int32))])) (fun _ k_ => XS.goto X13.here hx rfl (pc0 := 149) (pc' := 153) rfl (hb hby at_149) (by decide) (by decide) k_) ?_
    exact own_retN X13 hx (t := .boolean) hret (by simp) hlk (hb hby at_153) hF (⟨by rw [show nar .boolean (1 : Int32) = (1 : Int32) from by decide], N13, trivial⟩) (by decide) (by decide)
  · refine own_k (T' := s₁) (g' := (mkF m 29 #[.val (.int p0), .val (.int p1), .val (.int p2), .val (.int p3), .val (.int ia4), .val (.int ib5), .unset, .unset, .unset, .unset, .unset, .unset, .unset] [])) (fun _ k_ => XS.icmpYes X0.here hx rfl (pc0 := 22) (pc' := 29) rfl (hb hby at_22) rfl ((feq hc1).2) (by decide) (by decide) k_) ?_
    have r4' : 0 ≤ ia4.toInt ∧ ia4.toInt < 8 := own_lt8 r4 hc1
    refine own_k (T' := s₁) (g' := (mkF m 31 #[.val (.int p0), .val (.int p1), .val (.int p2), .val (.int p3), .val (.int ia4), .val (.int ib5), .unset, .unset, .unset, .unset, .unset, .unset, .unset] [(.int ia4)])) (fun _ k_ => XS.iload X0.here hx rfl (hb hby at_29) rfl  k_) ?_
    refine own_callS X0 hx hZ (y := (⟨"com/example/nepean/nepean/query/TokenIsPinLaw", "pick", "(I)Lcom/example/nepean/nepean/query/Keyword;"⟩ : MethodName)) hown (hw _ (List.mem_of_getElem? (i := 1) rfl)) (hw _ (List.mem_of_getElem? (i := 2) rfl)) (hw _ (List.mem_of_getElem? (i := 3) rfl)) (hw _ (List.mem_of_getElem? (i := 4) rfl)) (by decide) (al := [(.int ia4)]) (rm_pick l Z a0 c_Keyword_SELECT c_Lexer_Kind_KEYWORD c_Keyword_IS c_Keyword_AND c_Keyword_END c_Keyword_CURRENT_DATE c_Keyword_TYPE c_Keyword_NULL c_Lexer_Kind_WORD c_Keyword_IN c_Lexer_Kind_INTEGER c_Lexer_Kind_STRING c_Lexer_Kind_SYMBOL c_Lexer_Kind_END g_COMPACT_STRINGS g_SIOOBE_FORMATTER hW ia4 h0 O0.2) 0 (by decide) (by decide) e0 (by decide) (by decide) (by rw [hml]; rfl) (lenOf pd__28I_29Lcom_2fexample_2fnepean_2fnepean_2fquery_2fKeyword_3b rfl) rfl (rest := []) (by show 2 * 0 + _ ≤ _; exact Nat.le_of_eq rfl) (hb hby at_31) ?_
    intro v15 T15 L15 X15 hQ15
    obtain ⟨⟨a14, rfl, hP_a14⟩, Nq15, e15⟩ := hQ15
    have N15 := Fr.app N0 Nq15
    show own_Go p e below Φ T15 (mkF m 34 #[.val (.int p0), .val (.int p1), .val (.int p2), .val (.int p3), .val (.int ia4), .val (.int ib5), .unset, .unset, .unset, .unset, .unset, .unset, .unset] [(.ref a14)])
    refine own_k (T' := T15) (g' := (mkF m 36 #[.val (.int p0), .val (.int p1), .val (.int p2), .val (.int p3), .val (.int ia4), .val (.int ib5), .val (.ref a14), .unset, .unset, .unset, .unset, .unset, .unset] [])) (fun _ k_ => XS.astore X15.here hx rfl (hb hby at_34) rfl rfl (l' := #[.val (.int p0), .val (.int p1), .val (.int p2), .val (.int p3), .val (.int ia4), .val (.int ib5), .val (.ref a14), .unset, .unset, .unset, .unset, .unset, .unset]) rfl k_) ?_
    refine own_k (T' := T15) (g' := (mkF m 38 #[.val (.int p0), .val (.int p1), .val (.int p2), .val (.int p3), .val (.int ia4), .val (.int ib5), .val (.ref a14), .unset, .unset, .unset, .unset, .unset, .unset] [(.int ia4)])) (fun _ k_ => XS.iload X15.here hx rfl (hb hby at_36) rfl  k_) ?_
    refine own_k (T' := T15) (g' := (mkF m 40 #[.val (.int p0), .val (.int p1), .val (.int p2), .val (.int p3), .val (.int ia4), .val (.int ib5), .val (.ref a14), .unset, .unset, .unset, .unset, .unset, .unset] [(.int (8 : Int32)), (.int ia4)])) (fun _ k_ => XS.bipush X15.here hx rfl (hb hby at_38) k_) ?_
    refine own_k (T' := T15) (g' := (mkF m 55 #[.val (.int p0), .val (.int p1), .val (.int p2), .val (.int p3), .val (.int ia4), .val (.int ib5), .val (.ref a14), .unset, .unset, .unset, .unset, .unset, .unset] [])) (fun _ k_ => XS.icmpYes X15.here hx rfl (pc0 := 40) (pc' := 55) rfl (hb hby at_40) rfl ((feq hc1).2) (by decide) (by decide) k_) ?_
    obtain ⟨T16, X16, e16, st16⟩ := getS2 X15 hx hZ hown (host := "") (Or.inl (hw _ (List.mem_of_getElem? (i := 8) rfl))) Via.refl e15 (S_c_Lexer_Kind_KEYWORD.ext O0.2) (g := (mkF m 55 #[.val (.int p0), .val (.int p1), .val (.int p2), .val (.int p3), .val (.int ia4), .val (.int ib5), .val (.ref a14), .unset, .unset, .unset, .unset, .unset, .unset] [])) rfl (hb hby at_55)
    refine own_k (T' := T16) (g' := (mkF m 58 #[.val (.int p0), .val (.int p1), .val (.int p2), .val (.int p3), .val (.int ia4), .val (.int ib5), .val (.ref a14), .unset, .unset, .unset, .unset, .unset, .unset] [(.ref c_Lexer_Kind_KEYWORD)])) st16 ?_
    refine own_k (T' := T16) (g' := (mkF m 60 #[.val (.int p0), .val (.int p1), .val (.int p2), .val (.int p3), .val (.int ia4), .val (.int ib5), .val (.ref a14), .val (.ref c_Lexer_Kind_KEYWORD), .unset, .unset, .unset, .unset, .unset] [])) (fun _ k_ => XS.astore X16.here hx rfl (hb hby at_58) rfl rfl (l' := #[.val (.int p0), .val (.int p1), .val (.int p2), .val (.int p3), .val (.int ia4), .val (.int ib5), .val (.ref a14), .val (.ref c_Lexer_Kind_KEYWORD), .unset, .unset, .unset, .unset, .unset]) rfl k_) ?_
    refine own_k (T' := T16) (g' := (mkF m 61 #[.val (.int p0), .val (.int p1), .val (.int p2), .val (.int p3), .val (.int ia4), .val (.int ib5), .val (.ref a14), .val (.ref c_Lexer_Kind_KEYWORD), .unset, .unset, .unset, .unset, .unset] [(.int (2 : Int32))])) (fun _ k_ => XS.iconst X16.here hx rfl (hb hby at_60) k_) ?_
    obtain ⟨T17, h17, k17, X17, e17, E17, V17, A17, st17⟩ := own_newarr (pc := 61) (Ls := #[.val (.int p0), .val (.int p1), .val (.int p2), .val (.int p3), .val (.int ia4), .val (.int ib5), .val (.ref a14), .val (.ref c_Lexer_Kind_KEYWORD), .unset, .unset, .unset, .unset, .unset]) (rest := []) X16 hx hZ (hw _ (List.mem_of_getElem? (i := 11) rfl)) e16 (hb hby at_61) (n := (2 : Int32)) (by decide) (cap := 2) (by decide) (by decide) (by decide) (by decide) (ad := "[C") (by decide)
    obtain ⟨b17, g17⟩ : ∃ z, z = h0.size := ⟨_, rfl⟩
    rw [← g17] at V17 A17 st17
    have O17' := O0.ext E17
    have V17 : Arv Z h17 b17 k17 .char (2 : Int32) [(.int (0 : Int32)), (.int (0 : Int32))] (.int (0 : Int32)) := V17
    refine own_k (T' := T17) (g' := (mkF m 63 #[.val (.int p0), .val (.int p1), .val (.int p2), .val (.int p3), .val (.int ia4), .val (.int ib5), .val (.ref a14), .val (.ref c_Lexer_Kind_KEYWORD), .unset, .unset, .unset, .unset, .unset] [(.ref b17)])) st17 ?_
    refine own_k (T' := T17) (g' := (mkF m 65 #[.val (.int p0), .val (.int p1), .val (.int p2), .val (.int p3), .val (.int ia4), .val (.int ib5), .val (.ref a14), .val (.ref c_Lexer_Kind_KEYWORD), .val (.ref b17), .unset, .unset, .unset, .unset] [])) (fun _ k_ => XS.astore X17.here hx rfl (hb hby at_63) rfl rfl (l' := #[.val (.int p0), .val (.int p1), .val (.int p2), .val (.int p3), .val (.int ia4), .val (.int ib5), .val (.ref a14), .val (.ref c_Lexer_Kind_KEYWORD), .val (.ref b17), .unset, .unset, .unset, .unset]) rfl k_) ?_
    refine own_k (T' := T17) (g' := (mkF m 67 #[.val (.int p0), .val (.int p1), .val (.int p2), .val (.int p3), .val (.int ia4), .val (.int ib5), .val (.ref a14), .val (.ref c_Lexer_Kind_KEYWORD), .val (.ref b17), .unset, .unset, .unset, .unset] [(.ref b17)])) (fun _ k_ => XS.aload X17.here hx rfl (hb hby at_65) rfl rfl  k_) ?_
    refine own_k (T' := T17) (g' := (mkF m 68 #[.val (.int p0), .val (.int p1), .val (.int p2), .val (.int p3), .val (.int ia4), .val (.int ib5), .val (.ref a14), .val (.ref c_Lexer_Kind_KEYWORD), .val (.ref b17), .unset, .unset, .unset, .unset] [(.int (0 : Int32)), (.ref b17)])) (fun _ k_ => XS.iconst X17.here hx rfl (hb hby at_67) k_) ?_
    refine own_k (T' := T17) (g' := (mkF m 69 #[.val (.int p0), .val (.int p1), .val (.int p2), .val (.int p3), .val (.int ia4), .val (.int ib5), .val (.ref a14), .val (.ref c_Lexer_Kind_KEYWORD), .val (.ref b17), .unset, .unset, .unset, .unset] [(.int p2), (.int (0 : Int32)), (.ref b17)])) (fun _ k_ => XS.iloadN X17.here hx rfl (hb hby at_68) rfl  k_) ?_
    refine own_k (T' := T17) (g' := (mkF m 72 #[.val (.int p0), .val (.int p1), .val (.int p2), .val (.int p3), .val (.int ia4), .val (.int ib5), .val (.ref a14), .val (.ref c_Lexer_Kind_KEYWORD), .val (.ref b17), .unset, .unset, .unset, .unset] [(.int (255 : Int32)), (.int p2), (.int (0 : Int32)), (.ref b17)])) (fun _ k_ => XS.sipush X17.here hx rfl (hb hby at_69) k_) ?_
    refine own_k (T' := T17) (g' := (mkF m 73 #[.val (.int p0), .val (.int p1), .val (.int p2), .val (.int p3), .val (.int ia4), .val (.int ib5), .val (.ref a14), .val (.ref c_Lexer_Kind_KEYWORD), .val (.ref b17), .unset, .unset, .unset, .unset] [(.int (p2 &&& (255 : Int32))), (.int (0 : Int32)), (.ref b17)])) (fun _ k_ => XS.iand X17.here hx rfl (hb hby at_72) rfl k_) ?_
    refine own_k (T' := T17) (g' := (mkF m 74 #[.val (.int p0), .val (.int p1), .val (.int p2), .val (.int p3), .val (.int ia4), .val (.int ib5), .val (.ref a14), .val (.ref c_Lexer_Kind_KEYWORD), .val (.ref b17), .unset, .unset, .unset, .unset] [(.int ((p2 &&& (255 : Int32)).toUInt32.toUInt16.toUInt32.toInt32)), (.int (0 : Int32)), (.ref b17)])) (fun _ k_ => XS.i2c X17.here hx rfl (hb hby at_73) rfl k_) ?_
    obtain ⟨T18, h18, X18, e18, W18, V18, st18⟩ := own_castore (pc := 74) (Ls := #[.val (.int p0), .val (.int p1), .val (.int p2), .val (.int p3), .val (.int ia4), .val (.int ib5), .val (.ref a14), .val (.ref c_Lexer_Kind_KEYWORD), .val (.ref b17), .unset, .unset, .unset, .unset]) (rest := []) X17 hx hZ e17 V17 (j := (0 : Int32)) (x := ((p2 &&& (255 : Int32)).toUInt32.toUInt16.toUInt32.toInt32)) ⟨by decide, by decide⟩ 0 rfl (Nat.le_of_ble_eq_true rfl) (hb hby at_74)
    have V18 : Arv Z h18 b17 k17 .char (2 : Int32) [(.int (nar .char ((p2 &&& (255 : Int32)).toUInt32.toUInt16.toUInt32.toInt32))), (.int (0 : Int32))] (.int (0 : Int32)) := V18
    rw [show nar .char ((p2 &&& (255 : Int32)).toUInt32.toUInt16.toUInt32.toInt32) = ((p2 &&& (255 : Int32)).toUInt32.toUInt16.toUInt32.toInt32) from own_nar_char _] at V18
    have O18' := O17'.wr W18 (Nat.le_trans O0.2.1 (Nat.le_of_eq g17.symm))
    have N18 := Fr.snoc X18 N15 (Nat.le_trans O0.2.1 (Nat.le_of_eq g17.symm))
    refine own_k (T' := T18) (g' := (mkF m 75 #[.val (.int p0), .val (.int p1), .val (.int p2), .val (.int p3), .val (.int ia4), .val (.int ib5), .val (.ref a14), .val (.ref c_Lexer_Kind_KEYWORD), .val (.ref b17), .unset, .unset, .unset, .unset] [])) st18 ?_
    refine own_k (T' := T18) (g' := (mkF m 77 #[.val (.int p0), .val (.int p1), .val (.int p2), .val (.int p3), .val (.int ia4), .val (.int ib5), .val (.ref a14), .val (.ref c_Lexer_Kind_KEYWORD), .val (.ref b17), .unset, .unset, .unset, .unset] [(.ref b17)])) (fun _ k_ => XS.aload X18.here hx rfl (hb hby at_75) rfl rfl  k_) ?_
    refine own_k (T' := T18) (g' := (mkF m 78 #[.val (.int p0), .val (.int p1), .val (.int p2), .val (.int p3), .val (.int ia4), .val (.int ib5), .val (.ref a14), .val (.ref c_Lexer_Kind_KEYWORD), .val (.ref b17), .unset, .unset, .unset, .unset] [(.int (1 : Int32)), (.ref b17)])) (fun _ k_ => XS.iconst X18.here hx rfl (hb hby at_77) k_) ?_
    refine own_k (T' := T18) (g' := (mkF m 79 #[.val (.int p0), .val (.int p1), .val (.int p2), .val (.int p3), .val (.int ia4), .val (.int ib5), .val (.ref a14), .val (.ref c_Lexer_Kind_KEYWORD), .val (.ref b17), .unset, .unset, .unset, .unset] [(.int p2), (.int (1 : Int32)), (.ref b17)])) (fun _ k_ => XS.iloadN X18.here hx rfl (hb hby at_78) rfl  k_) ?_
    refine own_k (T' := T18) (g' := (mkF m 81 #[.val (.int p0), .val (.int p1), .val (.int p2), .val (.int p3), .val (.int ia4), .val (.int ib5), .val (.ref a14), .val (.ref c_Lexer_Kind_KEYWORD), .val (.ref b17), .unset, .unset, .unset, .unset] [(.int (8 : Int32)), (.int p2), (.int (1 : Int32)), (.ref b17)])) (fun _ k_ => XS.bipush X18.here hx rfl (hb hby at_79) k_) ?_
    refine own_k (T' := T18) (g' := (mkF m 82 #[.val (.int p0), .val (.int p1), .val (.int p2), .val (.int p3), .val (.int ia4), .val (.int ib5), .val (.ref a14), .val (.ref c_Lexer_Kind_KEYWORD), .val (.ref b17), .unset, .unset, .unset, .unset] [(.int ((p2.toUInt32 >>> ((8 : Int32) &&& 31).toUInt32).toInt32)), (.int (1 : Int32)), (.ref b17)])) (fun _ k_ => XS.iushr X18.here hx rfl (hb hby at_81) rfl k_) ?_
    refine own_k (T' := T18) (g' := (mkF m 85 #[.val (.int p0), .val (.int p1), .val (.int p2), .val (.int p3), .val (.int ia4), .val (.int ib5), .val (.ref a14), .val (.ref c_Lexer_Kind_KEYWORD), .val (.ref b17), .unset, .unset, .unset, .unset] [(.int (255 : Int32)), (.int ((p2.toUInt32 >>> ((8 : Int32) &&& 31).toUInt32).toInt32)), (.int (1 : Int32)), (.ref b17)])) (fun _ k_ => XS.sipush X18.here hx rfl (hb hby at_82) k_) ?_
    refine own_k (T' := T18) (g' := (mkF m 86 #[.val (.int p0), .val (.int p1), .val (.int p2), .val (.int p3), .val (.int ia4), .val (.int ib5), .val (.ref a14), .val (.ref c_Lexer_Kind_KEYWORD), .val (.ref b17), .unset, .unset, .unset, .unset] [(.int (((p2.toUInt32 >>> ((8 : Int32) &&& 31).toUInt32).toInt32) &&& (255 : Int32))), (.int (1 : Int32)), (.ref b17)])) (fun _ k_ => XS.iand X18.here hx rfl (hb hby at_85) rfl k_) ?_
    refine own_k (T' := T18) (g' := (mkF m 87 #[.val (.int p0), .val (.int p1), .val (.int p2), .val (.int p3), .val (.int ia4), .val (.int ib5), .val (.ref a14), .val (.ref c_Lexer_Kind_KEYWORD), .val (.ref b17), .unset, .unset, .unset, .unset] [(.int ((((p2.toUInt32 >>> ((8 : Int32) &&& 31).toUInt32).toInt32) &&& (255 : Int32)).toUInt32.toUInt16.toUInt32.toInt32)), (.int (1 : Int32)), (.ref b17)])) (fun _ k_ => XS.i2c X18.here hx rfl (hb hby at_86) rfl k_) ?_
    obtain ⟨T19, h19, X19, e19, W19, V19, st19⟩ := own_castore (pc := 87) (Ls := #[.val (.int p0), .val (.int p1), .val (.int p2), .val (.int p3), .val (.int ia4), .val (.int ib5), .val (.ref a14), .val (.ref c_Lexer_Kind_KEYWORD), .val (.ref b17), .unset, .unset, .unset, .unset]) (rest := []) X18 hx hZ e18 V18 (j := (1 : Int32)) (x := ((((p2.toUInt32 >>> ((8 : Int32) &&& 31).toUInt32).toInt32) &&& (255 : Int32)).toUInt32.toUInt16.toUInt32.toInt32)) ⟨by decide, by decide⟩ 1 rfl (Nat.le_of_ble_eq_true rfl) (hb hby at_87)
    have V19 : Arv Z h19 b17 k17 .char (2 : Int32) [(.int ((p2 &&& (255 : Int32)).toUInt32.toUInt16.toUInt32.toInt32)), (.int (nar .char ((((p2.toUInt32 >>> ((8 : Int32) &&& 31).toUInt32).toInt32) &&& (255 : Int32)).toUInt32.toUInt16.toUInt32.toInt32)))] (.int (0 : Int32)) := V19
    rw [show nar .char ((((p2.toUInt32 >>> ((8 : Int32) &&& 31).toUInt32).toInt32) &&& (255 : Int32)).toUInt32.toUInt16.toUInt32.toInt32) = ((((p2.toUInt32 >>> ((8 : Int32) &&& 31).toUInt32).toInt32) &&& (255 : Int32)).toUInt32.toUInt16.toUInt32.toInt32) from own_nar_char _] at V19
    have O19' := O18'.wr W19 (Nat.le_trans O0.2.1 (Nat.le_of_eq g17.symm))
    have N19 := Fr.snoc X19 N18 (Nat.le_trans O0.2.1 (Nat.le_of_eq g17.symm))
    refine own_k (T' := T19) (g' := (mkF m 88 #[.val (.int p0), .val (.int p1), .val (.int p2), .val (.int p3), .val (.int ia4), .val (.int ib5), .val (.ref a14), .val (.ref c_Lexer_Kind_KEYWORD), .val (.ref b17), .unset, .unset, .unset, .unset] [])) st19 ?_
    obtain ⟨T20, h20, X20, e20, E20, A20, D20, -, st20⟩ := newO X19 hx hZ hown (hw _ (List.mem_of_getElem? (i := 12) rfl)) (hw _ (List.mem_of_getElem? (i := 13) rfl)) (hw _ (List.mem_of_getElem? (i := 14) rfl)) e19 (g := (mkF m 88 #[.val (.int p0), .val (.int p1), .val (.int p2), .val (.int p3), .val (.int ia4), .val (.int ib5), .val (.ref a14), .val (.ref c_Lexer_Kind_KEYWORD), .val (.ref b17), .unset, .unset, .unset, .unset] [])) rfl (hb hby at_88) (by decide) (by decide)
    obtain ⟨b20, g20⟩ : ∃ z, z = h19.size := ⟨_, rfl⟩
    rw [← g20] at A20 D20 st20
    have O20' := O19'.ext E20
    have F20_coder : Fld Z h20 b20 "java/lang/String" "coder" "B" (.int (0 : Int32)) := D20 (Or.inr (hw _ (List.mem_of_getElem? (i := 38) rfl))) (ty := .byte) (by decide)
    have F20_value : Fld Z h20 b20 "java/lang/String" "value" "[B" .null := D20 (Or.inr (hw _ (List.mem_of_getElem? (i := 40) rfl))) (ty := (.array .byte)) (by decide)
    refine own_k (T' := T20) (g' := (mkF m 91 #[.val (.int p0), .val (.int p1), .val (.int p2), .val (.int p3), .val (.int ia4), .val (.int ib5), .val (.ref a14), .val (.ref c_Lexer_Kind_KEYWORD), .val (.ref b17), .unset, .unset, .unset, .unset] [(.ref b20)])) st20 ?_
    refine own_k (T' := T20) (g' := (mkF m 92 #[.val (.int p0), .val (.int p1), .val (.int p2), .val (.int p3), .val (.int ia4), .val (.int ib5), .val (.ref a14), .val (.ref c_Lexer_Kind_KEYWORD), .val (.ref b17), .unset, .unset, .unset, .unset] [(.ref b20), (.ref b20)])) (fun _ k_ => XS.dup X20.here hx rfl (hb hby at_91) rfl rfl k_) ?_
    refine own_k (T' := T20) (g' := (mkF m 94 #[.val (.int p0), .val (.int p1), .val (.int p2), .val (.int p3), .val (.int ia4), .val (.int ib5), .val (.ref a14), .val (.ref c_Lexer_Kind_KEYWORD), .val (.ref b17), .unset, .unset, .unset, .unset] [(.ref b17), (.ref b20), (.ref b20)])) (fun _ k_ => XS.aload X20.here hx rfl (hb hby at_92) rfl rfl  k_) ?_
    refine own_callN X20 hx hZ (y := (⟨"java/lang/String", "<init>", "([C)V"⟩ : MethodName)) rfl hown (hw _ (List.mem_of_getElem? (i := 15) rfl)) (hw _ (List.mem_of_getElem? (i := 16) rfl)) (hw _ (List.mem_of_getElem? (i := 17) rfl)) (hw _ (List.mem_of_getElem? (i := 14) rfl)) (by decide) (al := [(.ref b17)]) (b := b20) (rm_init_4 l Z a0 c_Keyword_SELECT c_Lexer_Kind_KEYWORD c_Keyword_IS c_Keyword_AND c_Keyword_END c_Keyword_CURRENT_DATE c_Keyword_TYPE c_Keyword_NULL c_Lexer_Kind_WORD c_Keyword_IN c_Lexer_Kind_INTEGER c_Lexer_Kind_STRING c_Lexer_Kind_SYMBOL c_Lexer_Kind_END g_COMPACT_STRINGS g_SIOOBE_FORMATTER hW b20 b17 k17 ((p2 &&& (255 : Int32)).toUInt32.toUInt16.toUInt32.toInt32) ((((p2.toUInt32 >>> ((8 : Int32) &&& 31).toUInt32).toInt32) &&& (255 : Int32)).toUInt32.toUInt16.toUInt32.toInt32) h20 O20' (V19.ext E20) (own_lat p2) (own_lat ((p2.toUInt32 >>> ((8 : Int32) &&& 31).toUInt32).toInt32)) F20_coder A20 (Nat.le_trans O19'.2.1 (Nat.le_of_eq g20.symm)) F20_value) 1 (by decide) (by decide) e20 (by decide) (by decide) (by rw [hml]; rfl) (lenOf pd__28_5bC_29V rfl) rfl (rest := [(.ref b20)]) (by show 2 * 0 + _ ≤ _; exact Nat.le_of_eq rfl) (hb hby at_94) ?_
    intro v21 T21 L21 X21 hQ21
    obtain ⟨b21_0, k21_1, rfl, Nq21, K21, ge21_0, q21_0, q21_1, q21_2, q21_3, q21_4⟩ := hQ21
    have N21 := Fr.app N19 Nq21
    have O21' := O20'.keep K21 (allS (Nat.le_trans O19'.2.1 (Nat.le_of_eq g20.symm)) all0)
    show own_Go p e below Φ T21 (mkF m 97 #[.val (.int p0), .val (.int p1), .val (.int p2), .val (.int p3), .val (.int ia4), .val (.int ib5), .val (.ref a14), .val (.ref c_Lexer_Kind_KEYWORD), .val (.ref b17), .unset, .unset, .unset, .unset] [(.ref b20)])
    refine own_k (T' := T21) (g' := (mkF m 99 #[.val (.int p0), .val (.int p1), .val (.int p2), .val (.int p3), .val (.int ia4), .val (.int ib5), .val (.ref a14), .val (.ref c_Lexer_Kind_KEYWORD), .val (.ref b17), .val (.ref b20), .unset, .unset, .unset] [])) (fun _ k_ => XS.astore X21.here hx rfl (hb hby at_97) rfl rfl (l' := #[.val (.int p0), .val (.int p1), .val (.int p2), .val (.int p3), .val (.int ia4), .val (.int ib5), .val (.ref a14), .val (.ref c_Lexer_Kind_KEYWORD), .val (.ref b17), .val (.ref b20), .unset, .unset, .unset]) rfl k_) ?_
    refine own_k (T' := T21) (g' := (mkF m 101 #[.val (.int p0), .val (.int p1), .val (.int p2), .val (.int p3), .val (.int ia4), .val (.int ib5), .val (.ref a14), .val (.ref c_Lexer_Kind_KEYWORD), .val (.ref b17), .val (.ref b20), .unset, .unset, .unset] [(.int ib5)])) (fun _ k_ => XS.iload X21.here hx rfl (hb hby at_99) rfl  k_) ?_
    refine own_callS X21 hx hZ (y := (⟨"com/example/nepean/nepean/query/TokenIsPinLaw", "pick", "(I)Lcom/example/nepean/nepean/query/Keyword;"⟩ : MethodName)) hown (hw _ (List.mem_of_getElem? (i := 1) rfl)) (hw _ (List.mem_of_getElem? (i := 2) rfl)) (hw _ (List.mem_of_getElem? (i := 3) rfl)) (hw _ (List.mem_of_getElem? (i := 4) rfl)) (by decide) (al := [(.int ib5)]) (rm_pick l Z a0 c_Keyword_SELECT c_Lexer_Kind_KEYWORD c_Keyword_IS c_Keyword_AND c_Keyword_END c_Keyword_CURRENT_DATE c_Keyword_TYPE c_Keyword_NULL c_Lexer_Kind_WORD c_Keyword_IN c_Lexer_Kind_INTEGER c_Lexer_Kind_STRING c_Lexer_Kind_SYMBOL c_Lexer_Kind_END g_COMPACT_STRINGS g_SIOOBE_FORMATTER hW ib5 T21.heap O21'.2) 0 (by decide) (by decide) rfl (by decide) (by decide) (by rw [hml]; rfl) (lenOf pd__28I_29Lcom_2fexample_2fnepean_2fnepean_2fquery_2fKeyword_3b rfl) rfl (rest := []) (by show 2 * 0 + _ ≤ _; exact Nat.le_of_eq rfl) (hb hby at_101) ?_
    intro v23 T23 L23 X23 hQ23
    obtain ⟨⟨a22, rfl, hP_a22⟩, Nq23, e23⟩ := hQ23
    have N23 := Fr.app N21 Nq23
    show own_Go p e below Φ T23 (mkF m 104 #[.val (.int p0), .val (.int p1), .val (.int p2), .val (.int p3), .val (.int ia4), .val (.int ib5), .val (.ref a14), .val (.ref c_Lexer_Kind_KEYWORD), .val (.ref b17), .val (.ref b20), .unset, .unset, .unset] [(.ref a22)])
    refine own_k (T' := T23) (g' := (mkF m 106 #[.val (.int p0), .val (.int p1), .val (.int p2), .val (.int p3), .val (.int ia4), .val (.int ib5), .val (.ref a14), .val (.ref c_Lexer_Kind_KEYWORD), .val (.ref b17), .val (.ref b20), .val (.ref a22), .unset, .unset] [])) (fun _ k_ => XS.astore X23.here hx rfl (hb hby at_104) rfl rfl (l' := #[.val (.int p0), .val (.int p1), .val (.int p2), .val (.int p3), .val (.int ia4), .val (.int ib5), .val (.ref a14), .val (.ref c_Lexer_Kind_KEYWORD), .val (.ref b17), .val (.ref b20), .val (.ref a22), .unset, .unset]) rfl k_) ?_
    obtain ⟨T24, h24, X24, e24, E24, A24, D24, -, st24⟩ := newO X23 hx hZ hown (hw _ (List.mem_of_getElem? (i := 43) rfl)) (hw _ (List.mem_of_getElem? (i := 44) rfl)) (hw _ (List.mem_of_getElem? (i := 45) rfl)) e23 (g := (mkF m 106 #[.val (.int p0), .val (.int p1), .val (.int p2), .val (.int p3), .val (.int ia4), .val (.int ib5), .val (.ref a14), .val (.ref c_Lexer_Kind_KEYWORD), .val (.ref b17), .val (.ref b20), .val (.ref a22), .unset, .unset] [])) rfl (hb hby at_106) (by decide) (by decide)
    obtain ⟨b24, g24⟩ : ∃ z, z = T21.heap.size := ⟨_, rfl⟩
    rw [← g24] at A24 D24 st24
    have O24' := O21'.ext E24
    have F24_kind : Fld Z h24 b24 "com/example/nepean/nepean/query/Lexer$Token" "kind" "Lcom/example/nepean/nepean/query/Lexer$Kind;" .null := D24 (Or.inr (hw _ (List.mem_of_getElem? (i := 56) rfl))) (ty := (.object "com/example/nepean/nepean/query/Lexer$Kind")) (by decide)
    have F24_text : Fld Z h24 b24 "com/example/nepean/nepean/query/Lexer$Token" "text" "Ljava/lang/String;" .null := D24 (Or.inr (hw _ (List.mem_of_getElem? (i := 58) rfl))) (ty := (.object "java/lang/String")) (by decide)
    have F24_keyword : Fld Z h24 b24 "com/example/nepean/nepean/query/Lexer$Token" "keyword" "Lcom/example/nepean/nepean/query/Keyword;" .null := D24 (Or.inr (hw _ (List.mem_of_getElem? (i := 60) rfl))) (ty := (.object "com/example/nepean/nepean/query/Keyword")) (by decide)
    have F24_position : Fld Z h24 b24 "com/example/nepean/nepean/query/Lexer$Token" "position" "I" (.int (0 : Int32)) := D24 (Or.inr (hw _ (List.mem_of_getElem? (i := 62) rfl))) (ty := .int) (by decide)
    refine own_k (T' := T24) (g' := (mkF m 109 #[.val (.int p0), .val (.int p1), .val (.int p2), .val (.int p3), .val (.int ia4), .val (.int ib5), .val (.ref a14), .val (.ref c_Lexer_Kind_KEYWORD), .val (.ref b17), .val (.ref b20), .val (.ref a22), .unset, .unset] [(.ref b24)])) st24 ?_
    refine own_k (T' := T24) (g' := (mkF m 110 #[.val (.int p0), .val (.int p1), .val (.int p2), .val (.int p3), .val (.int ia4), .val (.int ib5), .val (.ref a14), .val (.ref c_Lexer_Kind_KEYWORD), .val (.ref b17), .val (.ref b20), .val (.ref a22), .unset, .unset] [(.ref b24), (.ref b24)])) (fun _ k_ => XS.dup X24.here hx rfl (hb hby at_109) rfl rfl k_) ?_
    refine own_k (T' := T24) (g' := (mkF m 112 #[.val (.int p0), .val (.int p1), .val (.int p2), .val (.int p3), .val (.int ia4), .val (.int ib5), .val (.ref a14), .val (.ref c_Lexer_Kind_KEYWORD), .val (.ref b17), .val (.ref b20), .val (.ref a22), .unset, .unset] [(.ref c_Lexer_Kind_KEYWORD), (.ref b24), (.ref b24)])) (fun _ k_ => XS.aload X24.here hx rfl (hb hby at_110) rfl rfl  k_) ?_
    refine own_k (T' := T24) (g' := (mkF m 114 #[.val (.int p0), .val (.int p1), .val (.int p2), .val (.int p3), .val (.int ia4), .val (.int ib5), .val (.ref a14), .val (.ref c_Lexer_Kind_KEYWORD), .val (.ref b17), .val (.ref b20), .val (.ref a22), .unset, .unset] [(.ref b20), (.ref c_Lexer_Kind_KEYWORD), (.ref b24), (.ref b24)])) (fun _ k_ => XS.aload X24.here hx rfl (hb hby at_112) rfl rfl  k_) ?_
    refine own_k (T' := T24) (g' := (mkF m 116 #[.val (.int p0), .val (.int p1), .val (.int p2), .val (.int p3), .val (.int ia4), .val (.int ib5), .val (.ref a14), .val (.ref c_Lexer_Kind_KEYWORD), .val (.ref b17), .val (.ref b20), .val (.ref a22), .unset, .unset] [(.ref a14), (.ref b20), (.ref c_Lexer_Kind_KEYWORD), (.ref b24), (.ref b24)])) (fun _ k_ => XS.aload X24.here hx rfl (hb hby at_114) rfl rfl  k_) ?_
    refine own_k (T' := T24) (g' := (mkF m 117 #[.val (.int p0), .val (.int p1), .val (.int p2), .val (.int p3), .val (.int ia4), .val (.int ib5), .val (.ref a14), .val (.ref c_Lexer_Kind_KEYWORD), .val (.ref b17), .val (.ref b20), .val (.ref a22), .unset, .unset] [(.int p3), (.ref a14), (.ref b20), (.ref c_Lexer_Kind_KEYWORD), (.ref b24), (.ref b24)])) (fun _ k_ => XS.iloadN X24.here hx rfl (hb hby at_116) rfl  k_) ?_
    refine own_callN X24 hx hZ (y := (⟨"com/example/nepean/nepean/query/Lexer$Token", "<init>", "(Lcom/example/nepean/nepean/query/Lexer$Kind;Ljava/lang/String;Lcom/example/nepean/nepean/query/Keyword;I)V"⟩ : MethodName)) rfl hown (hw _ (List.mem_of_getElem? (i := 46) rfl)) (hw _ (List.mem_of_getElem? (i := 47) rfl)) (hw _ (List.mem_of_getElem? (i := 48) rfl)) (hw _ (List.mem_of_getElem? (i := 45) rfl)) (by decide) (al := [(.ref c_Lexer_Kind_KEYWORD), (.ref b20), (.ref a14), (.int p3)]) (b := b24) (rm_init_8 l Z a0 c_Keyword_SELECT c_Lexer_Kind_KEYWORD c_Keyword_IS c_Keyword_AND c_Keyword_END c_Keyword_CURRENT_DATE c_Keyword_TYPE c_Keyword_NULL c_Lexer_Kind_WORD c_Keyword_IN c_Lexer_Kind_INTEGER c_Lexer_Kind_STRING c_Lexer_Kind_SYMBOL c_Lexer_Kind_END g_COMPACT_STRINGS g_SIOOBE_FORMATTER hW b24 b20 a14 p3 h24 O24' F24_kind A24 (Nat.le_trans O21'.2.1 (Nat.le_of_eq g24.symm)) F24_text F24_keyword F24_position) 1 (by decide) (by decide) e24 (by decide) (by decide) (by rw [hml]; rfl) (lenOf pd__28Lcom_2fexample_2fnepean_2fnepean_2fquery_2fLexer_24Kind_3bLjava_2flang_2fString_3bLcom_2fexample_2fnepean_2fnepean_2fquery_2fKeyword_3bI_29V rfl) rfl (rest := [(.ref b24)]) (by show 2 * 0 + _ ≤ _; exact Nat.le_of_eq rfl) (hb hby at_117) ?_
    intro v25 T25 L25 X25 hQ25
    obtain ⟨rfl, Nq25, K25, q25_0, q25_1, q25_2, q25_3, q25_4⟩ := hQ25
    have N25 := Fr.app N23 Nq25
    have O25' := O24'.keep K25 (allS (Nat.le_trans O21'.2.1 (Nat.le_of_eq g24.symm)) all0)
    show own_Go p e below Φ T25 (mkF m 120 #[.val (.int p0), .val (.int p1), .val (.int p2), .val (.int p3), .val (.int ia4), .val (.int ib5), .val (.ref a14), .val (.ref c_Lexer_Kind_KEYWORD), .val (.ref b17), .val (.ref b20), .val (.ref a22), .unset, .unset] [(.ref b24)])
    refine own_k (T' := T25) (g' := (mkF m 122 #[.val (.int p0), .val (.int p1), .val (.int p2), .val (.int p3), .val (.int ia4), .val (.int ib5), .val (.ref a14), .val (.ref c_Lexer_Kind_KEYWORD), .val (.ref b17), .val (.ref b20), .val (.ref a22), .val (.ref b24), .unset] [])) (fun _ k_ => XS.astore X25.here hx rfl (hb hby at_120) rfl rfl (l' := #[.val (.int p0), .val (.int p1), .val (.int p2), .val (.int p3), .val (.int ia4), .val (.int ib5), .val (.ref a14), .val (.ref c_Lexer_Kind_KEYWORD), .val (.ref b17), .val (.ref b20), .val (.ref a22), .val (.ref b24), .unset]) rfl k_) ?_
    refine own_k (T' := T25) (g' := (mkF m 124 #[.val (.int p0), .val (.int p1), .val (.int p2), .val (.int p3), .val (.int ia4), .val (.int ib5), .val (.ref a14), .val (.ref c_Lexer_Kind_KEYWORD), .val (.ref b17), .val (.ref b20), .val (.ref a22), .val (.ref b24), .unset] [(.ref b24)])) (fun _ k_ => XS.aload X25.here hx rfl (hb hby at_122) rfl rfl  k_) ?_
    refine own_k (T' := T25) (g' := (mkF m 126 #[.val (.int p0), .val (.int p1), .val (.int p2), .val (.int p3), .val (.int ia4), .val (.int ib5), .val (.ref a14), .val (.ref c_Lexer_Kind_KEYWORD), .val (.ref b17), .val (.ref b20), .val (.ref a22), .val (.ref b24), .unset] [(.ref a22), (.ref b24)])) (fun _ k_ => XS.aload X25.here hx rfl (hb hby at_124) rfl rfl  k_) ?_
    by_cases hc26 : a14 = a22
    · refine own_callV X25 hx hZ (C := "com/example/nepean/nepean/query/Lexer$Token") (y := (⟨"com/example/nepean/nepean/query/Lexer$Token", "is", "(Lcom/example/nepean/nepean/query/Keyword;)Z"⟩ : MethodName)) (z := (⟨"com/example/nepean/nepean/query/Lexer$Token", "is", "(Lcom/example/nepean/nepean/query/Keyword;)Z"⟩ : MethodName)) hown (hw _ (List.mem_of_getElem? (i := 63) rfl)) (hw _ (List.mem_of_getElem? (i := 64) rfl)) (notFace_of_selects (args := #[]) (mvT hZ (hw _ (List.mem_of_getElem? (i := 66) rfl)))) (hw _ (List.mem_of_getElem? (i := 66) rfl)) (hw _ (List.mem_of_getElem? (i := 65) rfl)) (hw _ (List.mem_of_getElem? (i := 67) rfl)) (hw _ (List.mem_of_getElem? (i := 45) rfl)) (by decide) (al := [(.ref a22)]) q25_0 (rm_is_9 l Z a0 c_Keyword_SELECT c_Lexer_Kind_KEYWORD c_Keyword_IS c_Keyword_AND c_Keyword_END c_Keyword_CURRENT_DATE c_Keyword_TYPE c_Keyword_NULL c_Lexer_Kind_WORD c_Keyword_IN c_Lexer_Kind_INTEGER c_Lexer_Kind_STRING c_Lexer_Kind_SYMBOL c_Lexer_Kind_END g_COMPACT_STRINGS g_SIOOBE_FORMATTER hW b24 a22 a14 T25.heap O25' q25_3 hc26) 0 (by decide) (by decide) rfl (by decide) (by decide) (by rw [hml]; rfl) (lenOf pd__28Lcom_2fexample_2fnepean_2fnepean_2fquery_2fKeyword_3b_29Z rfl) rfl (rest := []) (by show 2 * 0 + _ ≤ _; exact Nat.le_of_eq rfl) (hb hby at_126) ?_
      intro v27 T27 L27 X27 hQ27
      obtain ⟨rfl, Nq27, e27⟩ := hQ27
      have N27 := Fr.app N25 Nq27
      show own_Go p e below Φ T27 (mkF m 129 #[.val (.int p0), .val (.int p1), .val (.int p2), .val (.int p3), .val (.int ia4), .val (.int ib5), .val (.ref a14), .val (.ref c_Lexer_Kind_KEYWORD), .val (.ref b17), .val (.ref b20), .val (.ref a22), .val (.ref b24), .unset] [(.int (1 : Int32))])
      refine own_k (T' := T27) (g' := (mkF m 131 #[.val (.int p0), .val (.int p1), .val (.int p2), .val (.int p3), .val (.int ia4), .val (.int ib5), .val (.ref a14), .val (.ref c_Lexer_Kind_KEYWORD), .val (.ref b17), .val (.ref b20), .val (.ref a22), .val (.ref b24), .val (.int (1 : Int32))] [])) (fun _ k_ => XS.istore X27.here hx rfl (hb hby at_129) rfl (l' := #[.val (.int p0), .val (.int p1), .val (.int p2), .val (.int p3), .val (.int ia4), .val (.int ib5), .val (.ref a14), .val (.ref c_Lexer_Kind_KEYWORD), .val (.ref b17), .val (.ref b20), .val (.ref a22), .val (.ref b24), .val (.int (1 : Int32))]) rfl k_) ?_
      refine own_k (T' := T27) (g' := (mkF m 133 #[.val (.int p0), .val (.int p1), .val (.int p2), .val (.int p3), .val (.int ia4), .val (.int ib5), .val (.ref a14), .val (.ref c_Lexer_Kind_KEYWORD), .val (.ref b17), .val (.ref b20), .val (.ref a22), .val (.ref b24), .val (.int (1 : Int32))] [(.int (1 : Int32))])) (fun _ k_ => XS.iload X27.here hx rfl (hb hby at_131) rfl  k_) ?_
      refine own_k (T' := T27) (g' := (mkF m 135 #[.val (.int p0), .val (.int p1), .val (.int p2), .val (.int p3), .val (.int ia4), .val (.int ib5), .val (.ref a14), .val (.ref c_Lexer_Kind_KEYWORD), .val (.ref b17), .val (.ref b20), .val (.ref a22), .val (.ref b24), .val (.int (1 : Int32))] [(.int ia4), (.int (1 : Int32))])) (fun _ k_ => XS.iload X27.here hx rfl (hb hby at_133) rfl  k_) ?_
      refine own_k (T' := T27) (g' := (mkF m 137 #[.val (.int p0), .val (.int p1), .val (.int p2), .val (.int p3), .val (.int ia4), .val (.int ib5), .val (.ref a14), .val (.ref c_Lexer_Kind_KEYWORD), .val (.ref b17), .val (.ref b20), .val (.ref a22), .val (.ref b24), .val (.int (1 : Int32))] [(.int ib5), (.int ia4), (.int (1 : Int32))])) (fun _ k_ => XS.iload X27.here hx rfl (hb hby at_135) rfl  k_) ?_
      refine own_k (T' := T27) (g' := (mkF m 140 #[.val (.int p0), .val (.int p1), .val (.int p2), .val (.int p3), .val (.int ia4), .val (.int ib5), .val (.ref a14), .val (.ref c_Lexer_Kind_KEYWORD), .val (.ref b17), .val (.ref b20), .val (.ref a22), .val (.ref b24), .val (.int (1 : Int32))] [(.int (1 : Int32))])) (fun _ k_ => XS.icmpNo X27.here hx rfl (hb hby at_137) rfl ((teq ((own_pk_iff (Fld.ne F_c_Keyword_SELECT_ordinal F_c_Keyword_END_ordinal (by decide)) (Fld.ne F_c_Keyword_SELECT_ordinal F_c_Keyword_NULL_ordinal (by decide)) (Fld.ne F_c_Keyword_SELECT_ordinal F_c_Keyword_IS_ordinal (by decide)) (Fld.ne F_c_Keyword_SELECT_ordinal F_c_Keyword_IN_ordinal (by decide)) (Fld.ne F_c_Keyword_SELECT_ordinal F_c_Keyword_TYPE_ordinal (by decide)) (Fld.ne F_c_Keyword_SELECT_ordinal F_c_Keyword_CURRENT_DATE_ordinal (by decide)) (Fld.ne F_c_Keyword_SELECT_ordinal F_c_Keyword_AND_ordinal (by decide)) (Fld.ne F_c_Keyword_END_ordinal F_c_Keyword_NULL_ordinal (by decide)) (Fld.ne F_c_Keyword_END_ordinal F_c_Keyword_IS_ordinal (by decide)) (Fld.ne F_c_Keyword_END_ordinal F_c_Keyword_IN_ordinal (by decide)) (Fld.ne F_c_Keyword_END_ordinal F_c_Keyword_TYPE_ordinal (by decide)) (Fld.ne F_c_Keyword_END_ordinal F_c_Keyword_CURRENT_DATE_ordinal (by decide)) (Fld.ne F_c_Keyword_END_ordinal F_c_Keyword_AND_ordinal (by decide)) (Fld.ne F_c_Keyword_NULL_ordinal F_c_Keyword_IS_ordinal (by decide)) (Fld.ne F_c_Keyword_NULL_ordinal F_c_Keyword_IN_ordinal (by decide)) (Fld.ne F_c_Keyword_NULL_ordinal F_c_Keyword_TYPE_ordinal (by decide)) (Fld.ne F_c_Keyword_NULL_ordinal F_c_Keyword_CURRENT_DATE_ordinal (by decide)) (Fld.ne F_c_Keyword_NULL_ordinal F_c_Keyword_AND_ordinal (by decide)) (Fld.ne F_c_Keyword_IS_ordinal F_c_Keyword_IN_ordinal (by decide)) (Fld.ne F_c_Keyword_IS_ordinal F_c_Keyword_TYPE_ordinal (by decide)) (Fld.ne F_c_Keyword_IS_ordinal F_c_Keyword_CURRENT_DATE_ordinal (by decide)) (Fld.ne F_c_Keyword_IS_ordinal F_c_Keyword_AND_ordinal (by decide)) (Fld.ne F_c_Keyword_IN_ordinal F_c_Keyword_TYPE_ordinal (by decide)) (Fld.ne F_c_Keyword_IN_ordinal F_c_Keyword_CURRENT_DATE_ordinal (by decide)) (Fld.ne F_c_Keyword_IN_ordinal F_c_Keyword_AND_ordinal (by decide)) (Fld.ne F_c_Keyword_TYPE_ordinal F_c_Keyword_CURRENT_DATE_ordinal (by decide)) (Fld.ne F_c_Keyword_TYPE_ordinal F_c_Keyword_AND_ordinal (by decide)) (Fld.ne F_c_Keyword_CURRENT_DATE_ordinal F_c_Keyword_AND_ordinal (by decide)) r4' r5 hP_a14 hP_a22).mp hc26)).2) k_) ?_
      refine own_k (T' := T27) (g' := (mkF m 141 #[.val (.int p0), .val (.int p1), .val (.int p2), .val (.int p3), .val (.int ia4), .val (.int ib5), .val (.ref a14), .val (.ref c_Lexer_Kind_KEYWORD), .val (.ref b17), .val (.ref b20), .val (.ref a22), .val (.ref b24), .val (.int (1 : Int32))] [(.int (1 : Int32)), (.int (1 : Int32))])) (fun _ k_ => XS.iconst X27.here hx rfl (hb hby at_140) k_) ?_
      refine own_k (T' := T27) (g' := (mkF m 145 #[.val (.int p0), .val (.int p1), .val (.int p2), .val (.int p3), .val (.int ia4), .val (.int ib5), .val (.ref a14), .val (.ref c_Lexer_Kind_KEYWORD), .val (.ref b17), .val (.ref b20), .val (.ref a22), .val (.ref b24), .val (.int (1 : Int32))] [(.int (1 : Int32)), (.int (1 : Int32))])) (fun _ k_ => XS.goto X27.here hx rfl (pc0 := 141) (pc' := 145) rfl (hb hby at_141) (by decide) (by decide) k_) ?_
      refine own_k (T' := T27) (g' := (mkF m 148 #[.val (.int p0), .val (.int p1), .val (.int p2), .val (.int p3), .val (.int ia4), .val (.int ib5), .val (.ref a14), .val (.ref c_Lexer_Kind_KEYWORD), .val (.ref b17), .val (.ref b20), .val (.ref a22), .val (.ref b24), .val (.int (1 : Int32))] [])) (fun _ k_ => XS.icmpNo X27.here hx rfl (hb hby at_145) rfl ((teq (by decide : ((1 : Int32) = (1 : Int32)))).2) k_) ?_
      refine own_k (T' := T27) (g' := (mkF m 149 #[.val (.int p0), .val (.int p1), .val (.int p2), .val (.int p3), .val (.int ia4), .val (.int ib5), .val (.ref a14), .val (.ref c_Lexer_Kind_KEYWORD), .val (.ref b17), .val (.ref b20), .val (.ref a22), .val (.ref b24), .val (.int (1 : Int32))] [(.int (1 : Int32))])) (fun _ k_ => XS.iconst X27.here hx rfl (hb hby at_148) k_) ?_
      refine own_k (T' := T27) (g' := (mkF m 153 #[.val (.int p0), .val (.int p1), .val (.int p2), .val (.int p3), .val (.int ia4), .val (.int ib5), .val (.ref a14), .val (.ref c_Lexer_Kind_KEYWORD), .val (.ref b17), .val (.ref b20), .val (.ref a22), .val (.ref b24), .val (.int (1 : Int32))] [(.int (1 : Int32))])) (fun _ k_ => XS.goto X27.here hx rfl (pc0 := 149) (pc' := 153) rfl (hb hby at_149) (by decide) (by decide) k_) ?_
      exact own_retN X27 hx (t := .boolean) hret (by simp) hlk (hb hby at_153) hF (⟨by rw [show nar .boolean (1 : Int32) = (1 : Int32) from by decide], N27, trivial⟩) (by decide) (by decide)
    · refine own_callV X25 hx hZ (C := "com/example/nepean/nepean/query/Lexer$Token") (y := (⟨"com/example/nepean/nepean/query/Lexer$Token", "is", "(Lcom/example/nepean/nepean/query/Keyword;)Z"⟩ : MethodName)) (z := (⟨"com/example/nepean/nepean/query/Lexer$Token", "is", "(Lcom/example/nepean/nepean/query/Keyword;)Z"⟩ : MethodName)) hown (hw _ (List.mem_of_getElem? (i := 63) rfl)) (hw _ (List.mem_of_getElem? (i := 64) rfl)) (notFace_of_selects (args := #[]) (mvT hZ (hw _ (List.mem_of_getElem? (i := 66) rfl)))) (hw _ (List.mem_of_getElem? (i := 66) rfl)) (hw _ (List.mem_of_getElem? (i := 65) rfl)) (hw _ (List.mem_of_getElem? (i := 67) rfl)) (hw _ (List.mem_of_getElem? (i := 45) rfl)) (by decide) (al := [(.ref a22)]) q25_0 (rm_is_10 l Z a0 c_Keyword_SELECT c_Lexer_Kind_KEYWORD c_Keyword_IS c_Keyword_AND c_Keyword_END c_Keyword_CURRENT_DATE c_Keyword_TYPE c_Keyword_NULL c_Lexer_Kind_WORD c_Keyword_IN c_Lexer_Kind_INTEGER c_Lexer_Kind_STRING c_Lexer_Kind_SYMBOL c_Lexer_Kind_END g_COMPACT_STRINGS g_SIOOBE_FORMATTER hW b24 a22 a14 T25.heap O25' q25_3 hc26) 0 (by decide) (by decide) rfl (by decide) (by decide) (by rw [hml]; rfl) (lenOf pd__28Lcom_2fexample_2fnepean_2fnepean_2fquery_2fKeyword_3b_29Z rfl) rfl (rest := []) (by show 2 * 0 + _ ≤ _; exact Nat.le_of_eq rfl) (hb hby at_126) ?_
      intro v28 T28 L28 X28 hQ28
      obtain ⟨rfl, Nq28, e28⟩ := hQ28
      have N28 := Fr.app N25 Nq28
      show own_Go p e below Φ T28 (mkF m 129 #[.val (.int p0), .val (.int p1), .val (.int p2), .val (.int p3), .val (.int ia4), .val (.int ib5), .val (.ref a14), .val (.ref c_Lexer_Kind_KEYWORD), .val (.ref b17), .val (.ref b20), .val (.ref a22), .val (.ref b24), .unset] [(.int (0 : Int32))])
      refine own_k (T' := T28) (g' := (mkF m 131 #[.val (.int p0), .val (.int p1), .val (.int p2), .val (.int p3), .val (.int ia4), .val (.int ib5), .val (.ref a14), .val (.ref c_Lexer_Kind_KEYWORD), .val (.ref b17), .val (.ref b20), .val (.ref a22), .val (.ref b24), .val (.int (0 : Int32))] [])) (fun _ k_ => XS.istore X28.here hx rfl (hb hby at_129) rfl (l' := #[.val (.int p0), .val (.int p1), .val (.int p2), .val (.int p3), .val (.int ia4), .val (.int ib5), .val (.ref a14), .val (.ref c_Lexer_Kind_KEYWORD), .val (.ref b17), .val (.ref b20), .val (.ref a22), .val (.ref b24), .val (.int (0 : Int32))]) rfl k_) ?_
      refine own_k (T' := T28) (g' := (mkF m 133 #[.val (.int p0), .val (.int p1), .val (.int p2), .val (.int p3), .val (.int ia4), .val (.int ib5), .val (.ref a14), .val (.ref c_Lexer_Kind_KEYWORD), .val (.ref b17), .val (.ref b20), .val (.ref a22), .val (.ref b24), .val (.int (0 : Int32))] [(.int (0 : Int32))])) (fun _ k_ => XS.iload X28.here hx rfl (hb hby at_131) rfl  k_) ?_
      refine own_k (T' := T28) (g' := (mkF m 135 #[.val (.int p0), .val (.int p1), .val (.int p2), .val (.int p3), .val (.int ia4), .val (.int ib5), .val (.ref a14), .val (.ref c_Lexer_Kind_KEYWORD), .val (.ref b17), .val (.ref b20), .val (.ref a22), .val (.ref b24), .val (.int (0 : Int32))] [(.int ia4), (.int (0 : Int32))])) (fun _ k_ => XS.iload X28.here hx rfl (hb hby at_133) rfl  k_) ?_
      refine own_k (T' := T28) (g' := (mkF m 137 #[.val (.int p0), .val (.int p1), .val (.int p2), .val (.int p3), .val (.int ia4), .val (.int ib5), .val (.ref a14), .val (.ref c_Lexer_Kind_KEYWORD), .val (.ref b17), .val (.ref b20), .val (.ref a22), .val (.ref b24), .val (.int (0 : Int32))] [(.int ib5), (.int ia4), (.int (0 : Int32))])) (fun _ k_ => XS.iload X28.here hx rfl (hb hby at_135) rfl  k_) ?_
      refine own_k (T' := T28) (g' := (mkF m 144 #[.val (.int p0), .val (.int p1), .val (.int p2), .val (.int p3), .val (.int ia4), .val (.int ib5), .val (.ref a14), .val (.ref c_Lexer_Kind_KEYWORD), .val (.ref b17), .val (.ref b20), .val (.ref a22), .val (.ref b24), .val (.int (0 : Int32))] [(.int (0 : Int32))])) (fun _ k_ => XS.icmpYes X28.here hx rfl (pc0 := 137) (pc' := 144) rfl (hb hby at_137) rfl ((feq (fun q => hc26 ((own_pk_iff (Fld.ne F_c_Keyword_SELECT_ordinal F_c_Keyword_END_ordinal (by decide)) (Fld.ne F_c_Keyword_SELECT_ordinal F_c_Keyword_NULL_ordinal (by decide)) (Fld.ne F_c_Keyword_SELECT_ordinal F_c_Keyword_IS_ordinal (by decide)) (Fld.ne F_c_Keyword_SELECT_ordinal F_c_Keyword_IN_ordinal (by decide)) (Fld.ne F_c_Keyword_SELECT_ordinal F_c_Keyword_TYPE_ordinal (by decide)) (Fld.ne F_c_Keyword_SELECT_ordinal F_c_Keyword_CURRENT_DATE_ordinal (by decide)) (Fld.ne F_c_Keyword_SELECT_ordinal F_c_Keyword_AND_ordinal (by decide)) (Fld.ne F_c_Keyword_END_ordinal F_c_Keyword_NULL_ordinal (by decide)) (Fld.ne F_c_Keyword_END_ordinal F_c_Keyword_IS_ordinal (by decide)) (Fld.ne F_c_Keyword_END_ordinal F_c_Keyword_IN_ordinal (by decide)) (Fld.ne F_c_Keyword_END_ordinal F_c_Keyword_TYPE_ordinal (by decide)) (Fld.ne F_c_Keyword_END_ordinal F_c_Keyword_CURRENT_DATE_ordinal (by decide)) (Fld.ne F_c_Keyword_END_ordinal F_c_Keyword_AND_ordinal (by decide)) (Fld.ne F_c_Keyword_NULL_ordinal F_c_Keyword_IS_ordinal (by decide)) (Fld.ne F_c_Keyword_NULL_ordinal F_c_Keyword_IN_ordinal (by decide)) (Fld.ne F_c_Keyword_NULL_ordinal F_c_Keyword_TYPE_ordinal (by decide)) (Fld.ne F_c_Keyword_NULL_ordinal F_c_Keyword_CURRENT_DATE_ordinal (by decide)) (Fld.ne F_c_Keyword_NULL_ordinal F_c_Keyword_AND_ordinal (by decide)) (Fld.ne F_c_Keyword_IS_ordinal F_c_Keyword_IN_ordinal (by decide)) (Fld.ne F_c_Keyword_IS_ordinal F_c_Keyword_TYPE_ordinal (by decide)) (Fld.ne F_c_Keyword_IS_ordinal F_c_Keyword_CURRENT_DATE_ordinal (by decide)) (Fld.ne F_c_Keyword_IS_ordinal F_c_Keyword_AND_ordinal (by decide)) (Fld.ne F_c_Keyword_IN_ordinal F_c_Keyword_TYPE_ordinal (by decide)) (Fld.ne F_c_Keyword_IN_ordinal F_c_Keyword_CURRENT_DATE_ordinal (by decide)) (Fld.ne F_c_Keyword_IN_ordinal F_c_Keyword_AND_ordinal (by decide)) (Fld.ne F_c_Keyword_TYPE_ordinal F_c_Keyword_CURRENT_DATE_ordinal (by decide)) (Fld.ne F_c_Keyword_TYPE_ordinal F_c_Keyword_AND_ordinal (by decide)) (Fld.ne F_c_Keyword_CURRENT_DATE_ordinal F_c_Keyword_AND_ordinal (by decide)) r4' r5 hP_a14 hP_a22).mpr q))).2) (by decide) (by decide) k_) ?_
      refine own_k (T' := T28) (g' := (mkF m 145 #[.val (.int p0), .val (.int p1), .val (.int p2), .val (.int p3), .val (.int ia4), .val (.int ib5), .val (.ref a14), .val (.ref c_Lexer_Kind_KEYWORD), .val (.ref b17), .val (.ref b20), .val (.ref a22), .val (.ref b24), .val (.int (0 : Int32))] [(.int (0 : Int32)), (.int (0 : Int32))])) (fun _ k_ => XS.iconst X28.here hx rfl (hb hby at_144) k_) ?_
      refine own_k (T' := T28) (g' := (mkF m 148 #[.val (.int p0), .val (.int p1), .val (.int p2), .val (.int p3), .val (.int ia4), .val (.int ib5), .val (.ref a14), .val (.ref c_Lexer_Kind_KEYWORD), .val (.ref b17), .val (.ref b20), .val (.ref a22), .val (.ref b24), .val (.int (0 : Int32))] [])) (fun _ k_ => XS.icmpNo X28.here hx rfl (hb hby at_145) rfl ((teq (by decide : ((0 : Int32) = (0 : Int32)))).2) k_) ?_
      refine own_k (T' := T28) (g' := (mkF m 149 #[.val (.int p0), .val (.int p1), .val (.int p2), .val (.int p3), .val (.int ia4), .val (.int ib5), .val (.ref a14), .val (.ref c_Lexer_Kind_KEYWORD), .val (.ref b17), .val (.ref b20), .val (.ref a22), .val (.ref b24), .val (.int (0 : Int32))] [(.int (1 : Int32))])) (fun _ k_ => XS.iconst X28.here hx rfl (hb hby at_148) k_) ?_
      refine own_k (T' := T28) (g' := (mkF m 153 #[.val (.int p0), .val (.int p1), .val (.int p2), .val (.int p3), .val (.int ia4), .val (.int ib5), .val (.ref a14), .val (.ref c_Lexer_Kind_KEYWORD), .val (.ref b17), .val (.ref b20), .val (.ref a22), .val (.ref b24), .val (.int (0 : Int32))] [(.int (1 : Int32))])) (fun _ k_ => XS.goto X28.here hx rfl (pc0 := 149) (pc' := 153) rfl (hb hby at_149) (by decide) (by decide) k_) ?_
      exact own_retN X28 hx (t := .boolean) hret (by simp) hlk (hb hby at_153) hF (⟨by rw [show nar .boolean (1 : Int32) = (1 : Int32) from by decide], N28, trivial⟩) (by decide) (by decide)
set_option maxRecDepth 65536 in
set_option maxHeartbeats 40000000 in
theorem comes_1 {Post : Tables → Env → Array Value → State → Outcome → State → Prop} (hpost : ∀ tb e args s v u, (limb_1_1.after args s (.returned v) u = true ∧ limb_1_2.after args s (.returned v) u = true ∧ True) → FrameEnd s (.returned v) u (Jvm.fieldLocs frame_1_writes args s ++ Jvm.arrayLocs frame_1_arrays args s ++ Jvm.staticLocs frame_1_statics s) 16 128 → Post tb e args s (.returned v) u) :
    ArmFor flags0 classFile x code maxLocals ret World_1 tables_1 room_1 Calls_1 rest_1 Pre_1 Post := by
  intro l hfl _ _ p e ha hc hk s m args below hf hA hF happ hP
  obtain ⟨hcalls, hrest, hpre⟩ := hP
  obtain ⟨-, -, -, hnamed, -, -, -, hat⟩ := (Spec.applies_iff hf).mp happ
  obtain ⟨hg, hn⟩ := and_e (Cond.before_iff.mp (show (Jvm.Cond.and given_1 narrow_1).before args s = true from hpre))
  obtain ⟨g1, g2⟩ := and_e hg
  obtain ⟨g3, g4⟩ := and_e g2
  obtain ⟨g5, g6⟩ := and_e g4
  obtain ⟨g7, g8⟩ := and_e g6
  obtain ⟨w0, w1, w2, w3, rfl⟩ : ∃ w0 w1 w2 w3 : Value, args = #[w0, w1, w2, w3] := by
    have hs : args.size = 4 := by simpa [Cond.value, given_1] using g1
    obtain ⟨L⟩ := args
    match L, hs with
    | [w0, w1, w2, w3], _ => exact ⟨w0, w1, w2, w3, rfl⟩
  have hw := fun d (hd : d ∈ tables_1) => atoms_spec (ws := Jvm.Cond.code x code maxLocals ret :: tables_1) hat d (List.mem_cons_of_mem _ hd)
  have hfit : Fit s := fun {y c} hc i hi => by
    obtain ⟨ha, rfl⟩ := Array.getElem?_eq_some_iff.mp hc
    have q := List.all_eq_true.mp ((Array.all_eq_true_iff_forall_mem.mp hF) _ (Array.getElem_mem ha)) i (List.mem_range.mpr hi)
    simpa [Array.getElem?_eq_getElem hi] using q
  obtain ⟨hsets, hown0⟩ := atoms_of _ (rest_1_c_eq ▸ (show rest_1_c.before _ s = true from hrest))
  obtain ⟨i0, ei0⟩ := is_v g3
  obtain rfl : w0 = (.int i0) := Option.some.inj ei0
  obtain ⟨i1, ei1⟩ := is_v g5
  obtain rfl : w1 = (.int i1) := Option.some.inj ei1
  obtain ⟨i2, ei2⟩ := is_v g7
  obtain rfl : w2 = (.int i2) := Option.some.inj ei2
  obtain ⟨i3, ei3⟩ := is_v g8
  obtain rfl : w3 = (.int i3) := Option.some.inj ei3
  obtain ⟨n1, n2⟩ := and_e hn
  obtain ⟨n3, n4⟩ := and_e n2
  obtain ⟨n5, n6⟩ := and_e n4
  obtain ⟨n7, n8⟩ := and_e n6
  obtain ⟨n9, n10⟩ := and_e n8
  obtain ⟨n11, n12⟩ := and_e n10
  obtain ⟨n13, n14⟩ := and_e n12
  obtain ⟨n15, n16⟩ := and_e n14
  obtain ⟨n17, n18⟩ := and_e n16
  obtain ⟨n19, n20⟩ := and_e n18
  obtain ⟨n21, n22⟩ := and_e n20
  obtain ⟨n23, n24⟩ := and_e n22
  obtain ⟨n25, n26⟩ := and_e n24
  obtain ⟨n27, n28⟩ := and_e n26
  obtain ⟨n29, n30⟩ := and_e n28
  obtain ⟨n31, n32⟩ := and_e n30
  obtain ⟨n33, n34⟩ := and_e n32
  obtain ⟨n35, n36⟩ := and_e n34
  obtain ⟨n37, n38⟩ := and_e n36
  obtain ⟨n39, n40⟩ := and_e n38
  obtain ⟨n41, n42⟩ := and_e n40
  obtain ⟨c_Keyword_SELECT, ev_c_Keyword_SELECT⟩ := exa_v n1
  have E_c_Keyword_SELECT := Exa.start ev_c_Keyword_SELECT n1
  have S_c_Keyword_SELECT := Sta.start ev_c_Keyword_SELECT (Or.inr ⟨(hw _ (List.mem_of_getElem? (i := 6) rfl)), (hw _ (List.mem_of_getElem? (i := 7) rfl))⟩)
  obtain ⟨c_Lexer_Kind_KEYWORD, ev_c_Lexer_Kind_KEYWORD⟩ := exa_v n3
  have E_c_Lexer_Kind_KEYWORD := Exa.start ev_c_Lexer_Kind_KEYWORD n3
  have S_c_Lexer_Kind_KEYWORD := Sta.start ev_c_Lexer_Kind_KEYWORD (Or.inr ⟨(hw _ (List.mem_of_getElem? (i := 9) rfl)), (hw _ (List.mem_of_getElem? (i := 10) rfl))⟩)
  obtain ⟨c_Keyword_IS, ev_c_Keyword_IS⟩ := exa_v n5
  have E_c_Keyword_IS := Exa.start ev_c_Keyword_IS n5
  have S_c_Keyword_IS := Sta.start ev_c_Keyword_IS (Or.inr ⟨(hw _ (List.mem_of_getElem? (i := 6) rfl)), (hw _ (List.mem_of_getElem? (i := 42) rfl))⟩)
  obtain ⟨c_Keyword_AND, ev_c_Keyword_AND⟩ := exa_v n11
  have E_c_Keyword_AND := Exa.start ev_c_Keyword_AND n11
  have S_c_Keyword_AND := Sta.start ev_c_Keyword_AND (Or.inr ⟨(hw _ (List.mem_of_getElem? (i := 6) rfl)), (hw _ (List.mem_of_getElem? (i := 69) rfl))⟩)
  obtain ⟨c_Keyword_END, ev_c_Keyword_END⟩ := exa_v n13
  have E_c_Keyword_END := Exa.start ev_c_Keyword_END n13
  have S_c_Keyword_END := Sta.start ev_c_Keyword_END (Or.inr ⟨(hw _ (List.mem_of_getElem? (i := 6) rfl)), (hw _ (List.mem_of_getElem? (i := 71) rfl))⟩)
  obtain ⟨c_Keyword_CURRENT_DATE, ev_c_Keyword_CURRENT_DATE⟩ := exa_v n15
  have E_c_Keyword_CURRENT_DATE := Exa.start ev_c_Keyword_CURRENT_DATE n15
  have S_c_Keyword_CURRENT_DATE := Sta.start ev_c_Keyword_CURRENT_DATE (Or.inr ⟨(hw _ (List.mem_of_getElem? (i := 6) rfl)), (hw _ (List.mem_of_getElem? (i := 73) rfl))⟩)
  obtain ⟨c_Keyword_TYPE, ev_c_Keyword_TYPE⟩ := exa_v n21
  have E_c_Keyword_TYPE := Exa.start ev_c_Keyword_TYPE n21
  have S_c_Keyword_TYPE := Sta.start ev_c_Keyword_TYPE (Or.inr ⟨(hw _ (List.mem_of_getElem? (i := 6) rfl)), (hw _ (List.mem_of_getElem? (i := 75) rfl))⟩)
  obtain ⟨c_Keyword_NULL, ev_c_Keyword_NULL⟩ := exa_v n25
  have E_c_Keyword_NULL := Exa.start ev_c_Keyword_NULL n25
  have S_c_Keyword_NULL := Sta.start ev_c_Keyword_NULL (Or.inr ⟨(hw _ (List.mem_of_getElem? (i := 6) rfl)), (hw _ (List.mem_of_getElem? (i := 77) rfl))⟩)
  obtain ⟨c_Lexer_Kind_WORD, ev_c_Lexer_Kind_WORD⟩ := exa_v n29
  have E_c_Lexer_Kind_WORD := Exa.start ev_c_Lexer_Kind_WORD n29
  have S_c_Lexer_Kind_WORD := Sta.start ev_c_Lexer_Kind_WORD (Or.inr ⟨(hw _ (List.mem_of_getElem? (i := 9) rfl)), (hw _ (List.mem_of_getElem? (i := 82) rfl))⟩)
  obtain ⟨c_Keyword_IN, ev_c_Keyword_IN⟩ := exa_v n33
  have E_c_Keyword_IN := Exa.start ev_c_Keyword_IN n33
  have S_c_Keyword_IN := Sta.start ev_c_Keyword_IN (Or.inr ⟨(hw _ (List.mem_of_getElem? (i := 6) rfl)), (hw _ (List.mem_of_getElem? (i := 84) rfl))⟩)
  obtain ⟨c_Lexer_Kind_INTEGER, ev_c_Lexer_Kind_INTEGER⟩ := exa_v n37
  have E_c_Lexer_Kind_INTEGER := Exa.start ev_c_Lexer_Kind_INTEGER n37
  have S_c_Lexer_Kind_INTEGER := Sta.start ev_c_Lexer_Kind_INTEGER (Or.inr ⟨(hw _ (List.mem_of_getElem? (i := 9) rfl)), (hw _ (List.mem_of_getElem? (i := 86) rfl))⟩)
  obtain ⟨c_Lexer_Kind_STRING, ev_c_Lexer_Kind_STRING⟩ := exa_v n39
  have E_c_Lexer_Kind_STRING := Exa.start ev_c_Lexer_Kind_STRING n39
  have S_c_Lexer_Kind_STRING := Sta.start ev_c_Lexer_Kind_STRING (Or.inr ⟨(hw _ (List.mem_of_getElem? (i := 9) rfl)), (hw _ (List.mem_of_getElem? (i := 88) rfl))⟩)
  obtain ⟨c_Lexer_Kind_SYMBOL, ev_c_Lexer_Kind_SYMBOL⟩ := exa_v n41
  have E_c_Lexer_Kind_SYMBOL := Exa.start ev_c_Lexer_Kind_SYMBOL n41
  have S_c_Lexer_Kind_SYMBOL := Sta.start ev_c_Lexer_Kind_SYMBOL (Or.inr ⟨(hw _ (List.mem_of_getElem? (i := 9) rfl)), (hw _ (List.mem_of_getElem? (i := 90) rfl))⟩)
  obtain ⟨c_Lexer_Kind_END, ev_c_Lexer_Kind_END⟩ := exa_v n42
  have E_c_Lexer_Kind_END := Exa.start ev_c_Lexer_Kind_END n42
  have S_c_Lexer_Kind_END := Sta.start ev_c_Lexer_Kind_END (Or.inr ⟨(hw _ (List.mem_of_getElem? (i := 9) rfl)), (hw _ (List.mem_of_getElem? (i := 92) rfl))⟩)
  have F_c_Keyword_SELECT_ordinal := own_fldI ev_c_Keyword_SELECT n7
  have F_c_Keyword_IS_ordinal := own_fldI ev_c_Keyword_IS n9
  have F_c_Keyword_END_ordinal := own_fldI ev_c_Keyword_END n17
  have F_c_Keyword_CURRENT_DATE_ordinal := own_fldI ev_c_Keyword_CURRENT_DATE n19
  have F_c_Keyword_TYPE_ordinal := own_fldI ev_c_Keyword_TYPE n23
  have F_c_Keyword_AND_ordinal := own_fldI ev_c_Keyword_AND n27
  have F_c_Keyword_NULL_ordinal := own_fldI ev_c_Keyword_NULL n31
  have F_c_Keyword_IN_ordinal := own_fldI ev_c_Keyword_IN n35
  obtain ⟨g_COMPACT_STRINGS, ev_g_COMPACT_STRINGS⟩ := is_v (Cond.before_iff.mp (hsets _ (List.mem_of_getElem? (i := 1) rfl)))
  have S_g_COMPACT_STRINGS := Sta.start ev_g_COMPACT_STRINGS (Or.inl (hsets _ (List.mem_of_getElem? (i := 0) rfl)))
  have P_g_COMPACT_STRINGS : ¬ (g_COMPACT_STRINGS = (0 : Int32)) := gotF (Cond.eq_ints ev_g_COMPACT_STRINGS (Term.int_eval (0))) (not_v (Cond.before_iff.mp (hsets _ (List.mem_of_getElem? (i := 2) rfl))))
  obtain ⟨g_SIOOBE_FORMATTER, ev_g_SIOOBE_FORMATTER, R_g_SIOOBE_FORMATTER⟩ := isR_v (Cond.before_iff.mp (hsets _ (List.mem_of_getElem? (i := 8) rfl)))
  have S_g_SIOOBE_FORMATTER := Sta.start ev_g_SIOOBE_FORMATTER (Or.inl (hsets _ (List.mem_of_getElem? (i := 7) rfl)))
  obtain ⟨n, o, h1, h2, h3, _, L, rfl, ⟨rfl, N, -⟩, hq⟩ := own_law l s _ c_Keyword_SELECT c_Lexer_Kind_KEYWORD c_Keyword_IS c_Keyword_AND c_Keyword_END c_Keyword_CURRENT_DATE c_Keyword_TYPE c_Keyword_NULL c_Lexer_Kind_WORD c_Keyword_IN c_Lexer_Kind_INTEGER c_Lexer_Kind_STRING c_Lexer_Kind_SYMBOL c_Lexer_Kind_END g_COMPACT_STRINGS g_SIOOBE_FORMATTER ⟨hw, S_c_Keyword_SELECT, E_c_Keyword_SELECT, S_c_Lexer_Kind_KEYWORD, E_c_Lexer_Kind_KEYWORD, S_c_Keyword_IS, E_c_Keyword_IS, S_c_Keyword_AND, E_c_Keyword_AND, S_c_Keyword_END, E_c_Keyword_END, S_c_Keyword_CURRENT_DATE, E_c_Keyword_CURRENT_DATE, S_c_Keyword_TYPE, E_c_Keyword_TYPE, S_c_Keyword_NULL, E_c_Keyword_NULL, S_c_Lexer_Kind_WORD, E_c_Lexer_Kind_WORD, S_c_Keyword_IN, E_c_Keyword_IN, S_c_Lexer_Kind_INTEGER, E_c_Lexer_Kind_INTEGER, S_c_Lexer_Kind_STRING, E_c_Lexer_Kind_STRING, S_c_Lexer_Kind_SYMBOL, E_c_Lexer_Kind_SYMBOL, S_c_Lexer_Kind_END, E_c_Lexer_Kind_END, F_c_Keyword_SELECT_ordinal, F_c_Keyword_IS_ordinal, F_c_Keyword_END_ordinal, F_c_Keyword_CURRENT_DATE_ordinal, F_c_Keyword_TYPE_ordinal, F_c_Keyword_AND_ordinal, F_c_Keyword_NULL_ordinal, F_c_Keyword_IN_ordinal, S_g_COMPACT_STRINGS, P_g_COMPACT_STRINGS, R_g_SIOOBE_FORMATTER, S_g_SIOOBE_FORMATTER⟩ i0 i1 i2 i3 s.heap (Old.start s)  tables_1 p e ha hc hk s m _ below hf ((Spec.applies_iff_loose hf).mp happ).1 ⟨rfl, State.Warmed39.refl s, rfl⟩ trivial
  refine ⟨n, _, h1, h2, h3, hpost _ _ _ _ _ _ ⟨Cond.after_iff.mpr rfl, Cond.after_iff.mpr (eq_i res_at (Term.int_eval (1)) rfl), trivial⟩ ⟨hq.1, hq.2.1, (hq.2.2.sift fun y hy => Or.inr (N y hy)).mono (by decide) (by decide)⟩⟩
theorem main_1_1 : Claimed_1_1 := comes_1 fun _ _ _ _ _ _ h hF => ⟨h.1, hF⟩
theorem main_1_2 : Claimed_1_2 := comes_1 fun _ _ _ _ _ _ h hF => ⟨h.2.1, hF⟩
end Jvm.Pilot.@@N@@
namespace Jvm.Pilot.@@N@@
open Jvm Jvm.ClassFile Sem Op Lib Jvm.Free Jvm.Stand Jvm.Pilot.@@N@@.Jvm.D
/-! MADE BY PROGRAM (witnessworld.py) out of the Statement's table words and the real class files: 24 classes; the members and pool entries that the words name. The judged class is class 1, her method 3. -/
namespace start1
open Jvm.ClassFile
def u (s : String) : CpInfo := .utf8 (stringToUtf16 s)
/-- a pool by its gaps: so many unusable entries, then the entry; so many at the end -/
def gap : Nat → List CpInfo → List CpInfo
  | 0, r => r
  | n + 1, r => .unusable :: gap n r
def poolList (es : List (Nat × CpInfo)) (last : Nat) : List CpInfo := es.foldr (fun e r => gap e.1 (e.2 :: r)) (gap last [])
def pool (es : List (Nat × CpInfo)) (last : Nat) : Array CpInfo := ⟨poolList es last⟩
def fileOf (pool : Array CpInfo) (this : Nat) (attrs : Array Attribute := #[]) (ms : Array MethodInfo := #[]) (fl : Nat := 33) (sup : Nat := 0) (ifs : Array Nat := #[]) (fds : Array FieldInfo := #[]) : ClassFile where
  minorVersion := 0
  majorVersion := 65
  constantPool := pool
  accessFlags := fl
  thisClass := this
  superClass := sup
  interfaces := ifs
  fields := fds
  methods := ms
  attributes := attrs
def plain (name : String) (sup : Option ClassId) : Class where
  name := name
  kind := .ordinary
  loader := none
  accessFlags := 33
  super := sup
  interfaces := #[]
  cf := none
  fields := #[]
  methods := #[]
  instanceTypes := #[]
  staticTypes := #[]
  resolved := #[]
  callSites := []
  init := .initialized
  statics := none
  mirror := none

def pool0 : Array CpInfo := pool [(5, u "<init>"), (0, u "()V"), (1, .class_ 10), (1, u "java/lang/Object")] 113

def k0c0 : Code := { maxStack := 0, maxLocals := 1, code := object_method_1_code, exceptionTable := #[], attributes := #[] }
def k0m0 : Method := { name := "<init>", desc := "()V", sig := { parameters := [], returnType := none }, accessFlags := 1, code := some k0c0 }
/-- java/lang/Object -/
def k0 : Class := { plain "java/lang/Object" none with
  accessFlags := 33
  interfaces := #[]
  cf := some (fileOf pool0 8 #[] #[{ accessFlags := 1, nameIndex := 5, descriptorIndex := 6, attributes := #[] }] 33 0 #[] #[])
  fields := #[]
  methods := #[k0m0]
  instanceTypes := #[]
  staticTypes := #[]
  resolved := Array.replicate 124 none
  statics := none }

def pool1 : Array CpInfo := pool [(2, .class_ 4), (1, u "java/lang/Object"), (0, u "<init>"), (0, u "()V"), (0, .fieldref 8 9), (0, .class_ 10), (0, .nameAndType 11 12), (0, u "com/example/nepean/nepean/query/Keyword"), (0, u "SELECT"), (0, u "Lcom/example/nepean/nepean/query/Keyword;"), (0, .fieldref 8 14), (0, .nameAndType 15 12), (0, u "END"), (0, .fieldref 8 17), (0, .nameAndType 18 12), (0, u "NULL"), (0, .fieldref 8 20), (0, .nameAndType 21 12), (0, u "IS"), (0, .fieldref 8 23), (0, .nameAndType 24 12), (0, u "IN"), (0, .fieldref 8 26), (0, .nameAndType 27 12), (0, u "TYPE"), (0, .fieldref 8 29), (0, .nameAndType 30 12), (0, u "CURRENT_DATE"), (0, .fieldref 8 32), (0, .nameAndType 33 12), (0, u "AND"), (0, .fieldref 35 36), (0, .class_ 37), (0, .nameAndType 38 39), (0, u "com/example/nepean/nepean/query/Lexer$Kind"), (0, u "WORD"), (0, u "Lcom/example/nepean/nepean/query/Lexer$Kind;"), (0, .fieldref 35 41), (0, .nameAndType 42 39), (0, u "STRING"), (0, .fieldref 35 44), (0, .nameAndType 45 39), (0, u "INTEGER"), (0, .fieldref 35 47), (0, .nameAndType 48 39), (0, u "SYMBOL"), (0, .fieldref 35 50), (0, .nameAndType 15 39), (0, .integer 2147483647), (0, .methodref 53 54), (0, .class_ 55), (0, .nameAndType 56 57), (0, u "com/example/nepean/nepean/query/TokenIsPinLaw"), (0, u "pick"), (0, u "(I)Lcom/example/nepean/nepean/query/Keyword;"), (0, .methodref 53 59), (0, .nameAndType 60 61), (0, u "plainKind"), (0, u "(I)Lcom/example/nepean/nepean/query/Lexer$Kind;"), (0, .fieldref 35 63), (0, .nameAndType 64 39), (0, u "KEYWORD"), (0, .class_ 66), (0, u "java/lang/String"), (0, .methodref 65 68), (0, .nameAndType 5 69), (0, u "([C)V"), (0, .class_ 71), (0, u "com/example/nepean/nepean/query/Lexer$Token"), (0, .methodref 70 73), (0, .nameAndType 5 74), (0, u "(Lcom/example/nepean/nepean/query/Lexer$Kind;Ljava/lang/String;Lcom/example/nepean/nepean/query/Keyword;I)V"), (0, .methodref 70 76), (0, .nameAndType 77 78), (0, u "is"), (0, u "(Lcom/example/nepean/nepean/query/Keyword;)Z"), (3, u "law"), (0, u "(IIII)Z")] 9

def k1m0 : Method := { name := "<init>", desc := "()V", sig := { parameters := [], returnType := none }, accessFlags := 1, code := none }
def k1c1 : Code := { maxStack := 2, maxLocals := 1, code := method_2_code, exceptionTable := #[], attributes := #[] }
def k1m1 : Method := { name := "pick", desc := "(I)Lcom/example/nepean/nepean/query/Keyword;", sig := { parameters := [.int], returnType := some (.object "com/example/nepean/nepean/query/Keyword") }, accessFlags := 10, code := some k1c1 }
def k1c2 : Code := { maxStack := 2, maxLocals := 1, code := method_3_code, exceptionTable := #[], attributes := #[] }
def k1m2 : Method := { name := "plainKind", desc := "(I)Lcom/example/nepean/nepean/query/Lexer$Kind;", sig := { parameters := [.int], returnType := some (.object "com/example/nepean/nepean/query/Lexer$Kind") }, accessFlags := 10, code := some k1c2 }
def k1c3 : Code := { maxStack := 6, maxLocals := 13, code := code, exceptionTable := #[], attributes := #[] }
def k1m3 : Method := { name := "law", desc := "(IIII)Z", sig := { parameters := [.int, .int, .int, .int], returnType := some .boolean }, accessFlags := 9, code := some k1c3 }
/-- com/example/nepean/nepean/query/TokenIsPinLaw -/
def k1 : Class := { plain "com/example/nepean/nepean/query/TokenIsPinLaw" (some 0) with
  accessFlags := 49
  interfaces := #[]
  cf := some (fileOf pool1 53 #[] #[{ accessFlags := 1, nameIndex := 5, descriptorIndex := 6, attributes := #[] }, { accessFlags := 10, nameIndex := 56, descriptorIndex := 57, attributes := #[] }, { accessFlags := 10, nameIndex := 60, descriptorIndex := 61, attributes := #[] }, { accessFlags := 9, nameIndex := 82, descriptorIndex := 83, attributes := #[] }] 49 2 #[] #[])
  fields := #[]
  methods := #[k1m0, k1m1, k1m2, k1m3]
  instanceTypes := #[]
  staticTypes := #[]
  resolved := Array.replicate 93 none
  statics := none }

def pool2 : Array CpInfo := pool [(1, .class_ 2), (0, u "java/lang/constant/Constable"), (0, .class_ 4), (0, u "java/lang/Object")] 6

/-- java/lang/constant/Constable -/
def k2 : Class := { plain "java/lang/constant/Constable" (some 0) with
  accessFlags := 1537
  interfaces := #[]
  cf := some (fileOf pool2 1 #[] #[] 1537 3 #[] #[])
  fields := #[]
  methods := #[]
  instanceTypes := #[]
  staticTypes := #[]
  resolved := Array.replicate 11 none
  statics := none }

def pool3 : Array CpInfo := pool [(1, .class_ 2), (0, u "java/lang/Comparable"), (0, .class_ 4), (0, u "java/lang/Object")] 7

/-- java/lang/Comparable -/
def k3 : Class := { plain "java/lang/Comparable" (some 0) with
  accessFlags := 1537
  interfaces := #[]
  cf := some (fileOf pool3 1 #[] #[] 1537 3 #[] #[])
  fields := #[]
  methods := #[]
  instanceTypes := #[]
  staticTypes := #[]
  resolved := Array.replicate 12 none
  statics := none }

def pool4 : Array CpInfo := pool [(1, .class_ 2), (0, u "java/io/Serializable"), (0, .class_ 4), (0, u "java/lang/Object")] 2

/-- java/io/Serializable -/
def k4 : Class := { plain "java/io/Serializable" (some 0) with
  accessFlags := 1537
  interfaces := #[]
  cf := some (fileOf pool4 1 #[] #[] 1537 3 #[] #[])
  fields := #[]
  methods := #[]
  instanceTypes := #[]
  staticTypes := #[]
  resolved := Array.replicate 7 none
  statics := none }

def pool5 : Array CpInfo := pool [(2, .class_ 4), (1, u "java/lang/Enum"), (0, u "name"), (0, u "Ljava/lang/String;"), (2, u "ordinal"), (0, u "I"), (1, .class_ 14), (1, u "java/lang/Object"), (4, u "hash"), (86, .class_ 108), (1, u "java/lang/Enum$EnumDesc"), (2, .class_ 112), (0, u "java/lang/constant/Constable"), (0, .class_ 114), (0, u "java/lang/Comparable"), (0, .class_ 116), (0, u "java/io/Serializable")] 87

/-- java/lang/Enum -/
def k5 : Class := { plain "java/lang/Enum" (some 0) with
  accessFlags := 1057
  interfaces := #[2, 3, 4]
  cf := some (fileOf pool5 2 #[.nestMembers #[106]] #[] 1057 12 #[111, 113, 115] #[{ accessFlags := 18, nameIndex := 5, descriptorIndex := 6, attributes := #[] }, { accessFlags := 18, nameIndex := 9, descriptorIndex := 10, attributes := #[] }, { accessFlags := 2, nameIndex := 19, descriptorIndex := 10, attributes := #[] }])
  fields := #[{ name := "name", type := (.object "java/lang/String"), accessFlags := 18, slot := 0, constantValue := 0 }, { name := "ordinal", type := .int, accessFlags := 18, slot := 1, constantValue := 0 }, { name := "hash", type := .int, accessFlags := 2, slot := 2, constantValue := 0 }]
  methods := #[]
  instanceTypes := #[(.object "java/lang/String"), .int, .int]
  staticTypes := #[]
  resolved := Array.replicate 204 none
  statics := none }

def pool6 : Array CpInfo := pool [(1, .class_ 2), (0, u "com/example/nepean/nepean/query/Keyword"), (2, u "SELECT"), (0, u "Lcom/example/nepean/nepean/query/Keyword;"), (2, u "DISTINCT"), (2, u "NEW"), (2, u "FROM"), (2, u "AS"), (2, u "INNER"), (2, u "LEFT"), (2, u "OUTER"), (2, u "JOIN"), (2, u "FETCH"), (2, u "WHERE"), (2, u "GROUP"), (2, u "HAVING"), (2, u "ORDER"), (2, u "BY"), (2, u "ASC"), (2, u "DESC"), (2, u "AND"), (2, u "OR"), (2, u "NOT"), (2, u "IS"), (2, u "NULL"), (2, u "EMPTY"), (2, u "LIKE"), (2, u "ESCAPE"), (2, u "IN"), (2, u "BETWEEN"), (2, u "EXISTS"), (2, u "ALL"), (2, u "ANY"), (2, u "SOME"), (2, u "MEMBER"), (2, u "OF"), (2, u "CASE"), (2, u "WHEN"), (2, u "THEN"), (2, u "ELSE"), (2, u "END"), (2, u "COUNT"), (2, u "SUM"), (2, u "AVG"), (2, u "MIN"), (2, u "MAX"), (2, u "UPPER"), (2, u "LOWER"), (2, u "LENGTH"), (2, u "CONCAT"), (2, u "SUBSTRING"), (2, u "LOCATE"), (2, u "ABS"), (2, u "SQRT"), (2, u "MOD"), (2, u "SIZE"), (2, u "COALESCE"), (2, u "NULLIF"), (2, u "CURRENT_DATE"), (2, u "CURRENT_TIME"), (2, u "CURRENT_TIMESTAMP"), (2, u "TRIM"), (2, u "LEADING"), (2, u "TRAILING"), (2, u "BOTH"), (2, u "EXTRACT"), (2, u "TYPE"), (2, u "$VALUES"), (0, u "[Lcom/example/nepean/nepean/query/Keyword;"), (6, .class_ 208), (1, u "java/lang/Enum"), (27, u "BY_NAME"), (0, u "Ljava/util/Map;")] 153

/-- com/example/nepean/nepean/query/Keyword -/
def k6 : Class := { plain "com/example/nepean/nepean/query/Keyword" (some 5) with
  accessFlags := 16433
  interfaces := #[]
  cf := some (fileOf pool6 1 #[] #[] 16433 206 #[] #[{ accessFlags := 16409, nameIndex := 5, descriptorIndex := 6, attributes := #[] }, { accessFlags := 16409, nameIndex := 9, descriptorIndex := 6, attributes := #[] }, { accessFlags := 16409, nameIndex := 12, descriptorIndex := 6, attributes := #[] }, { accessFlags := 16409, nameIndex := 15, descriptorIndex := 6, attributes := #[] }, { accessFlags := 16409, nameIndex := 18, descriptorIndex := 6, attributes := #[] }, { accessFlags := 16409, nameIndex := 21, descriptorIndex := 6, attributes := #[] }, { accessFlags := 16409, nameIndex := 24, descriptorIndex := 6, attributes := #[] }, { accessFlags := 16409, nameIndex := 27, descriptorIndex := 6, attributes := #[] }, { accessFlags := 16409, nameIndex := 30, descriptorIndex := 6, attributes := #[] }, { accessFlags := 16409, nameIndex := 33, descriptorIndex := 6, attributes := #[] }, { accessFlags := 16409, nameIndex := 36, descriptorIndex := 6, attributes := #[] }, { accessFlags := 16409, nameIndex := 39, descriptorIndex := 6, attributes := #[] }, { accessFlags := 16409, nameIndex := 42, descriptorIndex := 6, attributes := #[] }, { accessFlags := 16409, nameIndex := 45, descriptorIndex := 6, attributes := #[] }, { accessFlags := 16409, nameIndex := 48, descriptorIndex := 6, attributes := #[] }, { accessFlags := 16409, nameIndex := 51, descriptorIndex := 6, attributes := #[] }, { accessFlags := 16409, nameIndex := 54, descriptorIndex := 6, attributes := #[] }, { accessFlags := 16409, nameIndex := 57, descriptorIndex := 6, attributes := #[] }, { accessFlags := 16409, nameIndex := 60, descriptorIndex := 6, attributes := #[] }, { accessFlags := 16409, nameIndex := 63, descriptorIndex := 6, attributes := #[] }, { accessFlags := 16409, nameIndex := 66, descriptorIndex := 6, attributes := #[] }, { accessFlags := 16409, nameIndex := 69, descriptorIndex := 6, attributes := #[] }, { accessFlags := 16409, nameIndex := 72, descriptorIndex := 6, attributes := #[] }, { accessFlags := 16409, nameIndex := 75, descriptorIndex := 6, attributes := #[] }, { accessFlags := 16409, nameIndex := 78, descriptorIndex := 6, attributes := #[] }, { accessFlags := 16409, nameIndex := 81, descriptorIndex := 6, attributes := #[] }, { accessFlags := 16409, nameIndex := 84, descriptorIndex := 6, attributes := #[] }, { accessFlags := 16409, nameIndex := 87, descriptorIndex := 6, attributes := #[] }, { accessFlags := 16409, nameIndex := 90, descriptorIndex := 6, attributes := #[] }, { accessFlags := 16409, nameIndex := 93, descriptorIndex := 6, attributes := #[] }, { accessFlags := 16409, nameIndex := 96, descriptorIndex := 6, attributes := #[] }, { accessFlags := 16409, nameIndex := 99, descriptorIndex := 6, attributes := #[] }, { accessFlags := 16409, nameIndex := 102, descriptorIndex := 6, attributes := #[] }, { accessFlags := 16409, nameIndex := 105, descriptorIndex := 6, attributes := #[] }, { accessFlags := 16409, nameIndex := 108, descriptorIndex := 6, attributes := #[] }, { accessFlags := 16409, nameIndex := 111, descriptorIndex := 6, attributes := #[] }, { accessFlags := 16409, nameIndex := 114, descriptorIndex := 6, attributes := #[] }, { accessFlags := 16409, nameIndex := 117, descriptorIndex := 6, attributes := #[] }, { accessFlags := 16409, nameIndex := 120, descriptorIndex := 6, attributes := #[] }, { accessFlags := 16409, nameIndex := 123, descriptorIndex := 6, attributes := #[] }, { accessFlags := 16409, nameIndex := 126, descriptorIndex := 6, attributes := #[] }, { accessFlags := 16409, nameIndex := 129, descriptorIndex := 6, attributes := #[] }, { accessFlags := 16409, nameIndex := 132, descriptorIndex := 6, attributes := #[] }, { accessFlags := 16409, nameIndex := 135, descriptorIndex := 6, attributes := #[] }, { accessFlags := 16409, nameIndex := 138, descriptorIndex := 6, attributes := #[] }, { accessFlags := 16409, nameIndex := 141, descriptorIndex := 6, attributes := #[] }, { accessFlags := 16409, nameIndex := 144, descriptorIndex := 6, attributes := #[] }, { accessFlags := 16409, nameIndex := 147, descriptorIndex := 6, attributes := #[] }, { accessFlags := 16409, nameIndex := 150, descriptorIndex := 6, attributes := #[] }, { accessFlags := 16409, nameIndex := 153, descriptorIndex := 6, attributes := #[] }, { accessFlags := 16409, nameIndex := 156, descriptorIndex := 6, attributes := #[] }, { accessFlags := 16409, nameIndex := 159, descriptorIndex := 6, attributes := #[] }, { accessFlags := 16409, nameIndex := 162, descriptorIndex := 6, attributes := #[] }, { accessFlags := 16409, nameIndex := 165, descriptorIndex := 6, attributes := #[] }, { accessFlags := 16409, nameIndex := 168, descriptorIndex := 6, attributes := #[] }, { accessFlags := 16409, nameIndex := 171, descriptorIndex := 6, attributes := #[] }, { accessFlags := 16409, nameIndex := 174, descriptorIndex := 6, attributes := #[] }, { accessFlags := 16409, nameIndex := 177, descriptorIndex := 6, attributes := #[] }, { accessFlags := 16409, nameIndex := 180, descriptorIndex := 6, attributes := #[] }, { accessFlags := 16409, nameIndex := 183, descriptorIndex := 6, attributes := #[] }, { accessFlags := 16409, nameIndex := 186, descriptorIndex := 6, attributes := #[] }, { accessFlags := 16409, nameIndex := 189, descriptorIndex := 6, attributes := #[] }, { accessFlags := 16409, nameIndex := 192, descriptorIndex := 6, attributes := #[] }, { accessFlags := 16409, nameIndex := 195, descriptorIndex := 6, attributes := #[] }, { accessFlags := 26, nameIndex := 236, descriptorIndex := 237, attributes := #[] }, { accessFlags := 4122, nameIndex := 198, descriptorIndex := 199, attributes := #[] }])
  fields := #[{ name := "SELECT", type := (.object "com/example/nepean/nepean/query/Keyword"), accessFlags := 16409, slot := 0, constantValue := 0 }, { name := "DISTINCT", type := (.object "com/example/nepean/nepean/query/Keyword"), accessFlags := 16409, slot := 1, constantValue := 0 }, { name := "NEW", type := (.object "com/example/nepean/nepean/query/Keyword"), accessFlags := 16409, slot := 2, constantValue := 0 }, { name := "FROM", type := (.object "com/example/nepean/nepean/query/Keyword"), accessFlags := 16409, slot := 3, constantValue := 0 }, { name := "AS", type := (.object "com/example/nepean/nepean/query/Keyword"), accessFlags := 16409, slot := 4, constantValue := 0 }, { name := "INNER", type := (.object "com/example/nepean/nepean/query/Keyword"), accessFlags := 16409, slot := 5, constantValue := 0 }, { name := "LEFT", type := (.object "com/example/nepean/nepean/query/Keyword"), accessFlags := 16409, slot := 6, constantValue := 0 }, { name := "OUTER", type := (.object "com/example/nepean/nepean/query/Keyword"), accessFlags := 16409, slot := 7, constantValue := 0 }, { name := "JOIN", type := (.object "com/example/nepean/nepean/query/Keyword"), accessFlags := 16409, slot := 8, constantValue := 0 }, { name := "FETCH", type := (.object "com/example/nepean/nepean/query/Keyword"), accessFlags := 16409, slot := 9, constantValue := 0 }, { name := "WHERE", type := (.object "com/example/nepean/nepean/query/Keyword"), accessFlags := 16409, slot := 10, constantValue := 0 }, { name := "GROUP", type := (.object "com/example/nepean/nepean/query/Keyword"), accessFlags := 16409, slot := 11, constantValue := 0 }, { name := "HAVING", type := (.object "com/example/nepean/nepean/query/Keyword"), accessFlags := 16409, slot := 12, constantValue := 0 }, { name := "ORDER", type := (.object "com/example/nepean/nepean/query/Keyword"), accessFlags := 16409, slot := 13, constantValue := 0 }, { name := "BY", type := (.object "com/example/nepean/nepean/query/Keyword"), accessFlags := 16409, slot := 14, constantValue := 0 }, { name := "ASC", type := (.object "com/example/nepean/nepean/query/Keyword"), accessFlags := 16409, slot := 15, constantValue := 0 }, { name := "DESC", type := (.object "com/example/nepean/nepean/query/Keyword"), accessFlags := 16409, slot := 16, constantValue := 0 }, { name := "AND", type := (.object "com/example/nepean/nepean/query/Keyword"), accessFlags := 16409, slot := 17, constantValue := 0 }, { name := "OR", type := (.object "com/example/nepean/nepean/query/Keyword"), accessFlags := 16409, slot := 18, constantValue := 0 }, { name := "NOT", type := (.object "com/example/nepean/nepean/query/Keyword"), accessFlags := 16409, slot := 19, constantValue := 0 }, { name := "IS", type := (.object "com/example/nepean/nepean/query/Keyword"), accessFlags := 16409, slot := 20, constantValue := 0 }, { name := "NULL", type := (.object "com/example/nepean/nepean/query/Keyword"), accessFlags := 16409, slot := 21, constantValue := 0 }, { name := "EMPTY", type := (.object "com/example/nepean/nepean/query/Keyword"), accessFlags := 16409, slot := 22, constantValue := 0 }, { name := "LIKE", type := (.object "com/example/nepean/nepean/query/Keyword"), accessFlags := 16409, slot := 23, constantValue := 0 }, { name := "ESCAPE", type := (.object "com/example/nepean/nepean/query/Keyword"), accessFlags := 16409, slot := 24, constantValue := 0 }, { name := "IN", type := (.object "com/example/nepean/nepean/query/Keyword"), accessFlags := 16409, slot := 25, constantValue := 0 }, { name := "BETWEEN", type := (.object "com/example/nepean/nepean/query/Keyword"), accessFlags := 16409, slot := 26, constantValue := 0 }, { name := "EXISTS", type := (.object "com/example/nepean/nepean/query/Keyword"), accessFlags := 16409, slot := 27, constantValue := 0 }, { name := "ALL", type := (.object "com/example/nepean/nepean/query/Keyword"), accessFlags := 16409, slot := 28, constantValue := 0 }, { name := "ANY", type := (.object "com/example/nepean/nepean/query/Keyword"), accessFlags := 16409, slot := 29, constantValue := 0 }, { name := "SOME", type := (.object "com/example/nepean/nepean/query/Keyword"), accessFlags := 16409, slot := 30, constantValue := 0 }, { name := "MEMBER", type := (.object "com/example/nepean/nepean/query/Keyword"), accessFlags := 16409, slot := 31, constantValue := 0 }, { name := "OF", type := (.object "com/example/nepean/nepean/query/Keyword"), accessFlags := 16409, slot := 32, constantValue := 0 }, { name := "CASE", type := (.object "com/example/nepean/nepean/query/Keyword"), accessFlags := 16409, slot := 33, constantValue := 0 }, { name := "WHEN", type := (.object "com/example/nepean/nepean/query/Keyword"), accessFlags := 16409, slot := 34, constantValue := 0 }, { name := "THEN", type := (.object "com/example/nepean/nepean/query/Keyword"), accessFlags := 16409, slot := 35, constantValue := 0 }, { name := "ELSE", type := (.object "com/example/nepean/nepean/query/Keyword"), accessFlags := 16409, slot := 36, constantValue := 0 }, { name := "END", type := (.object "com/example/nepean/nepean/query/Keyword"), accessFlags := 16409, slot := 37, constantValue := 0 }, { name := "COUNT", type := (.object "com/example/nepean/nepean/query/Keyword"), accessFlags := 16409, slot := 38, constantValue := 0 }, { name := "SUM", type := (.object "com/example/nepean/nepean/query/Keyword"), accessFlags := 16409, slot := 39, constantValue := 0 }, { name := "AVG", type := (.object "com/example/nepean/nepean/query/Keyword"), accessFlags := 16409, slot := 40, constantValue := 0 }, { name := "MIN", type := (.object "com/example/nepean/nepean/query/Keyword"), accessFlags := 16409, slot := 41, constantValue := 0 }, { name := "MAX", type := (.object "com/example/nepean/nepean/query/Keyword"), accessFlags := 16409, slot := 42, constantValue := 0 }, { name := "UPPER", type := (.object "com/example/nepean/nepean/query/Keyword"), accessFlags := 16409, slot := 43, constantValue := 0 }, { name := "LOWER", type := (.object "com/example/nepean/nepean/query/Keyword"), accessFlags := 16409, slot := 44, constantValue := 0 }, { name := "LENGTH", type := (.object "com/example/nepean/nepean/query/Keyword"), accessFlags := 16409, slot := 45, constantValue := 0 }, { name := "CONCAT", type := (.object "com/example/nepean/nepean/query/Keyword"), accessFlags := 16409, slot := 46, constantValue := 0 }, { name := "SUBSTRING", type := (.object "com/example/nepean/nepean/query/Keyword"), accessFlags := 16409, slot := 47, constantValue := 0 }, { name := "LOCATE", type := (.object "com/example/nepean/nepean/query/Keyword"), accessFlags := 16409, slot := 48, constantValue := 0 }, { name := "ABS", type := (.object "com/example/nepean/nepean/query/Keyword"), accessFlags := 16409, slot := 49, constantValue := 0 }, { name := "SQRT", type := (.object "com/example/nepean/nepean/query/Keyword"), accessFlags := 16409, slot := 50, constantValue := 0 }, { name := "MOD", type := (.object "com/example/nepean/nepean/query/Keyword"), accessFlags := 16409, slot := 51, constantValue := 0 }, { name := "SIZE", type := (.object "com/example/nepean/nepean/query/Keyword"), accessFlags := 16409, slot := 52, constantValue := 0 }, { name := "COALESCE", type := (.object "com/example/nepean/nepean/query/Keyword"), accessFlags := 16409, slot := 53, constantValue := 0 }, { name := "NULLIF", type := (.object "com/example/nepean/nepean/query/Keyword"), accessFlags := 16409, slot := 54, constantValue := 0 }, { name := "CURRENT_DATE", type := (.object "com/example/nepean/nepean/query/Keyword"), accessFlags := 16409, slot := 55, constantValue := 0 }, { name := "CURRENT_TIME", type := (.object "com/example/nepean/nepean/query/Keyword"), accessFlags := 16409, slot := 56, constantValue := 0 }, { name := "CURRENT_TIMESTAMP", type := (.object "com/example/nepean/nepean/query/Keyword"), accessFlags := 16409, slot := 57, constantValue := 0 }, { name := "TRIM", type := (.object "com/example/nepean/nepean/query/Keyword"), accessFlags := 16409, slot := 58, constantValue := 0 }, { name := "LEADING", type := (.object "com/example/nepean/nepean/query/Keyword"), accessFlags := 16409, slot := 59, constantValue := 0 }, { name := "TRAILING", type := (.object "com/example/nepean/nepean/query/Keyword"), accessFlags := 16409, slot := 60, constantValue := 0 }, { name := "BOTH", type := (.object "com/example/nepean/nepean/query/Keyword"), accessFlags := 16409, slot := 61, constantValue := 0 }, { name := "EXTRACT", type := (.object "com/example/nepean/nepean/query/Keyword"), accessFlags := 16409, slot := 62, constantValue := 0 }, { name := "TYPE", type := (.object "com/example/nepean/nepean/query/Keyword"), accessFlags := 16409, slot := 63, constantValue := 0 }, { name := "BY_NAME", type := (.object "java/util/Map"), accessFlags := 26, slot := 64, constantValue := 0 }, { name := "$VALUES", type := (.array (.object "com/example/nepean/nepean/query/Keyword")), accessFlags := 4122, slot := 65, constantValue := 0 }]
  methods := #[]
  instanceTypes := #[(.object "java/lang/String"), .int, .int]
  staticTypes := #[(.object "com/example/nepean/nepean/query/Keyword"), (.object "com/example/nepean/nepean/query/Keyword"), (.object "com/example/nepean/nepean/query/Keyword"), (.object "com/example/nepean/nepean/query/Keyword"), (.object "com/example/nepean/nepean/query/Keyword"), (.object "com/example/nepean/nepean/query/Keyword"), (.object "com/example/nepean/nepean/query/Keyword"), (.object "com/example/nepean/nepean/query/Keyword"), (.object "com/example/nepean/nepean/query/Keyword"), (.object "com/example/nepean/nepean/query/Keyword"), (.object "com/example/nepean/nepean/query/Keyword"), (.object "com/example/nepean/nepean/query/Keyword"), (.object "com/example/nepean/nepean/query/Keyword"), (.object "com/example/nepean/nepean/query/Keyword"), (.object "com/example/nepean/nepean/query/Keyword"), (.object "com/example/nepean/nepean/query/Keyword"), (.object "com/example/nepean/nepean/query/Keyword"), (.object "com/example/nepean/nepean/query/Keyword"), (.object "com/example/nepean/nepean/query/Keyword"), (.object "com/example/nepean/nepean/query/Keyword"), (.object "com/example/nepean/nepean/query/Keyword"), (.object "com/example/nepean/nepean/query/Keyword"), (.object "com/example/nepean/nepean/query/Keyword"), (.object "com/example/nepean/nepean/query/Keyword"), (.object "com/example/nepean/nepean/query/Keyword"), (.object "com/example/nepean/nepean/query/Keyword"), (.object "com/example/nepean/nepean/query/Keyword"), (.object "com/example/nepean/nepean/query/Keyword"), (.object "com/example/nepean/nepean/query/Keyword"), (.object "com/example/nepean/nepean/query/Keyword"), (.object "com/example/nepean/nepean/query/Keyword"), (.object "com/example/nepean/nepean/query/Keyword"), (.object "com/example/nepean/nepean/query/Keyword"), (.object "com/example/nepean/nepean/query/Keyword"), (.object "com/example/nepean/nepean/query/Keyword"), (.object "com/example/nepean/nepean/query/Keyword"), (.object "com/example/nepean/nepean/query/Keyword"), (.object "com/example/nepean/nepean/query/Keyword"), (.object "com/example/nepean/nepean/query/Keyword"), (.object "com/example/nepean/nepean/query/Keyword"), (.object "com/example/nepean/nepean/query/Keyword"), (.object "com/example/nepean/nepean/query/Keyword"), (.object "com/example/nepean/nepean/query/Keyword"), (.object "com/example/nepean/nepean/query/Keyword"), (.object "com/example/nepean/nepean/query/Keyword"), (.object "com/example/nepean/nepean/query/Keyword"), (.object "com/example/nepean/nepean/query/Keyword"), (.object "com/example/nepean/nepean/query/Keyword"), (.object "com/example/nepean/nepean/query/Keyword"), (.object "com/example/nepean/nepean/query/Keyword"), (.object "com/example/nepean/nepean/query/Keyword"), (.object "com/example/nepean/nepean/query/Keyword"), (.object "com/example/nepean/nepean/query/Keyword"), (.object "com/example/nepean/nepean/query/Keyword"), (.object "com/example/nepean/nepean/query/Keyword"), (.object "com/example/nepean/nepean/query/Keyword"), (.object "com/example/nepean/nepean/query/Keyword"), (.object "com/example/nepean/nepean/query/Keyword"), (.object "com/example/nepean/nepean/query/Keyword"), (.object "com/example/nepean/nepean/query/Keyword"), (.object "com/example/nepean/nepean/query/Keyword"), (.object "com/example/nepean/nepean/query/Keyword"), (.object "com/example/nepean/nepean/query/Keyword"), (.object "com/example/nepean/nepean/query/Keyword"), (.object "java/util/Map"), (.array (.object "com/example/nepean/nepean/query/Keyword"))]
  resolved := Array.replicate 391 none
  statics := some 0 }

def pool7 : Array CpInfo := pool [(1, .class_ 2), (0, u "com/example/nepean/nepean/query/Lexer$Kind"), (2, u "WORD"), (0, u "Lcom/example/nepean/nepean/query/Lexer$Kind;"), (2, u "KEYWORD"), (2, u "STRING"), (2, u "INTEGER"), (2, u "DECIMAL"), (2, u "NAMED_PARAMETER"), (2, u "POSITIONAL_PARAMETER"), (2, u "SYMBOL"), (2, u "END"), (2, u "$VALUES"), (0, u "[Lcom/example/nepean/nepean/query/Lexer$Kind;"), (6, .class_ 43), (1, u "java/lang/Enum"), (32, .class_ 77), (0, u "com/example/nepean/nepean/query/Lexer")] 2

/-- com/example/nepean/nepean/query/Lexer$Kind -/
def k7 : Class := { plain "com/example/nepean/nepean/query/Lexer$Kind" (some 5) with
  accessFlags := 16432
  interfaces := #[]
  cf := some (fileOf pool7 1 #[.nestHost 76] #[] 16432 41 #[] #[{ accessFlags := 16409, nameIndex := 5, descriptorIndex := 6, attributes := #[] }, { accessFlags := 16409, nameIndex := 9, descriptorIndex := 6, attributes := #[] }, { accessFlags := 16409, nameIndex := 12, descriptorIndex := 6, attributes := #[] }, { accessFlags := 16409, nameIndex := 15, descriptorIndex := 6, attributes := #[] }, { accessFlags := 16409, nameIndex := 18, descriptorIndex := 6, attributes := #[] }, { accessFlags := 16409, nameIndex := 21, descriptorIndex := 6, attributes := #[] }, { accessFlags := 16409, nameIndex := 24, descriptorIndex := 6, attributes := #[] }, { accessFlags := 16409, nameIndex := 27, descriptorIndex := 6, attributes := #[] }, { accessFlags := 16409, nameIndex := 30, descriptorIndex := 6, attributes := #[] }, { accessFlags := 4122, nameIndex := 33, descriptorIndex := 34, attributes := #[] }])
  fields := #[{ name := "WORD", type := (.object "com/example/nepean/nepean/query/Lexer$Kind"), accessFlags := 16409, slot := 0, constantValue := 0 }, { name := "KEYWORD", type := (.object "com/example/nepean/nepean/query/Lexer$Kind"), accessFlags := 16409, slot := 1, constantValue := 0 }, { name := "STRING", type := (.object "com/example/nepean/nepean/query/Lexer$Kind"), accessFlags := 16409, slot := 2, constantValue := 0 }, { name := "INTEGER", type := (.object "com/example/nepean/nepean/query/Lexer$Kind"), accessFlags := 16409, slot := 3, constantValue := 0 }, { name := "DECIMAL", type := (.object "com/example/nepean/nepean/query/Lexer$Kind"), accessFlags := 16409, slot := 4, constantValue := 0 }, { name := "NAMED_PARAMETER", type := (.object "com/example/nepean/nepean/query/Lexer$Kind"), accessFlags := 16409, slot := 5, constantValue := 0 }, { name := "POSITIONAL_PARAMETER", type := (.object "com/example/nepean/nepean/query/Lexer$Kind"), accessFlags := 16409, slot := 6, constantValue := 0 }, { name := "SYMBOL", type := (.object "com/example/nepean/nepean/query/Lexer$Kind"), accessFlags := 16409, slot := 7, constantValue := 0 }, { name := "END", type := (.object "com/example/nepean/nepean/query/Lexer$Kind"), accessFlags := 16409, slot := 8, constantValue := 0 }, { name := "$VALUES", type := (.array (.object "com/example/nepean/nepean/query/Lexer$Kind")), accessFlags := 4122, slot := 9, constantValue := 0 }]
  methods := #[]
  instanceTypes := #[(.object "java/lang/String"), .int, .int]
  staticTypes := #[(.object "com/example/nepean/nepean/query/Lexer$Kind"), (.object "com/example/nepean/nepean/query/Lexer$Kind"), (.object "com/example/nepean/nepean/query/Lexer$Kind"), (.object "com/example/nepean/nepean/query/Lexer$Kind"), (.object "com/example/nepean/nepean/query/Lexer$Kind"), (.object "com/example/nepean/nepean/query/Lexer$Kind"), (.object "com/example/nepean/nepean/query/Lexer$Kind"), (.object "com/example/nepean/nepean/query/Lexer$Kind"), (.object "com/example/nepean/nepean/query/Lexer$Kind"), (.array (.object "com/example/nepean/nepean/query/Lexer$Kind"))]
  resolved := Array.replicate 80 none
  statics := some 1 }

def pool8 : Array CpInfo := pool [(2, .class_ 4), (1, u "java/lang/CharSequence"), (42, .class_ 48), (0, u "java/lang/CharSequence$1CodePointIterator"), (10, .class_ 60), (0, u "java/lang/CharSequence$1CharIterator"), (5, .class_ 67), (0, u "java/lang/Object")] 63

/-- java/lang/CharSequence -/
def k8 : Class := { plain "java/lang/CharSequence" (some 0) with
  accessFlags := 1537
  interfaces := #[]
  cf := some (fileOf pool8 2 #[.nestMembers #[47, 59]] #[] 1537 66 #[] #[])
  fields := #[]
  methods := #[]
  instanceTypes := #[]
  staticTypes := #[]
  resolved := Array.replicate 131 none
  statics := none }

def pool9 : Array CpInfo := pool [(1, .class_ 2), (0, u "java/lang/constant/ConstantDesc"), (0, .class_ 4), (0, u "java/lang/Object")] 32

/-- java/lang/constant/ConstantDesc -/
def k9 : Class := { plain "java/lang/constant/ConstantDesc" (some 0) with
  accessFlags := 1537
  interfaces := #[]
  cf := some (fileOf pool9 1 #[] #[] 1537 3 #[] #[])
  fields := #[]
  methods := #[]
  instanceTypes := #[]
  staticTypes := #[]
  resolved := Array.replicate 37 none
  statics := none }

def pool10 : Array CpInfo := pool [(1, .methodref 2 3), (0, .class_ 4), (0, .nameAndType 5 6), (0, u "java/lang/Object"), (0, u "<init>"), (0, u "()V"), (2, .fieldref 10 11), (0, .class_ 12), (0, .nameAndType 13 14), (0, u "java/lang/String"), (0, u "value"), (0, u "[B"), (0, .fieldref 10 16), (0, .nameAndType 17 18), (0, u "coder"), (0, u "B"), (2, u "hash"), (0, u "I"), (2, u "hashIsZero"), (0, u "Z"), (0, .methodref 10 28), (0, .nameAndType 5 29), (0, u "([CIILjava/lang/Void;)V"), (8, .fieldref 10 39), (0, .nameAndType 40 26), (0, u "COMPACT_STRINGS"), (1, .class_ 44), (1, u "java/lang/StringUTF16"), (0, u "compress"), (1, .methodref 42 48), (0, .nameAndType 49 50), (0, u "coderFromArrayLen"), (0, u "([BI)B"), (126, .methodref 42 178), (0, .nameAndType 45 179), (0, u "([CII)[B"), (395, .class_ 576), (0, u "java/lang/CharSequence"), (22, u "CASE_INSENSITIVE_ORDER"), (0, u "Ljava/util/Comparator;"), (409, u "([C)V"), (90, u "serialPersistentFields"), (0, u "[Ljava/io/ObjectStreamField;"), (0, .class_ 1104), (0, u "java/lang/String$CaseInsensitiveComparator"), (1, .class_ 1107), (0, u "java/io/Serializable"), (0, .class_ 1109), (0, u "java/lang/Comparable"), (0, .class_ 1111), (0, u "java/lang/constant/Constable"), (0, .class_ 1113), (0, u "java/lang/constant/ConstantDesc"), (2, u "serialVersionUID"), (0, u "J"), (3, u "REPL"), (0, u "C"), (2, u "LATIN1"), (1, u "UTF16")] 323

def k10m0 : Method := { name := "<init>", desc := "()V", sig := { parameters := [], returnType := none }, accessFlags := 1, code := none }
def k10c1 : Code := { maxStack := 5, maxLocals := 2, code := jdk_42_method_3_code, exceptionTable := #[], attributes := #[] }
def k10m1 : Method := { name := "<init>", desc := "([C)V", sig := { parameters := [(.array .char)], returnType := none }, accessFlags := 1, code := some k10c1 }
def k10c2 : Code := { maxStack := 4, maxLocals := 6, code := jdk_42_method_149_code, exceptionTable := #[], attributes := #[] }
def k10m2 : Method := { name := "<init>", desc := "([CIILjava/lang/Void;)V", sig := { parameters := [(.array .char), .int, .int, (.object "java/lang/Void")], returnType := none }, accessFlags := 2, code := some k10c2 }
/-- java/lang/String -/
def k10 : Class := { plain "java/lang/String" (some 0) with
  accessFlags := 49
  interfaces := #[4, 3, 8, 2, 9]
  cf := some (fileOf pool10 10 #[.nestMembers #[1103]] #[{ accessFlags := 1, nameIndex := 5, descriptorIndex := 6, attributes := #[] }, { accessFlags := 1, nameIndex := 5, descriptorIndex := 1010, attributes := #[] }, { accessFlags := 2, nameIndex := 5, descriptorIndex := 29, attributes := #[] }] 49 2 #[1106, 1108, 575, 1110, 1112] #[{ accessFlags := 18, nameIndex := 13, descriptorIndex := 14, attributes := #[] }, { accessFlags := 18, nameIndex := 17, descriptorIndex := 18, attributes := #[] }, { accessFlags := 2, nameIndex := 21, descriptorIndex := 22, attributes := #[] }, { accessFlags := 2, nameIndex := 25, descriptorIndex := 26, attributes := #[] }, { accessFlags := 26, nameIndex := 1116, descriptorIndex := 1117, attributes := #[] }, { accessFlags := 24, nameIndex := 40, descriptorIndex := 26, attributes := #[] }, { accessFlags := 26, nameIndex := 1101, descriptorIndex := 1102, attributes := #[] }, { accessFlags := 26, nameIndex := 1121, descriptorIndex := 1122, attributes := #[] }, { accessFlags := 25, nameIndex := 599, descriptorIndex := 600, attributes := #[] }, { accessFlags := 24, nameIndex := 1125, descriptorIndex := 18, attributes := #[] }, { accessFlags := 24, nameIndex := 1127, descriptorIndex := 18, attributes := #[] }])
  fields := #[{ name := "value", type := (.array .byte), accessFlags := 18, slot := 0, constantValue := 0 }, { name := "coder", type := .byte, accessFlags := 18, slot := 1, constantValue := 0 }, { name := "hash", type := .int, accessFlags := 2, slot := 2, constantValue := 0 }, { name := "hashIsZero", type := .boolean, accessFlags := 2, slot := 3, constantValue := 0 }, { name := "serialVersionUID", type := .long, accessFlags := 26, slot := 0, constantValue := 0 }, { name := "COMPACT_STRINGS", type := .boolean, accessFlags := 24, slot := 1, constantValue := 0 }, { name := "serialPersistentFields", type := (.array (.object "java/io/ObjectStreamField")), accessFlags := 26, slot := 2, constantValue := 0 }, { name := "REPL", type := .char, accessFlags := 26, slot := 3, constantValue := 0 }, { name := "CASE_INSENSITIVE_ORDER", type := (.object "java/util/Comparator"), accessFlags := 25, slot := 4, constantValue := 0 }, { name := "LATIN1", type := .byte, accessFlags := 24, slot := 5, constantValue := 0 }, { name := "UTF16", type := .byte, accessFlags := 24, slot := 6, constantValue := 0 }]
  methods := #[k10m0, k10m1, k10m2]
  instanceTypes := #[(.array .byte), .byte, .int, .boolean]
  staticTypes := #[.long, .boolean, (.array (.object "java/io/ObjectStreamField")), .char, (.object "java/util/Comparator"), .byte, .byte]
  resolved := Array.replicate 1451 none
  statics := some 2 }

def pool11 : Array CpInfo := pool [(6, .class_ 8), (1, u "java/lang/Object"), (0, u "<init>"), (0, u "()V"), (1, .class_ 14), (1, u "java/lang/StringUTF16"), (31, u "$assertionsDisabled"), (0, u "Z"), (13, u "HI_BYTE_SHIFT"), (0, u "I"), (2, u "LO_BYTE_SHIFT"), (49, .methodref 12 116), (0, .nameAndType 117 118), (0, u "compress"), (0, u "([CI[BII)I"), (3, u "([CII)[B"), (138, u "coderFromArrayLen"), (0, u "([BI)B"), (106, .class_ 371), (1, u "java/lang/StringUTF16$LinesSpliterator"), (58, u "MAX_LENGTH"), (196, .class_ 628), (0, u "java/lang/StringUTF16$CodePointsSpliterator"), (0, .class_ 630), (0, u "java/lang/StringUTF16$CharsSpliterator")] 4

def k11m0 : Method := { name := "<init>", desc := "()V", sig := { parameters := [], returnType := none }, accessFlags := 0, code := none }
def k11c1 : Code := { maxStack := 2, maxLocals := 2, code := jdk_52_method_15_code, exceptionTable := #[], attributes := #[] }
def k11m1 : Method := { name := "coderFromArrayLen", desc := "([BI)B", sig := { parameters := [(.array .byte), .int], returnType := some .byte }, accessFlags := 8, code := some k11c1 }
def k11c2 : Code := { maxStack := 5, maxLocals := 6, code := jdk_52_method_16_code, exceptionTable := #[], attributes := #[] }
def k11m2 : Method := { name := "compress", desc := "([CII)[B", sig := { parameters := [(.array .char), .int, .int], returnType := some (.array .byte) }, accessFlags := 9, code := some k11c2 }
def k11c3 : Code := { maxStack := 3, maxLocals := 7, code := jdk_52_method_21_code, exceptionTable := #[], attributes := #[] }
def k11m3 : Method := { name := "compress", desc := "([CI[BII)I", sig := { parameters := [(.array .char), .int, (.array .byte), .int, .int], returnType := some .int }, accessFlags := 9, code := some k11c3 }
/-- java/lang/StringUTF16 -/
def k11 : Class := { plain "java/lang/StringUTF16" (some 0) with
  accessFlags := 48
  interfaces := #[]
  cf := some (fileOf pool11 12 #[.nestMembers #[627, 629, 369]] #[{ accessFlags := 0, nameIndex := 9, descriptorIndex := 10, attributes := #[] }, { accessFlags := 8, nameIndex := 261, descriptorIndex := 262, attributes := #[] }, { accessFlags := 9, nameIndex := 117, descriptorIndex := 122, attributes := #[] }, { accessFlags := 9, nameIndex := 117, descriptorIndex := 118, attributes := #[] }] 48 6 #[] #[{ accessFlags := 26, nameIndex := 61, descriptorIndex := 62, attributes := #[] }, { accessFlags := 26, nameIndex := 65, descriptorIndex := 62, attributes := #[] }, { accessFlags := 24, nameIndex := 430, descriptorIndex := 62, attributes := #[] }, { accessFlags := 4120, nameIndex := 46, descriptorIndex := 47, attributes := #[] }])
  fields := #[{ name := "HI_BYTE_SHIFT", type := .int, accessFlags := 26, slot := 0, constantValue := 0 }, { name := "LO_BYTE_SHIFT", type := .int, accessFlags := 26, slot := 1, constantValue := 0 }, { name := "MAX_LENGTH", type := .int, accessFlags := 24, slot := 2, constantValue := 0 }, { name := "$assertionsDisabled", type := .boolean, accessFlags := 4120, slot := 3, constantValue := 0 }]
  methods := #[k11m0, k11m1, k11m2, k11m3]
  instanceTypes := #[]
  staticTypes := #[.int, .int, .int, .boolean]
  resolved := Array.replicate 635 none
  statics := none }

def pool12 : Array CpInfo := pool [(1, .methodref 2 3), (0, .class_ 4), (0, .nameAndType 5 6), (0, u "java/lang/Object"), (0, u "<init>"), (0, u "()V"), (0, .class_ 8), (0, u "java/lang/Record")] 13

def k12c0 : Code := { maxStack := 1, maxLocals := 1, code := jdk_30_method_1_code, exceptionTable := #[], attributes := #[] }
def k12m0 : Method := { name := "<init>", desc := "()V", sig := { parameters := [], returnType := none }, accessFlags := 4, code := some k12c0 }
/-- java/lang/Record -/
def k12 : Class := { plain "java/lang/Record" (some 0) with
  accessFlags := 1057
  interfaces := #[]
  cf := some (fileOf pool12 7 #[] #[{ accessFlags := 4, nameIndex := 5, descriptorIndex := 6, attributes := #[] }] 1057 2 #[] #[])
  fields := #[]
  methods := #[k12m0]
  instanceTypes := #[]
  staticTypes := #[]
  resolved := Array.replicate 22 none
  statics := none }

def pool13 : Array CpInfo := pool [(1, .methodref 2 3), (0, .class_ 4), (0, .nameAndType 5 6), (0, u "java/lang/Record"), (0, u "<init>"), (0, u "()V"), (0, .fieldref 8 9), (0, .class_ 10), (0, .nameAndType 11 12), (0, u "com/example/nepean/nepean/query/Lexer$Token"), (0, u "kind"), (0, u "Lcom/example/nepean/nepean/query/Lexer$Kind;"), (0, .fieldref 8 14), (0, .nameAndType 15 16), (0, u "text"), (0, u "Ljava/lang/String;"), (0, .fieldref 8 18), (0, .nameAndType 19 20), (0, u "keyword"), (0, u "Lcom/example/nepean/nepean/query/Keyword;"), (0, .fieldref 8 22), (0, .nameAndType 23 24), (0, u "position"), (0, u "I"), (33, u "(Lcom/example/nepean/nepean/query/Lexer$Kind;Ljava/lang/String;Lcom/example/nepean/nepean/query/Keyword;I)V"), (3, u "is"), (0, u "(Lcom/example/nepean/nepean/query/Keyword;)Z"), (10, .class_ 75), (0, u "com/example/nepean/nepean/query/Lexer")] 31

def k13c0 : Code := { maxStack := 2, maxLocals := 5, code := prog_18_method_1_code, exceptionTable := #[], attributes := #[] }
def k13m0 : Method := { name := "<init>", desc := "(Lcom/example/nepean/nepean/query/Lexer$Kind;Ljava/lang/String;Lcom/example/nepean/nepean/query/Keyword;I)V", sig := { parameters := [(.object "com/example/nepean/nepean/query/Lexer$Kind"), (.object "java/lang/String"), (.object "com/example/nepean/nepean/query/Keyword"), .int], returnType := none }, accessFlags := 0, code := some k13c0 }
def k13c1 : Code := { maxStack := 2, maxLocals := 2, code := prog_18_method_2_code, exceptionTable := #[], attributes := #[] }
def k13m1 : Method := { name := "is", desc := "(Lcom/example/nepean/nepean/query/Keyword;)Z", sig := { parameters := [(.object "com/example/nepean/nepean/query/Keyword")], returnType := some .boolean }, accessFlags := 0, code := some k13c1 }
/-- com/example/nepean/nepean/query/Lexer$Token -/
def k13 : Class := { plain "com/example/nepean/nepean/query/Lexer$Token" (some 12) with
  accessFlags := 48
  interfaces := #[]
  cf := some (fileOf pool13 8 #[.nestHost 74] #[{ accessFlags := 0, nameIndex := 5, descriptorIndex := 58, attributes := #[] }, { accessFlags := 0, nameIndex := 62, descriptorIndex := 63, attributes := #[] }] 48 2 #[] #[{ accessFlags := 18, nameIndex := 11, descriptorIndex := 12, attributes := #[] }, { accessFlags := 18, nameIndex := 15, descriptorIndex := 16, attributes := #[] }, { accessFlags := 18, nameIndex := 19, descriptorIndex := 20, attributes := #[] }, { accessFlags := 18, nameIndex := 23, descriptorIndex := 24, attributes := #[] }])
  fields := #[{ name := "kind", type := (.object "com/example/nepean/nepean/query/Lexer$Kind"), accessFlags := 18, slot := 0, constantValue := 0 }, { name := "text", type := (.object "java/lang/String"), accessFlags := 18, slot := 1, constantValue := 0 }, { name := "keyword", type := (.object "com/example/nepean/nepean/query/Keyword"), accessFlags := 18, slot := 2, constantValue := 0 }, { name := "position", type := .int, accessFlags := 18, slot := 3, constantValue := 0 }]
  methods := #[k13m0, k13m1]
  instanceTypes := #[(.object "com/example/nepean/nepean/query/Lexer$Kind"), (.object "java/lang/String"), (.object "com/example/nepean/nepean/query/Keyword"), .int]
  staticTypes := #[]
  resolved := Array.replicate 107 none
  statics := none }

def pool14 : Array CpInfo := pool [(4, .class_ 6), (1, u "java/lang/Object"), (0, u "<init>"), (0, u "()V"), (5, .class_ 16), (1, u "java/lang/StringLatin1"), (104, u "$assertionsDisabled"), (0, u "Z"), (98, .class_ 223), (1, u "java/lang/StringLatin1$LinesSpliterator"), (166, .class_ 391), (0, u "java/lang/StringLatin1$CharsSpliterator")] 3

def k14m0 : Method := { name := "<init>", desc := "()V", sig := { parameters := [], returnType := none }, accessFlags := 0, code := none }
/-- java/lang/StringLatin1 -/
def k14 : Class := { plain "java/lang/StringLatin1" (some 0) with
  accessFlags := 48
  interfaces := #[]
  cf := some (fileOf pool14 14 #[.nestMembers #[390, 221]] #[{ accessFlags := 0, nameIndex := 7, descriptorIndex := 8, attributes := #[] }] 48 4 #[] #[{ accessFlags := 4120, nameIndex := 121, descriptorIndex := 122, attributes := #[] }])
  fields := #[{ name := "$assertionsDisabled", type := .boolean, accessFlags := 4120, slot := 0, constantValue := 0 }]
  methods := #[k14m0]
  instanceTypes := #[]
  staticTypes := #[.boolean]
  resolved := Array.replicate 395 none
  statics := none }

def pool15 : Array CpInfo := pool [(2, .class_ 4), (1, u "java/lang/Object"), (0, u "<init>"), (0, u "()V"), (17, .class_ 26), (1, u "jdk/internal/util/Preconditions"), (28, .class_ 56), (0, u "jdk/internal/util/Preconditions$4"), (57, .class_ 115), (0, u "jdk/internal/util/Preconditions$1"), (7, u "SIOOBE_FORMATTER"), (0, u "Ljava/util/function/BiFunction;"), (0, .class_ 126), (0, u "jdk/internal/util/Preconditions$2"), (3, u "AIOOBE_FORMATTER"), (0, .class_ 132), (0, u "jdk/internal/util/Preconditions$3"), (3, u "IOOBE_FORMATTER")] 57

def k15m0 : Method := { name := "<init>", desc := "()V", sig := { parameters := [], returnType := none }, accessFlags := 1, code := none }
/-- jdk/internal/util/Preconditions -/
def k15 : Class := { plain "jdk/internal/util/Preconditions" (some 0) with
  accessFlags := 33
  interfaces := #[]
  cf := some (fileOf pool15 24 #[.nestMembers #[55, 131, 125, 114]] #[{ accessFlags := 1, nameIndex := 5, descriptorIndex := 6, attributes := #[] }] 33 2 #[] #[{ accessFlags := 25, nameIndex := 123, descriptorIndex := 124, attributes := #[] }, { accessFlags := 25, nameIndex := 130, descriptorIndex := 124, attributes := #[] }, { accessFlags := 25, nameIndex := 136, descriptorIndex := 124, attributes := #[] }])
  fields := #[{ name := "SIOOBE_FORMATTER", type := (.object "java/util/function/BiFunction"), accessFlags := 25, slot := 0, constantValue := 0 }, { name := "AIOOBE_FORMATTER", type := (.object "java/util/function/BiFunction"), accessFlags := 25, slot := 1, constantValue := 0 }, { name := "IOOBE_FORMATTER", type := (.object "java/util/function/BiFunction"), accessFlags := 25, slot := 2, constantValue := 0 }]
  methods := #[k15m0]
  instanceTypes := #[]
  staticTypes := #[(.object "java/util/function/BiFunction"), (.object "java/util/function/BiFunction"), (.object "java/util/function/BiFunction")]
  resolved := Array.replicate 194 none
  statics := some 3 }

def pool16 : Array CpInfo := pool [(9, u "<init>"), (6, .class_ 18), (1, u "java/lang/Object"), (0, u "()V"), (1, .class_ 23), (1, u "jdk/internal/util/ArraysSupport"), (0, u "LOG2_ARRAY_LONG_INDEX_SCALE"), (0, u "I"), (2, u "U"), (0, u "Ljdk/internal/misc/Unsafe;"), (8, u "BIG_ENDIAN"), (0, u "Z"), (8, u "LOG2_BYTE_BIT_SIZE"), (4, u "LOG2_ARRAY_INT_INDEX_SCALE"), (54, u "JLA"), (0, u "Ljdk/internal/access/JavaLangAccess;"), (11, u "LOG2_ARRAY_BOOLEAN_INDEX_SCALE"), (9, u "LOG2_ARRAY_BYTE_INDEX_SCALE"), (5, u "LOG2_ARRAY_CHAR_INDEX_SCALE"), (5, u "LOG2_ARRAY_SHORT_INDEX_SCALE"), (18, u "LOG2_ARRAY_FLOAT_INDEX_SCALE"), (24, u "LOG2_ARRAY_DOUBLE_INDEX_SCALE"), (89, u "T_BOOLEAN"), (2, u "T_CHAR"), (1, u "T_FLOAT"), (1, u "T_DOUBLE"), (1, u "T_BYTE"), (1, u "T_SHORT"), (1, u "T_INT"), (1, u "T_LONG"), (1, u "SOFT_MAX_ARRAY_LENGTH")] 83

def k16m0 : Method := { name := "<init>", desc := "()V", sig := { parameters := [], returnType := none }, accessFlags := 2, code := none }
/-- jdk/internal/util/ArraysSupport -/
def k16 : Class := { plain "jdk/internal/util/ArraysSupport" (some 0) with
  accessFlags := 33
  interfaces := #[]
  cf := some (fileOf pool16 21 #[] #[{ accessFlags := 2, nameIndex := 9, descriptorIndex := 19, attributes := #[] }] 33 16 #[] #[{ accessFlags := 24, nameIndex := 28, descriptorIndex := 29, attributes := #[] }, { accessFlags := 26, nameIndex := 38, descriptorIndex := 39, attributes := #[] }, { accessFlags := 25, nameIndex := 121, descriptorIndex := 25, attributes := #[] }, { accessFlags := 25, nameIndex := 131, descriptorIndex := 25, attributes := #[] }, { accessFlags := 25, nameIndex := 137, descriptorIndex := 25, attributes := #[] }, { accessFlags := 25, nameIndex := 143, descriptorIndex := 25, attributes := #[] }, { accessFlags := 25, nameIndex := 53, descriptorIndex := 25, attributes := #[] }, { accessFlags := 25, nameIndex := 24, descriptorIndex := 25, attributes := #[] }, { accessFlags := 25, nameIndex := 162, descriptorIndex := 25, attributes := #[] }, { accessFlags := 25, nameIndex := 187, descriptorIndex := 25, attributes := #[] }, { accessFlags := 26, nameIndex := 48, descriptorIndex := 25, attributes := #[] }, { accessFlags := 25, nameIndex := 277, descriptorIndex := 25, attributes := #[] }, { accessFlags := 25, nameIndex := 280, descriptorIndex := 25, attributes := #[] }, { accessFlags := 25, nameIndex := 282, descriptorIndex := 25, attributes := #[] }, { accessFlags := 25, nameIndex := 284, descriptorIndex := 25, attributes := #[] }, { accessFlags := 25, nameIndex := 286, descriptorIndex := 25, attributes := #[] }, { accessFlags := 25, nameIndex := 288, descriptorIndex := 25, attributes := #[] }, { accessFlags := 25, nameIndex := 290, descriptorIndex := 25, attributes := #[] }, { accessFlags := 25, nameIndex := 292, descriptorIndex := 25, attributes := #[] }, { accessFlags := 26, nameIndex := 108, descriptorIndex := 109, attributes := #[] }, { accessFlags := 25, nameIndex := 294, descriptorIndex := 25, attributes := #[] }])
  fields := #[{ name := "U", type := (.object "jdk/internal/misc/Unsafe"), accessFlags := 24, slot := 0, constantValue := 0 }, { name := "BIG_ENDIAN", type := .boolean, accessFlags := 26, slot := 1, constantValue := 0 }, { name := "LOG2_ARRAY_BOOLEAN_INDEX_SCALE", type := .int, accessFlags := 25, slot := 2, constantValue := 0 }, { name := "LOG2_ARRAY_BYTE_INDEX_SCALE", type := .int, accessFlags := 25, slot := 3, constantValue := 0 }, { name := "LOG2_ARRAY_CHAR_INDEX_SCALE", type := .int, accessFlags := 25, slot := 4, constantValue := 0 }, { name := "LOG2_ARRAY_SHORT_INDEX_SCALE", type := .int, accessFlags := 25, slot := 5, constantValue := 0 }, { name := "LOG2_ARRAY_INT_INDEX_SCALE", type := .int, accessFlags := 25, slot := 6, constantValue := 0 }, { name := "LOG2_ARRAY_LONG_INDEX_SCALE", type := .int, accessFlags := 25, slot := 7, constantValue := 0 }, { name := "LOG2_ARRAY_FLOAT_INDEX_SCALE", type := .int, accessFlags := 25, slot := 8, constantValue := 0 }, { name := "LOG2_ARRAY_DOUBLE_INDEX_SCALE", type := .int, accessFlags := 25, slot := 9, constantValue := 0 }, { name := "LOG2_BYTE_BIT_SIZE", type := .int, accessFlags := 26, slot := 10, constantValue := 0 }, { name := "T_BOOLEAN", type := .int, accessFlags := 25, slot := 11, constantValue := 0 }, { name := "T_CHAR", type := .int, accessFlags := 25, slot := 12, constantValue := 0 }, { name := "T_FLOAT", type := .int, accessFlags := 25, slot := 13, constantValue := 0 }, { name := "T_DOUBLE", type := .int, accessFlags := 25, slot := 14, constantValue := 0 }, { name := "T_BYTE", type := .int, accessFlags := 25, slot := 15, constantValue := 0 }, { name := "T_SHORT", type := .int, accessFlags := 25, slot := 16, constantValue := 0 }, { name := "T_INT", type := .int, accessFlags := 25, slot := 17, constantValue := 0 }, { name := "T_LONG", type := .int, accessFlags := 25, slot := 18, constantValue := 0 }, { name := "JLA", type := (.object "jdk/internal/access/JavaLangAccess"), accessFlags := 26, slot := 19, constantValue := 0 }, { name := "SOFT_MAX_ARRAY_LENGTH", type := .int, accessFlags := 25, slot := 20, constantValue := 0 }]
  methods := #[k16m0]
  instanceTypes := #[]
  staticTypes := #[(.object "jdk/internal/misc/Unsafe"), .boolean, .int, .int, .int, .int, .int, .int, .int, .int, .int, .int, .int, .int, .int, .int, .int, .int, .int, (.object "jdk/internal/access/JavaLangAccess"), .int]
  resolved := Array.replicate 378 none
  statics := none }

def pool17 : Array CpInfo := pool [(1, u "java/lang/Cloneable"), (0, .class_ 1), (0, u "java/lang/Object"), (0, .class_ 3)] 3

/-- java/lang/Cloneable -/
def k17 : Class := { plain "java/lang/Cloneable" (some 0) with
  accessFlags := 1537
  interfaces := #[]
  cf := some (fileOf pool17 2 #[] #[] 1537 4 #[] #[])
  fields := #[]
  methods := #[]
  instanceTypes := #[]
  staticTypes := #[]
  resolved := Array.replicate 8 none
  statics := none }

/-- the primitive byte -/
def k18 : Class := { plain "byte" none with kind := .primitive 'B', accessFlags := 0x411 }
/-- [B -/
def k19 : Class := { plain "[B" (some 0) with kind := .array 18 .byte, interfaces := #[17, 4], accessFlags := 1041 }

/-- the primitive char -/
def k20 : Class := { plain "char" none with kind := .primitive 'C', accessFlags := 0x411 }
/-- [C -/
def k21 : Class := { plain "[C" (some 0) with kind := .array 20 .char, interfaces := #[17, 4], accessFlags := 1041 }

/-- the primitive int -/
def k22 : Class := { plain "int" none with kind := .primitive 'I', accessFlags := 0x411 }
/-- [I -/
def k23 : Class := { plain "[I" (some 0) with kind := .array 22 .int, interfaces := #[17, 4], accessFlags := 1041 }

def heap : Heap := #[{ cls := 6, slots := #[.ref 4, .null, .null, .null, .null, .null, .null, .null, .null, .null, .null, .null, .null, .null, .null, .null, .null, .ref 7, .null, .null, .ref 6, .ref 11, .null, .null, .null, .ref 13, .null, .null, .null, .null, .null, .null, .null, .null, .null, .null, .null, .ref 8, .null, .null, .null, .null, .null, .null, .null, .null, .null, .null, .null, .null, .null, .null, .null, .null, .null, .ref 9, .null, .null, .null, .null, .null, .null, .null, .ref 10, .null, .null], vm := .statics 6 },
  { cls := 7, slots := #[.ref 12, .ref 5, .ref 15, .ref 14, .null, .null, .null, .ref 16, .ref 17, .null], vm := .statics 7 },
  { cls := 10, slots := #[.long 0, .int 1, .null, .int 0, .null, .int 0, .int 0], vm := .statics 10 },
  { cls := 15, slots := #[.null, .null, .null], vm := .statics 15 },
  { cls := 6, slots := #[.null, .int 0, .int 0], vm := .none },
  { cls := 7, slots := #[.null, .int 0, .int 0], vm := .none },
  { cls := 6, slots := #[.null, .int 20, .int 0], vm := .none },
  { cls := 6, slots := #[.null, .int 17, .int 0], vm := .none },
  { cls := 6, slots := #[.null, .int 37, .int 0], vm := .none },
  { cls := 6, slots := #[.null, .int 55, .int 0], vm := .none },
  { cls := 6, slots := #[.null, .int 63, .int 0], vm := .none },
  { cls := 6, slots := #[.null, .int 21, .int 0], vm := .none },
  { cls := 7, slots := #[.null, .int 0, .int 0], vm := .none },
  { cls := 6, slots := #[.null, .int 25, .int 0], vm := .none },
  { cls := 7, slots := #[.null, .int 0, .int 0], vm := .none },
  { cls := 7, slots := #[.null, .int 0, .int 0], vm := .none },
  { cls := 7, slots := #[.null, .int 0, .int 0], vm := .none },
  { cls := 7, slots := #[.null, .int 0, .int 0], vm := .none }]
def classes : Array Class := #[k0, k1, k2, k3, k4, k5, k6, k7, k8, k9, k10, k11, k12, k13, k14, k15, k16, k17, k18, k19, k20, k21, k22, k23]
def interned : List (Array UInt16 × Addr) := []
def slotsUsed : Nat := 128
def theMethod : MethodId := ⟨1, 3⟩
def args0 : Array Value := #[.int 5, .int 5, .int 5, .int 5]
def aboutOver (below : List Frame) : State where
  vm := { classes := classes, interned := interned.toArray }
  heap := heap
  slotsUsed := slotsUsed
  threads := #[{ frames := .invoking theMethod args0 :: below }]
def below0 : List Frame := [.native { method := ⟨0, 0⟩, args := #[] }]
def about1 : State := aboutOver below0
def p0 : Program := .bare "" "" ""
def e0 : Env := launch0.env 0 0 0
theorem w_frames : about1.frames = Frame.invoking theMethod args0 :: below0 := rfl
set_option maxRecDepth 65536 in
theorem w_args : argsFit about1.vm theMethod args0 = true := by decide +kernel
set_option maxRecDepth 65536 in
theorem w_heap : heapFits about1 = true := by decide +kernel
set_option maxRecDepth 65536 in
theorem w_runnable : about1.curStatus? = some .runnable := by decide +kernel
set_option maxRecDepth 65536 in
theorem w_alone : about1.alone = true := by decide +kernel
set_option maxRecDepth 65536 in
theorem w_named : about1.methodNamed? x = some theMethod := by decide +kernel
set_option maxRecDepth 65536 in
theorem w_hears : about1.hears theMethod below0 = true := by decide +kernel
set_option maxRecDepth 65536 in
theorem w_ripe : about1.ripe theMethod args0 below0 = true := by decide +kernel
theorem w_running : about1.status = .running := rfl
set_option maxRecDepth 65536 in
theorem w_room : about1.hasRoom e0.platform room_1 = true :=
  launch0.hasRoom_least _ room_1 (by decide +kernel) (by decide +kernel) (by decide +kernel) (by decide +kernel) (by decide +kernel) (by decide +kernel)
theorem allAtoms_all (ts : List Jvm.Cond) (a : Array Jvm.Value) (st : Jvm.State) : (allAtoms ts).before a st = ts.all (fun c => c.before a st) := by
  induction ts with
  | nil => rfl
  | cons c t ih =>
    show (Jvm.Cond.and c (allAtoms t)).before a st = _
    rw [Jvm.Cond.before_and, ih, List.all_cons]
def words1 : List Jvm.Cond := Jvm.Cond.code x code maxLocals ret :: tables_1
/-- a 'code' word, met by the world's own term for the bytes: nothing is compared byte by byte -/
theorem code_word {y : MethodName} {bytes : ByteArray} {mx : Nat} {rt : Option FieldType} {a : Array Value} {s : State} {m : MethodId} {meth : Method} {c : Code} (h1 : s.methodNamed? y = some m) (h2 : s.vm.method? m = some meth) (h3 : meth.code = some c) (h4 : c.code = bytes)
    (h5 : (c.maxLocals == mx && c.exceptionTable.isEmpty && decide (c.maxStack ≤ mostOperands) && decide (meth.sig.returnType = rt) && !meth.locks && decide (parseMethodDescriptor y.desc = some meth.sig)) = true) : (Jvm.Cond.code y bytes mx rt).before a s = true := by
  simp only [Bool.and_eq_true, beq_iff_eq, Bool.not_eq_true', decide_eq_true_eq] at h5
  obtain ⟨⟨⟨⟨⟨g1, g2⟩, g3⟩, g4⟩, g5⟩, g6⟩ := h5
  simp [Cond.before, Cond.holds, Cond.value, h1, h2, h3, h4, g1, g2, g3, g4, g5, g6]
def isCode : Jvm.Cond → Bool
  | .code _ _ _ _ => true
  | _ => false
theorem all_split {L : List Jvm.Cond} {P : Jvm.Cond → Bool} (h1 : L.all (fun c => isCode c || P c) = true) (h2 : ∀ c ∈ L.filter isCode, P c = true) : L.all P = true := by
  refine List.all_eq_true.mpr fun c hc => ?_
  have h := List.all_eq_true.mp h1 c hc
  rcases Bool.eq_false_or_eq_true (isCode c) with hi | hi
  · exact h2 c (List.mem_filter.mpr ⟨hc, hi⟩)
  · simpa [hi] using h
set_option maxRecDepth 65536 in
theorem w_c0 : (Jvm.Cond.code x code maxLocals ret).before args0 about1 = true := code_word (m := ⟨1, 3⟩) (meth := k1m3) (c := k1c3) (by decide +kernel) rfl rfl rfl (by decide +kernel)
set_option maxRecDepth 65536 in
theorem w_c1 : (Jvm.Cond.code ({ cls := "com/example/nepean/nepean/query/TokenIsPinLaw", name := "pick", desc := "(I)Lcom/example/nepean/nepean/query/Keyword;" } : Jvm.MethodName) method_2_code (1 : Nat) (Option.some (Jvm.ClassFile.FieldType.object "com/example/nepean/nepean/query/Keyword"))).before args0 about1 = true := code_word (m := ⟨1, 1⟩) (meth := k1m1) (c := k1c1) (by decide +kernel) rfl rfl rfl (by decide +kernel)
set_option maxRecDepth 65536 in
theorem w_c2 : (Jvm.Cond.code ({ cls := "java/lang/String", name := "<init>", desc := "([C)V" } : Jvm.MethodName) jdk_42_method_3_code (2 : Nat) (Option.none : Option Jvm.ClassFile.FieldType)).before args0 about1 = true := code_word (m := ⟨10, 1⟩) (meth := k10m1) (c := k10c1) (by decide +kernel) rfl rfl rfl (by decide +kernel)
set_option maxRecDepth 65536 in
theorem w_c3 : (Jvm.Cond.code ({ cls := "java/lang/String", name := "<init>", desc := "([CIILjava/lang/Void;)V" } : Jvm.MethodName) jdk_42_method_149_code (6 : Nat) (Option.none : Option Jvm.ClassFile.FieldType)).before args0 about1 = true := code_word (m := ⟨10, 2⟩) (meth := k10m2) (c := k10c2) (by decide +kernel) rfl rfl rfl (by decide +kernel)
set_option maxRecDepth 65536 in
theorem w_c4 : (Jvm.Cond.code ({ cls := "java/lang/Object", name := "<init>", desc := "()V" } : Jvm.MethodName) object_method_1_code (1 : Nat) (Option.none : Option Jvm.ClassFile.FieldType)).before args0 about1 = true := code_word (m := ⟨0, 0⟩) (meth := k0m0) (c := k0c0) (by decide +kernel) rfl rfl rfl (by decide +kernel)
set_option maxRecDepth 65536 in
theorem w_c5 : (Jvm.Cond.code ({ cls := "java/lang/StringUTF16", name := "compress", desc := "([CII)[B" } : Jvm.MethodName) jdk_52_method_16_code (6 : Nat) (Option.some (Jvm.ClassFile.FieldType.array Jvm.ClassFile.FieldType.byte))).before args0 about1 = true := code_word (m := ⟨11, 2⟩) (meth := k11m2) (c := k11c2) (by decide +kernel) rfl rfl rfl (by decide +kernel)
set_option maxRecDepth 65536 in
theorem w_c6 : (Jvm.Cond.code ({ cls := "java/lang/StringUTF16", name := "compress", desc := "([CI[BII)I" } : Jvm.MethodName) jdk_52_method_21_code (7 : Nat) (Option.some Jvm.ClassFile.FieldType.int)).before args0 about1 = true := code_word (m := ⟨11, 3⟩) (meth := k11m3) (c := k11c3) (by decide +kernel) rfl rfl rfl (by decide +kernel)
set_option maxRecDepth 65536 in
theorem w_c7 : (Jvm.Cond.code ({ cls := "java/lang/StringUTF16", name := "coderFromArrayLen", desc := "([BI)B" } : Jvm.MethodName) jdk_52_method_15_code (2 : Nat) (Option.some Jvm.ClassFile.FieldType.byte)).before args0 about1 = true := code_word (m := ⟨11, 1⟩) (meth := k11m1) (c := k11c1) (by decide +kernel) rfl rfl rfl (by decide +kernel)
set_option maxRecDepth 65536 in
theorem w_c8 : (Jvm.Cond.code ({ cls := "com/example/nepean/nepean/query/Lexer$Token", name := "<init>", desc := "(Lcom/example/nepean/nepean/query/Lexer$Kind;Ljava/lang/String;Lcom/example/nepean/nepean/query/Keyword;I)V" } : Jvm.MethodName) prog_18_method_1_code (5 : Nat) (Option.none : Option Jvm.ClassFile.FieldType)).before args0 about1 = true := code_word (m := ⟨13, 0⟩) (meth := k13m0) (c := k13c0) (by decide +kernel) rfl rfl rfl (by decide +kernel)
set_option maxRecDepth 65536 in
theorem w_c9 : (Jvm.Cond.code ({ cls := "java/lang/Record", name := "<init>", desc := "()V" } : Jvm.MethodName) jdk_30_method_1_code (1 : Nat) (Option.none : Option Jvm.ClassFile.FieldType)).before args0 about1 = true := code_word (m := ⟨12, 0⟩) (meth := k12m0) (c := k12c0) (by decide +kernel) rfl rfl rfl (by decide +kernel)
set_option maxRecDepth 65536 in
theorem w_c10 : (Jvm.Cond.code ({ cls := "com/example/nepean/nepean/query/Lexer$Token", name := "is", desc := "(Lcom/example/nepean/nepean/query/Keyword;)Z" } : Jvm.MethodName) prog_18_method_2_code (2 : Nat) (Option.some Jvm.ClassFile.FieldType.boolean)).before args0 about1 = true := code_word (m := ⟨13, 1⟩) (meth := k13m1) (c := k13c1) (by decide +kernel) rfl rfl rfl (by decide +kernel)
set_option maxRecDepth 65536 in
theorem w_c11 : (Jvm.Cond.code ({ cls := "com/example/nepean/nepean/query/TokenIsPinLaw", name := "plainKind", desc := "(I)Lcom/example/nepean/nepean/query/Lexer$Kind;" } : Jvm.MethodName) method_3_code (1 : Nat) (Option.some (Jvm.ClassFile.FieldType.object "com/example/nepean/nepean/query/Lexer$Kind"))).before args0 about1 = true := code_word (m := ⟨1, 2⟩) (meth := k1m2) (c := k1c2) (by decide +kernel) rfl rfl rfl (by decide +kernel)
def codes1 : List Jvm.Cond := [Jvm.Cond.code x code maxLocals ret, Jvm.Cond.code ({ cls := "com/example/nepean/nepean/query/TokenIsPinLaw", name := "pick", desc := "(I)Lcom/example/nepean/nepean/query/Keyword;" } : Jvm.MethodName) method_2_code (1 : Nat) (Option.some (Jvm.ClassFile.FieldType.object "com/example/nepean/nepean/query/Keyword")), Jvm.Cond.code ({ cls := "java/lang/String", name := "<init>", desc := "([C)V" } : Jvm.MethodName) jdk_42_method_3_code (2 : Nat) (Option.none : Option Jvm.ClassFile.FieldType), Jvm.Cond.code ({ cls := "java/lang/String", name := "<init>", desc := "([CIILjava/lang/Void;)V" } : Jvm.MethodName) jdk_42_method_149_code (6 : Nat) (Option.none : Option Jvm.ClassFile.FieldType), Jvm.Cond.code ({ cls := "java/lang/Object", name := "<init>", desc := "()V" } : Jvm.MethodName) object_method_1_code (1 : Nat) (Option.none : Option Jvm.ClassFile.FieldType), Jvm.Cond.code ({ cls := "java/lang/StringUTF16", name := "compress", desc := "([CII)[B" } : Jvm.MethodName) jdk_52_method_16_code (6 : Nat) (Option.some (Jvm.ClassFile.FieldType.array Jvm.ClassFile.FieldType.byte)), Jvm.Cond.code ({ cls := "java/lang/StringUTF16", name := "compress", desc := "([CI[BII)I" } : Jvm.MethodName) jdk_52_method_21_code (7 : Nat) (Option.some Jvm.ClassFile.FieldType.int), Jvm.Cond.code ({ cls := "java/lang/StringUTF16", name := "coderFromArrayLen", desc := "([BI)B" } : Jvm.MethodName) jdk_52_method_15_code (2 : Nat) (Option.some Jvm.ClassFile.FieldType.byte), Jvm.Cond.code ({ cls := "com/example/nepean/nepean/query/Lexer$Token", name := "<init>", desc := "(Lcom/example/nepean/nepean/query/Lexer$Kind;Ljava/lang/String;Lcom/example/nepean/nepean/query/Keyword;I)V" } : Jvm.MethodName) prog_18_method_1_code (5 : Nat) (Option.none : Option Jvm.ClassFile.FieldType), Jvm.Cond.code ({ cls := "java/lang/Record", name := "<init>", desc := "()V" } : Jvm.MethodName) jdk_30_method_1_code (1 : Nat) (Option.none : Option Jvm.ClassFile.FieldType), Jvm.Cond.code ({ cls := "com/example/nepean/nepean/query/Lexer$Token", name := "is", desc := "(Lcom/example/nepean/nepean/query/Keyword;)Z" } : Jvm.MethodName) prog_18_method_2_code (2 : Nat) (Option.some Jvm.ClassFile.FieldType.boolean), Jvm.Cond.code ({ cls := "com/example/nepean/nepean/query/TokenIsPinLaw", name := "plainKind", desc := "(I)Lcom/example/nepean/nepean/query/Lexer$Kind;" } : Jvm.MethodName) method_3_code (1 : Nat) (Option.some (Jvm.ClassFile.FieldType.object "com/example/nepean/nepean/query/Lexer$Kind"))]
set_option maxRecDepth 65536 in
theorem codes_eq : words1.filter isCode = codes1 := rfl
theorem w_codes : ∀ c ∈ words1.filter isCode, c.before args0 about1 = true := by
  rw [codes_eq]
  intro c hc
  simp only [codes1, List.mem_cons, List.not_mem_nil, or_false] at hc
  rcases hc with rfl | rfl | rfl | rfl | rfl | rfl | rfl | rfl | rfl | rfl | rfl | rfl
  · exact w_c0
  · exact w_c1
  · exact w_c2
  · exact w_c3
  · exact w_c4
  · exact w_c5
  · exact w_c6
  · exact w_c7
  · exact w_c8
  · exact w_c9
  · exact w_c10
  · exact w_c11
set_option maxRecDepth 65536 in
theorem w_t1 : (words1.take 24).all (fun c => isCode c || c.before args0 about1) = true := by decide +kernel
set_option maxRecDepth 65536 in
theorem w_t2 : ((words1.drop 24).take 24).all (fun c => isCode c || c.before args0 about1) = true := by decide +kernel
set_option maxRecDepth 65536 in
theorem w_t3 : (((words1.drop 24).drop 24).take 24).all (fun c => isCode c || c.before args0 about1) = true := by decide +kernel
set_option maxRecDepth 65536 in
theorem w_t4 : (((words1.drop 24).drop 24).drop 24).all (fun c => isCode c || c.before args0 about1) = true := by decide +kernel
theorem w_tables : (allAtoms (Jvm.Cond.code x code maxLocals ret :: tables_1)).before args0 about1 = true := by
  rw [allAtoms_all]
  show words1.all (fun c => c.before args0 about1) = true
  refine all_split ?_ w_codes
  rw [← List.take_append_drop 24 words1, List.all_append, w_t1, ← List.take_append_drop 24 (words1.drop 24), List.all_append, w_t2, ← List.take_append_drop 24 ((words1.drop 24).drop 24), List.all_append, w_t3, w_t4]
  rfl
set_option maxRecDepth 65536 in
theorem w_rest : rest_1_c.before args0 about1 = true := by decide +kernel
set_option maxRecDepth 65536 in
theorem w_case : (Jvm.Cond.and given_1 narrow_1).before args0 about1 = true := by decide +kernel
theorem w_applies : (headSpec (Jvm.Cond.code x code maxLocals ret :: tables_1) room_1).applies x e0.platform about1 = true :=
  (Spec.applies_iff w_frames).mpr ⟨w_running, w_runnable, w_alone, w_named, w_hears, w_ripe, w_room, w_tables⟩
theorem atStart : AtStart classFile x code maxLocals ret World_1 tables_1 room_1 Calls_1 rest_1 Pre_1 launch0 p0 e0 about1 theMethod args0 below0 :=
  ⟨lists_1, trivial, launch0.admits_env _ _ _, launch0.least_env, fairChoices_fair.cas, fairChoices_fair.clock, w_frames, w_args, w_heap, w_applies, trivial, w_rest, w_case⟩
end start1
theorem witness_1 : WitnessClaimed_1 := ⟨start1.p0, start1.e0, start1.about1, start1.theMethod, start1.args0, start1.below0, start1.atStart⟩
end Jvm.Pilot.@@N@@
