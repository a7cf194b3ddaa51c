import JvmDerived
import JvmDerived.Pilot.@@N@@Statement
import JvmDerived.Pilot.@@N@@Code
set_option linter.unusedVariables false
set_option linter.unusedSimpArgs false
namespace Jvm.RoadKit
open Sem ClassFile Op Lib Jvm.Stand Jvm.Free Jvm.LawKit
section Own
variable {p : Program} {l : Launch} {e : Env} {R : Room} {s : State} {m : MethodId} {args : Array Value} {below : List Frame} {meth : Method} {c : Code} {T T' : State} {locs : List Loc} {cells slots : Nat} {Z : State} {a0 : Array Value} {h : Heap} {Φ : State → Prop} {g g' : JFrame} {Q : Option Value → Heap → List Loc → Prop} {kc ks pc : Nat} {Ls : Array Slot} {st rest : List Value}
/-- from the frame g of T the run comes to a state of which Φ holds -/
def own_Go (p : Program) (e : Env) (below : List Frame) (Φ : State → Prop) (T : State) (g : JFrame) : Prop := ∃ t, Steps p.tables e below (T.setTop g) t ∧ Φ t
theorem own_k (st : ∀ t, Steps p.tables e below (T'.setTop g') t → Steps p.tables e below (T.setTop g) t) (k : own_Go p e below Φ T' g') : own_Go p e below Φ T g := by
  obtain ⟨t, h1, h2⟩ := k
  exact ⟨t, st t h1, h2⟩
theorem own_s (st : Steps p.tables e below (T.setTop g) (T'.setTop g')) (k : own_Go p e below Φ T' g') : own_Go p e below Φ T g := by
  obtain ⟨t, h1, h2⟩ := k
  exact ⟨t, st.trans h1, h2⟩
def own_Fin (s : State) (below : List Frame) (Q : Option Value → Heap → List Loc → Prop) (kc ks : Nat) (t : State) : Prop := t.status = .running ∧ ∃ v L, Ended t below (.returned v) ∧ Q v t.heap L ∧ FrameEnd s (.returned v) t L kc ks
def own_Met (l : Launch) (Z : State) (y : MethodName) (bytes : ByteArray) (maxL : Nat) (ret : Option FieldType) (rm : Room) (av : Array Value) (h : Heap) (Q : Option Value → Heap → List Loc → Prop) : Prop :=
  ∀ ws : List Jvm.Cond, MetFree l y (head1 (Cond.code y bytes maxL ret :: ws) rm) (fun a U => a = av ∧ Z.Warmed39 U.vm ∧ U.heap = h) (fun _ _ _ _ _ => True) (fun _ U o U' => ∃ v L, o = .returned v ∧ Q v U'.heap L ∧ FrameEnd U o U' L rm.cells rm.slots)
theorem own_met {y : MethodName} {bytes : ByteArray} {maxL : Nat} {ret : Option FieldType} {rm : Room} {av : Array Value} (hpl : plainFor y = true)
    (body : ∀ (p : Program) (e : Env) (s : State) (m : MethodId) (below : List Frame) (meth : Method) (c : Code) (s₁ : State) (Φ : State → Prop), (∀ t, own_Fin s below Q rm.cells rm.slots t → Φ t) → Stand p l e rm s m av below meth c s₁ [] 0 0 → p.tables.exec = Jvm.exec → c.code = bytes → c.maxLocals = maxL → Z.Warmed39 s.vm → s.vm.findClass y.cls = some m.cls → meth.name = y.name → meth.sig.returnType = ret → meth.locks = false → s₁.heap = h →
      own_Go p e below Φ s₁ (entryFrame m av maxL)) : own_Met l Z y bytes maxL ret rm av h Q := by
  intro ws
  refine MetFree.of_bodySF hpl hisR ?_
  intro p e s m args below meth c s₁ Bd hml hP hK
  obtain ⟨rfl, hZ, hh⟩ := hP
  obtain ⟨t, h1, hrun, v, L, h2, h3, h4⟩ := body p e s m below meth c s₁ (own_Fin s below Q rm.cells rm.slots) (fun _ q => q) (Stand.of_body Bd) Bd.exec Bd.bytes hml hZ (findClass_of_methodNamed Bd.named) (name_of_methodNamed Bd.named Bd.method).1 Bd.returns Bd.notSynchronized (by rw [← hh, Bd.state]; rfl)
  exact ⟨t, _, h1, hrun, h2, v, L, rfl, h3, h4⟩
theorem own_fin {v : Option Value} (X : Stand p l e R s m args below meth c T locs cells slots) (hv : meth.sig.returnType = none → v = none) (hlk : meth.locks = false)
    (hs : ∀ fs, (∀ (f : JFrame) (acts : List Action), f.method = m → f.locked = none → f.entered = [] → (doReturn e (T.setTop f) acts v).1 = T.setFrames fs) → Steps p.tables e below (T.setTop g) (T.setFrames fs))
    (hF : ∀ t, own_Fin s below Q kc ks t → Φ t) (hQ : Q v T.heap locs) (hk : cells ≤ kc) (hn : slots ≤ ks) : own_Go p e below Φ T g := by
  obtain ⟨fs, hr, hrun, hended, hW, hsame⟩ := X.leave (v := v) hv hlk
  exact ⟨T.setFrames fs, hs fs hr, hF _ ⟨hrun, v, locs, hended, hQ, ⟨_, rfl⟩, hW, hsame.mono hk hn⟩⟩
theorem own_retI (X : Stand p l e R s m args below meth c T locs cells slots) (hx : p.tables.exec = Jvm.exec) {z : Int32} (hret : meth.sig.returnType = some .int) (hlk : meth.locks = false) (hd : decode c.code pc = .ok (.ireturn, 1)) (hF : ∀ t, own_Fin s below Q kc ks t → Φ t) (hQ : Q (some (.int z)) T.heap locs) (hk : cells ≤ kc) (hn : slots ≤ ks) :
    own_Go p e below Φ T (mkF m pc Ls (.int z :: rest)) :=
  own_fin X (fun q => by rw [hret] at q; cases q) hlk (fun fs hr => retOut X hx hret (narrow_int z) (Or.inl ⟨rfl, Or.inl rfl, z, rfl⟩) hd hr) hF hQ hk hn
where narrow_int (z : Int32) : narrow .int (.int z) = .int z := rfl
theorem own_retN (X : Stand p l e R s m args below meth c T locs cells slots) (hx : p.tables.exec = Jvm.exec) {z : Int32} {t : FieldType} (hret : meth.sig.returnType = some t) (ht : t = .boolean ∨ t = .byte ∨ t = .char ∨ t = .short) (hlk : meth.locks = false) (hd : decode c.code pc = .ok (.ireturn, 1)) (hF : ∀ t, own_Fin s below Q kc ks t → Φ t) (hQ : Q (some (.int (nar t z))) T.heap locs) (hk : cells ≤ kc) (hn : slots ≤ ks) :
    own_Go p e below Φ T (mkF m pc Ls (.int z :: rest)) :=
  own_fin X (fun q => by rw [hret] at q; cases q) hlk (fun fs hr => retN X hx hret ht hd hr) hF hQ hk hn
theorem own_retA (X : Stand p l e R s m args below meth c T locs cells slots) (hx : p.tables.exec = Jvm.exec) {w : Value} {t : FieldType} (hret : meth.sig.returnType = some t) (ht : t.isReference = true) (hw : w.isRef = true) (hlk : meth.locks = false) (hd : decode c.code pc = .ok (.areturn, 1)) (hF : ∀ t, own_Fin s below Q kc ks t → Φ t) (hQ : Q (some w) T.heap locs) (hk : cells ≤ kc) (hn : slots ≤ ks) :
    own_Go p e below Φ T (mkF m pc Ls (w :: rest)) :=
  own_fin X (fun q => by rw [hret] at q; cases q) hlk (fun fs hr => retOut X hx hret (by cases t <;> cases w <;> first | rfl | cases ht | cases hw) (Or.inr (Or.inr (Or.inr (Or.inr ⟨rfl, ht, hw⟩)))) hd hr) hF hQ hk hn
theorem own_retJ (X : Stand p l e R s m args below meth c T locs cells slots) (hx : p.tables.exec = Jvm.exec) {z : Int64} (hret : meth.sig.returnType = some .long) (hlk : meth.locks = false) (hd : decode c.code pc = .ok (.lreturn, 1)) (hF : ∀ t, own_Fin s below Q kc ks t → Φ t) (hQ : Q (some (.long z)) T.heap locs) (hk : cells ≤ kc) (hn : slots ≤ ks) :
    own_Go p e below Φ T (mkF m pc Ls (.long z :: rest)) :=
  own_fin X (fun q => by rw [hret] at q; cases q) hlk (fun fs hr => retOut X hx hret rfl (Or.inr (Or.inl ⟨rfl, rfl, z, rfl⟩)) hd hr) hF hQ hk hn
theorem own_ret0 (X : Stand p l e R s m args below meth c T locs cells slots) (hx : p.tables.exec = Jvm.exec) (hret : meth.sig.returnType = none) (hlk : meth.locks = false) (hd : decode c.code pc = .ok (.return_, 1)) (hF : ∀ t, own_Fin s below Q kc ks t → Φ t) (hQ : Q none T.heap locs) (hk : cells ≤ kc) (hn : slots ≤ ks) :
    own_Go p e below Φ T (mkF m pc Ls []) :=
  own_fin X (fun _ => rfl) hlk (fun fs hr => X.returnOut hx hret hd hr) hF hQ hk hn
theorem own_back {y : MethodName} {bytes : ByteArray} {maxL : Nat} {ret : Option FieldType} {rm : Room} {len W : Nat} {av : Array Value} (hM : own_Met l Z y bytes maxL ret rm av h Q)
    (hZ : Z.Warmed39 s.vm) (wc : (Cond.code y bytes maxL ret).before a0 Z = true) (wz : (Cond.initialized y.cls).before a0 Z = true) (hf : rm.frames + 1 ≤ R.frames) (hl : W + (maxL + 11) + rm.locals ≤ R.locals) :
    Back l R p e below s args y len W (fun A a => a = av ∧ A.U.heap = h ∧ A.cells + rm.cells ≤ R.cells ∧ A.slots + rm.slots ≤ R.slots)
      (fun A _ v B => ∃ L, Q v B.U.heap L ∧ B.locs = A.locs ++ L ∧ B.cells = A.cells + rm.cells ∧ B.slots = A.slots + rm.slots) :=
  backOf (Q := Q) (hM []) hZ wc wz hf hl
theorem own_callS (X : Stand p l e R s m args below meth c T locs cells slots) (hx : p.tables.exec = Jvm.exec) (hZ : Z.Warmed39 s.vm) {own : String} {index : Nat} {y : MethodName} {bytes : ByteArray} {maxL : Nat} {ret : Option FieldType} (hown : s.vm.findClass own = some m.cls)
    (w1 : (Cond.methodLink own index y).before a0 Z = true) (w2 : (Cond.static y).before a0 Z = true) (w3 : (Cond.initialized y.cls).before a0 Z = true) (w4 : (Cond.code y bytes maxL ret).before a0 Z = true) (hy : y.cls ≠ "java/lang/invoke/MethodHandle" ∧ y.cls ≠ "java/lang/invoke/VarHandle")
    {rm : Room} {al : List Value} (hM : own_Met l Z y bytes maxL ret rm al.toArray h Q) (W : Nat) (hf : rm.frames + 1 ≤ R.frames) (hl : W + (maxL + 11) + rm.locals ≤ R.locals) (eT : T.heap = h) (hc : cells + rm.cells ≤ R.cells) (hn : slots + rm.slots ≤ R.slots)
    (hsz : Ls.size = c.maxLocals) (hlen : ∀ sig, parseMethodDescriptor y.desc = some sig → al.length = sig.parameters.length) (hst : st = al.reverse ++ rest) (hW : 2 * 0 + (rest.map fun v => v.category).sum ≤ W) (hd : decode c.code pc = .ok (.invokestatic index, 3))
    (k : ∀ (v : Option Value) (T' : State) (L : List Loc), Stand p l e R s m args below meth c T' (locs ++ L) (cells + rm.cells) (slots + rm.slots) → Q v T'.heap L → own_Go p e below Φ T' (mkF m (pc + 3) Ls (v.toList ++ rest))) : own_Go p e below Φ T (mkF m pc Ls st) := by
  obtain ⟨v, vm₁, ⟨T', L', k', n'⟩, -, X', ⟨L, hQ, l1, l2, l3⟩, st'⟩ := Jvm.LawKit.callS X hx (y := y) hown (mvT hZ w1) (mvT hZ w2) (mvT hZ w3) (mvT hZ w4) hy (own_back (W := W) hM hZ w4 w3 hf hl) (g := mkF m pc Ls st) rfl hsz (argsL := al) (rest := rest) hlen hst hW hd (fun _ _ => ⟨rfl, eT, hc, hn⟩)
  dsimp only [Pt.U, Pt.locs, Pt.cells, Pt.slots] at X' l1 l2 l3 st' hQ
  subst l1 l2 l3
  exact own_k st' (k v T' L X' hQ)
theorem own_callV (X : Stand p l e R s m args below meth c T locs cells slots) (hx : p.tables.exec = Jvm.exec) (hZ : Z.Warmed39 s.vm) {own C : String} {index : Nat} {y z : MethodName} {bytes : ByteArray} {maxL : Nat} {ret : Option FieldType} (hown : s.vm.findClass own = some m.cls)
    (w1 : (Cond.methodLink own index y).before a0 Z = true) (w2 : (Cond.declares y).before a0 Z = true) (hnf : NotFace s y) (w3 : (Cond.selects C y z).before a0 Z = true) (w4 : (Cond.instanceMethod z).before a0 Z = true) (w5 : (Cond.code z bytes maxL ret).before a0 Z = true) (w6 : (Cond.initialized z.cls).before a0 Z = true) (hy : y.cls ≠ "java/lang/invoke/MethodHandle" ∧ y.cls ≠ "java/lang/invoke/VarHandle")
    {rm : Room} {al : List Value} {b : Addr} (E : Exa Z h b C) (hM : own_Met l Z z bytes maxL ret rm (.ref b :: al).toArray h Q) (W : Nat) (hf : rm.frames + 1 ≤ R.frames) (hl : W + (maxL + 11) + rm.locals ≤ R.locals) (eT : T.heap = h) (hc : cells + rm.cells ≤ R.cells) (hn : slots + rm.slots ≤ R.slots)
    (hsz : Ls.size = c.maxLocals) (hlen : ∀ sig, parseMethodDescriptor y.desc = some sig → al.length = sig.parameters.length) (hst : st = al.reverse ++ .ref b :: rest) (hW : 2 * 0 + (rest.map fun v => v.category).sum ≤ W) (hd : decode c.code pc = .ok (.invokevirtual index, 3))
    (k : ∀ (v : Option Value) (T' : State) (L : List Loc), Stand p l e R s m args below meth c T' (locs ++ L) (cells + rm.cells) (slots + rm.slots) → Q v T'.heap L → own_Go p e below Φ T' (mkF m (pc + 3) Ls (v.toList ++ rest))) : own_Go p e below Φ T (mkF m pc Ls st) := by
  obtain ⟨cB, kB, q1, q2, q3⟩ := isOf hZ eT E
  obtain ⟨v, vm₁, ⟨T', L', k', n'⟩, -, X', ⟨L, hQ, l1, l2, l3⟩, st'⟩ := X.virtualBack hx (y := y) (z := z) hown (mvT hZ w1) (mvT hZ w2) hnf (mvT hZ w3) (mvT hZ w4) hy (own_back (W := W) hM hZ w5 w6 hf hl) q1 q3 (g := mkF m pc Ls st) rfl hsz (Steps.refl _) (argsL := al) (rest := rest) hlen hst hW hd (fun _ _ => ⟨rfl, eT, hc, hn⟩)
  dsimp only [Pt.U, Pt.locs, Pt.cells, Pt.slots] at X' l1 l2 l3 st' hQ
  subst l1 l2 l3
  exact own_s st' (k v T' L X' hQ)
theorem own_callU (X : Stand p l e R s m args below meth c T locs cells slots) (hx : p.tables.exec = Jvm.exec) (hZ : Z.Warmed39 s.vm) {own C owner : String} {index : Nat} {y z : MethodName} {bytes : ByteArray} {maxL : Nat} {ret : Option FieldType} (hown : s.vm.findClass own = some m.cls)
    (w1 : (Cond.methodLink own index y).before a0 Z = true) (w2 : (Cond.sameMethod y.cls owner y.name y.desc).before a0 Z = true) (w2' : (Cond.declares ⟨owner, y.name, y.desc⟩).before a0 Z = true) (w3 : (Cond.selects C y z).before a0 Z = true) (w4 : (Cond.instanceMethod z).before a0 Z = true) (w5 : (Cond.code z bytes maxL ret).before a0 Z = true) (w6 : (Cond.initialized z.cls).before a0 Z = true) (hy : owner ≠ "java/lang/invoke/MethodHandle" ∧ owner ≠ "java/lang/invoke/VarHandle")
    {rm : Room} {al : List Value} {b : Addr} (E : Exa Z h b C) (hM : own_Met l Z z bytes maxL ret rm (.ref b :: al).toArray h Q) (W : Nat) (hf : rm.frames + 1 ≤ R.frames) (hl : W + (maxL + 11) + rm.locals ≤ R.locals) (eT : T.heap = h) (hc : cells + rm.cells ≤ R.cells) (hn : slots + rm.slots ≤ R.slots)
    (hsz : Ls.size = c.maxLocals) (hlen : ∀ sig, parseMethodDescriptor y.desc = some sig → al.length = sig.parameters.length) (hst : st = al.reverse ++ .ref b :: rest) (hW : 2 * 0 + (rest.map fun v => v.category).sum ≤ W) (hd : decode c.code pc = .ok (.invokevirtual index, 3))
    (k : ∀ (v : Option Value) (T' : State) (L : List Loc), Stand p l e R s m args below meth c T' (locs ++ L) (cells + rm.cells) (slots + rm.slots) → Q v T'.heap L → own_Go p e below Φ T' (mkF m (pc + 3) Ls (v.toList ++ rest))) : own_Go p e below Φ T (mkF m pc Ls st) := by
  obtain ⟨cB, kB, q1, q2, q3⟩ := isOf hZ eT E
  obtain ⟨v, vm₁, ⟨T', L', k', n'⟩, -, X', ⟨L, hQ, l1, l2, l3⟩, st'⟩ := X.virtualBackUp hx (x := y) (y := z) hown (mvT hZ w1) (mvT hZ w2) (mvT hZ w2') hy (mvT hZ w3) (mvT hZ w4) (own_back (W := W) hM hZ w5 w6 hf hl) q1 q3 (g := mkF m pc Ls st) rfl hsz (Steps.refl _) (argsL := al) (rest := rest) hlen hst hW hd (fun _ _ => ⟨rfl, eT, hc, hn⟩)
  dsimp only [Pt.U, Pt.locs, Pt.cells, Pt.slots] at X' l1 l2 l3 st' hQ
  subst l1 l2 l3
  exact own_s st' (k v T' L X' hQ)
theorem own_callN (X : Stand p l e R s m args below meth c T locs cells slots) (hx : p.tables.exec = Jvm.exec) (hZ : Z.Warmed39 s.vm) {own : String} {index : Nat} {y : MethodName} {bytes : ByteArray} {maxL : Nat} (hy1 : y.name = "<init>") (hown : s.vm.findClass own = some m.cls)
    (w1 : (Cond.methodLink own index y).before a0 Z = true) (w2 : (Cond.instanceMethod y).before a0 Z = true) (w3 : (Cond.code y bytes maxL none).before a0 Z = true) (w4 : (Cond.initialized y.cls).before a0 Z = true) (hy : y.cls ≠ "java/lang/invoke/MethodHandle" ∧ y.cls ≠ "java/lang/invoke/VarHandle")
    {rm : Room} {al : List Value} {b : Addr} (hM : own_Met l Z y bytes maxL none rm (.ref b :: al).toArray h Q) (W : Nat) (hf : rm.frames + 1 ≤ R.frames) (hl : W + (maxL + 11) + rm.locals ≤ R.locals) (eT : T.heap = h) (hc : cells + rm.cells ≤ R.cells) (hn : slots + rm.slots ≤ R.slots)
    (hsz : Ls.size = c.maxLocals) (hlen : ∀ sig, parseMethodDescriptor y.desc = some sig → al.length = sig.parameters.length) (hst : st = al.reverse ++ .ref b :: rest) (hW : 2 * 0 + (rest.map fun v => v.category).sum ≤ W) (hd : decode c.code pc = .ok (.invokespecial index, 3))
    (k : ∀ (v : Option Value) (T' : State) (L : List Loc), Stand p l e R s m args below meth c T' (locs ++ L) (cells + rm.cells) (slots + rm.slots) → Q v T'.heap L → own_Go p e below Φ T' (mkF m (pc + 3) Ls (v.toList ++ rest))) : own_Go p e below Φ T (mkF m pc Ls st) := by
  obtain ⟨v, vm₁, ⟨T', L', k', n'⟩, -, X', ⟨L, hQ, l1, l2, l3⟩, st'⟩ := X.specialBack hx (y := y) hy1 hown (mvT hZ w1) (mvT hZ w2) (mvT hZ w3) hy (own_back (W := W) hM hZ w3 w4 hf hl) (g := mkF m pc Ls st) rfl hsz (Steps.refl _) (a := b) (argsL := al) (rest := rest) hlen hst hW hd (fun _ _ => ⟨rfl, eT, hc, hn⟩)
  dsimp only [Pt.U, Pt.locs, Pt.cells, Pt.slots] at X' l1 l2 l3 st' hQ
  subst l1 l2 l3
  exact own_s st' (k v T' L X' hQ)
theorem own_iaload (X : Stand p l e R s m args below meth c T locs cells slots) (hx : p.tables.exec = Jvm.exec) (hZ : Z.Warmed39 s.vm) (eT : T.heap = h) {a : Addr} {k : ClassId} {n : Int32} {vs : List Value} {d : Value} (V : Arv Z h a k .int n vs d) {j : Int32} (hj : ¬ j < 0 ∧ j < n) {v : Value} (hv : vs.getD j.toNatClampNeg d = v) (hd : decode c.code pc = .ok (.iaload, 1)) (kk : own_Go p e below Φ T (mkF m (pc + 1) Ls (v :: rest))) : own_Go p e below Φ T (mkF m pc Ls (.int j :: .ref a :: rest)) := by
  obtain ⟨cl, A, -, S, N, H, -⟩ := V
  have hin := inb_of S hj
  exact own_k (fun t q => X.iaload hx (j := j) (v := v) (by rw [eT]; exact A.1) (State.isArrayOf_alike hZ.alike A.2.1) A.2.2 hin (H.at hin hv) (g := mkF m pc Ls (.int j :: .ref a :: rest)) rfl rfl hd t q) kk
theorem own_saload (X : Stand p l e R s m args below meth c T locs cells slots) (hx : p.tables.exec = Jvm.exec) (hZ : Z.Warmed39 s.vm) (eT : T.heap = h) {a : Addr} {k : ClassId} {n : Int32} {vs : List Value} {d : Value} (V : Arv Z h a k .short n vs d) {j : Int32} (hj : ¬ j < 0 ∧ j < n) {v : Value} (hv : vs.getD j.toNatClampNeg d = v) (hd : decode c.code pc = .ok (.saload, 1)) (kk : own_Go p e below Φ T (mkF m (pc + 1) Ls (v :: rest))) : own_Go p e below Φ T (mkF m pc Ls (.int j :: .ref a :: rest)) := by
  obtain ⟨cl, A, -, S, N, H, -⟩ := V
  have hin := inb_of S hj
  exact own_k (fun t q => X.saload hx (j := j) (v := v) (by rw [eT]; exact A.1) (State.isArrayOf_alike hZ.alike A.2.1) A.2.2 hin (H.at hin hv) (g := mkF m pc Ls (.int j :: .ref a :: rest)) rfl rfl hd t q) kk
theorem own_caload (X : Stand p l e R s m args below meth c T locs cells slots) (hx : p.tables.exec = Jvm.exec) (hZ : Z.Warmed39 s.vm) (eT : T.heap = h) {a : Addr} {k : ClassId} {n : Int32} {vs : List Value} {d : Value} (V : Arv Z h a k .char n vs d) {j : Int32} (hj : ¬ j < 0 ∧ j < n) {v : Value} (hv : vs.getD j.toNatClampNeg d = v) (hd : decode c.code pc = .ok (.caload, 1)) (kk : own_Go p e below Φ T (mkF m (pc + 1) Ls (v :: rest))) : own_Go p e below Φ T (mkF m pc Ls (.int j :: .ref a :: rest)) := by
  obtain ⟨cl, A, -, S, N, H, -⟩ := V
  have hin := inb_of S hj
  exact own_k (fun t q => X.caload hx (j := j) (v := v) (by rw [eT]; exact A.1) (State.isArrayOf_alike hZ.alike A.2.1) A.2.2 hin (H.at hin hv) (g := mkF m pc Ls (.int j :: .ref a :: rest)) rfl rfl hd t q) kk
theorem own_laload (X : Stand p l e R s m args below meth c T locs cells slots) (hx : p.tables.exec = Jvm.exec) (hZ : Z.Warmed39 s.vm) (eT : T.heap = h) {a : Addr} {k : ClassId} {n : Int32} {vs : List Value} {d : Value} (V : Arv Z h a k .long n vs d) {j : Int32} (hj : ¬ j < 0 ∧ j < n) {v : Value} (hv : vs.getD j.toNatClampNeg d = v) (hd : decode c.code pc = .ok (.laload, 1)) (kk : own_Go p e below Φ T (mkF m (pc + 1) Ls (v :: rest))) : own_Go p e below Φ T (mkF m pc Ls (.int j :: .ref a :: rest)) := by
  obtain ⟨cl, A, -, S, N, H, -⟩ := V
  have hin := inb_of S hj
  exact own_k (fun t q => X.laload hx (j := j) (v := v) (by rw [eT]; exact A.1) (State.isArrayOf_alike hZ.alike A.2.1) A.2.2 hin (H.at hin hv) (g := mkF m pc Ls (.int j :: .ref a :: rest)) rfl rfl hd t q) kk
theorem own_baload (X : Stand p l e R s m args below meth c T locs cells slots) (hx : p.tables.exec = Jvm.exec) (hZ : Z.Warmed39 s.vm) (eT : T.heap = h) {a : Addr} {k : ClassId} {n : Int32} {vs : List Value} {d : Value} (V : Arv Z h a k .byte n vs d) {j : Int32} (hj : ¬ j < 0 ∧ j < n) {v : Value} (hv : vs.getD j.toNatClampNeg d = v) (hd : decode c.code pc = .ok (.baload, 1)) (kk : own_Go p e below Φ T (mkF m (pc + 1) Ls (v :: rest))) : own_Go p e below Φ T (mkF m pc Ls (.int j :: .ref a :: rest)) := by
  obtain ⟨cl, A, -, S, N, H, -⟩ := V
  have hin := inb_of S hj
  exact own_k (fun t q => X.baloadBytes hx (j := j) (v := v) (by rw [eT]; exact A.1) (State.isArrayOf_alike hZ.alike A.2.1) A.2.2 hin (H.at hin hv) (g := mkF m pc Ls (.int j :: .ref a :: rest)) rfl rfl hd t q) kk
theorem own_aaload (X : Stand p l e R s m args below meth c T locs cells slots) (hx : p.tables.exec = Jvm.exec) (hZ : Z.Warmed39 s.vm) (eT : T.heap = h) {a : Addr} {k : ClassId} {n : Int32} {vs : List Value} {d : Value} {ty : FieldType} (V : Arv Z h a k ty n vs d) (ht : ty.isReference = true) {j : Int32} (hj : ¬ j < 0 ∧ j < n) {v : Value} (hv : vs.getD j.toNatClampNeg d = v) (hd : decode c.code pc = .ok (.aaload, 1)) (kk : own_Go p e below Φ T (mkF m (pc + 1) Ls (v :: rest))) : own_Go p e below Φ T (mkF m pc Ls (.int j :: .ref a :: rest)) := by
  obtain ⟨cl, A, -, S, N, H, -⟩ := V
  have hin := inb_of S hj
  exact own_k (fun t q => X.aaload hx (j := j) (v := v) (by rw [eT]; exact A.1) (State.isArrayOf_alike hZ.alike A.2.1) ht A.2.2 hin (H.at hin hv) (g := mkF m pc Ls (.int j :: .ref a :: rest)) rfl rfl hd t q) kk
theorem own_len (X : Stand p l e R s m args below meth c T locs cells slots) (hx : p.tables.exec = Jvm.exec) (hZ : Z.Warmed39 s.vm) (eT : T.heap = h) {a : Addr} {k : ClassId} {n : Int32} {vs : List Value} {d : Value} {ty : FieldType} (V : Arv Z h a k ty n vs d) (hd : decode c.code pc = .ok (.arraylength, 1)) (kk : own_Go p e below Φ T (mkF m (pc + 1) Ls (.int n :: rest))) : own_Go p e below Φ T (mkF m pc Ls (.ref a :: rest)) := by
  obtain ⟨cl, A, -, S, N, H, -⟩ := V
  refine own_k (fun t q => X.arraylength hx (by rw [eT]; exact A.1) (State.isArrayOf_alike hZ.alike A.2.1) (g := mkF m pc Ls (.ref a :: rest)) rfl rfl hd t q) ?_
  rw [len_of S N]
  exact kk
theorem own_iastore (X : Stand p l e R s m args below meth c T locs cells slots) (hx : p.tables.exec = Jvm.exec) (hZ : Z.Warmed39 s.vm) (eT : T.heap = h) {a : Addr} {k : ClassId} {n : Int32} {vs : List Value} {d : Value} (V : Arv Z h a k .int n vs d) {j : Int32} {x : Int32} (hj : ¬ j < 0 ∧ j < n) (i : Nat) (hi : j.toNatClampNeg = i) (hl : i < vs.length) (hd : decode c.code pc = .ok (.iastore, 1)) :
    ∃ T' h', Stand p l e R s m args below meth c T' (locs ++ [⟨a, j.toNatClampNeg⟩]) cells slots ∧ T'.heap = h' ∧ Wr h h' a j.toNatClampNeg (.int x) ∧ Arv Z h' a k .int n (vs.set i (.int x)) d ∧ ∀ t, Steps p.tables e below (T'.setTop (mkF m (pc + 1) Ls rest)) t → Steps p.tables e below (T.setTop (mkF m pc Ls ((.int x) :: .int j :: .ref a :: rest))) t := by
  obtain ⟨cl, A, q, S, N, H, G⟩ := V
  have hin := inb_of S hj
  obtain ⟨T', h', X', e', W, st'⟩ := stI X hx hZ eT A (j := j) (x := x) hin (g := mkF m pc Ls ((.int x) :: .int j :: .ref a :: rest)) rfl rfl hd
  exact ⟨T', h', X', e', W, Arv.set A q S N H G rfl W i hi hl, st'⟩
theorem own_lastore (X : Stand p l e R s m args below meth c T locs cells slots) (hx : p.tables.exec = Jvm.exec) (hZ : Z.Warmed39 s.vm) (eT : T.heap = h) {a : Addr} {k : ClassId} {n : Int32} {vs : List Value} {d : Value} (V : Arv Z h a k .long n vs d) {j : Int32} {x : Int64} (hj : ¬ j < 0 ∧ j < n) (i : Nat) (hi : j.toNatClampNeg = i) (hl : i < vs.length) (hd : decode c.code pc = .ok (.lastore, 1)) :
    ∃ T' h', Stand p l e R s m args below meth c T' (locs ++ [⟨a, j.toNatClampNeg⟩]) cells slots ∧ T'.heap = h' ∧ Wr h h' a j.toNatClampNeg (.long x) ∧ Arv Z h' a k .long n (vs.set i (.long x)) d ∧ ∀ t, Steps p.tables e below (T'.setTop (mkF m (pc + 1) Ls rest)) t → Steps p.tables e below (T.setTop (mkF m pc Ls ((.long x) :: .int j :: .ref a :: rest))) t := by
  obtain ⟨cl, A, q, S, N, H, G⟩ := V
  have hin := inb_of S hj
  obtain ⟨T', h', X', e', W, st'⟩ := stJ X hx hZ eT A (j := j) (x := x) hin (g := mkF m pc Ls ((.long x) :: .int j :: .ref a :: rest)) rfl rfl hd
  exact ⟨T', h', X', e', W, Arv.set A q S N H G rfl W i hi hl, st'⟩
theorem own_castore (X : Stand p l e R s m args below meth c T locs cells slots) (hx : p.tables.exec = Jvm.exec) (hZ : Z.Warmed39 s.vm) (eT : T.heap = h) {a : Addr} {k : ClassId} {n : Int32} {vs : List Value} {d : Value} (V : Arv Z h a k .char n vs d) {j : Int32} {x : Int32} (hj : ¬ j < 0 ∧ j < n) (i : Nat) (hi : j.toNatClampNeg = i) (hl : i < vs.length) (hd : decode c.code pc = .ok (.castore, 1)) :
    ∃ T' h', Stand p l e R s m args below meth c T' (locs ++ [⟨a, j.toNatClampNeg⟩]) cells slots ∧ T'.heap = h' ∧ Wr h h' a j.toNatClampNeg (.int (nar .char x)) ∧ Arv Z h' a k .char n (vs.set i (.int (nar .char x))) d ∧ ∀ t, Steps p.tables e below (T'.setTop (mkF m (pc + 1) Ls rest)) t → Steps p.tables e below (T.setTop (mkF m pc Ls ((.int x) :: .int j :: .ref a :: rest))) t := by
  obtain ⟨cl, A, q, S, N, H, G⟩ := V
  have hin := inb_of S hj
  obtain ⟨T', h', X', e', W, st'⟩ := stC X hx hZ eT A (j := j) (x := x) hin (g := mkF m pc Ls ((.int x) :: .int j :: .ref a :: rest)) rfl rfl hd
  exact ⟨T', h', X', e', W, Arv.set A q S N H G (fits_nar_char x) W i hi hl, st'⟩
theorem own_sastore (X : Stand p l e R s m args below meth c T locs cells slots) (hx : p.tables.exec = Jvm.exec) (hZ : Z.Warmed39 s.vm) (eT : T.heap = h) {a : Addr} {k : ClassId} {n : Int32} {vs : List Value} {d : Value} (V : Arv Z h a k .short n vs d) {j : Int32} {x : Int32} (hj : ¬ j < 0 ∧ j < n) (i : Nat) (hi : j.toNatClampNeg = i) (hl : i < vs.length) (hd : decode c.code pc = .ok (.sastore, 1)) :
    ∃ T' h', Stand p l e R s m args below meth c T' (locs ++ [⟨a, j.toNatClampNeg⟩]) cells slots ∧ T'.heap = h' ∧ Wr h h' a j.toNatClampNeg (.int (nar .short x)) ∧ Arv Z h' a k .short n (vs.set i (.int (nar .short x))) d ∧ ∀ t, Steps p.tables e below (T'.setTop (mkF m (pc + 1) Ls rest)) t → Steps p.tables e below (T.setTop (mkF m pc Ls ((.int x) :: .int j :: .ref a :: rest))) t := by
  obtain ⟨cl, A, q, S, N, H, G⟩ := V
  have hin := inb_of S hj
  obtain ⟨T', h', X', e', W, st'⟩ := stS X hx hZ eT A (j := j) (x := x) hin (g := mkF m pc Ls ((.int x) :: .int j :: .ref a :: rest)) rfl rfl hd
  exact ⟨T', h', X', e', W, Arv.set A q S N H G (fits_nar_short x) W i hi hl, st'⟩
theorem own_bastore (X : Stand p l e R s m args below meth c T locs cells slots) (hx : p.tables.exec = Jvm.exec) (hZ : Z.Warmed39 s.vm) (eT : T.heap = h) {a : Addr} {k : ClassId} {n : Int32} {vs : List Value} {d : Value} (V : Arv Z h a k .byte n vs d) {j : Int32} {x : Int32} (hj : ¬ j < 0 ∧ j < n) (i : Nat) (hi : j.toNatClampNeg = i) (hl : i < vs.length) (hd : decode c.code pc = .ok (.bastore, 1)) :
    ∃ T' h', Stand p l e R s m args below meth c T' (locs ++ [⟨a, j.toNatClampNeg⟩]) cells slots ∧ T'.heap = h' ∧ Wr h h' a j.toNatClampNeg (.int (nar .byte x)) ∧ Arv Z h' a k .byte n (vs.set i (.int (nar .byte x))) d ∧ ∀ t, Steps p.tables e below (T'.setTop (mkF m (pc + 1) Ls rest)) t → Steps p.tables e below (T.setTop (mkF m pc Ls ((.int x) :: .int j :: .ref a :: rest))) t := by
  obtain ⟨cl, A, q, S, N, H, G⟩ := V
  have hin := inb_of S hj
  obtain ⟨T', h', X', e', W, st'⟩ := stB X hx hZ eT A (j := j) (x := x) hin (g := mkF m pc Ls ((.int x) :: .int j :: .ref a :: rest)) rfl rfl hd
  exact ⟨T', h', X', e', W, Arv.set A q S N H G (fits_nar_byte x) W i hi hl, st'⟩
theorem own_aastore (X : Stand p l e R s m args below meth c T locs cells slots) (hx : p.tables.exec = Jvm.exec) (hZ : Z.Warmed39 s.vm) (eT : T.heap = h) {a : Addr} {k : ClassId} {n : Int32} {vs : List Value} {d : Value} {ty : FieldType} (V : Arv Z h a k ty n vs d) (ht : ty.isReference = true) {j : Int32} {v : Value} (hj : ¬ j < 0 ∧ j < n) (hf : fits ty v = true) (F : ∀ cl : Cell, Arr Z h a cl ty → cl.cls = k → Sto Z h a v) (i : Nat) (hi : j.toNatClampNeg = i) (hl : i < vs.length) (hd : decode c.code pc = .ok (.aastore, 1)) :
    ∃ T' h', Stand p l e R s m args below meth c T' (locs ++ [⟨a, j.toNatClampNeg⟩]) cells slots ∧ T'.heap = h' ∧ Wr h h' a j.toNatClampNeg v ∧ Arv Z h' a k ty n (vs.set i v) d ∧ ∀ t, Steps p.tables e below (T'.setTop (mkF m (pc + 1) Ls rest)) t → Steps p.tables e below (T.setTop (mkF m pc Ls (v :: .int j :: .ref a :: rest))) t := by
  obtain ⟨cl, A, q, S, N, H, G⟩ := V
  have hin := inb_of S hj
  obtain ⟨T', h', X', e', W, st'⟩ := stR X hx hZ eT A (j := j) (v := v) hin ht (F cl A q) (g := mkF m pc Ls (v :: .int j :: .ref a :: rest)) rfl rfl hd
  exact ⟨T', h', X', e', W, Arv.set A q S N H G hf W i hi hl, st'⟩
theorem own_newarr (X : Stand p l e R s m args below meth c T locs cells slots) (hx : p.tables.exec = Jvm.exec) (hZ : Z.Warmed39 s.vm) {aty : ArrayType} (w : (Cond.arrayClass (newarray.typeOf aty)).before a0 Z = true) (eT : T.heap = h) (hd : decode c.code pc = .ok (.newarray aty, 2)) {n : Int32} (hn : ¬ n < 0) {cap : Nat} (hcap : n.toNatClampNeg ≤ cap) (hb : cap * 8 ≤ 536870912) (hc : cells + 1 ≤ R.cells) (hl : slots + cap ≤ R.slots) {ad : String} (had : "[" ++ (newarray.typeOf aty).toString = ad) :
    ∃ T' h' cA, Stand p l e R s m args below meth c T' locs (cells + 1) (slots + cap) ∧ T'.heap = h' ∧ Ext h h' ∧ Arv Z h' h.size cA (newarray.typeOf aty) n (List.replicate cap (defaultValue (newarray.typeOf aty))) (defaultValue (newarray.typeOf aty)) ∧ Exa Z h' h.size ad ∧
      ∀ t, Steps p.tables e below (T'.setTop (mkF m (pc + 2) Ls (.ref h.size :: rest))) t → Steps p.tables e below (T.setTop (mkF m pc Ls (.int n :: rest))) t := by
  obtain ⟨T', h', cA, X', e', E', A', C', st'⟩ := newPE X hx hZ w eT (g := mkF m pc Ls (.int n :: rest)) rfl hd rfl hn hcap hb hc hl had
  exact ⟨T', h', cA, X', e', E', (Arv.new A' hn).pad (fun i => by have q := pad_rep [] (defaultValue (newarray.typeOf aty)) cap i; simpa using q), C', st'⟩
theorem own_newref (X : Stand p l e R s m args below meth c T locs cells slots) (hx : p.tables.exec = Jvm.exec) (hZ : Z.Warmed39 s.vm) {own C : String} {index : Nat} (hown : s.vm.findClass own = some m.cls) (w1 : (Cond.classLink own index C).before a0 Z = true) (w2 : (Cond.arrayOver (.object C)).before a0 Z = true) (eT : T.heap = h) (hd : decode c.code pc = .ok (.anewarray index, 3)) {n : Int32} (hn : ¬ n < 0) {cap : Nat} (hcap : n.toNatClampNeg ≤ cap) (hb : cap * 8 ≤ 536870912) (hc : cells + 1 ≤ R.cells) (hl : slots + cap ≤ R.slots) {ad : String} (had : "[" ++ (FieldType.object C).toString = ad) :
    ∃ T' h' cA, Stand p l e R s m args below meth c T' locs (cells + 1) (slots + cap) ∧ T'.heap = h' ∧ Ext h h' ∧ Arv Z h' h.size cA (.object C) n (List.replicate cap .null) .null ∧ Exa Z h' h.size ad ∧ Ovr Z cA C ∧
      ∀ t, Steps p.tables e below (T'.setTop (mkF m (pc + 3) Ls (.ref h.size :: rest))) t → Steps p.tables e below (T.setTop (mkF m pc Ls (.int n :: rest))) t := by
  obtain ⟨T', h', cA, X', e', E', A', C', O', st'⟩ := newRE X hx hZ hown w1 w2 eT (g := mkF m pc Ls (.int n :: rest)) rfl hd rfl hn hcap hb hc hl had
  exact ⟨T', h', cA, X', e', E', (Arv.new A' hn).pad (fun i => by have q := pad_rep [] (.null) cap i; simpa [defaultValue] using q), C', O', st'⟩
theorem own_newarr2 (X : Stand p l e R s m args below meth c T locs cells slots) (hx : p.tables.exec = Jvm.exec) (hZ : Z.Warmed39 s.vm) {own C : String} {ty : FieldType} {index : Nat} (hown : s.vm.findClass own = some m.cls) (hC : (FieldType.array ty).toString = C) (w1 : (Cond.classLink own index C).before a0 Z = true) (w2 : (Cond.arrayOver (.array ty)).before a0 Z = true) (eT : T.heap = h) (hd : decode c.code pc = .ok (.anewarray index, 3)) {n : Int32} (hn : ¬ n < 0) {cap : Nat} (hcap : n.toNatClampNeg ≤ cap) (hb : cap * 8 ≤ 536870912) (hc : cells + 1 ≤ R.cells) (hl : slots + cap ≤ R.slots) {ad : String} (had : "[" ++ C = ad) :
    ∃ T' h' cA, Stand p l e R s m args below meth c T' locs (cells + 1) (slots + cap) ∧ T'.heap = h' ∧ Ext h h' ∧ Arv Z h' h.size cA (.array ty) n (List.replicate cap .null) .null ∧ Exa Z h' h.size ad ∧ OvrA Z cA ty C ∧
      ∀ t, Steps p.tables e below (T'.setTop (mkF m (pc + 3) Ls (.ref h.size :: rest))) t → Steps p.tables e below (T.setTop (mkF m pc Ls (.int n :: rest))) t := by
  obtain ⟨T', h', cA, X', e', E', A', C', O', st'⟩ := newRA X hx hZ hown hC w1 w2 eT (g := mkF m pc Ls (.int n :: rest)) rfl hd rfl hn hcap hb hc hl had
  exact ⟨T', h', cA, X', e', E', (Arv.new A' hn).pad (fun i => by have q := pad_rep [] (.null) cap i; simpa [defaultValue] using q), C', O', st'⟩
theorem own_callP (X : Stand p l e R s m args below meth c T locs cells slots) (hx : p.tables.exec = Jvm.exec) (hZ : Z.Warmed39 s.vm) {own : String} {index kk : Nat} {y : MethodName} {bytes : ByteArray} {maxL : Nat} {ret : Option FieldType} (hown : s.vm.findClass own = some m.cls)
    (w1 : (Cond.methodLink own index y).before a0 Z = true) (w2 : (Cond.instanceMethod y).before a0 Z = true) (w3 : (Cond.privateMethod y).before a0 Z = true) (w4 : (Cond.code y bytes maxL ret).before a0 Z = true) (w5 : (Cond.initialized y.cls).before a0 Z = true) (w6 : (Cond.instantiable y.cls kk).before a0 Z = true) (hy : y.cls ≠ "java/lang/invoke/MethodHandle" ∧ y.cls ≠ "java/lang/invoke/VarHandle")
    {rm : Room} {al : List Value} {b : Addr} {C : String} (E : Exa Z h b C) (hM : own_Met l Z y bytes maxL ret rm (.ref b :: al).toArray h Q) (W : Nat) (hf : rm.frames + 1 ≤ R.frames) (hl : W + (maxL + 11) + rm.locals ≤ R.locals) (eT : T.heap = h) (hc : cells + rm.cells ≤ R.cells) (hn : slots + rm.slots ≤ R.slots)
    (hsz : Ls.size = c.maxLocals) (hlen : ∀ sig, parseMethodDescriptor y.desc = some sig → al.length = sig.parameters.length) (hst : st = al.reverse ++ .ref b :: rest) (hW : 2 * 0 + (rest.map fun v => v.category).sum ≤ W) (hd : decode c.code pc = .ok (.invokevirtual index, 3))
    (k : ∀ (v : Option Value) (T' : State) (L : List Loc), Stand p l e R s m args below meth c T' (locs ++ L) (cells + rm.cells) (slots + rm.slots) → Q v T'.heap L → own_Go p e below Φ T' (mkF m (pc + 3) Ls (v.toList ++ rest))) : own_Go p e below Φ T (mkF m pc Ls st) := by
  obtain ⟨cB, q1, q2⟩ := E.cell
  have hp : s.PrivateAt y := Cond.privateMethod_at (mvP hZ w3 (args := #[]))
  obtain ⟨cc, ki, z1, z2, -, z4, -⟩ := Cond.instantiable_spec (mvT (s := s) (args := args) hZ w6)
  have hsel : (Cond.selects y.cls y y).before args s = true := selects_self_of_private z1 z2 (by simp only [Bool.or_eq_false_iff] at z4; exact z4.1) hp (mvT hZ w2) hy
  obtain ⟨v, vm₁, ⟨T', L', k', n'⟩, -, X', ⟨L, hQ, l1, l2, l3⟩, st'⟩ := X.privateBack hx (y := y) hown (mvT hZ w1) (mvT hZ w2) hsel hp (mvT hZ w4) hy (own_back (W := W) hM hZ w4 w5 hf hl) (g := mkF m pc Ls st) rfl hsz (Steps.refl _) (a := b) (cell := cB) (by rw [eT]; exact q1) q2 (argsL := al) (rest := rest) hlen hst hW hd (fun _ _ => ⟨rfl, eT, hc, hn⟩)
  dsimp only [Pt.U, Pt.locs, Pt.cells, Pt.slots] at X' l1 l2 l3 st' hQ
  subst l1 l2 l3
  exact own_s st' (k v T' L X' hQ)
theorem own_eqI {args : Array Value} {t : Term} {n : Int32} (hq : (Cond.eq t (.int n)).value args Z none Z [] = some true) : t.eval args Z none [] Z = some (.int n) := eqv_i (Term.int_eval n) hq
theorem own_fldI {args : Array Value} {t : Term} {n : Int32} {a : Addr} {C f d : String} (ev : t.eval args Z none [] Z = some (.ref a)) (hq : (Cond.eq (.field t C f d) (.int n)).value args Z none Z [] = some true) : Fld Z Z.heap a C f d (.int n) := by
  have q := own_eqI hq
  rw [fld_at ev] at q
  exact Fld.start q
theorem own_nar_short (x : Int32) : nar .short x.toInt16.toInt32 = x.toInt16.toInt32 := by simp [nar]
theorem own_nar_byte (x : Int32) : nar .byte x.toInt8.toInt32 = x.toInt8.toInt32 := by simp [nar]
theorem own_nar_char (x : Int32) : nar .char x.toUInt32.toUInt16.toUInt32.toInt32 = x.toUInt32.toUInt16.toUInt32.toInt32 := by
  have e1 := c_i2c x
  have e2 := c_i2c (x.toUInt32.toUInt16.toUInt32.toInt32)
  exact Int32.toInt_inj.mp (by show (x.toUInt32.toUInt16.toUInt32.toInt32.toUInt32.toUInt16.toUInt32.toInt32).toInt = _; omega)
end Own
end Jvm.RoadKit
namespace Jvm.Pilot.@@N@@
open Jvm Jvm.ClassFile Sem Op Lib Jvm.Free Jvm.Stand Jvm.LawKit Jvm.RoadKit Bundle Jvm.Pilot.@@N@@.Jvm.D
def own_W (Z : State) (a0 : Array Value) (c_STRING : Addr) (c_LONG : Addr) (c_DOUBLE : Addr) (c_STRING_BUCKET : Addr) (c_DOUBLE_BUCKET : Addr) (c_LONG_BUCKET : Addr) : Prop := (∀ d ∈ tables_1, d.before a0 Z = true) ∧ (Sta Z Z.heap "com/example/tidefall/tidefall/query/GroupExpression$Type" "STRING" "Lcom/example/tidefall/tidefall/query/GroupExpression$Type;" (.ref c_STRING)) ∧ (Exa Z Z.heap c_STRING "com/example/tidefall/tidefall/query/GroupExpression$Type") ∧ (Sta Z Z.heap "com/example/tidefall/tidefall/query/GroupExpression$Type" "LONG" "Lcom/example/tidefall/tidefall/query/GroupExpression$Type;" (.ref c_LONG)) ∧ (Exa Z Z.heap c_LONG "com/example/tidefall/tidefall/query/GroupExpression$Type") ∧ (Sta Z Z.heap "com/example/tidefall/tidefall/query/GroupExpression$Type" "DOUBLE" "Lcom/example/tidefall/tidefall/query/GroupExpression$Type;" (.ref c_DOUBLE)) ∧ (Exa Z Z.heap c_DOUBLE "com/example/tidefall/tidefall/query/GroupExpression$Type") ∧ (Sta Z Z.heap "com/example/tidefall/tidefall/query/GroupExpression$Type" "STRING_BUCKET" "Lcom/example/tidefall/tidefall/query/GroupExpression$Type;" (.ref c_STRING_BUCKET)) ∧ (Exa Z Z.heap c_STRING_BUCKET "com/example/tidefall/tidefall/query/GroupExpression$Type") ∧ (Sta Z Z.heap "com/example/tidefall/tidefall/query/GroupExpression$Type" "DOUBLE_BUCKET" "Lcom/example/tidefall/tidefall/query/GroupExpression$Type;" (.ref c_DOUBLE_BUCKET)) ∧ (Exa Z Z.heap c_DOUBLE_BUCKET "com/example/tidefall/tidefall/query/GroupExpression$Type") ∧ (Sta Z Z.heap "com/example/tidefall/tidefall/query/GroupExpression$Type" "LONG_BUCKET" "Lcom/example/tidefall/tidefall/query/GroupExpression$Type;" (.ref c_LONG_BUCKET)) ∧ (Exa Z Z.heap c_LONG_BUCKET "com/example/tidefall/tidefall/query/GroupExpression$Type") ∧ (Fld Z Z.heap c_STRING "java/lang/Enum" "ordinal" "I" (.int (0 : Int32))) ∧ (Fld Z Z.heap c_LONG "java/lang/Enum" "ordinal" "I" (.int (1 : Int32))) ∧ (Fld Z Z.heap c_DOUBLE "java/lang/Enum" "ordinal" "I" (.int (2 : Int32))) ∧ (Fld Z Z.heap c_STRING_BUCKET "java/lang/Enum" "ordinal" "I" (.int (3 : Int32))) ∧ (Fld Z Z.heap c_DOUBLE_BUCKET "java/lang/Enum" "ordinal" "I" (.int (5 : Int32))) ∧ (Fld Z Z.heap c_LONG_BUCKET "java/lang/Enum" "ordinal" "I" (.int (4 : Int32)))
theorem own_mod6 (x : Int32) : ((x &&& (2147483647 : Int32)) % (6 : Int32)) = (0 : Int32) ∨ ((x &&& (2147483647 : Int32)) % (6 : Int32)) = (1 : Int32) ∨ ((x &&& (2147483647 : Int32)) % (6 : Int32)) = (2 : Int32) ∨ ((x &&& (2147483647 : Int32)) % (6 : Int32)) = (3 : Int32) ∨ ((x &&& (2147483647 : Int32)) % (6 : Int32)) = (4 : Int32) ∨ ((x &&& (2147483647 : Int32)) % (6 : Int32)) = (5 : Int32) := by
  have e1 : (x &&& 2147483647).toInt = x.toInt % (2 ^ 31 : Nat) := c_mask x 2147483647 31 (by decide) (by decide)
  have e2 := (c_irem (x &&& 2147483647) (6 : Int32) 6 (by decide)).1 (by omega)
  have e3 : ((x &&& 2147483647) % (6 : Int32)).toInt = 0 ∨ ((x &&& 2147483647) % (6 : Int32)).toInt = 1 ∨ ((x &&& 2147483647) % (6 : Int32)).toInt = 2 ∨ ((x &&& 2147483647) % (6 : Int32)).toInt = 3 ∨ ((x &&& 2147483647) % (6 : Int32)).toInt = 4 ∨ ((x &&& 2147483647) % (6 : Int32)).toInt = 5 := by omega
  rcases e3 with e3 | e3 | e3 | e3 | e3 | e3
  · exact Or.inl <| (Int32.toInt_inj.mp (by rw [e3]; decide))
  · exact Or.inr <| Or.inl <| (Int32.toInt_inj.mp (by rw [e3]; decide))
  · exact Or.inr <| Or.inr <| Or.inl <| (Int32.toInt_inj.mp (by rw [e3]; decide))
  · exact Or.inr <| Or.inr <| Or.inr <| Or.inl <| (Int32.toInt_inj.mp (by rw [e3]; decide))
  · exact Or.inr <| Or.inr <| Or.inr <| Or.inr <| Or.inl <| (Int32.toInt_inj.mp (by rw [e3]; decide))
  · exact Or.inr <| Or.inr <| Or.inr <| Or.inr <| Or.inr <| (Int32.toInt_inj.mp (by rw [e3]; decide))
theorem ef_0_I (m : MethodId) (x0 : Int32)  : entryFrame m #[(.int x0)] maxLocals = mkF m 0 #[.val (.int x0), .unset, .unset, .unset] [] := by first | (simp [entryFrame, mkF, argsToLocals, Value.category, maxLocals]; done) | rfl
theorem pn_com_example_tidefall_tidefall_query_TypeIsNumericPinLaw : plainName "com/example/tidefall/tidefall/query/TypeIsNumericPinLaw" = true := by first | (simp [plainName, overriddenIn]; done) | decide +kernel
theorem pd__28I_29Lcom_2fexample_2ftidefall_2ftidefall_2fquery_2fGroupExpression_24Type_3b : parseMethodDescriptor "(I)Lcom/example/tidefall/tidefall/query/GroupExpression$Type;" = some ⟨[.int], some (.object "com/example/tidefall/tidefall/query/GroupExpression$Type")⟩ := by decide +kernel
theorem ef_1_I (m : MethodId) (x0 : Int32)  : entryFrame m #[(.int x0)] 1 = mkF m 0 #[.val (.int x0)] [] := by first | (simp [entryFrame, mkF, argsToLocals, Value.category]; done) | rfl
theorem d1_0 : decode method_2_code 0 = .ok (.iload_n 0, 1) := by decide +kernel
theorem d1_1 : decode method_2_code 1 = .ok (.ifCond .ne 7, 3) := by decide +kernel
theorem d1_4 : decode method_2_code 4 = .ok (.getstatic 7, 3) := by decide +kernel
theorem d1_7 : decode method_2_code 7 = .ok (.areturn, 1) := by decide +kernel
set_option maxRecDepth 65536 in
set_option maxHeartbeats 40000000 in
theorem rm_pick_0 (l : Launch) (Z : State) (a0 : Array Value) (c_STRING : Addr) (c_LONG : Addr) (c_DOUBLE : Addr) (c_STRING_BUCKET : Addr) (c_DOUBLE_BUCKET : Addr) (c_LONG_BUCKET : Addr) (hW : own_W Z a0 c_STRING c_LONG c_DOUBLE c_STRING_BUCKET c_DOUBLE_BUCKET c_LONG_BUCKET)  (h0 : Heap) (O0 : Ext Z.heap h0)  :
    own_Met l Z (⟨"com/example/tidefall/tidefall/query/TypeIsNumericPinLaw", "pick", "(I)Lcom/example/tidefall/tidefall/query/GroupExpression$Type;"⟩ : MethodName) method_2_code 1 (some (.object "com/example/tidefall/tidefall/query/GroupExpression$Type")) ({ frames := 0, cells := 0, slots := 0, locals := 0 } : Room) #[(.int (0 : Int32))] h0 (fun v h L => v = some (.ref c_STRING) ∧ Fr Z.heap.size L ∧ h = h0) := by
  have hW_ := hW
  obtain ⟨hw, S_c_STRING, E_c_STRING, S_c_LONG, E_c_LONG, S_c_DOUBLE, E_c_DOUBLE, S_c_STRING_BUCKET, E_c_STRING_BUCKET, S_c_DOUBLE_BUCKET, E_c_DOUBLE_BUCKET, S_c_LONG_BUCKET, E_c_LONG_BUCKET, F_c_STRING_ordinal, F_c_LONG_ordinal, F_c_DOUBLE_ordinal, F_c_STRING_BUCKET_ordinal, F_c_DOUBLE_BUCKET_ordinal, F_c_LONG_BUCKET_ordinal⟩ := hW_
  refine own_met (plainFor_of_name pn_com_example_tidefall_tidefall_query_TypeIsNumericPinLaw) ?_
  intro p e s m below meth c s₁ Φ hF X0 hx hby hml hZ hown hnm hret hlk e0
  have N0 := Fr.nil Z.heap.size
  refine own_k (T' := s₁) (g' := (mkF m 0 #[.val (.int (0 : Int32))] [])) (fun _ k => castTop (ef_1_I m (0 : Int32)) k) ?_
  refine own_k (T' := s₁) (g' := (mkF m 1 #[.val (.int (0 : Int32))] [(.int (0 : Int32))])) (fun _ k => XS.iloadN X0.here hx rfl (hb hby d1_0) rfl  k) ?_
  refine own_k (T' := s₁) (g' := (mkF m 4 #[.val (.int (0 : Int32))] [])) (fun _ k => XS.ifNo X0.here hx rfl (hb hby d1_1) rfl ((if0 _ _).trans (teq (by decide : ((0 : Int32) = (0 : Int32)))).2) k) ?_
  obtain ⟨T1, X1, e1, st1⟩ := getS2 X0 hx hZ hown (host := "") (Or.inl (hw _ (List.mem_of_getElem? (i := 5) rfl))) Via.refl e0 (S_c_STRING.ext O0) (g := (mkF m 4 #[.val (.int (0 : Int32))] [])) rfl (hb hby d1_4)
  refine own_k (T' := T1) (g' := (mkF m 7 #[.val (.int (0 : Int32))] [(.ref c_STRING)])) st1 ?_
  exact own_retA X1 hx hret rfl rfl hlk (hb hby d1_7) hF (by rw [e1]; exact ⟨rfl, N0, rfl⟩) (by decide) (by decide)
theorem pd__28_29Z : parseMethodDescriptor "()Z" = some ⟨[], some .boolean⟩ := by decide +kernel
theorem ef_2_R (m : MethodId) (x0 : Addr)  : entryFrame m #[(.ref x0)] 1 = mkF m 0 #[.val (.ref x0)] [] := by first | (simp [entryFrame, mkF, argsToLocals, Value.category]; done) | rfl
theorem pn_com_example_tidefall_tidefall_query_GroupExpression_Type : plainName "com/example/tidefall/tidefall/query/GroupExpression$Type" = true := by first | (simp [plainName, overriddenIn]; done) | decide +kernel
theorem d2_0 : decode prog_32_method_4_code 0 = .ok (.aload_n 0, 1) := by decide +kernel
theorem d2_1 : decode prog_32_method_4_code 1 = .ok (.getstatic 7, 3) := by decide +kernel
theorem d2_4 : decode prog_32_method_4_code 4 = .ok (.if_acmp .eq 10, 3) := by decide +kernel
theorem d2_7 : decode prog_32_method_4_code 7 = .ok (.aload_n 0, 1) := by decide +kernel
theorem d2_8 : decode prog_32_method_4_code 8 = .ok (.getstatic 10, 3) := by decide +kernel
theorem d2_11 : decode prog_32_method_4_code 11 = .ok (.if_acmp .ne 7, 3) := by decide +kernel
theorem d2_18 : decode prog_32_method_4_code 18 = .ok (.iconst 0, 1) := by decide +kernel
theorem d2_19 : decode prog_32_method_4_code 19 = .ok (.ireturn, 1) := by decide +kernel
set_option maxRecDepth 65536 in
set_option maxHeartbeats 40000000 in
theorem rm_isNumeric_1 (l : Launch) (Z : State) (a0 : Array Value) (c_STRING : Addr) (c_LONG : Addr) (c_DOUBLE : Addr) (c_STRING_BUCKET : Addr) (c_DOUBLE_BUCKET : Addr) (c_LONG_BUCKET : Addr) (hW : own_W Z a0 c_STRING c_LONG c_DOUBLE c_STRING_BUCKET c_DOUBLE_BUCKET c_LONG_BUCKET)  (h0 : Heap) (O0 : Ext Z.heap h0)  :
    own_Met l Z (⟨"com/example/tidefall/tidefall/query/GroupExpression$Type", "isNumeric", "()Z"⟩ : MethodName) prog_32_method_4_code 1 (some .boolean) ({ frames := 0, cells := 0, slots := 0, locals := 0 } : Room) #[(.ref c_STRING)] h0 (fun v h L => v = some (.int (0 : Int32)) ∧ Fr Z.heap.size L ∧ h = h0) := by
  have hW_ := hW
  obtain ⟨hw, S_c_STRING, E_c_STRING, S_c_LONG, E_c_LONG, S_c_DOUBLE, E_c_DOUBLE, S_c_STRING_BUCKET, E_c_STRING_BUCKET, S_c_DOUBLE_BUCKET, E_c_DOUBLE_BUCKET, S_c_LONG_BUCKET, E_c_LONG_BUCKET, F_c_STRING_ordinal, F_c_LONG_ordinal, F_c_DOUBLE_ordinal, F_c_STRING_BUCKET_ordinal, F_c_DOUBLE_BUCKET_ordinal, F_c_LONG_BUCKET_ordinal⟩ := hW_
  refine own_met (plainFor_of_name pn_com_example_tidefall_tidefall_query_GroupExpression_Type) ?_
  intro p e s m below meth c s₁ Φ hF X0 hx hby hml hZ hown hnm hret hlk e0
  have N0 := Fr.nil Z.heap.size
  refine own_k (T' := s₁) (g' := (mkF m 0 #[.val (.ref c_STRING)] [])) (fun _ k => castTop (ef_2_R m c_STRING) k) ?_
  refine own_k (T' := s₁) (g' := (mkF m 1 #[.val (.ref c_STRING)] [(.ref c_STRING)])) (fun _ k => XS.aloadN X0.here hx rfl (hb hby d2_0) rfl rfl  k) ?_
  obtain ⟨T1, X1, e1, st1⟩ := getS2 X0 hx hZ hown (host := "") (Or.inl (hw _ (List.mem_of_getElem? (i := 13) rfl))) Via.refl e0 (S_c_LONG.ext O0) (g := (mkF m 1 #[.val (.ref c_STRING)] [(.ref c_STRING)])) rfl (hb hby d2_1)
  refine own_k (T' := T1) (g' := (mkF m 4 #[.val (.ref c_STRING)] [(.ref c_LONG), (.ref c_STRING)])) st1 ?_
  refine own_k (T' := T1) (g' := (mkF m 7 #[.val (.ref c_STRING)] [])) (fun _ k => Jvm.RoadKit.acmp (g := (mkF m 4 #[.val (.ref c_STRING)] [(.ref c_LONG), (.ref c_STRING)])) X1 hx rfl rfl rfl (pc0 := 4) (pc' := 7) (same := false) rfl (hb hby d2_4) rfl (decide_eq_false fun q => (Fld.ne F_c_STRING_ordinal F_c_LONG_ordinal (by decide)) (Value.ref.inj q)) (by decide) (by decide) k) ?_
  refine own_k (T' := T1) (g' := (mkF m 8 #[.val (.ref c_STRING)] [(.ref c_STRING)])) (fun _ k => XS.aloadN X1.here hx rfl (hb hby d2_7) rfl rfl  k) ?_
  obtain ⟨T2, X2, e2, st2⟩ := getS2 X1 hx hZ hown (host := "") (Or.inl (hw _ (List.mem_of_getElem? (i := 15) rfl))) Via.refl e1 (S_c_DOUBLE.ext O0) (g := (mkF m 8 #[.val (.ref c_STRING)] [(.ref c_STRING)])) rfl (hb hby d2_8)
  refine own_k (T' := T2) (g' := (mkF m 11 #[.val (.ref c_STRING)] [(.ref c_DOUBLE), (.ref c_STRING)])) st2 ?_
  refine own_k (T' := T2) (g' := (mkF m 18 #[.val (.ref c_STRING)] [])) (fun _ k => Jvm.RoadKit.acmp (g := (mkF m 11 #[.val (.ref c_STRING)] [(.ref c_DOUBLE), (.ref c_STRING)])) X2 hx rfl rfl rfl (pc0 := 11) (pc' := 18) (same := false) rfl (hb hby d2_11) rfl (decide_eq_false fun q => (Fld.ne F_c_STRING_ordinal F_c_DOUBLE_ordinal (by decide)) (Value.ref.inj q)) (by decide) (by decide) k) ?_
  refine own_k (T' := T2) (g' := (mkF m 19 #[.val (.ref c_STRING)] [(.int (0 : Int32))])) (fun _ k => XS.iconst X2.here hx rfl (hb hby d2_18) k) ?_
  exact own_retN X2 hx (t := .boolean) hret (by simp) hlk (hb hby d2_19) hF (by rw [e2]; exact ⟨rfl, N0, rfl⟩) (by decide) (by decide)
theorem d1_8 : decode method_2_code 8 = .ok (.iload_n 0, 1) := by decide +kernel
theorem d1_9 : decode method_2_code 9 = .ok (.iconst 1, 1) := by decide +kernel
theorem d1_10 : decode method_2_code 10 = .ok (.if_icmp .ne 7, 3) := by decide +kernel
theorem d1_13 : decode method_2_code 13 = .ok (.getstatic 13, 3) := by decide +kernel
theorem d1_16 : decode method_2_code 16 = .ok (.areturn, 1) := by decide +kernel
set_option maxRecDepth 65536 in
set_option maxHeartbeats 40000000 in
theorem rm_pick_2 (l : Launch) (Z : State) (a0 : Array Value) (c_STRING : Addr) (c_LONG : Addr) (c_DOUBLE : Addr) (c_STRING_BUCKET : Addr) (c_DOUBLE_BUCKET : Addr) (c_LONG_BUCKET : Addr) (hW : own_W Z a0 c_STRING c_LONG c_DOUBLE c_STRING_BUCKET c_DOUBLE_BUCKET c_LONG_BUCKET)  (h0 : Heap) (O0 : Ext Z.heap h0)  :
    own_Met l Z (⟨"com/example/tidefall/tidefall/query/TypeIsNumericPinLaw", "pick", "(I)Lcom/example/tidefall/tidefall/query/GroupExpression$Type;"⟩ : MethodName) method_2_code 1 (some (.object "com/example/tidefall/tidefall/query/GroupExpression$Type")) ({ frames := 0, cells := 0, slots := 0, locals := 0 } : Room) #[(.int (1 : Int32))] h0 (fun v h L => v = some (.ref c_LONG) ∧ Fr Z.heap.size L ∧ h = h0) := by
  have hW_ := hW
  obtain ⟨hw, S_c_STRING, E_c_STRING, S_c_LONG, E_c_LONG, S_c_DOUBLE, E_c_DOUBLE, S_c_STRING_BUCKET, E_c_STRING_BUCKET, S_c_DOUBLE_BUCKET, E_c_DOUBLE_BUCKET, S_c_LONG_BUCKET, E_c_LONG_BUCKET, F_c_STRING_ordinal, F_c_LONG_ordinal, F_c_DOUBLE_ordinal, F_c_STRING_BUCKET_ordinal, F_c_DOUBLE_BUCKET_ordinal, F_c_LONG_BUCKET_ordinal⟩ := hW_
  refine own_met (plainFor_of_name pn_com_example_tidefall_tidefall_query_TypeIsNumericPinLaw) ?_
  intro p e s m below meth c s₁ Φ hF X0 hx hby hml hZ hown hnm hret hlk e0
  have N0 := Fr.nil Z.heap.size
  refine own_k (T' := s₁) (g' := (mkF m 0 #[.val (.int (1 : Int32))] [])) (fun _ k => castTop (ef_1_I m (1 : Int32)) k) ?_
  refine own_k (T' := s₁) (g' := (mkF m 1 #[.val (.int (1 : Int32))] [(.int (1 : Int32))])) (fun _ k => XS.iloadN X0.here hx rfl (hb hby d1_0) rfl  k) ?_
  refine own_k (T' := s₁) (g' := (mkF m 8 #[.val (.int (1 : Int32))] [])) (fun _ k => XS.ifYes X0.here hx rfl (pc0 := 1) (pc' := 8) rfl (hb hby d1_1) rfl ((if0 _ _).trans (feq (by decide : ¬ ((1 : Int32) = (0 : Int32)))).2) (by decide) (by decide) k) ?_
  refine own_k (T' := s₁) (g' := (mkF m 9 #[.val (.int (1 : Int32))] [(.int (1 : Int32))])) (fun _ k => XS.iloadN X0.here hx rfl (hb hby d1_8) rfl  k) ?_
  refine own_k (T' := s₁) (g' := (mkF m 10 #[.val (.int (1 : Int32))] [(.int (1 : Int32)), (.int (1 : Int32))])) (fun _ k => XS.iconst X0.here hx rfl (hb hby d1_9) k) ?_
  refine own_k (T' := s₁) (g' := (mkF m 13 #[.val (.int (1 : Int32))] [])) (fun _ k => XS.icmpNo X0.here hx rfl (hb hby d1_10) rfl ((teq (by decide : ((1 : Int32) = (1 : Int32)))).2) k) ?_
  obtain ⟨T1, X1, e1, st1⟩ := getS2 X0 hx hZ hown (host := "") (Or.inl (hw _ (List.mem_of_getElem? (i := 20) rfl))) Via.refl e0 (S_c_LONG.ext O0) (g := (mkF m 13 #[.val (.int (1 : Int32))] [])) rfl (hb hby d1_13)
  refine own_k (T' := T1) (g' := (mkF m 16 #[.val (.int (1 : Int32))] [(.ref c_LONG)])) st1 ?_
  exact own_retA X1 hx hret rfl rfl hlk (hb hby d1_16) hF (by rw [e1]; exact ⟨rfl, N0, rfl⟩) (by decide) (by decide)
theorem d2_14 : decode prog_32_method_4_code 14 = .ok (.iconst 1, 1) := by decide +kernel
theorem d2_15 : decode prog_32_method_4_code 15 = .ok (.goto 4, 3) := by decide +kernel
set_option maxRecDepth 65536 in
set_option maxHeartbeats 40000000 in
theorem rm_isNumeric_3 (l : Launch) (Z : State) (a0 : Array Value) (c_STRING : Addr) (c_LONG : Addr) (c_DOUBLE : Addr) (c_STRING_BUCKET : Addr) (c_DOUBLE_BUCKET : Addr) (c_LONG_BUCKET : Addr) (hW : own_W Z a0 c_STRING c_LONG c_DOUBLE c_STRING_BUCKET c_DOUBLE_BUCKET c_LONG_BUCKET)  (h0 : Heap) (O0 : Ext Z.heap h0)  :
    own_Met l Z (⟨"com/example/tidefall/tidefall/query/GroupExpression$Type", "isNumeric", "()Z"⟩ : MethodName) prog_32_method_4_code 1 (some .boolean) ({ frames := 0, cells := 0, slots := 0, locals := 0 } : Room) #[(.ref c_LONG)] h0 (fun v h L => v = some (.int (1 : Int32)) ∧ Fr Z.heap.size L ∧ h = h0) := by
  have hW_ := hW
  obtain ⟨hw, S_c_STRING, E_c_STRING, S_c_LONG, E_c_LONG, S_c_DOUBLE, E_c_DOUBLE, S_c_STRING_BUCKET, E_c_STRING_BUCKET, S_c_DOUBLE_BUCKET, E_c_DOUBLE_BUCKET, S_c_LONG_BUCKET, E_c_LONG_BUCKET, F_c_STRING_ordinal, F_c_LONG_ordinal, F_c_DOUBLE_ordinal, F_c_STRING_BUCKET_ordinal, F_c_DOUBLE_BUCKET_ordinal, F_c_LONG_BUCKET_ordinal⟩ := hW_
  refine own_met (plainFor_of_name pn_com_example_tidefall_tidefall_query_GroupExpression_Type) ?_
  intro p e s m below meth c s₁ Φ hF X0 hx hby hml hZ hown hnm hret hlk e0
  have N0 := Fr.nil Z.heap.size
  refine own_k (T' := s₁) (g' := (mkF m 0 #[.val (.ref c_LONG)] [])) (fun _ k => castTop (ef_2_R m c_LONG) k) ?_
  refine own_k (T' := s₁) (g' := (mkF m 1 #[.val (.ref c_LONG)] [(.ref c_LONG)])) (fun _ k => XS.aloadN X0.here hx rfl (hb hby d2_0) rfl rfl  k) ?_
  obtain ⟨T1, X1, e1, st1⟩ := getS2 X0 hx hZ hown (host := "") (Or.inl (hw _ (List.mem_of_getElem? (i := 13) rfl))) Via.refl e0 (S_c_LONG.ext O0) (g := (mkF m 1 #[.val (.ref c_LONG)] [(.ref c_LONG)])) rfl (hb hby d2_1)
  refine own_k (T' := T1) (g' := (mkF m 4 #[.val (.ref c_LONG)] [(.ref c_LONG), (.ref c_LONG)])) st1 ?_
  refine own_k (T' := T1) (g' := (mkF m 14 #[.val (.ref c_LONG)] [])) (fun _ k => Jvm.RoadKit.acmp (g := (mkF m 4 #[.val (.ref c_LONG)] [(.ref c_LONG), (.ref c_LONG)])) X1 hx rfl rfl rfl (pc0 := 4) (pc' := 14) (same := true) rfl (hb hby d2_4) rfl (decide_eq_true rfl) (by decide) (by decide) k) ?_
  refine own_k (T' := T1) (g' := (mkF m 15 #[.val (.ref c_LONG)] [(.int (1 : Int32))])) (fun _ k => XS.iconst X1.here hx rfl (hb hby d2_14) k) ?_
  refine own_k (T' := T1) (g' := (mkF m 19 #[.val (.ref c_LONG)] [(.int (1 : Int32))])) (fun _ k => XS.goto X1.here hx rfl (pc0 := 15) (pc' := 19) rfl (hb hby d2_15) (by decide) (by decide) k) ?_
  exact own_retN X1 hx (t := .boolean) hret (by simp) hlk (hb hby d2_19) hF (by rw [e1]; exact ⟨rfl, N0, rfl⟩) (by decide) (by decide)
theorem d1_17 : decode method_2_code 17 = .ok (.iload_n 0, 1) := by decide +kernel
theorem d1_18 : decode method_2_code 18 = .ok (.iconst 2, 1) := by decide +kernel
theorem d1_19 : decode method_2_code 19 = .ok (.if_icmp .ne 7, 3) := by decide +kernel
theorem d1_22 : decode method_2_code 22 = .ok (.getstatic 16, 3) := by decide +kernel
theorem d1_25 : decode method_2_code 25 = .ok (.areturn, 1) := by decide +kernel
set_option maxRecDepth 65536 in
set_option maxHeartbeats 40000000 in
theorem rm_pick_4 (l : Launch) (Z : State) (a0 : Array Value) (c_STRING : Addr) (c_LONG : Addr) (c_DOUBLE : Addr) (c_STRING_BUCKET : Addr) (c_DOUBLE_BUCKET : Addr) (c_LONG_BUCKET : Addr) (hW : own_W Z a0 c_STRING c_LONG c_DOUBLE c_STRING_BUCKET c_DOUBLE_BUCKET c_LONG_BUCKET)  (h0 : Heap) (O0 : Ext Z.heap h0)  :
    own_Met l Z (⟨"com/example/tidefall/tidefall/query/TypeIsNumericPinLaw", "pick", "(I)Lcom/example/tidefall/tidefall/query/GroupExpression$Type;"⟩ : MethodName) method_2_code 1 (some (.object "com/example/tidefall/tidefall/query/GroupExpression$Type")) ({ frames := 0, cells := 0, slots := 0, locals := 0 } : Room) #[(.int (2 : Int32))] h0 (fun v h L => v = some (.ref c_DOUBLE) ∧ Fr Z.heap.size L ∧ h = h0) := by
  have hW_ := hW
  obtain ⟨hw, S_c_STRING, E_c_STRING, S_c_LONG, E_c_LONG, S_c_DOUBLE, E_c_DOUBLE, S_c_STRING_BUCKET, E_c_STRING_BUCKET, S_c_DOUBLE_BUCKET, E_c_DOUBLE_BUCKET, S_c_LONG_BUCKET, E_c_LONG_BUCKET, F_c_STRING_ordinal, F_c_LONG_ordinal, F_c_DOUBLE_ordinal, F_c_STRING_BUCKET_ordinal, F_c_DOUBLE_BUCKET_ordinal, F_c_LONG_BUCKET_ordinal⟩ := hW_
  refine own_met (plainFor_of_name pn_com_example_tidefall_tidefall_query_TypeIsNumericPinLaw) ?_
  intro p e s m below meth c s₁ Φ hF X0 hx hby hml hZ hown hnm hret hlk e0
  have N0 := Fr.nil Z.heap.size
  refine own_k (T' := s₁) (g' := (mkF m 0 #[.val (.int (2 : Int32))] [])) (fun _ k => castTop (ef_1_I m (2 : Int32)) k) ?_
  refine own_k (T' := s₁) (g' := (mkF m 1 #[.val (.int (2 : Int32))] [(.int (2 : Int32))])) (fun _ k => XS.iloadN X0.here hx rfl (hb hby d1_0) rfl  k) ?_
  refine own_k (T' := s₁) (g' := (mkF m 8 #[.val (.int (2 : Int32))] [])) (fun _ k => XS.ifYes X0.here hx rfl (pc0 := 1) (pc' := 8) rfl (hb hby d1_1) rfl ((if0 _ _).trans (feq (by decide : ¬ ((2 : Int32) = (0 : Int32)))).2) (by decide) (by decide) k) ?_
  refine own_k (T' := s₁) (g' := (mkF m 9 #[.val (.int (2 : Int32))] [(.int (2 : Int32))])) (fun _ k => XS.iloadN X0.here hx rfl (hb hby d1_8) rfl  k) ?_
  refine own_k (T' := s₁) (g' := (mkF m 10 #[.val (.int (2 : Int32))] [(.int (1 : Int32)), (.int (2 : Int32))])) (fun _ k => XS.iconst X0.here hx rfl (hb hby d1_9) k) ?_
  refine own_k (T' := s₁) (g' := (mkF m 17 #[.val (.int (2 : Int32))] [])) (fun _ k => XS.icmpYes X0.here hx rfl (pc0 := 10) (pc' := 17) rfl (hb hby d1_10) rfl ((feq (by decide : ¬ ((2 : Int32) = (1 : Int32)))).2) (by decide) (by decide) k) ?_
  refine own_k (T' := s₁) (g' := (mkF m 18 #[.val (.int (2 : Int32))] [(.int (2 : Int32))])) (fun _ k => XS.iloadN X0.here hx rfl (hb hby d1_17) rfl  k) ?_
  refine own_k (T' := s₁) (g' := (mkF m 19 #[.val (.int (2 : Int32))] [(.int (2 : Int32)), (.int (2 : Int32))])) (fun _ k => XS.iconst X0.here hx rfl (hb hby d1_18) k) ?_
  refine own_k (T' := s₁) (g' := (mkF m 22 #[.val (.int (2 : Int32))] [])) (fun _ k => XS.icmpNo X0.here hx rfl (hb hby d1_19) rfl ((teq (by decide : ((2 : Int32) = (2 : Int32)))).2) k) ?_
  obtain ⟨T1, X1, e1, st1⟩ := getS2 X0 hx hZ hown (host := "") (Or.inl (hw _ (List.mem_of_getElem? (i := 19) rfl))) Via.refl e0 (S_c_DOUBLE.ext O0) (g := (mkF m 22 #[.val (.int (2 : Int32))] [])) rfl (hb hby d1_22)
  refine own_k (T' := T1) (g' := (mkF m 25 #[.val (.int (2 : Int32))] [(.ref c_DOUBLE)])) st1 ?_
  exact own_retA X1 hx hret rfl rfl hlk (hb hby d1_25) hF (by rw [e1]; exact ⟨rfl, N0, rfl⟩) (by decide) (by decide)
set_option maxRecDepth 65536 in
set_option maxHeartbeats 40000000 in
theorem rm_isNumeric_5 (l : Launch) (Z : State) (a0 : Array Value) (c_STRING : Addr) (c_LONG : Addr) (c_DOUBLE : Addr) (c_STRING_BUCKET : Addr) (c_DOUBLE_BUCKET : Addr) (c_LONG_BUCKET : Addr) (hW : own_W Z a0 c_STRING c_LONG c_DOUBLE c_STRING_BUCKET c_DOUBLE_BUCKET c_LONG_BUCKET)  (h0 : Heap) (O0 : Ext Z.heap h0)  :
    own_Met l Z (⟨"com/example/tidefall/tidefall/query/GroupExpression$Type", "isNumeric", "()Z"⟩ : MethodName) prog_32_method_4_code 1 (some .boolean) ({ frames := 0, cells := 0, slots := 0, locals := 0 } : Room) #[(.ref c_DOUBLE)] h0 (fun v h L => v = some (.int (1 : Int32)) ∧ Fr Z.heap.size L ∧ h = h0) := by
  have hW_ := hW
  obtain ⟨hw, S_c_STRING, E_c_STRING, S_c_LONG, E_c_LONG, S_c_DOUBLE, E_c_DOUBLE, S_c_STRING_BUCKET, E_c_STRING_BUCKET, S_c_DOUBLE_BUCKET, E_c_DOUBLE_BUCKET, S_c_LONG_BUCKET, E_c_LONG_BUCKET, F_c_STRING_ordinal, F_c_LONG_ordinal, F_c_DOUBLE_ordinal, F_c_STRING_BUCKET_ordinal, F_c_DOUBLE_BUCKET_ordinal, F_c_LONG_BUCKET_ordinal⟩ := hW_
  refine own_met (plainFor_of_name pn_com_example_tidefall_tidefall_query_GroupExpression_Type) ?_
  intro p e s m below meth c s₁ Φ hF X0 hx hby hml hZ hown hnm hret hlk e0
  have N0 := Fr.nil Z.heap.size
  refine own_k (T' := s₁) (g' := (mkF m 0 #[.val (.ref c_DOUBLE)] [])) (fun _ k => castTop (ef_2_R m c_DOUBLE) k) ?_
  refine own_k (T' := s₁) (g' := (mkF m 1 #[.val (.ref c_DOUBLE)] [(.ref c_DOUBLE)])) (fun _ k => XS.aloadN X0.here hx rfl (hb hby d2_0) rfl rfl  k) ?_
  obtain ⟨T1, X1, e1, st1⟩ := getS2 X0 hx hZ hown (host := "") (Or.inl (hw _ (List.mem_of_getElem? (i := 13) rfl))) Via.refl e0 (S_c_LONG.ext O0) (g := (mkF m 1 #[.val (.ref c_DOUBLE)] [(.ref c_DOUBLE)])) rfl (hb hby d2_1)
  refine own_k (T' := T1) (g' := (mkF m 4 #[.val (.ref c_DOUBLE)] [(.ref c_LONG), (.ref c_DOUBLE)])) st1 ?_
  refine own_k (T' := T1) (g' := (mkF m 7 #[.val (.ref c_DOUBLE)] [])) (fun _ k => Jvm.RoadKit.acmp (g := (mkF m 4 #[.val (.ref c_DOUBLE)] [(.ref c_LONG), (.ref c_DOUBLE)])) X1 hx rfl rfl rfl (pc0 := 4) (pc' := 7) (same := false) rfl (hb hby d2_4) rfl (decide_eq_false fun q => (Fld.ne F_c_DOUBLE_ordinal F_c_LONG_ordinal (by decide)) (Value.ref.inj q)) (by decide) (by decide) k) ?_
  refine own_k (T' := T1) (g' := (mkF m 8 #[.val (.ref c_DOUBLE)] [(.ref c_DOUBLE)])) (fun _ k => XS.aloadN X1.here hx rfl (hb hby d2_7) rfl rfl  k) ?_
  obtain ⟨T2, X2, e2, st2⟩ := getS2 X1 hx hZ hown (host := "") (Or.inl (hw _ (List.mem_of_getElem? (i := 15) rfl))) Via.refl e1 (S_c_DOUBLE.ext O0) (g := (mkF m 8 #[.val (.ref c_DOUBLE)] [(.ref c_DOUBLE)])) rfl (hb hby d2_8)
  refine own_k (T' := T2) (g' := (mkF m 11 #[.val (.ref c_DOUBLE)] [(.ref c_DOUBLE), (.ref c_DOUBLE)])) st2 ?_
  refine own_k (T' := T2) (g' := (mkF m 14 #[.val (.ref c_DOUBLE)] [])) (fun _ k => Jvm.RoadKit.acmp (g := (mkF m 11 #[.val (.ref c_DOUBLE)] [(.ref c_DOUBLE), (.ref c_DOUBLE)])) X2 hx rfl rfl rfl (pc0 := 11) (pc' := 14) (same := true) rfl (hb hby d2_11) rfl (decide_eq_true rfl) (by decide) (by decide) k) ?_
  refine own_k (T' := T2) (g' := (mkF m 15 #[.val (.ref c_DOUBLE)] [(.int (1 : Int32))])) (fun _ k => XS.iconst X2.here hx rfl (hb hby d2_14) k) ?_
  refine own_k (T' := T2) (g' := (mkF m 19 #[.val (.ref c_DOUBLE)] [(.int (1 : Int32))])) (fun _ k => XS.goto X2.here hx rfl (pc0 := 15) (pc' := 19) rfl (hb hby d2_15) (by decide) (by decide) k) ?_
  exact own_retN X2 hx (t := .boolean) hret (by simp) hlk (hb hby d2_19) hF (by rw [e2]; exact ⟨rfl, N0, rfl⟩) (by decide) (by decide)
theorem d1_26 : decode method_2_code 26 = .ok (.iload_n 0, 1) := by decide +kernel
theorem d1_27 : decode method_2_code 27 = .ok (.iconst 3, 1) := by decide +kernel
theorem d1_28 : decode method_2_code 28 = .ok (.if_icmp .ne 7, 3) := by decide +kernel
theorem d1_31 : decode method_2_code 31 = .ok (.getstatic 19, 3) := by decide +kernel
theorem d1_34 : decode method_2_code 34 = .ok (.areturn, 1) := by decide +kernel
set_option maxRecDepth 65536 in
set_option maxHeartbeats 40000000 in
theorem rm_pick_6 (l : Launch) (Z : State) (a0 : Array Value) (c_STRING : Addr) (c_LONG : Addr) (c_DOUBLE : Addr) (c_STRING_BUCKET : Addr) (c_DOUBLE_BUCKET : Addr) (c_LONG_BUCKET : Addr) (hW : own_W Z a0 c_STRING c_LONG c_DOUBLE c_STRING_BUCKET c_DOUBLE_BUCKET c_LONG_BUCKET)  (h0 : Heap) (O0 : Ext Z.heap h0)  :
    own_Met l Z (⟨"com/example/tidefall/tidefall/query/TypeIsNumericPinLaw", "pick", "(I)Lcom/example/tidefall/tidefall/query/GroupExpression$Type;"⟩ : MethodName) method_2_code 1 (some (.object "com/example/tidefall/tidefall/query/GroupExpression$Type")) ({ frames := 0, cells := 0, slots := 0, locals := 0 } : Room) #[(.int (3 : Int32))] h0 (fun v h L => v = some (.ref c_STRING_BUCKET) ∧ Fr Z.heap.size L ∧ h = h0) := by
  have hW_ := hW
  obtain ⟨hw, S_c_STRING, E_c_STRING, S_c_LONG, E_c_LONG, S_c_DOUBLE, E_c_DOUBLE, S_c_STRING_BUCKET, E_c_STRING_BUCKET, S_c_DOUBLE_BUCKET, E_c_DOUBLE_BUCKET, S_c_LONG_BUCKET, E_c_LONG_BUCKET, F_c_STRING_ordinal, F_c_LONG_ordinal, F_c_DOUBLE_ordinal, F_c_STRING_BUCKET_ordinal, F_c_DOUBLE_BUCKET_ordinal, F_c_LONG_BUCKET_ordinal⟩ := hW_
  refine own_met (plainFor_of_name pn_com_example_tidefall_tidefall_query_TypeIsNumericPinLaw) ?_
  intro p e s m below meth c s₁ Φ hF X0 hx hby hml hZ hown hnm hret hlk e0
  have N0 := Fr.nil Z.heap.size
  refine own_k (T' := s₁) (g' := (mkF m 0 #[.val (.int (3 : Int32))] [])) (fun _ k => castTop (ef_1_I m (3 : Int32)) k) ?_
  refine own_k (T' := s₁) (g' := (mkF m 1 #[.val (.int (3 : Int32))] [(.int (3 : Int32))])) (fun _ k => XS.iloadN X0.here hx rfl (hb hby d1_0) rfl  k) ?_
  refine own_k (T' := s₁) (g' := (mkF m 8 #[.val (.int (3 : Int32))] [])) (fun _ k => XS.ifYes X0.here hx rfl (pc0 := 1) (pc' := 8) rfl (hb hby d1_1) rfl ((if0 _ _).trans (feq (by decide : ¬ ((3 : Int32) = (0 : Int32)))).2) (by decide) (by decide) k) ?_
  refine own_k (T' := s₁) (g' := (mkF m 9 #[.val (.int (3 : Int32))] [(.int (3 : Int32))])) (fun _ k => XS.iloadN X0.here hx rfl (hb hby d1_8) rfl  k) ?_
  refine own_k (T' := s₁) (g' := (mkF m 10 #[.val (.int (3 : Int32))] [(.int (1 : Int32)), (.int (3 : Int32))])) (fun _ k => XS.iconst X0.here hx rfl (hb hby d1_9) k) ?_
  refine own_k (T' := s₁) (g' := (mkF m 17 #[.val (.int (3 : Int32))] [])) (fun _ k => XS.icmpYes X0.here hx rfl (pc0 := 10) (pc' := 17) rfl (hb hby d1_10) rfl ((feq (by decide : ¬ ((3 : Int32) = (1 : Int32)))).2) (by decide) (by decide) k) ?_
  refine own_k (T' := s₁) (g' := (mkF m 18 #[.val (.int (3 : Int32))] [(.int (3 : Int32))])) (fun _ k => XS.iloadN X0.here hx rfl (hb hby d1_17) rfl  k) ?_
  refine own_k (T' := s₁) (g' := (mkF m 19 #[.val (.int (3 : Int32))] [(.int (2 : Int32)), (.int (3 : Int32))])) (fun _ k => XS.iconst X0.here hx rfl (hb hby d1_18) k) ?_
  refine own_k (T' := s₁) (g' := (mkF m 26 #[.val (.int (3 : Int32))] [])) (fun _ k => XS.icmpYes X0.here hx rfl (pc0 := 19) (pc' := 26) rfl (hb hby d1_19) rfl ((feq (by decide : ¬ ((3 : Int32) = (2 : Int32)))).2) (by decide) (by decide) k) ?_
  refine own_k (T' := s₁) (g' := (mkF m 27 #[.val (.int (3 : Int32))] [(.int (3 : Int32))])) (fun _ k => XS.iloadN X0.here hx rfl (hb hby d1_26) rfl  k) ?_
  refine own_k (T' := s₁) (g' := (mkF m 28 #[.val (.int (3 : Int32))] [(.int (3 : Int32)), (.int (3 : Int32))])) (fun _ k => XS.iconst X0.here hx rfl (hb hby d1_27) k) ?_
  refine own_k (T' := s₁) (g' := (mkF m 31 #[.val (.int (3 : Int32))] [])) (fun _ k => XS.icmpNo X0.here hx rfl (hb hby d1_28) rfl ((teq (by decide : ((3 : Int32) = (3 : Int32)))).2) k) ?_
  obtain ⟨T1, X1, e1, st1⟩ := getS2 X0 hx hZ hown (host := "") (Or.inl (hw _ (List.mem_of_getElem? (i := 17) rfl))) Via.refl e0 (S_c_STRING_BUCKET.ext O0) (g := (mkF m 31 #[.val (.int (3 : Int32))] [])) rfl (hb hby d1_31)
  refine own_k (T' := T1) (g' := (mkF m 34 #[.val (.int (3 : Int32))] [(.ref c_STRING_BUCKET)])) st1 ?_
  exact own_retA X1 hx hret rfl rfl hlk (hb hby d1_34) hF (by rw [e1]; exact ⟨rfl, N0, rfl⟩) (by decide) (by decide)
set_option maxRecDepth 65536 in
set_option maxHeartbeats 40000000 in
theorem rm_isNumeric_7 (l : Launch) (Z : State) (a0 : Array Value) (c_STRING : Addr) (c_LONG : Addr) (c_DOUBLE : Addr) (c_STRING_BUCKET : Addr) (c_DOUBLE_BUCKET : Addr) (c_LONG_BUCKET : Addr) (hW : own_W Z a0 c_STRING c_LONG c_DOUBLE c_STRING_BUCKET c_DOUBLE_BUCKET c_LONG_BUCKET)  (h0 : Heap) (O0 : Ext Z.heap h0)  :
    own_Met l Z (⟨"com/example/tidefall/tidefall/query/GroupExpression$Type", "isNumeric", "()Z"⟩ : MethodName) prog_32_method_4_code 1 (some .boolean) ({ frames := 0, cells := 0, slots := 0, locals := 0 } : Room) #[(.ref c_STRING_BUCKET)] h0 (fun v h L => v = some (.int (0 : Int32)) ∧ Fr Z.heap.size L ∧ h = h0) := by
  have hW_ := hW
  obtain ⟨hw, S_c_STRING, E_c_STRING, S_c_LONG, E_c_LONG, S_c_DOUBLE, E_c_DOUBLE, S_c_STRING_BUCKET, E_c_STRING_BUCKET, S_c_DOUBLE_BUCKET, E_c_DOUBLE_BUCKET, S_c_LONG_BUCKET, E_c_LONG_BUCKET, F_c_STRING_ordinal, F_c_LONG_ordinal, F_c_DOUBLE_ordinal, F_c_STRING_BUCKET_ordinal, F_c_DOUBLE_BUCKET_ordinal, F_c_LONG_BUCKET_ordinal⟩ := hW_
  refine own_met (plainFor_of_name pn_com_example_tidefall_tidefall_query_GroupExpression_Type) ?_
  intro p e s m below meth c s₁ Φ hF X0 hx hby hml hZ hown hnm hret hlk e0
  have N0 := Fr.nil Z.heap.size
  refine own_k (T' := s₁) (g' := (mkF m 0 #[.val (.ref c_STRING_BUCKET)] [])) (fun _ k => castTop (ef_2_R m c_STRING_BUCKET) k) ?_
  refine own_k (T' := s₁) (g' := (mkF m 1 #[.val (.ref c_STRING_BUCKET)] [(.ref c_STRING_BUCKET)])) (fun _ k => XS.aloadN X0.here hx rfl (hb hby d2_0) rfl rfl  k) ?_
  obtain ⟨T1, X1, e1, st1⟩ := getS2 X0 hx hZ hown (host := "") (Or.inl (hw _ (List.mem_of_getElem? (i := 13) rfl))) Via.refl e0 (S_c_LONG.ext O0) (g := (mkF m 1 #[.val (.ref c_STRING_BUCKET)] [(.ref c_STRING_BUCKET)])) rfl (hb hby d2_1)
  refine own_k (T' := T1) (g' := (mkF m 4 #[.val (.ref c_STRING_BUCKET)] [(.ref c_LONG), (.ref c_STRING_BUCKET)])) st1 ?_
  refine own_k (T' := T1) (g' := (mkF m 7 #[.val (.ref c_STRING_BUCKET)] [])) (fun _ k => Jvm.RoadKit.acmp (g := (mkF m 4 #[.val (.ref c_STRING_BUCKET)] [(.ref c_LONG), (.ref c_STRING_BUCKET)])) X1 hx rfl rfl rfl (pc0 := 4) (pc' := 7) (same := false) rfl (hb hby d2_4) rfl (decide_eq_false fun q => (Fld.ne F_c_STRING_BUCKET_ordinal F_c_LONG_ordinal (by decide)) (Value.ref.inj q)) (by decide) (by decide) k) ?_
  refine own_k (T' := T1) (g' := (mkF m 8 #[.val (.ref c_STRING_BUCKET)] [(.ref c_STRING_BUCKET)])) (fun _ k => XS.aloadN X1.here hx rfl (hb hby d2_7) rfl rfl  k) ?_
  obtain ⟨T2, X2, e2, st2⟩ := getS2 X1 hx hZ hown (host := "") (Or.inl (hw _ (List.mem_of_getElem? (i := 15) rfl))) Via.refl e1 (S_c_DOUBLE.ext O0) (g := (mkF m 8 #[.val (.ref c_STRING_BUCKET)] [(.ref c_STRING_BUCKET)])) rfl (hb hby d2_8)
  refine own_k (T' := T2) (g' := (mkF m 11 #[.val (.ref c_STRING_BUCKET)] [(.ref c_DOUBLE), (.ref c_STRING_BUCKET)])) st2 ?_
  refine own_k (T' := T2) (g' := (mkF m 18 #[.val (.ref c_STRING_BUCKET)] [])) (fun _ k => Jvm.RoadKit.acmp (g := (mkF m 11 #[.val (.ref c_STRING_BUCKET)] [(.ref c_DOUBLE), (.ref c_STRING_BUCKET)])) X2 hx rfl rfl rfl (pc0 := 11) (pc' := 18) (same := false) rfl (hb hby d2_11) rfl (decide_eq_false fun q => (Fld.ne F_c_STRING_BUCKET_ordinal F_c_DOUBLE_ordinal (by decide)) (Value.ref.inj q)) (by decide) (by decide) k) ?_
  refine own_k (T' := T2) (g' := (mkF m 19 #[.val (.ref c_STRING_BUCKET)] [(.int (0 : Int32))])) (fun _ k => XS.iconst X2.here hx rfl (hb hby d2_18) k) ?_
  exact own_retN X2 hx (t := .boolean) hret (by simp) hlk (hb hby d2_19) hF (by rw [e2]; exact ⟨rfl, N0, rfl⟩) (by decide) (by decide)
theorem d1_35 : decode method_2_code 35 = .ok (.iload_n 0, 1) := by decide +kernel
theorem d1_36 : decode method_2_code 36 = .ok (.iconst 4, 1) := by decide +kernel
theorem d1_37 : decode method_2_code 37 = .ok (.if_icmp .ne 7, 3) := by decide +kernel
theorem d1_40 : decode method_2_code 40 = .ok (.getstatic 22, 3) := by decide +kernel
theorem d1_43 : decode method_2_code 43 = .ok (.areturn, 1) := by decide +kernel
set_option maxRecDepth 65536 in
set_option maxHeartbeats 40000000 in
theorem rm_pick_8 (l : Launch) (Z : State) (a0 : Array Value) (c_STRING : Addr) (c_LONG : Addr) (c_DOUBLE : Addr) (c_STRING_BUCKET : Addr) (c_DOUBLE_BUCKET : Addr) (c_LONG_BUCKET : Addr) (hW : own_W Z a0 c_STRING c_LONG c_DOUBLE c_STRING_BUCKET c_DOUBLE_BUCKET c_LONG_BUCKET)  (h0 : Heap) (O0 : Ext Z.heap h0)  :
    own_Met l Z (⟨"com/example/tidefall/tidefall/query/TypeIsNumericPinLaw", "pick", "(I)Lcom/example/tidefall/tidefall/query/GroupExpression$Type;"⟩ : MethodName) method_2_code 1 (some (.object "com/example/tidefall/tidefall/query/GroupExpression$Type")) ({ frames := 0, cells := 0, slots := 0, locals := 0 } : Room) #[(.int (4 : Int32))] h0 (fun v h L => v = some (.ref c_LONG_BUCKET) ∧ Fr Z.heap.size L ∧ h = h0) := by
  have hW_ := hW
  obtain ⟨hw, S_c_STRING, E_c_STRING, S_c_LONG, E_c_LONG, S_c_DOUBLE, E_c_DOUBLE, S_c_STRING_BUCKET, E_c_STRING_BUCKET, S_c_DOUBLE_BUCKET, E_c_DOUBLE_BUCKET, S_c_LONG_BUCKET, E_c_LONG_BUCKET, F_c_STRING_ordinal, F_c_LONG_ordinal, F_c_DOUBLE_ordinal, F_c_STRING_BUCKET_ordinal, F_c_DOUBLE_BUCKET_ordinal, F_c_LONG_BUCKET_ordinal⟩ := hW_
  refine own_met (plainFor_of_name pn_com_example_tidefall_tidefall_query_TypeIsNumericPinLaw) ?_
  intro p e s m below meth c s₁ Φ hF X0 hx hby hml hZ hown hnm hret hlk e0
  have N0 := Fr.nil Z.heap.size
  refine own_k (T' := s₁) (g' := (mkF m 0 #[.val (.int (4 : Int32))] [])) (fun _ k => castTop (ef_1_I m (4 : Int32)) k) ?_
  refine own_k (T' := s₁) (g' := (mkF m 1 #[.val (.int (4 : Int32))] [(.int (4 : Int32))])) (fun _ k => XS.iloadN X0.here hx rfl (hb hby d1_0) rfl  k) ?_
  refine own_k (T' := s₁) (g' := (mkF m 8 #[.val (.int (4 : Int32))] [])) (fun _ k => XS.ifYes X0.here hx rfl (pc0 := 1) (pc' := 8) rfl (hb hby d1_1) rfl ((if0 _ _).trans (feq (by decide : ¬ ((4 : Int32) = (0 : Int32)))).2) (by decide) (by decide) k) ?_
  refine own_k (T' := s₁) (g' := (mkF m 9 #[.val (.int (4 : Int32))] [(.int (4 : Int32))])) (fun _ k => XS.iloadN X0.here hx rfl (hb hby d1_8) rfl  k) ?_
  refine own_k (T' := s₁) (g' := (mkF m 10 #[.val (.int (4 : Int32))] [(.int (1 : Int32)), (.int (4 : Int32))])) (fun _ k => XS.iconst X0.here hx rfl (hb hby d1_9) k) ?_
  refine own_k (T' := s₁) (g' := (mkF m 17 #[.val (.int (4 : Int32))] [])) (fun _ k => XS.icmpYes X0.here hx rfl (pc0 := 10) (pc' := 17) rfl (hb hby d1_10) rfl ((feq (by decide : ¬ ((4 : Int32) = (1 : Int32)))).2) (by decide) (by decide) k) ?_
  refine own_k (T' := s₁) (g' := (mkF m 18 #[.val (.int (4 : Int32))] [(.int (4 : Int32))])) (fun _ k => XS.iloadN X0.here hx rfl (hb hby d1_17) rfl  k) ?_
  refine own_k (T' := s₁) (g' := (mkF m 19 #[.val (.int (4 : Int32))] [(.int (2 : Int32)), (.int (4 : Int32))])) (fun _ k => XS.iconst X0.here hx rfl (hb hby d1_18) k) ?_
  refine own_k (T' := s₁) (g' := (mkF m 26 #[.val (.int (4 : Int32))] [])) (fun _ k => XS.icmpYes X0.here hx rfl (pc0 := 19) (pc' := 26) rfl (hb hby d1_19) rfl ((feq (by decide : ¬ ((4 : Int32) = (2 : Int32)))).2) (by decide) (by decide) k) ?_
  refine own_k (T' := s₁) (g' := (mkF m 27 #[.val (.int (4 : Int32))] [(.int (4 : Int32))])) (fun _ k => XS.iloadN X0.here hx rfl (hb hby d1_26) rfl  k) ?_
  refine own_k (T' := s₁) (g' := (mkF m 28 #[.val (.int (4 : Int32))] [(.int (3 : Int32)), (.int (4 : Int32))])) (fun _ k => XS.iconst X0.here hx rfl (hb hby d1_27) k) ?_
  refine own_k (T' := s₁) (g' := (mkF m 35 #[.val (.int (4 : Int32))] [])) (fun _ k => XS.icmpYes X0.here hx rfl (pc0 := 28) (pc' := 35) rfl (hb hby d1_28) rfl ((feq (by decide : ¬ ((4 : Int32) = (3 : Int32)))).2) (by decide) (by decide) k) ?_
  refine own_k (T' := s₁) (g' := (mkF m 36 #[.val (.int (4 : Int32))] [(.int (4 : Int32))])) (fun _ k => XS.iloadN X0.here hx rfl (hb hby d1_35) rfl  k) ?_
  refine own_k (T' := s₁) (g' := (mkF m 37 #[.val (.int (4 : Int32))] [(.int (4 : Int32)), (.int (4 : Int32))])) (fun _ k => XS.iconst X0.here hx rfl (hb hby d1_36) k) ?_
  refine own_k (T' := s₁) (g' := (mkF m 40 #[.val (.int (4 : Int32))] [])) (fun _ k => XS.icmpNo X0.here hx rfl (hb hby d1_37) rfl ((teq (by decide : ((4 : Int32) = (4 : Int32)))).2) k) ?_
  obtain ⟨T1, X1, e1, st1⟩ := getS2 X0 hx hZ hown (host := "") (Or.inl (hw _ (List.mem_of_getElem? (i := 23) rfl))) Via.refl e0 (S_c_LONG_BUCKET.ext O0) (g := (mkF m 40 #[.val (.int (4 : Int32))] [])) rfl (hb hby d1_40)
  refine own_k (T' := T1) (g' := (mkF m 43 #[.val (.int (4 : Int32))] [(.ref c_LONG_BUCKET)])) st1 ?_
  exact own_retA X1 hx hret rfl rfl hlk (hb hby d1_43) hF (by rw [e1]; exact ⟨rfl, N0, rfl⟩) (by decide) (by decide)
set_option maxRecDepth 65536 in
set_option maxHeartbeats 40000000 in
theorem rm_isNumeric_9 (l : Launch) (Z : State) (a0 : Array Value) (c_STRING : Addr) (c_LONG : Addr) (c_DOUBLE : Addr) (c_STRING_BUCKET : Addr) (c_DOUBLE_BUCKET : Addr) (c_LONG_BUCKET : Addr) (hW : own_W Z a0 c_STRING c_LONG c_DOUBLE c_STRING_BUCKET c_DOUBLE_BUCKET c_LONG_BUCKET)  (h0 : Heap) (O0 : Ext Z.heap h0)  :
    own_Met l Z (⟨"com/example/tidefall/tidefall/query/GroupExpression$Type", "isNumeric", "()Z"⟩ : MethodName) prog_32_method_4_code 1 (some .boolean) ({ frames := 0, cells := 0, slots := 0, locals := 0 } : Room) #[(.ref c_LONG_BUCKET)] h0 (fun v h L => v = some (.int (0 : Int32)) ∧ Fr Z.heap.size L ∧ h = h0) := by
  have hW_ := hW
  obtain ⟨hw, S_c_STRING, E_c_STRING, S_c_LONG, E_c_LONG, S_c_DOUBLE, E_c_DOUBLE, S_c_STRING_BUCKET, E_c_STRING_BUCKET, S_c_DOUBLE_BUCKET, E_c_DOUBLE_BUCKET, S_c_LONG_BUCKET, E_c_LONG_BUCKET, F_c_STRING_ordinal, F_c_LONG_ordinal, F_c_DOUBLE_ordinal, F_c_STRING_BUCKET_ordinal, F_c_DOUBLE_BUCKET_ordinal, F_c_LONG_BUCKET_ordinal⟩ := hW_
  refine own_met (plainFor_of_name pn_com_example_tidefall_tidefall_query_GroupExpression_Type) ?_
  intro p e s m below meth c s₁ Φ hF X0 hx hby hml hZ hown hnm hret hlk e0
  have N0 := Fr.nil Z.heap.size
  refine own_k (T' := s₁) (g' := (mkF m 0 #[.val (.ref c_LONG_BUCKET)] [])) (fun _ k => castTop (ef_2_R m c_LONG_BUCKET) k) ?_
  refine own_k (T' := s₁) (g' := (mkF m 1 #[.val (.ref c_LONG_BUCKET)] [(.ref c_LONG_BUCKET)])) (fun _ k => XS.aloadN X0.here hx rfl (hb hby d2_0) rfl rfl  k) ?_
  obtain ⟨T1, X1, e1, st1⟩ := getS2 X0 hx hZ hown (host := "") (Or.inl (hw _ (List.mem_of_getElem? (i := 13) rfl))) Via.refl e0 (S_c_LONG.ext O0) (g := (mkF m 1 #[.val (.ref c_LONG_BUCKET)] [(.ref c_LONG_BUCKET)])) rfl (hb hby d2_1)
  refine own_k (T' := T1) (g' := (mkF m 4 #[.val (.ref c_LONG_BUCKET)] [(.ref c_LONG), (.ref c_LONG_BUCKET)])) st1 ?_
  refine own_k (T' := T1) (g' := (mkF m 7 #[.val (.ref c_LONG_BUCKET)] [])) (fun _ k => Jvm.RoadKit.acmp (g := (mkF m 4 #[.val (.ref c_LONG_BUCKET)] [(.ref c_LONG), (.ref c_LONG_BUCKET)])) X1 hx rfl rfl rfl (pc0 := 4) (pc' := 7) (same := false) rfl (hb hby d2_4) rfl (decide_eq_false fun q => (Fld.ne F_c_LONG_BUCKET_ordinal F_c_LONG_ordinal (by decide)) (Value.ref.inj q)) (by decide) (by decide) k) ?_
  refine own_k (T' := T1) (g' := (mkF m 8 #[.val (.ref c_LONG_BUCKET)] [(.ref c_LONG_BUCKET)])) (fun _ k => XS.aloadN X1.here hx rfl (hb hby d2_7) rfl rfl  k) ?_
  obtain ⟨T2, X2, e2, st2⟩ := getS2 X1 hx hZ hown (host := "") (Or.inl (hw _ (List.mem_of_getElem? (i := 15) rfl))) Via.refl e1 (S_c_DOUBLE.ext O0) (g := (mkF m 8 #[.val (.ref c_LONG_BUCKET)] [(.ref c_LONG_BUCKET)])) rfl (hb hby d2_8)
  refine own_k (T' := T2) (g' := (mkF m 11 #[.val (.ref c_LONG_BUCKET)] [(.ref c_DOUBLE), (.ref c_LONG_BUCKET)])) st2 ?_
  refine own_k (T' := T2) (g' := (mkF m 18 #[.val (.ref c_LONG_BUCKET)] [])) (fun _ k => Jvm.RoadKit.acmp (g := (mkF m 11 #[.val (.ref c_LONG_BUCKET)] [(.ref c_DOUBLE), (.ref c_LONG_BUCKET)])) X2 hx rfl rfl rfl (pc0 := 11) (pc' := 18) (same := false) rfl (hb hby d2_11) rfl (decide_eq_false fun q => (Fld.ne F_c_LONG_BUCKET_ordinal F_c_DOUBLE_ordinal (by decide)) (Value.ref.inj q)) (by decide) (by decide) k) ?_
  refine own_k (T' := T2) (g' := (mkF m 19 #[.val (.ref c_LONG_BUCKET)] [(.int (0 : Int32))])) (fun _ k => XS.iconst X2.here hx rfl (hb hby d2_18) k) ?_
  exact own_retN X2 hx (t := .boolean) hret (by simp) hlk (hb hby d2_19) hF (by rw [e2]; exact ⟨rfl, N0, rfl⟩) (by decide) (by decide)
theorem d1_44 : decode method_2_code 44 = .ok (.getstatic 25, 3) := by decide +kernel
theorem d1_47 : decode method_2_code 47 = .ok (.areturn, 1) := by decide +kernel
set_option maxRecDepth 65536 in
set_option maxHeartbeats 40000000 in
theorem rm_pick_10 (l : Launch) (Z : State) (a0 : Array Value) (c_STRING : Addr) (c_LONG : Addr) (c_DOUBLE : Addr) (c_STRING_BUCKET : Addr) (c_DOUBLE_BUCKET : Addr) (c_LONG_BUCKET : Addr) (hW : own_W Z a0 c_STRING c_LONG c_DOUBLE c_STRING_BUCKET c_DOUBLE_BUCKET c_LONG_BUCKET)  (h0 : Heap) (O0 : Ext Z.heap h0)  :
    own_Met l Z (⟨"com/example/tidefall/tidefall/query/TypeIsNumericPinLaw", "pick", "(I)Lcom/example/tidefall/tidefall/query/GroupExpression$Type;"⟩ : MethodName) method_2_code 1 (some (.object "com/example/tidefall/tidefall/query/GroupExpression$Type")) ({ frames := 0, cells := 0, slots := 0, locals := 0 } : Room) #[(.int (5 : Int32))] h0 (fun v h L => v = some (.ref c_DOUBLE_BUCKET) ∧ Fr Z.heap.size L ∧ h = h0) := by
  have hW_ := hW
  obtain ⟨hw, S_c_STRING, E_c_STRING, S_c_LONG, E_c_LONG, S_c_DOUBLE, E_c_DOUBLE, S_c_STRING_BUCKET, E_c_STRING_BUCKET, S_c_DOUBLE_BUCKET, E_c_DOUBLE_BUCKET, S_c_LONG_BUCKET, E_c_LONG_BUCKET, F_c_STRING_ordinal, F_c_LONG_ordinal, F_c_DOUBLE_ordinal, F_c_STRING_BUCKET_ordinal, F_c_DOUBLE_BUCKET_ordinal, F_c_LONG_BUCKET_ordinal⟩ := hW_
  refine own_met (plainFor_of_name pn_com_example_tidefall_tidefall_query_TypeIsNumericPinLaw) ?_
  intro p e s m below meth c s₁ Φ hF X0 hx hby hml hZ hown hnm hret hlk e0
  have N0 := Fr.nil Z.heap.size
  refine own_k (T' := s₁) (g' := (mkF m 0 #[.val (.int (5 : Int32))] [])) (fun _ k => castTop (ef_1_I m (5 : Int32)) k) ?_
  refine own_k (T' := s₁) (g' := (mkF m 1 #[.val (.int (5 : Int32))] [(.int (5 : Int32))])) (fun _ k => XS.iloadN X0.here hx rfl (hb hby d1_0) rfl  k) ?_
  refine own_k (T' := s₁) (g' := (mkF m 8 #[.val (.int (5 : Int32))] [])) (fun _ k => XS.ifYes X0.here hx rfl (pc0 := 1) (pc' := 8) rfl (hb hby d1_1) rfl ((if0 _ _).trans (feq (by decide : ¬ ((5 : Int32) = (0 : Int32)))).2) (by decide) (by decide) k) ?_
  refine own_k (T' := s₁) (g' := (mkF m 9 #[.val (.int (5 : Int32))] [(.int (5 : Int32))])) (fun _ k => XS.iloadN X0.here hx rfl (hb hby d1_8) rfl  k) ?_
  refine own_k (T' := s₁) (g' := (mkF m 10 #[.val (.int (5 : Int32))] [(.int (1 : Int32)), (.int (5 : Int32))])) (fun _ k => XS.iconst X0.here hx rfl (hb hby d1_9) k) ?_
  refine own_k (T' := s₁) (g' := (mkF m 17 #[.val (.int (5 : Int32))] [])) (fun _ k => XS.icmpYes X0.here hx rfl (pc0 := 10) (pc' := 17) rfl (hb hby d1_10) rfl ((feq (by decide : ¬ ((5 : Int32) = (1 : Int32)))).2) (by decide) (by decide) k) ?_
  refine own_k (T' := s₁) (g' := (mkF m 18 #[.val (.int (5 : Int32))] [(.int (5 : Int32))])) (fun _ k => XS.iloadN X0.here hx rfl (hb hby d1_17) rfl  k) ?_
  refine own_k (T' := s₁) (g' := (mkF m 19 #[.val (.int (5 : Int32))] [(.int (2 : Int32)), (.int (5 : Int32))])) (fun _ k => XS.iconst X0.here hx rfl (hb hby d1_18) k) ?_
  refine own_k (T' := s₁) (g' := (mkF m 26 #[.val (.int (5 : Int32))] [])) (fun _ k => XS.icmpYes X0.here hx rfl (pc0 := 19) (pc' := 26) rfl (hb hby d1_19) rfl ((feq (by decide : ¬ ((5 : Int32) = (2 : Int32)))).2) (by decide) (by decide) k) ?_
  refine own_k (T' := s₁) (g' := (mkF m 27 #[.val (.int (5 : Int32))] [(.int (5 : Int32))])) (fun _ k => XS.iloadN X0.here hx rfl (hb hby d1_26) rfl  k) ?_
  refine own_k (T' := s₁) (g' := (mkF m 28 #[.val (.int (5 : Int32))] [(.int (3 : Int32)), (.int (5 : Int32))])) (fun _ k => XS.iconst X0.here hx rfl (hb hby d1_27) k) ?_
  refine own_k (T' := s₁) (g' := (mkF m 35 #[.val (.int (5 : Int32))] [])) (fun _ k => XS.icmpYes X0.here hx rfl (pc0 := 28) (pc' := 35) rfl (hb hby d1_28) rfl ((feq (by decide : ¬ ((5 : Int32) = (3 : Int32)))).2) (by decide) (by decide) k) ?_
  refine own_k (T' := s₁) (g' := (mkF m 36 #[.val (.int (5 : Int32))] [(.int (5 : Int32))])) (fun _ k => XS.iloadN X0.here hx rfl (hb hby d1_35) rfl  k) ?_
  refine own_k (T' := s₁) (g' := (mkF m 37 #[.val (.int (5 : Int32))] [(.int (4 : Int32)), (.int (5 : Int32))])) (fun _ k => XS.iconst X0.here hx rfl (hb hby d1_36) k) ?_
  refine own_k (T' := s₁) (g' := (mkF m 44 #[.val (.int (5 : Int32))] [])) (fun _ k => XS.icmpYes X0.here hx rfl (pc0 := 37) (pc' := 44) rfl (hb hby d1_37) rfl ((feq (by decide : ¬ ((5 : Int32) = (4 : Int32)))).2) (by decide) (by decide) k) ?_
  obtain ⟨T1, X1, e1, st1⟩ := getS2 X0 hx hZ hown (host := "") (Or.inl (hw _ (List.mem_of_getElem? (i := 21) rfl))) Via.refl e0 (S_c_DOUBLE_BUCKET.ext O0) (g := (mkF m 44 #[.val (.int (5 : Int32))] [])) rfl (hb hby d1_44)
  refine own_k (T' := T1) (g' := (mkF m 47 #[.val (.int (5 : Int32))] [(.ref c_DOUBLE_BUCKET)])) st1 ?_
  exact own_retA X1 hx hret rfl rfl hlk (hb hby d1_47) hF (by rw [e1]; exact ⟨rfl, N0, rfl⟩) (by decide) (by decide)
set_option maxRecDepth 65536 in
set_option maxHeartbeats 40000000 in
theorem rm_isNumeric_11 (l : Launch) (Z : State) (a0 : Array Value) (c_STRING : Addr) (c_LONG : Addr) (c_DOUBLE : Addr) (c_STRING_BUCKET : Addr) (c_DOUBLE_BUCKET : Addr) (c_LONG_BUCKET : Addr) (hW : own_W Z a0 c_STRING c_LONG c_DOUBLE c_STRING_BUCKET c_DOUBLE_BUCKET c_LONG_BUCKET)  (h0 : Heap) (O0 : Ext Z.heap h0)  :
    own_Met l Z (⟨"com/example/tidefall/tidefall/query/GroupExpression$Type", "isNumeric", "()Z"⟩ : MethodName) prog_32_method_4_code 1 (some .boolean) ({ frames := 0, cells := 0, slots := 0, locals := 0 } : Room) #[(.ref c_DOUBLE_BUCKET)] h0 (fun v h L => v = some (.int (0 : Int32)) ∧ Fr Z.heap.size L ∧ h = h0) := by
  have hW_ := hW
  obtain ⟨hw, S_c_STRING, E_c_STRING, S_c_LONG, E_c_LONG, S_c_DOUBLE, E_c_DOUBLE, S_c_STRING_BUCKET, E_c_STRING_BUCKET, S_c_DOUBLE_BUCKET, E_c_DOUBLE_BUCKET, S_c_LONG_BUCKET, E_c_LONG_BUCKET, F_c_STRING_ordinal, F_c_LONG_ordinal, F_c_DOUBLE_ordinal, F_c_STRING_BUCKET_ordinal, F_c_DOUBLE_BUCKET_ordinal, F_c_LONG_BUCKET_ordinal⟩ := hW_
  refine own_met (plainFor_of_name pn_com_example_tidefall_tidefall_query_GroupExpression_Type) ?_
  intro p e s m below meth c s₁ Φ hF X0 hx hby hml hZ hown hnm hret hlk e0
  have N0 := Fr.nil Z.heap.size
  refine own_k (T' := s₁) (g' := (mkF m 0 #[.val (.ref c_DOUBLE_BUCKET)] [])) (fun _ k => castTop (ef_2_R m c_DOUBLE_BUCKET) k) ?_
  refine own_k (T' := s₁) (g' := (mkF m 1 #[.val (.ref c_DOUBLE_BUCKET)] [(.ref c_DOUBLE_BUCKET)])) (fun _ k => XS.aloadN X0.here hx rfl (hb hby d2_0) rfl rfl  k) ?_
  obtain ⟨T1, X1, e1, st1⟩ := getS2 X0 hx hZ hown (host := "") (Or.inl (hw _ (List.mem_of_getElem? (i := 13) rfl))) Via.refl e0 (S_c_LONG.ext O0) (g := (mkF m 1 #[.val (.ref c_DOUBLE_BUCKET)] [(.ref c_DOUBLE_BUCKET)])) rfl (hb hby d2_1)
  refine own_k (T' := T1) (g' := (mkF m 4 #[.val (.ref c_DOUBLE_BUCKET)] [(.ref c_LONG), (.ref c_DOUBLE_BUCKET)])) st1 ?_
  refine own_k (T' := T1) (g' := (mkF m 7 #[.val (.ref c_DOUBLE_BUCKET)] [])) (fun _ k => Jvm.RoadKit.acmp (g := (mkF m 4 #[.val (.ref c_DOUBLE_BUCKET)] [(.ref c_LONG), (.ref c_DOUBLE_BUCKET)])) X1 hx rfl rfl rfl (pc0 := 4) (pc' := 7) (same := false) rfl (hb hby d2_4) rfl (decide_eq_false fun q => (Fld.ne F_c_DOUBLE_BUCKET_ordinal F_c_LONG_ordinal (by decide)) (Value.ref.inj q)) (by decide) (by decide) k) ?_
  refine own_k (T' := T1) (g' := (mkF m 8 #[.val (.ref c_DOUBLE_BUCKET)] [(.ref c_DOUBLE_BUCKET)])) (fun _ k => XS.aloadN X1.here hx rfl (hb hby d2_7) rfl rfl  k) ?_
  obtain ⟨T2, X2, e2, st2⟩ := getS2 X1 hx hZ hown (host := "") (Or.inl (hw _ (List.mem_of_getElem? (i := 15) rfl))) Via.refl e1 (S_c_DOUBLE.ext O0) (g := (mkF m 8 #[.val (.ref c_DOUBLE_BUCKET)] [(.ref c_DOUBLE_BUCKET)])) rfl (hb hby d2_8)
  refine own_k (T' := T2) (g' := (mkF m 11 #[.val (.ref c_DOUBLE_BUCKET)] [(.ref c_DOUBLE), (.ref c_DOUBLE_BUCKET)])) st2 ?_
  refine own_k (T' := T2) (g' := (mkF m 18 #[.val (.ref c_DOUBLE_BUCKET)] [])) (fun _ k => Jvm.RoadKit.acmp (g := (mkF m 11 #[.val (.ref c_DOUBLE_BUCKET)] [(.ref c_DOUBLE), (.ref c_DOUBLE_BUCKET)])) X2 hx rfl rfl rfl (pc0 := 11) (pc' := 18) (same := false) rfl (hb hby d2_11) rfl (decide_eq_false fun q => (Fld.ne F_c_DOUBLE_BUCKET_ordinal F_c_DOUBLE_ordinal (by decide)) (Value.ref.inj q)) (by decide) (by decide) k) ?_
  refine own_k (T' := T2) (g' := (mkF m 19 #[.val (.ref c_DOUBLE_BUCKET)] [(.int (0 : Int32))])) (fun _ k => XS.iconst X2.here hx rfl (hb hby d2_18) k) ?_
  exact own_retN X2 hx (t := .boolean) hret (by simp) hlk (hb hby d2_19) hF (by rw [e2]; exact ⟨rfl, N0, rfl⟩) (by decide) (by decide)
set_option maxRecDepth 65536 in
set_option maxHeartbeats 40000000 in
theorem own_law (l : Launch) (Z : State) (a0 : Array Value) (c_STRING : Addr) (c_LONG : Addr) (c_DOUBLE : Addr) (c_STRING_BUCKET : Addr) (c_DOUBLE_BUCKET : Addr) (c_LONG_BUCKET : Addr) (hW : own_W Z a0 c_STRING c_LONG c_DOUBLE c_STRING_BUCKET c_DOUBLE_BUCKET c_LONG_BUCKET) (p0 : Int32) (h0 : Heap) (O0 : Ext Z.heap h0)  :
    own_Met l Z x code maxLocals ret room_1 #[(.int p0)] h0 (fun v h L => v = some (.int (1 : Int32)) ∧ Fr Z.heap.size L ∧ True) := by
  have hW_ := hW
  obtain ⟨hw, S_c_STRING, E_c_STRING, S_c_LONG, E_c_LONG, S_c_DOUBLE, E_c_DOUBLE, S_c_STRING_BUCKET, E_c_STRING_BUCKET, S_c_DOUBLE_BUCKET, E_c_DOUBLE_BUCKET, S_c_LONG_BUCKET, E_c_LONG_BUCKET, F_c_STRING_ordinal, F_c_LONG_ordinal, F_c_DOUBLE_ordinal, F_c_STRING_BUCKET_ordinal, F_c_DOUBLE_BUCKET_ordinal, F_c_LONG_BUCKET_ordinal⟩ := hW_
  refine own_met (plainFor_of_name pn_com_example_tidefall_tidefall_query_TypeIsNumericPinLaw) ?_
  intro p e s m below meth c s₁ Φ hF X0 hx hby hml hZ hown hnm hret hlk e0
  have N0 := Fr.nil Z.heap.size
  refine own_k (T' := s₁) (g' := (mkF m 0 #[.val (.int p0), .unset, .unset, .unset] [])) (fun _ k => castTop (ef_0_I m p0) k) ?_
  refine own_k (T' := s₁) (g' := (mkF m 1 #[.val (.int p0), .unset, .unset, .unset] [(.int p0)])) (fun _ k => XS.iloadN X0.here hx rfl (hb hby at_0) rfl  k) ?_
  refine own_k (T' := s₁) (g' := (mkF m 3 #[.val (.int p0), .unset, .unset, .unset] [(.int (2147483647 : Int32)), (.int p0)])) (X0.ldcInt hx hown (mvT hZ (hw _ (List.mem_of_getElem? (i := 0) rfl))) (g := (mkF m 1 #[.val (.int p0), .unset, .unset, .unset] [(.int p0)])) rfl (hb hby at_1)) ?_
  refine own_k (T' := s₁) (g' := (mkF m 4 #[.val (.int p0), .unset, .unset, .unset] [(.int (p0 &&& (2147483647 : Int32)))])) (fun _ k => XS.iand X0.here hx rfl (hb hby at_3) rfl k) ?_
  refine own_k (T' := s₁) (g' := (mkF m 6 #[.val (.int p0), .unset, .unset, .unset] [(.int (6 : Int32)), (.int (p0 &&& (2147483647 : Int32)))])) (fun _ k => XS.bipush X0.here hx rfl (hb hby at_4) k) ?_
  refine own_k (T' := s₁) (g' := (mkF m 7 #[.val (.int p0), .unset, .unset, .unset] [(.int ((p0 &&& (2147483647 : Int32)) % (6 : Int32)))])) (fun _ k => iremM X0 hx rfl (hb hby at_6) rfl (by decide) k) ?_
  refine own_k (T' := s₁) (g' := (mkF m 8 #[.val (.int p0), .val (.int ((p0 &&& (2147483647 : Int32)) % (6 : Int32))), .unset, .unset] [])) (fun _ k => XS.istoreN X0.here hx rfl (hb hby at_7) rfl (l' := #[.val (.int p0), .val (.int ((p0 &&& (2147483647 : Int32)) % (6 : Int32))), .unset, .unset]) rfl k) ?_
  obtain ⟨k1, hk1⟩ : ∃ k, k = ((p0 &&& (2147483647 : Int32)) % (6 : Int32)) := ⟨_, rfl⟩
  rw [← hk1]
  have hl1 : k1 = (0 : Int32) ∨ k1 = (1 : Int32) ∨ k1 = (2 : Int32) ∨ k1 = (3 : Int32) ∨ k1 = (4 : Int32) ∨ k1 = (5 : Int32) := hk1 ▸ own_mod6 p0
  clear hk1
  rcases hl1 with rfl | rfl | rfl | rfl | rfl | rfl
  · refine own_k (T' := s₁) (g' := (mkF m 9 #[.val (.int p0), .val (.int (0 : Int32)), .unset, .unset] [(.int (0 : Int32))])) (fun _ k => XS.iloadN X0.here hx rfl (hb hby at_8) rfl  k) ?_
    refine own_callS X0 hx hZ (y := (⟨"com/example/tidefall/tidefall/query/TypeIsNumericPinLaw", "pick", "(I)Lcom/example/tidefall/tidefall/query/GroupExpression$Type;"⟩ : MethodName)) hown (hw _ (List.mem_of_getElem? (i := 1) rfl)) (hw _ (List.mem_of_getElem? (i := 2) rfl)) (hw _ (List.mem_of_getElem? (i := 3) rfl)) (hw _ (List.mem_of_getElem? (i := 4) rfl)) (by decide) (al := [(.int (0 : Int32))]) (rm_pick_0 l Z a0 c_STRING c_LONG c_DOUBLE c_STRING_BUCKET c_DOUBLE_BUCKET c_LONG_BUCKET hW h0 O0) 0 (by decide) (by decide) e0 (by decide) (by decide) (by rw [hml]; rfl) (lenOf pd__28I_29Lcom_2fexample_2ftidefall_2ftidefall_2fquery_2fGroupExpression_24Type_3b rfl) rfl (rest := []) (by show 2 * 0 + _ ≤ _; exact Nat.le_of_eq rfl) (hb hby at_9) ?_
    intro v2 T2 L2 X2 hQ2
    obtain ⟨rfl, Nq2, e2⟩ := hQ2
    have N2 := Fr.app N0 Nq2
    show own_Go p e below Φ T2 (mkF m 12 #[.val (.int p0), .val (.int (0 : Int32)), .unset, .unset] [(.ref c_STRING)])
    refine own_k (T' := T2) (g' := (mkF m 13 #[.val (.int p0), .val (.int (0 : Int32)), .val (.ref c_STRING), .unset] [])) (fun _ k => XS.astoreN X2.here hx rfl (hb hby at_12) rfl rfl (l' := #[.val (.int p0), .val (.int (0 : Int32)), .val (.ref c_STRING), .unset]) rfl k) ?_
    refine own_k (T' := T2) (g' := (mkF m 14 #[.val (.int p0), .val (.int (0 : Int32)), .val (.ref c_STRING), .unset] [(.int (0 : Int32))])) (fun _ k => XS.iloadN X2.here hx rfl (hb hby at_13) rfl  k) ?_
    refine own_k (T' := T2) (g' := (mkF m 15 #[.val (.int p0), .val (.int (0 : Int32)), .val (.ref c_STRING), .unset] [(.int (1 : Int32)), (.int (0 : Int32))])) (fun _ k => XS.iconst X2.here hx rfl (hb hby at_14) k) ?_
    refine own_k (T' := T2) (g' := (mkF m 18 #[.val (.int p0), .val (.int (0 : Int32)), .val (.ref c_STRING), .unset] [])) (fun _ k => XS.icmpNo X2.here hx rfl (hb hby at_15) rfl ((feq (by decide : ¬ ((0 : Int32) = (1 : Int32)))).1) k) ?_
    refine own_k (T' := T2) (g' := (mkF m 19 #[.val (.int p0), .val (.int (0 : Int32)), .val (.ref c_STRING), .unset] [(.int (0 : Int32))])) (fun _ k => XS.iloadN X2.here hx rfl (hb hby at_18) rfl  k) ?_
    refine own_k (T' := T2) (g' := (mkF m 20 #[.val (.int p0), .val (.int (0 : Int32)), .val (.ref c_STRING), .unset] [(.int (2 : Int32)), (.int (0 : Int32))])) (fun _ k => XS.iconst X2.here hx rfl (hb hby at_19) k) ?_
    refine own_k (T' := T2) (g' := (mkF m 27 #[.val (.int p0), .val (.int (0 : Int32)), .val (.ref c_STRING), .unset] [])) (fun _ k => XS.icmpYes X2.here hx rfl (pc0 := 20) (pc' := 27) rfl (hb hby at_20) rfl ((feq (by decide : ¬ ((0 : Int32) = (2 : Int32)))).2) (by decide) (by decide) k) ?_
    refine own_k (T' := T2) (g' := (mkF m 28 #[.val (.int p0), .val (.int (0 : Int32)), .val (.ref c_STRING), .unset] [(.int (0 : Int32))])) (fun _ k => XS.iconst X2.here hx rfl (hb hby at_27) k) ?_
    refine own_k (T' := T2) (g' := (mkF m 29 #[.val (.int p0), .val (.int (0 : Int32)), .val (.ref c_STRING), .val (.int (0 : Int32))] [])) (fun _ k => XS.istoreN X2.here hx rfl (hb hby at_28) rfl (l' := #[.val (.int p0), .val (.int (0 : Int32)), .val (.ref c_STRING), .val (.int (0 : Int32))]) rfl k) ?_
    refine own_k (T' := T2) (g' := (mkF m 30 #[.val (.int p0), .val (.int (0 : Int32)), .val (.ref c_STRING), .val (.int (0 : Int32))] [(.ref c_STRING)])) (fun _ k => XS.aloadN X2.here hx rfl (hb hby at_29) rfl rfl  k) ?_
    refine own_callV X2 hx hZ (C := "com/example/tidefall/tidefall/query/GroupExpression$Type") (y := (⟨"com/example/tidefall/tidefall/query/GroupExpression$Type", "isNumeric", "()Z"⟩ : MethodName)) (z := (⟨"com/example/tidefall/tidefall/query/GroupExpression$Type", "isNumeric", "()Z"⟩ : MethodName)) hown (hw _ (List.mem_of_getElem? (i := 8) rfl)) (hw _ (List.mem_of_getElem? (i := 9) rfl)) (notFace_of_selects (args := #[]) (mvT hZ (hw _ (List.mem_of_getElem? (i := 11) rfl)))) (hw _ (List.mem_of_getElem? (i := 11) rfl)) (hw _ (List.mem_of_getElem? (i := 10) rfl)) (hw _ (List.mem_of_getElem? (i := 12) rfl)) (hw _ (List.mem_of_getElem? (i := 6) rfl)) (by decide) (al := []) (E_c_STRING.ext O0) (rm_isNumeric_1 l Z a0 c_STRING c_LONG c_DOUBLE c_STRING_BUCKET c_DOUBLE_BUCKET c_LONG_BUCKET hW h0 O0) 0 (by decide) (by decide) e2 (by decide) (by decide) (by rw [hml]; rfl) (lenOf pd__28_29Z rfl) rfl (rest := []) (by show 2 * 0 + _ ≤ _; exact Nat.le_of_eq rfl) (hb hby at_30) ?_
    intro v3 T3 L3 X3 hQ3
    obtain ⟨rfl, Nq3, e3⟩ := hQ3
    have N3 := Fr.app N2 Nq3
    show own_Go p e below Φ T3 (mkF m 33 #[.val (.int p0), .val (.int (0 : Int32)), .val (.ref c_STRING), .val (.int (0 : Int32))] [(.int (0 : Int32))])
    refine own_k (T' := T3) (g' := (mkF m 34 #[.val (.int p0), .val (.int (0 : Int32)), .val (.ref c_STRING), .val (.int (0 : Int32))] [(.int (0 : Int32)), (.int (0 : Int32))])) (fun _ k => XS.iloadN X3.here hx rfl (hb hby at_33) rfl  k) ?_
    refine own_k (T' := T3) (g' := (mkF m 37 #[.val (.int p0), .val (.int (0 : Int32)), .val (.ref c_STRING), .val (.int (0 : Int32))] [])) (fun _ k => XS.icmpNo X3.here hx rfl (hb hby at_34) rfl ((teq (by decide : ((0 : Int32) = (0 : Int32)))).2) k) ?_
    refine own_k (T' := T3) (g' := (mkF m 38 #[.val (.int p0), .val (.int (0 : Int32)), .val (.ref c_STRING), .val (.int (0 : Int32))] [(.int (1 : Int32))])) (fun _ k => XS.iconst X3.here hx rfl (hb hby at_37) k) ?_
    refine own_k (T' := T3) (g' := (mkF m 42 #[.val (.int p0), .val (.int (0 : Int32)), .val (.ref c_STRING), .val (.int (0 : Int32))] [(.int (1 : Int32))])) (fun _ k => XS.goto X3.here hx rfl (pc0 := 38) (pc' := 42) rfl (hb hby at_38) (by decide) (by decide) k) ?_
    exact own_retN X3 hx (t := .boolean) hret (by simp) hlk (hb hby at_42) hF (⟨rfl, N3, trivial⟩) (by decide) (by decide)
  · refine own_k (T' := s₁) (g' := (mkF m 9 #[.val (.int p0), .val (.int (1 : Int32)), .unset, .unset] [(.int (1 : Int32))])) (fun _ k => XS.iloadN X0.here hx rfl (hb hby at_8) rfl  k) ?_
    refine own_callS X0 hx hZ (y := (⟨"com/example/tidefall/tidefall/query/TypeIsNumericPinLaw", "pick", "(I)Lcom/example/tidefall/tidefall/query/GroupExpression$Type;"⟩ : MethodName)) hown (hw _ (List.mem_of_getElem? (i := 1) rfl)) (hw _ (List.mem_of_getElem? (i := 2) rfl)) (hw _ (List.mem_of_getElem? (i := 3) rfl)) (hw _ (List.mem_of_getElem? (i := 4) rfl)) (by decide) (al := [(.int (1 : Int32))]) (rm_pick_2 l Z a0 c_STRING c_LONG c_DOUBLE c_STRING_BUCKET c_DOUBLE_BUCKET c_LONG_BUCKET hW h0 O0) 0 (by decide) (by decide) e0 (by decide) (by decide) (by rw [hml]; rfl) (lenOf pd__28I_29Lcom_2fexample_2ftidefall_2ftidefall_2fquery_2fGroupExpression_24Type_3b rfl) rfl (rest := []) (by show 2 * 0 + _ ≤ _; exact Nat.le_of_eq rfl) (hb hby at_9) ?_
    intro v4 T4 L4 X4 hQ4
    obtain ⟨rfl, Nq4, e4⟩ := hQ4
    have N4 := Fr.app N0 Nq4
    show own_Go p e below Φ T4 (mkF m 12 #[.val (.int p0), .val (.int (1 : Int32)), .unset, .unset] [(.ref c_LONG)])
    refine own_k (T' := T4) (g' := (mkF m 13 #[.val (.int p0), .val (.int (1 : Int32)), .val (.ref c_LONG), .unset] [])) (fun _ k => XS.astoreN X4.here hx rfl (hb hby at_12) rfl rfl (l' := #[.val (.int p0), .val (.int (1 : Int32)), .val (.ref c_LONG), .unset]) rfl k) ?_
    refine own_k (T' := T4) (g' := (mkF m 14 #[.val (.int p0), .val (.int (1 : Int32)), .val (.ref c_LONG), .unset] [(.int (1 : Int32))])) (fun _ k => XS.iloadN X4.here hx rfl (hb hby at_13) rfl  k) ?_
    refine own_k (T' := T4) (g' := (mkF m 15 #[.val (.int p0), .val (.int (1 : Int32)), .val (.ref c_LONG), .unset] [(.int (1 : Int32)), (.int (1 : Int32))])) (fun _ k => XS.iconst X4.here hx rfl (hb hby at_14) k) ?_
    refine own_k (T' := T4) (g' := (mkF m 23 #[.val (.int p0), .val (.int (1 : Int32)), .val (.ref c_LONG), .unset] [])) (fun _ k => XS.icmpYes X4.here hx rfl (pc0 := 15) (pc' := 23) rfl (hb hby at_15) rfl ((teq (by decide : ((1 : Int32) = (1 : Int32)))).1) (by decide) (by decide) k) ?_
    refine own_k (T' := T4) (g' := (mkF m 24 #[.val (.int p0), .val (.int (1 : Int32)), .val (.ref c_LONG), .unset] [(.int (1 : Int32))])) (fun _ k => XS.iconst X4.here hx rfl (hb hby at_23) k) ?_
    refine own_k (T' := T4) (g' := (mkF m 28 #[.val (.int p0), .val (.int (1 : Int32)), .val (.ref c_LONG), .unset] [(.int (1 : Int32))])) (fun _ k => XS.goto X4.here hx rfl (pc0 := 24) (pc' := 28) rfl (hb hby at_24) (by decide) (by decide) k) ?_
    refine own_k (T' := T4) (g' := (mkF m 29 #[.val (.int p0), .val (.int (1 : Int32)), .val (.ref c_LONG), .val (.int (1 : Int32))] [])) (fun _ k => XS.istoreN X4.here hx rfl (hb hby at_28) rfl (l' := #[.val (.int p0), .val (.int (1 : Int32)), .val (.ref c_LONG), .val (.int (1 : Int32))]) rfl k) ?_
    refine own_k (T' := T4) (g' := (mkF m 30 #[.val (.int p0), .val (.int (1 : Int32)), .val (.ref c_LONG), .val (.int (1 : Int32))] [(.ref c_LONG)])) (fun _ k => XS.aloadN X4.here hx rfl (hb hby at_29) rfl rfl  k) ?_
    refine own_callV X4 hx hZ (C := "com/example/tidefall/tidefall/query/GroupExpression$Type") (y := (⟨"com/example/tidefall/tidefall/query/GroupExpression$Type", "isNumeric", "()Z"⟩ : MethodName)) (z := (⟨"com/example/tidefall/tidefall/query/GroupExpression$Type", "isNumeric", "()Z"⟩ : MethodName)) hown (hw _ (List.mem_of_getElem? (i := 8) rfl)) (hw _ (List.mem_of_getElem? (i := 9) rfl)) (notFace_of_selects (args := #[]) (mvT hZ (hw _ (List.mem_of_getElem? (i := 11) rfl)))) (hw _ (List.mem_of_getElem? (i := 11) rfl)) (hw _ (List.mem_of_getElem? (i := 10) rfl)) (hw _ (List.mem_of_getElem? (i := 12) rfl)) (hw _ (List.mem_of_getElem? (i := 6) rfl)) (by decide) (al := []) (E_c_LONG.ext O0) (rm_isNumeric_3 l Z a0 c_STRING c_LONG c_DOUBLE c_STRING_BUCKET c_DOUBLE_BUCKET c_LONG_BUCKET hW h0 O0) 0 (by decide) (by decide) e4 (by decide) (by decide) (by rw [hml]; rfl) (lenOf pd__28_29Z rfl) rfl (rest := []) (by show 2 * 0 + _ ≤ _; exact Nat.le_of_eq rfl) (hb hby at_30) ?_
    intro v5 T5 L5 X5 hQ5
    obtain ⟨rfl, Nq5, e5⟩ := hQ5
    have N5 := Fr.app N4 Nq5
    show own_Go p e below Φ T5 (mkF m 33 #[.val (.int p0), .val (.int (1 : Int32)), .val (.ref c_LONG), .val (.int (1 : Int32))] [(.int (1 : Int32))])
    refine own_k (T' := T5) (g' := (mkF m 34 #[.val (.int p0), .val (.int (1 : Int32)), .val (.ref c_LONG), .val (.int (1 : Int32))] [(.int (1 : Int32)), (.int (1 : Int32))])) (fun _ k => XS.iloadN X5.here hx rfl (hb hby at_33) rfl  k) ?_
    refine own_k (T' := T5) (g' := (mkF m 37 #[.val (.int p0), .val (.int (1 : Int32)), .val (.ref c_LONG), .val (.int (1 : Int32))] [])) (fun _ k => XS.icmpNo X5.here hx rfl (hb hby at_34) rfl ((teq (by decide : ((1 : Int32) = (1 : Int32)))).2) k) ?_
    refine own_k (T' := T5) (g' := (mkF m 38 #[.val (.int p0), .val (.int (1 : Int32)), .val (.ref c_LONG), .val (.int (1 : Int32))] [(.int (1 : Int32))])) (fun _ k => XS.iconst X5.here hx rfl (hb hby at_37) k) ?_
    refine own_k (T' := T5) (g' := (mkF m 42 #[.val (.int p0), .val (.int (1 : Int32)), .val (.ref c_LONG), .val (.int (1 : Int32))] [(.int (1 : Int32))])) (fun _ k => XS.goto X5.here hx rfl (pc0 := 38) (pc' := 42) rfl (hb hby at_38) (by decide) (by decide) k) ?_
    exact own_retN X5 hx (t := .boolean) hret (by simp) hlk (hb hby at_42) hF (⟨rfl, N5, trivial⟩) (by decide) (by decide)
  · refine own_k (T' := s₁) (g' := (mkF m 9 #[.val (.int p0), .val (.int (2 : Int32)), .unset, .unset] [(.int (2 : Int32))])) (fun _ k => XS.iloadN X0.here hx rfl (hb hby at_8) rfl  k) ?_
    refine own_callS X0 hx hZ (y := (⟨"com/example/tidefall/tidefall/query/TypeIsNumericPinLaw", "pick", "(I)Lcom/example/tidefall/tidefall/query/GroupExpression$Type;"⟩ : MethodName)) hown (hw _ (List.mem_of_getElem? (i := 1) rfl)) (hw _ (List.mem_of_getElem? (i := 2) rfl)) (hw _ (List.mem_of_getElem? (i := 3) rfl)) (hw _ (List.mem_of_getElem? (i := 4) rfl)) (by decide) (al := [(.int (2 : Int32))]) (rm_pick_4 l Z a0 c_STRING c_LONG c_DOUBLE c_STRING_BUCKET c_DOUBLE_BUCKET c_LONG_BUCKET hW h0 O0) 0 (by decide) (by decide) e0 (by decide) (by decide) (by rw [hml]; rfl) (lenOf pd__28I_29Lcom_2fexample_2ftidefall_2ftidefall_2fquery_2fGroupExpression_24Type_3b rfl) rfl (rest := []) (by show 2 * 0 + _ ≤ _; exact Nat.le_of_eq rfl) (hb hby at_9) ?_
    intro v6 T6 L6 X6 hQ6
    obtain ⟨rfl, Nq6, e6⟩ := hQ6
    have N6 := Fr.app N0 Nq6
    show own_Go p e below Φ T6 (mkF m 12 #[.val (.int p0), .val (.int (2 : Int32)), .unset, .unset] [(.ref c_DOUBLE)])
    refine own_k (T' := T6) (g' := (mkF m 13 #[.val (.int p0), .val (.int (2 : Int32)), .val (.ref c_DOUBLE), .unset] [])) (fun _ k => XS.astoreN X6.here hx rfl (hb hby at_12) rfl rfl (l' := #[.val (.int p0), .val (.int (2 : Int32)), .val (.ref c_DOUBLE), .unset]) rfl k) ?_
    refine own_k (T' := T6) (g' := (mkF m 14 #[.val (.int p0), .val (.int (2 : Int32)), .val (.ref c_DOUBLE), .unset] [(.int (2 : Int32))])) (fun _ k => XS.iloadN X6.here hx rfl (hb hby at_13) rfl  k) ?_
    refine own_k (T' := T6) (g' := (mkF m 15 #[.val (.int p0), .val (.int (2 : Int32)), .val (.ref c_DOUBLE), .unset] [(.int (1 : Int32)), (.int (2 : Int32))])) (fun _ k => XS.iconst X6.here hx rfl (hb hby at_14) k) ?_
    refine own_k (T' := T6) (g' := (mkF m 18 #[.val (.int p0), .val (.int (2 : Int32)), .val (.ref c_DOUBLE), .unset] [])) (fun _ k => XS.icmpNo X6.here hx rfl (hb hby at_15) rfl ((feq (by decide : ¬ ((2 : Int32) = (1 : Int32)))).1) k) ?_
    refine own_k (T' := T6) (g' := (mkF m 19 #[.val (.int p0), .val (.int (2 : Int32)), .val (.ref c_DOUBLE), .unset] [(.int (2 : Int32))])) (fun _ k => XS.iloadN X6.here hx rfl (hb hby at_18) rfl  k) ?_
    refine own_k (T' := T6) (g' := (mkF m 20 #[.val (.int p0), .val (.int (2 : Int32)), .val (.ref c_DOUBLE), .unset] [(.int (2 : Int32)), (.int (2 : Int32))])) (fun _ k => XS.iconst X6.here hx rfl (hb hby at_19) k) ?_
    refine own_k (T' := T6) (g' := (mkF m 23 #[.val (.int p0), .val (.int (2 : Int32)), .val (.ref c_DOUBLE), .unset] [])) (fun _ k => XS.icmpNo X6.here hx rfl (hb hby at_20) rfl ((teq (by decide : ((2 : Int32) = (2 : Int32)))).2) k) ?_
    refine own_k (T' := T6) (g' := (mkF m 24 #[.val (.int p0), .val (.int (2 : Int32)), .val (.ref c_DOUBLE), .unset] [(.int (1 : Int32))])) (fun _ k => XS.iconst X6.here hx rfl (hb hby at_23) k) ?_
    refine own_k (T' := T6) (g' := (mkF m 28 #[.val (.int p0), .val (.int (2 : Int32)), .val (.ref c_DOUBLE), .unset] [(.int (1 : Int32))])) (fun _ k => XS.goto X6.here hx rfl (pc0 := 24) (pc' := 28) rfl (hb hby at_24) (by decide) (by decide) k) ?_
    refine own_k (T' := T6) (g' := (mkF m 29 #[.val (.int p0), .val (.int (2 : Int32)), .val (.ref c_DOUBLE), .val (.int (1 : Int32))] [])) (fun _ k => XS.istoreN X6.here hx rfl (hb hby at_28) rfl (l' := #[.val (.int p0), .val (.int (2 : Int32)), .val (.ref c_DOUBLE), .val (.int (1 : Int32))]) rfl k) ?_
    refine own_k (T' := T6) (g' := (mkF m 30 #[.val (.int p0), .val (.int (2 : Int32)), .val (.ref c_DOUBLE), .val (.int (1 : Int32))] [(.ref c_DOUBLE)])) (fun _ k => XS.aloadN X6.here hx rfl (hb hby at_29) rfl rfl  k) ?_
    refine own_callV X6 hx hZ (C := "com/example/tidefall/tidefall/query/GroupExpression$Type") (y := (⟨"com/example/tidefall/tidefall/query/GroupExpression$Type", "isNumeric", "()Z"⟩ : MethodName)) (z := (⟨"com/example/tidefall/tidefall/query/GroupExpression$Type", "isNumeric", "()Z"⟩ : MethodName)) hown (hw _ (List.mem_of_getElem? (i := 8) rfl)) (hw _ (List.mem_of_getElem? (i := 9) rfl)) (notFace_of_selects (args := #[]) (mvT hZ (hw _ (List.mem_of_getElem? (i := 11) rfl)))) (hw _ (List.mem_of_getElem? (i := 11) rfl)) (hw _ (List.mem_of_getElem? (i := 10) rfl)) (hw _ (List.mem_of_getElem? (i := 12) rfl)) (hw _ (List.mem_of_getElem? (i := 6) rfl)) (by decide) (al := []) (E_c_DOUBLE.ext O0) (rm_isNumeric_5 l Z a0 c_STRING c_LONG c_DOUBLE c_STRING_BUCKET c_DOUBLE_BUCKET c_LONG_BUCKET hW h0 O0) 0 (by decide) (by decide) e6 (by decide) (by decide) (by rw [hml]; rfl) (lenOf pd__28_29Z rfl) rfl (rest := []) (by show 2 * 0 + _ ≤ _; exact Nat.le_of_eq rfl) (hb hby at_30) ?_
    intro v7 T7 L7 X7 hQ7
    obtain ⟨rfl, Nq7, e7⟩ := hQ7
    have N7 := Fr.app N6 Nq7
    show own_Go p e below Φ T7 (mkF m 33 #[.val (.int p0), .val (.int (2 : Int32)), .val (.ref c_DOUBLE), .val (.int (1 : Int32))] [(.int (1 : Int32))])
    refine own_k (T' := T7) (g' := (mkF m 34 #[.val (.int p0), .val (.int (2 : Int32)), .val (.ref c_DOUBLE), .val (.int (1 : Int32))] [(.int (1 : Int32)), (.int (1 : Int32))])) (fun _ k => XS.iloadN X7.here hx rfl (hb hby at_33) rfl  k) ?_
    refine own_k (T' := T7) (g' := (mkF m 37 #[.val (.int p0), .val (.int (2 : Int32)), .val (.ref c_DOUBLE), .val (.int (1 : Int32))] [])) (fun _ k => XS.icmpNo X7.here hx rfl (hb hby at_34) rfl ((teq (by decide : ((1 : Int32) = (1 : Int32)))).2) k) ?_
    refine own_k (T' := T7) (g' := (mkF m 38 #[.val (.int p0), .val (.int (2 : Int32)), .val (.ref c_DOUBLE), .val (.int (1 : Int32))] [(.int (1 : Int32))])) (fun _ k => XS.iconst X7.here hx rfl (hb hby at_37) k) ?_
    refine own_k (T' := T7) (g' := (mkF m 42 #[.val (.int p0), .val (.int (2 : Int32)), .val (.ref c_DOUBLE), .val (.int (1 : Int32))] [(.int (1 : Int32))])) (fun _ k => XS.goto X7.here hx rfl (pc0 := 38) (pc' := 42) rfl (hb hby at_38) (by decide) (by decide) k) ?_
    exact own_retN X7 hx (t := .boolean) hret (by simp) hlk (hb hby at_42) hF (⟨rfl, N7, trivial⟩) (by decide) (by decide)
  · refine own_k (T' := s₁) (g' := (mkF m 9 #[.val (.int p0), .val (.int (3 : Int32)), .unset, .unset] [(.int (3 : Int32))])) (fun _ k => XS.iloadN X0.here hx rfl (hb hby at_8) rfl  k) ?_
    refine own_callS X0 hx hZ (y := (⟨"com/example/tidefall/tidefall/query/TypeIsNumericPinLaw", "pick", "(I)Lcom/example/tidefall/tidefall/query/GroupExpression$Type;"⟩ : MethodName)) hown (hw _ (List.mem_of_getElem? (i := 1) rfl)) (hw _ (List.mem_of_getElem? (i := 2) rfl)) (hw _ (List.mem_of_getElem? (i := 3) rfl)) (hw _ (List.mem_of_getElem? (i := 4) rfl)) (by decide) (al := [(.int (3 : Int32))]) (rm_pick_6 l Z a0 c_STRING c_LONG c_DOUBLE c_STRING_BUCKET c_DOUBLE_BUCKET c_LONG_BUCKET hW h0 O0) 0 (by decide) (by decide) e0 (by decide) (by decide) (by rw [hml]; rfl) (lenOf pd__28I_29Lcom_2fexample_2ftidefall_2ftidefall_2fquery_2fGroupExpression_24Type_3b rfl) rfl (rest := []) (by show 2 * 0 + _ ≤ _; exact Nat.le_of_eq rfl) (hb hby at_9) ?_
    intro v8 T8 L8 X8 hQ8
    obtain ⟨rfl, Nq8, e8⟩ := hQ8
    have N8 := Fr.app N0 Nq8
    show own_Go p e below Φ T8 (mkF m 12 #[.val (.int p0), .val (.int (3 : Int32)), .unset, .unset] [(.ref c_STRING_BUCKET)])
    refine own_k (T' := T8) (g' := (mkF m 13 #[.val (.int p0), .val (.int (3 : Int32)), .val (.ref c_STRING_BUCKET), .unset] [])) (fun _ k => XS.astoreN X8.here hx rfl (hb hby at_12) rfl rfl (l' := #[.val (.int p0), .val (.int (3 : Int32)), .val (.ref c_STRING_BUCKET), .unset]) rfl k) ?_
    refine own_k (T' := T8) (g' := (mkF m 14 #[.val (.int p0), .val (.int (3 : Int32)), .val (.ref c_STRING_BUCKET), .unset] [(.int (3 : Int32))])) (fun _ k => XS.iloadN X8.here hx rfl (hb hby at_13) rfl  k) ?_
    refine own_k (T' := T8) (g' := (mkF m 15 #[.val (.int p0), .val (.int (3 : Int32)), .val (.ref c_STRING_BUCKET), .unset] [(.int (1 : Int32)), (.int (3 : Int32))])) (fun _ k => XS.iconst X8.here hx rfl (hb hby at_14) k) ?_
    refine own_k (T' := T8) (g' := (mkF m 18 #[.val (.int p0), .val (.int (3 : Int32)), .val (.ref c_STRING_BUCKET), .unset] [])) (fun _ k => XS.icmpNo X8.here hx rfl (hb hby at_15) rfl ((feq (by decide : ¬ ((3 : Int32) = (1 : Int32)))).1) k) ?_
    refine own_k (T' := T8) (g' := (mkF m 19 #[.val (.int p0), .val (.int (3 : Int32)), .val (.ref c_STRING_BUCKET), .unset] [(.int (3 : Int32))])) (fun _ k => XS.iloadN X8.here hx rfl (hb hby at_18) rfl  k) ?_
    refine own_k (T' := T8) (g' := (mkF m 20 #[.val (.int p0), .val (.int (3 : Int32)), .val (.ref c_STRING_BUCKET), .unset] [(.int (2 : Int32)), (.int (3 : Int32))])) (fun _ k => XS.iconst X8.here hx rfl (hb hby at_19) k) ?_
    refine own_k (T' := T8) (g' := (mkF m 27 #[.val (.int p0), .val (.int (3 : Int32)), .val (.ref c_STRING_BUCKET), .unset] [])) (fun _ k => XS.icmpYes X8.here hx rfl (pc0 := 20) (pc' := 27) rfl (hb hby at_20) rfl ((feq (by decide : ¬ ((3 : Int32) = (2 : Int32)))).2) (by decide) (by decide) k) ?_
    refine own_k (T' := T8) (g' := (mkF m 28 #[.val (.int p0), .val (.int (3 : Int32)), .val (.ref c_STRING_BUCKET), .unset] [(.int (0 : Int32))])) (fun _ k => XS.iconst X8.here hx rfl (hb hby at_27) k) ?_
    refine own_k (T' := T8) (g' := (mkF m 29 #[.val (.int p0), .val (.int (3 : Int32)), .val (.ref c_STRING_BUCKET), .val (.int (0 : Int32))] [])) (fun _ k => XS.istoreN X8.here hx rfl (hb hby at_28) rfl (l' := #[.val (.int p0), .val (.int (3 : Int32)), .val (.ref c_STRING_BUCKET), .val (.int (0 : Int32))]) rfl k) ?_
    refine own_k (T' := T8) (g' := (mkF m 30 #[.val (.int p0), .val (.int (3 : Int32)), .val (.ref c_STRING_BUCKET), .val (.int (0 : Int32))] [(.ref c_STRING_BUCKET)])) (fun _ k => XS.aloadN X8.here hx rfl (hb hby at_29) rfl rfl  k) ?_
    refine own_callV X8 hx hZ (C := "com/example/tidefall/tidefall/query/GroupExpression$Type") (y := (⟨"com/example/tidefall/tidefall/query/GroupExpression$Type", "isNumeric", "()Z"⟩ : MethodName)) (z := (⟨"com/example/tidefall/tidefall/query/GroupExpression$Type", "isNumeric", "()Z"⟩ : MethodName)) hown (hw _ (List.mem_of_getElem? (i := 8) rfl)) (hw _ (List.mem_of_getElem? (i := 9) rfl)) (notFace_of_selects (args := #[]) (mvT hZ (hw _ (List.mem_of_getElem? (i := 11) rfl)))) (hw _ (List.mem_of_getElem? (i := 11) rfl)) (hw _ (List.mem_of_getElem? (i := 10) rfl)) (hw _ (List.mem_of_getElem? (i := 12) rfl)) (hw _ (List.mem_of_getElem? (i := 6) rfl)) (by decide) (al := []) (E_c_STRING_BUCKET.ext O0) (rm_isNumeric_7 l Z a0 c_STRING c_LONG c_DOUBLE c_STRING_BUCKET c_DOUBLE_BUCKET c_LONG_BUCKET hW h0 O0) 0 (by decide) (by decide) e8 (by decide) (by decide) (by rw [hml]; rfl) (lenOf pd__28_29Z rfl) rfl (rest := []) (by show 2 * 0 + _ ≤ _; exact Nat.le_of_eq rfl) (hb hby at_30) ?_
    intro v9 T9 L9 X9 hQ9
    obtain ⟨rfl, Nq9, e9⟩ := hQ9
    have N9 := Fr.app N8 Nq9
    show own_Go p e below Φ T9 (mkF m 33 #[.val (.int p0), .val (.int (3 : Int32)), .val (.ref c_STRING_BUCKET), .val (.int (0 : Int32))] [(.int (0 : Int32))])
    refine own_k (T' := T9) (g' := (mkF m 34 #[.val (.int p0), .val (.int (3 : Int32)), .val (.ref c_STRING_BUCKET), .val (.int (0 : Int32))] [(.int (0 : Int32)), (.int (0 : Int32))])) (fun _ k => XS.iloadN X9.here hx rfl (hb hby at_33) rfl  k) ?_
    refine own_k (T' := T9) (g' := (mkF m 37 #[.val (.int p0), .val (.int (3 : Int32)), .val (.ref c_STRING_BUCKET), .val (.int (0 : Int32))] [])) (fun _ k => XS.icmpNo X9.here hx rfl (hb hby at_34) rfl ((teq (by decide : ((0 : Int32) = (0 : Int32)))).2) k) ?_
    refine own_k (T' := T9) (g' := (mkF m 38 #[.val (.int p0), .val (.int (3 : Int32)), .val (.ref c_STRING_BUCKET), .val (.int (0 : Int32))] [(.int (1 : Int32))])) (fun _ k => XS.iconst X9.here hx rfl (hb hby at_37) k) ?_
    refine own_k (T' := T9) (g' := (mkF m 42 #[.val (.int p0), .val (.int (3 : Int32)), .val (.ref c_STRING_BUCKET), .val (.int (0 : Int32))] [(.int (1 : Int32))])) (fun _ k => XS.goto X9.here hx rfl (pc0 := 38) (pc' := 42) rfl (hb hby at_38) (by decide) (by decide) k) ?_
    exact own_retN X9 hx (t := .boolean) hret (by simp) hlk (hb hby at_42) hF (⟨rfl, N9, trivial⟩) (by decide) (by decide)
  · refine own_k (T' := s₁) (g' := (mkF m 9 #[.val (.int p0), .val (.int (4 : Int32)), .unset, .unset] [(.int (4 : Int32))])) (fun _ k => XS.iloadN X0.here hx rfl (hb hby at_8) rfl  k) ?_
    refine own_callS X0 hx hZ (y := (⟨"com/example/tidefall/tidefall/query/TypeIsNumericPinLaw", "pick", "(I)Lcom/example/tidefall/tidefall/query/GroupExpression$Type;"⟩ : MethodName)) hown (hw _ (List.mem_of_getElem? (i := 1) rfl)) (hw _ (List.mem_of_getElem? (i := 2) rfl)) (hw _ (List.mem_of_getElem? (i := 3) rfl)) (hw _ (List.mem_of_getElem? (i := 4) rfl)) (by decide) (al := [(.int (4 : Int32))]) (rm_pick_8 l Z a0 c_STRING c_LONG c_DOUBLE c_STRING_BUCKET c_DOUBLE_BUCKET c_LONG_BUCKET hW h0 O0) 0 (by decide) (by decide) e0 (by decide) (by decide) (by rw [hml]; rfl) (lenOf pd__28I_29Lcom_2fexample_2ftidefall_2ftidefall_2fquery_2fGroupExpression_24Type_3b rfl) rfl (rest := []) (by show 2 * 0 + _ ≤ _; exact Nat.le_of_eq rfl) (hb hby at_9) ?_
    intro v10 T10 L10 X10 hQ10
    obtain ⟨rfl, Nq10, e10⟩ := hQ10
    have N10 := Fr.app N0 Nq10
    show own_Go p e below Φ T10 (mkF m 12 #[.val (.int p0), .val (.int (4 : Int32)), .unset, .unset] [(.ref c_LONG_BUCKET)])
    refine own_k (T' := T10) (g' := (mkF m 13 #[.val (.int p0), .val (.int (4 : Int32)), .val (.ref c_LONG_BUCKET), .unset] [])) (fun _ k => XS.astoreN X10.here hx rfl (hb hby at_12) rfl rfl (l' := #[.val (.int p0), .val (.int (4 : Int32)), .val (.ref c_LONG_BUCKET), .unset]) rfl k) ?_
    refine own_k (T' := T10) (g' := (mkF m 14 #[.val (.int p0), .val (.int (4 : Int32)), .val (.ref c_LONG_BUCKET), .unset] [(.int (4 : Int32))])) (fun _ k => XS.iloadN X10.here hx rfl (hb hby at_13) rfl  k) ?_
    refine own_k (T' := T10) (g' := (mkF m 15 #[.val (.int p0), .val (.int (4 : Int32)), .val (.ref c_LONG_BUCKET), .unset] [(.int (1 : Int32)), (.int (4 : Int32))])) (fun _ k => XS.iconst X10.here hx rfl (hb hby at_14) k) ?_
    refine own_k (T' := T10) (g' := (mkF m 18 #[.val (.int p0), .val (.int (4 : Int32)), .val (.ref c_LONG_BUCKET), .unset] [])) (fun _ k => XS.icmpNo X10.here hx rfl (hb hby at_15) rfl ((feq (by decide : ¬ ((4 : Int32) = (1 : Int32)))).1) k) ?_
    refine own_k (T' := T10) (g' := (mkF m 19 #[.val (.int p0), .val (.int (4 : Int32)), .val (.ref c_LONG_BUCKET), .unset] [(.int (4 : Int32))])) (fun _ k => XS.iloadN X10.here hx rfl (hb hby at_18) rfl  k) ?_
    refine own_k (T' := T10) (g' := (mkF m 20 #[.val (.int p0), .val (.int (4 : Int32)), .val (.ref c_LONG_BUCKET), .unset] [(.int (2 : Int32)), (.int (4 : Int32))])) (fun _ k => XS.iconst X10.here hx rfl (hb hby at_19) k) ?_
    refine own_k (T' := T10) (g' := (mkF m 27 #[.val (.int p0), .val (.int (4 : Int32)), .val (.ref c_LONG_BUCKET), .unset] [])) (fun _ k => XS.icmpYes X10.here hx rfl (pc0 := 20) (pc' := 27) rfl (hb hby at_20) rfl ((feq (by decide : ¬ ((4 : Int32) = (2 : Int32)))).2) (by decide) (by decide) k) ?_
    refine own_k (T' := T10) (g' := (mkF m 28 #[.val (.int p0), .val (.int (4 : Int32)), .val (.ref c_LONG_BUCKET), .unset] [(.int (0 : Int32))])) (fun _ k => XS.iconst X10.here hx rfl (hb hby at_27) k) ?_
    refine own_k (T' := T10) (g' := (mkF m 29 #[.val (.int p0), .val (.int (4 : Int32)), .val (.ref c_LONG_BUCKET), .val (.int (0 : Int32))] [])) (fun _ k => XS.istoreN X10.here hx rfl (hb hby at_28) rfl (l' := #[.val (.int p0), .val (.int (4 : Int32)), .val (.ref c_LONG_BUCKET), .val (.int (0 : Int32))]) rfl k) ?_
    refine own_k (T' := T10) (g' := (mkF m 30 #[.val (.int p0), .val (.int (4 : Int32)), .val (.ref c_LONG_BUCKET), .val (.int (0 : Int32))] [(.ref c_LONG_BUCKET)])) (fun _ k => XS.aloadN X10.here hx rfl (hb hby at_29) rfl rfl  k) ?_
    refine own_callV X10 hx hZ (C := "com/example/tidefall/tidefall/query/GroupExpression$Type") (y := (⟨"com/example/tidefall/tidefall/query/GroupExpression$Type", "isNumeric", "()Z"⟩ : MethodName)) (z := (⟨"com/example/tidefall/tidefall/query/GroupExpression$Type", "isNumeric", "()Z"⟩ : MethodName)) hown (hw _ (List.mem_of_getElem? (i := 8) rfl)) (hw _ (List.mem_of_getElem? (i := 9) rfl)) (notFace_of_selects (args := #[]) (mvT hZ (hw _ (List.mem_of_getElem? (i := 11) rfl)))) (hw _ (List.mem_of_getElem? (i := 11) rfl)) (hw _ (List.mem_of_getElem? (i := 10) rfl)) (hw _ (List.mem_of_getElem? (i := 12) rfl)) (hw _ (List.mem_of_getElem? (i := 6) rfl)) (by decide) (al := []) (E_c_LONG_BUCKET.ext O0) (rm_isNumeric_9 l Z a0 c_STRING c_LONG c_DOUBLE c_STRING_BUCKET c_DOUBLE_BUCKET c_LONG_BUCKET hW h0 O0) 0 (by decide) (by decide) e10 (by decide) (by decide) (by rw [hml]; rfl) (lenOf pd__28_29Z rfl) rfl (rest := []) (by show 2 * 0 + _ ≤ _; exact Nat.le_of_eq rfl) (hb hby at_30) ?_
    intro v11 T11 L11 X11 hQ11
    obtain ⟨rfl, Nq11, e11⟩ := hQ11
    have N11 := Fr.app N10 Nq11
    show own_Go p e below Φ T11 (mkF m 33 #[.val (.int p0), .val (.int (4 : Int32)), .val (.ref c_LONG_BUCKET), .val (.int (0 : Int32))] [(.int (0 : Int32))])
    refine own_k (T' := T11) (g' := (mkF m 34 #[.val (.int p0), .val (.int (4 : Int32)), .val (.ref c_LONG_BUCKET), .val (.int (0 : Int32))] [(.int (0 : Int32)), (.int (0 : Int32))])) (fun _ k => XS.iloadN X11.here hx rfl (hb hby at_33) rfl  k) ?_
    refine own_k (T' := T11) (g' := (mkF m 37 #[.val (.int p0), .val (.int (4 : Int32)), .val (.ref c_LONG_BUCKET), .val (.int (0 : Int32))] [])) (fun _ k => XS.icmpNo X11.here hx rfl (hb hby at_34) rfl ((teq (by decide : ((0 : Int32) = (0 : Int32)))).2) k) ?_
    refine own_k (T' := T11) (g' := (mkF m 38 #[.val (.int p0), .val (.int (4 : Int32)), .val (.ref c_LONG_BUCKET), .val (.int (0 : Int32))] [(.int (1 : Int32))])) (fun _ k => XS.iconst X11.here hx rfl (hb hby at_37) k) ?_
    refine own_k (T' := T11) (g' := (mkF m 42 #[.val (.int p0), .val (.int (4 : Int32)), .val (.ref c_LONG_BUCKET), .val (.int (0 : Int32))] [(.int (1 : Int32))])) (fun _ k => XS.goto X11.here hx rfl (pc0 := 38) (pc' := 42) rfl (hb hby at_38) (by decide) (by decide) k) ?_
    exact own_retN X11 hx (t := .boolean) hret (by simp) hlk (hb hby at_42) hF (⟨rfl, N11, trivial⟩) (by decide) (by decide)
  · refine own_k (T' := s₁) (g' := (mkF m 9 #[.val (.int p0), .val (.int (5 : Int32)), .unset, .unset] [(.int (5 : Int32))])) (fun _ k => XS.iloadN X0.here hx rfl (hb hby at_8) rfl  k) ?_
    refine own_callS X0 hx hZ (y := (⟨"com/example/tidefall/tidefall/query/TypeIsNumericPinLaw", "pick", "(I)Lcom/example/tidefall/tidefall/query/GroupExpression$Type;"⟩ : MethodName)) hown (hw _ (List.mem_of_getElem? (i := 1) rfl)) (hw _ (List.mem_of_getElem? (i := 2) rfl)) (hw _ (List.mem_of_getElem? (i := 3) rfl)) (hw _ (List.mem_of_getElem? (i := 4) rfl)) (by decide) (al := [(.int (5 : Int32))]) (rm_pick_10 l Z a0 c_STRING c_LONG c_DOUBLE c_STRING_BUCKET c_DOUBLE_BUCKET c_LONG_BUCKET hW h0 O0) 0 (by decide) (by decide) e0 (by decide) (by decide) (by rw [hml]; rfl) (lenOf pd__28I_29Lcom_2fexample_2ftidefall_2ftidefall_2fquery_2fGroupExpression_24Type_3b rfl) rfl (rest := []) (by show 2 * 0 + _ ≤ _; exact Nat.le_of_eq rfl) (hb hby at_9) ?_
    intro v12 T12 L12 X12 hQ12
    obtain ⟨rfl, Nq12, e12⟩ := hQ12
    have N12 := Fr.app N0 Nq12
    show own_Go p e below Φ T12 (mkF m 12 #[.val (.int p0), .val (.int (5 : Int32)), .unset, .unset] [(.ref c_DOUBLE_BUCKET)])
    refine own_k (T' := T12) (g' := (mkF m 13 #[.val (.int p0), .val (.int (5 : Int32)), .val (.ref c_DOUBLE_BUCKET), .unset] [])) (fun _ k => XS.astoreN X12.here hx rfl (hb hby at_12) rfl rfl (l' := #[.val (.int p0), .val (.int (5 : Int32)), .val (.ref c_DOUBLE_BUCKET), .unset]) rfl k) ?_
    refine own_k (T' := T12) (g' := (mkF m 14 #[.val (.int p0), .val (.int (5 : Int32)), .val (.ref c_DOUBLE_BUCKET), .unset] [(.int (5 : Int32))])) (fun _ k => XS.iloadN X12.here hx rfl (hb hby at_13) rfl  k) ?_
    refine own_k (T' := T12) (g' := (mkF m 15 #[.val (.int p0), .val (.int (5 : Int32)), .val (.ref c_DOUBLE_BUCKET), .unset] [(.int (1 : Int32)), (.int (5 : Int32))])) (fun _ k => XS.iconst X12.here hx rfl (hb hby at_14) k) ?_
    refine own_k (T' := T12) (g' := (mkF m 18 #[.val (.int p0), .val (.int (5 : Int32)), .val (.ref c_DOUBLE_BUCKET), .unset] [])) (fun _ k => XS.icmpNo X12.here hx rfl (hb hby at_15) rfl ((feq (by decide : ¬ ((5 : Int32) = (1 : Int32)))).1) k) ?_
    refine own_k (T' := T12) (g' := (mkF m 19 #[.val (.int p0), .val (.int (5 : Int32)), .val (.ref c_DOUBLE_BUCKET), .unset] [(.int (5 : Int32))])) (fun _ k => XS.iloadN X12.here hx rfl (hb hby at_18) rfl  k) ?_
    refine own_k (T' := T12) (g' := (mkF m 20 #[.val (.int p0), .val (.int (5 : Int32)), .val (.ref c_DOUBLE_BUCKET), .unset] [(.int (2 : Int32)), (.int (5 : Int32))])) (fun _ k => XS.iconst X12.here hx rfl (hb hby at_19) k) ?_
    refine own_k (T' := T12) (g' := (mkF m 27 #[.val (.int p0), .val (.int (5 : Int32)), .val (.ref c_DOUBLE_BUCKET), .unset] [])) (fun _ k => XS.icmpYes X12.here hx rfl (pc0 := 20) (pc' := 27) rfl (hb hby at_20) rfl ((feq (by decide : ¬ ((5 : Int32) = (2 : Int32)))).2) (by decide) (by decide) k) ?_
    refine own_k (T' := T12) (g' := (mkF m 28 #[.val (.int p0), .val (.int (5 : Int32)), .val (.ref c_DOUBLE_BUCKET), .unset] [(.int (0 : Int32))])) (fun _ k => XS.iconst X12.here hx rfl (hb hby at_27) k) ?_
    refine own_k (T' := T12) (g' := (mkF m 29 #[.val (.int p0), .val (.int (5 : Int32)), .val (.ref c_DOUBLE_BUCKET), .val (.int (0 : Int32))] [])) (fun _ k => XS.istoreN X12.here hx rfl (hb hby at_28) rfl (l' := #[.val (.int p0), .val (.int (5 : Int32)), .val (.ref c_DOUBLE_BUCKET), .val (.int (0 : Int32))]) rfl k) ?_
    refine own_k (T' := T12) (g' := (mkF m 30 #[.val (.int p0), .val (.int (5 : Int32)), .val (.ref c_DOUBLE_BUCKET), .val (.int (0 : Int32))] [(.ref c_DOUBLE_BUCKET)])) (fun _ k => XS.aloadN X12.here hx rfl (hb hby at_29) rfl rfl  k) ?_
    refine own_callV X12 hx hZ (C := "com/example/tidefall/tidefall/query/GroupExpression$Type") (y := (⟨"com/example/tidefall/tidefall/query/GroupExpression$Type", "isNumeric", "()Z"⟩ : MethodName)) (z := (⟨"com/example/tidefall/tidefall/query/GroupExpression$Type", "isNumeric", "()Z"⟩ : MethodName)) hown (hw _ (List.mem_of_getElem? (i := 8) rfl)) (hw _ (List.mem_of_getElem? (i := 9) rfl)) (notFace_of_selects (args := #[]) (mvT hZ (hw _ (List.mem_of_getElem? (i := 11) rfl)))) (hw _ (List.mem_of_getElem? (i := 11) rfl)) (hw _ (List.mem_of_getElem? (i := 10) rfl)) (hw _ (List.mem_of_getElem? (i := 12) rfl)) (hw _ (List.mem_of_getElem? (i := 6) rfl)) (by decide) (al := []) (E_c_DOUBLE_BUCKET.ext O0) (rm_isNumeric_11 l Z a0 c_STRING c_LONG c_DOUBLE c_STRING_BUCKET c_DOUBLE_BUCKET c_LONG_BUCKET hW h0 O0) 0 (by decide) (by decide) e12 (by decide) (by decide) (by rw [hml]; rfl) (lenOf pd__28_29Z rfl) rfl (rest := []) (by show 2 * 0 + _ ≤ _; exact Nat.le_of_eq rfl) (hb hby at_30) ?_
    intro v13 T13 L13 X13 hQ13
    obtain ⟨rfl, Nq13, e13⟩ := hQ13
    have N13 := Fr.app N12 Nq13
    show own_Go p e below Φ T13 (mkF m 33 #[.val (.int p0), .val (.int (5 : Int32)), .val (.ref c_DOUBLE_BUCKET), .val (.int (0 : Int32))] [(.int (0 : Int32))])
    refine own_k (T' := T13) (g' := (mkF m 34 #[.val (.int p0), .val (.int (5 : Int32)), .val (.ref c_DOUBLE_BUCKET), .val (.int (0 : Int32))] [(.int (0 : Int32)), (.int (0 : Int32))])) (fun _ k => XS.iloadN X13.here hx rfl (hb hby at_33) rfl  k) ?_
    refine own_k (T' := T13) (g' := (mkF m 37 #[.val (.int p0), .val (.int (5 : Int32)), .val (.ref c_DOUBLE_BUCKET), .val (.int (0 : Int32))] [])) (fun _ k => XS.icmpNo X13.here hx rfl (hb hby at_34) rfl ((teq (by decide : ((0 : Int32) = (0 : Int32)))).2) k) ?_
    refine own_k (T' := T13) (g' := (mkF m 38 #[.val (.int p0), .val (.int (5 : Int32)), .val (.ref c_DOUBLE_BUCKET), .val (.int (0 : Int32))] [(.int (1 : Int32))])) (fun _ k => XS.iconst X13.here hx rfl (hb hby at_37) k) ?_
    refine own_k (T' := T13) (g' := (mkF m 42 #[.val (.int p0), .val (.int (5 : Int32)), .val (.ref c_DOUBLE_BUCKET), .val (.int (0 : Int32))] [(.int (1 : Int32))])) (fun _ k => XS.goto X13.here hx rfl (pc0 := 38) (pc' := 42) rfl (hb hby at_38) (by decide) (by decide) k) ?_
    exact own_retN X13 hx (t := .boolean) hret (by simp) hlk (hb hby at_42) hF (⟨rfl, N13, trivial⟩) (by decide) (by decide)
set_option maxRecDepth 65536 in
set_option maxHeartbeats 40000000 in
theorem comes_1 {Post : Tables → Env → Array Value → State → Outcome → State → Prop} (hpost : ∀ tb e args s v u, (limb_1_1.after args s (.returned v) u = true ∧ limb_1_2.after args s (.returned v) u = true ∧ True) → FrameEnd s (.returned v) u (Jvm.fieldLocs frame_1_writes args s ++ Jvm.arrayLocs frame_1_arrays args s ++ Jvm.staticLocs frame_1_statics s) 0 0 → Post tb e args s (.returned v) u) :
    ArmFor flags0 classFile x code maxLocals ret World_1 tables_1 room_1 Calls_1 rest_1 Pre_1 Post := by
  intro l hfl _ _ p e ha hc hk s m args below hf hA hF happ hP
  obtain ⟨hcalls, hrest, hpre⟩ := hP
  obtain ⟨-, -, -, hnamed, -, -, -, hat⟩ := (Spec.applies_iff hf).mp happ
  obtain ⟨hg, hn⟩ := and_e (Cond.before_iff.mp (show (Jvm.Cond.and given_1 narrow_1).before args s = true from hpre))
  obtain ⟨g1, g2⟩ := and_e hg
  obtain ⟨w0, rfl⟩ : ∃ w0 : Value, args = #[w0] := by
    have hs : args.size = 1 := by simpa [Cond.value, given_1] using g1
    obtain ⟨L⟩ := args
    match L, hs with
    | [w0], _ => exact ⟨w0, rfl⟩
  have hw := fun d (hd : d ∈ tables_1) => atoms_spec (ws := Jvm.Cond.code x code maxLocals ret :: tables_1) hat d (List.mem_cons_of_mem _ hd)
  obtain ⟨i0, ei0⟩ := is_v g2
  obtain rfl : w0 = (.int i0) := Option.some.inj ei0
  obtain ⟨n1, n2⟩ := and_e hn
  obtain ⟨n3, n4⟩ := and_e n2
  obtain ⟨n5, n6⟩ := and_e n4
  obtain ⟨n7, n8⟩ := and_e n6
  obtain ⟨n9, n10⟩ := and_e n8
  obtain ⟨n11, n12⟩ := and_e n10
  obtain ⟨n13, n14⟩ := and_e n12
  obtain ⟨n15, n16⟩ := and_e n14
  obtain ⟨n17, n18⟩ := and_e n16
  obtain ⟨n19, n20⟩ := and_e n18
  obtain ⟨n21, n22⟩ := and_e n20
  obtain ⟨c_STRING, ev_c_STRING⟩ := exa_v n1
  have E_c_STRING := Exa.start ev_c_STRING n1
  have S_c_STRING := Sta.start ev_c_STRING (Or.inr ⟨(hw _ (List.mem_of_getElem? (i := 6) rfl)), (hw _ (List.mem_of_getElem? (i := 7) rfl))⟩)
  obtain ⟨c_LONG, ev_c_LONG⟩ := exa_v n3
  have E_c_LONG := Exa.start ev_c_LONG n3
  have S_c_LONG := Sta.start ev_c_LONG (Or.inr ⟨(hw _ (List.mem_of_getElem? (i := 6) rfl)), (hw _ (List.mem_of_getElem? (i := 14) rfl))⟩)
  obtain ⟨c_DOUBLE, ev_c_DOUBLE⟩ := exa_v n9
  have E_c_DOUBLE := Exa.start ev_c_DOUBLE n9
  have S_c_DOUBLE := Sta.start ev_c_DOUBLE (Or.inr ⟨(hw _ (List.mem_of_getElem? (i := 6) rfl)), (hw _ (List.mem_of_getElem? (i := 16) rfl))⟩)
  obtain ⟨c_STRING_BUCKET, ev_c_STRING_BUCKET⟩ := exa_v n13
  have E_c_STRING_BUCKET := Exa.start ev_c_STRING_BUCKET n13
  have S_c_STRING_BUCKET := Sta.start ev_c_STRING_BUCKET (Or.inr ⟨(hw _ (List.mem_of_getElem? (i := 6) rfl)), (hw _ (List.mem_of_getElem? (i := 18) rfl))⟩)
  obtain ⟨c_DOUBLE_BUCKET, ev_c_DOUBLE_BUCKET⟩ := exa_v n17
  have E_c_DOUBLE_BUCKET := Exa.start ev_c_DOUBLE_BUCKET n17
  have S_c_DOUBLE_BUCKET := Sta.start ev_c_DOUBLE_BUCKET (Or.inr ⟨(hw _ (List.mem_of_getElem? (i := 6) rfl)), (hw _ (List.mem_of_getElem? (i := 22) rfl))⟩)
  obtain ⟨c_LONG_BUCKET, ev_c_LONG_BUCKET⟩ := exa_v n21
  have E_c_LONG_BUCKET := Exa.start ev_c_LONG_BUCKET n21
  have S_c_LONG_BUCKET := Sta.start ev_c_LONG_BUCKET (Or.inr ⟨(hw _ (List.mem_of_getElem? (i := 6) rfl)), (hw _ (List.mem_of_getElem? (i := 24) rfl))⟩)
  have F_c_STRING_ordinal := own_fldI ev_c_STRING n5
  have F_c_LONG_ordinal := own_fldI ev_c_LONG n7
  have F_c_DOUBLE_ordinal := own_fldI ev_c_DOUBLE n11
  have F_c_STRING_BUCKET_ordinal := own_fldI ev_c_STRING_BUCKET n15
  have F_c_DOUBLE_BUCKET_ordinal := own_fldI ev_c_DOUBLE_BUCKET n19
  have F_c_LONG_BUCKET_ordinal := own_fldI ev_c_LONG_BUCKET n22
  obtain ⟨n, o, h1, h2, h3, _, L, rfl, ⟨rfl, N, -⟩, hq⟩ := own_law l s _ c_STRING c_LONG c_DOUBLE c_STRING_BUCKET c_DOUBLE_BUCKET c_LONG_BUCKET ⟨hw, S_c_STRING, E_c_STRING, S_c_LONG, E_c_LONG, S_c_DOUBLE, E_c_DOUBLE, S_c_STRING_BUCKET, E_c_STRING_BUCKET, S_c_DOUBLE_BUCKET, E_c_DOUBLE_BUCKET, S_c_LONG_BUCKET, E_c_LONG_BUCKET, F_c_STRING_ordinal, F_c_LONG_ordinal, F_c_DOUBLE_ordinal, F_c_STRING_BUCKET_ordinal, F_c_DOUBLE_BUCKET_ordinal, F_c_LONG_BUCKET_ordinal⟩ i0 s.heap ⟨Nat.le_refl _, fun _ _ q => q⟩  tables_1 p e ha hc hk s m _ below hf ((Spec.applies_iff_loose hf).mp happ).1 ⟨rfl, State.Warmed39.refl s, rfl⟩ trivial
  refine ⟨n, _, h1, h2, h3, hpost _ _ _ _ _ _ ⟨Cond.after_iff.mpr rfl, Cond.after_iff.mpr (eq_i res_at (Term.int_eval (1)) rfl), trivial⟩ ⟨hq.1, hq.2.1, (hq.2.2.sift fun y hy => Or.inr (N y hy)).mono (by decide) (by decide)⟩⟩
theorem main_1_1 : Claimed_1_1 := comes_1 fun _ _ _ _ _ _ h hF => ⟨h.1, hF⟩
theorem main_1_2 : Claimed_1_2 := comes_1 fun _ _ _ _ _ _ h hF => ⟨h.2.1, hF⟩
end Jvm.Pilot.@@N@@
namespace Jvm.Pilot.@@N@@
open Jvm Jvm.ClassFile Sem Op Lib Jvm.Free Jvm.Stand Jvm.Pilot.@@N@@.Jvm.D
/-! MADE BY PROGRAM (witnessworld.py) out of the Statement's table words and the real class files: 12 classes; the members and pool entries that the words name. The judged class is class 1, her method 2. -/
namespace start1
open Jvm.ClassFile
def u (s : String) : CpInfo := .utf8 (stringToUtf16 s)
/-- a pool by its gaps: so many unusable entries, then the entry; so many at the end -/
def gap : Nat → List CpInfo → List CpInfo
  | 0, r => r
  | n + 1, r => .unusable :: gap n r
def poolList (es : List (Nat × CpInfo)) (last : Nat) : List CpInfo := es.foldr (fun e r => gap e.1 (e.2 :: r)) (gap last [])
def pool (es : List (Nat × CpInfo)) (last : Nat) : Array CpInfo := ⟨poolList es last⟩
def fileOf (pool : Array CpInfo) (this : Nat) (attrs : Array Attribute := #[]) (ms : Array MethodInfo := #[]) (fl : Nat := 33) (sup : Nat := 0) (ifs : Array Nat := #[]) (fds : Array FieldInfo := #[]) : ClassFile where
  minorVersion := 0
  majorVersion := 65
  constantPool := pool
  accessFlags := fl
  thisClass := this
  superClass := sup
  interfaces := ifs
  fields := fds
  methods := ms
  attributes := attrs
def plain (name : String) (sup : Option ClassId) : Class where
  name := name
  kind := .ordinary
  loader := none
  accessFlags := 33
  super := sup
  interfaces := #[]
  cf := none
  fields := #[]
  methods := #[]
  instanceTypes := #[]
  staticTypes := #[]
  resolved := #[]
  callSites := []
  init := .initialized
  statics := none
  mirror := none

def pool0 : Array CpInfo := pool [(5, u "<init>"), (0, u "()V"), (1, .class_ 10), (1, u "java/lang/Object")] 113

def k0m0 : Method := { name := "<init>", desc := "()V", sig := { parameters := [], returnType := none }, accessFlags := 1, code := none }
/-- java/lang/Object -/
def k0 : Class := { plain "java/lang/Object" none with
  accessFlags := 33
  interfaces := #[]
  cf := some (fileOf pool0 8 #[] #[{ accessFlags := 1, nameIndex := 5, descriptorIndex := 6, attributes := #[] }] 33 0 #[] #[])
  fields := #[]
  methods := #[k0m0]
  instanceTypes := #[]
  staticTypes := #[]
  resolved := Array.replicate 124 none
  statics := none }

def pool1 : Array CpInfo := pool [(2, .class_ 4), (1, u "java/lang/Object"), (0, u "<init>"), (0, u "()V"), (0, .fieldref 8 9), (0, .class_ 10), (0, .nameAndType 11 12), (0, u "com/example/tidefall/tidefall/query/GroupExpression$Type"), (0, u "STRING"), (0, u "Lcom/example/tidefall/tidefall/query/GroupExpression$Type;"), (0, .fieldref 8 14), (0, .nameAndType 15 12), (0, u "LONG"), (0, .fieldref 8 17), (0, .nameAndType 18 12), (0, u "DOUBLE"), (0, .fieldref 8 20), (0, .nameAndType 21 12), (0, u "STRING_BUCKET"), (0, .fieldref 8 23), (0, .nameAndType 24 12), (0, u "LONG_BUCKET"), (0, .fieldref 8 26), (0, .nameAndType 27 12), (0, u "DOUBLE_BUCKET"), (0, .integer 2147483647), (0, .methodref 30 31), (0, .class_ 32), (0, .nameAndType 33 34), (0, u "com/example/tidefall/tidefall/query/TypeIsNumericPinLaw"), (0, u "pick"), (0, u "(I)Lcom/example/tidefall/tidefall/query/GroupExpression$Type;"), (0, .methodref 8 36), (0, .nameAndType 37 38), (0, u "isNumeric"), (0, u "()Z"), (3, u "law"), (0, u "(I)Z")] 6

def k1m0 : Method := { name := "<init>", desc := "()V", sig := { parameters := [], returnType := none }, accessFlags := 1, code := none }
def k1c1 : Code := { maxStack := 2, maxLocals := 1, code := method_2_code, exceptionTable := #[], attributes := #[] }
def k1m1 : Method := { name := "pick", desc := "(I)Lcom/example/tidefall/tidefall/query/GroupExpression$Type;", sig := { parameters := [.int], returnType := some (.object "com/example/tidefall/tidefall/query/GroupExpression$Type") }, accessFlags := 10, code := some k1c1 }
def k1c2 : Code := { maxStack := 2, maxLocals := 4, code := code, exceptionTable := #[], attributes := #[] }
def k1m2 : Method := { name := "law", desc := "(I)Z", sig := { parameters := [.int], returnType := some .boolean }, accessFlags := 9, code := some k1c2 }
/-- com/example/tidefall/tidefall/query/TypeIsNumericPinLaw -/
def k1 : Class := { plain "com/example/tidefall/tidefall/query/TypeIsNumericPinLaw" (some 0) with
  accessFlags := 49
  interfaces := #[]
  cf := some (fileOf pool1 30 #[] #[{ accessFlags := 1, nameIndex := 5, descriptorIndex := 6, attributes := #[] }, { accessFlags := 10, nameIndex := 33, descriptorIndex := 34, attributes := #[] }, { accessFlags := 9, nameIndex := 42, descriptorIndex := 43, attributes := #[] }] 49 2 #[] #[])
  fields := #[]
  methods := #[k1m0, k1m1, k1m2]
  instanceTypes := #[]
  staticTypes := #[]
  resolved := Array.replicate 50 none
  statics := none }

def pool2 : Array CpInfo := pool [(1, .class_ 2), (0, u "java/lang/constant/Constable"), (0, .class_ 4), (0, u "java/lang/Object")] 6

/-- java/lang/constant/Constable -/
def k2 : Class := { plain "java/lang/constant/Constable" (some 0) with
  accessFlags := 1537
  interfaces := #[]
  cf := some (fileOf pool2 1 #[] #[] 1537 3 #[] #[])
  fields := #[]
  methods := #[]
  instanceTypes := #[]
  staticTypes := #[]
  resolved := Array.replicate 11 none
  statics := none }

def pool3 : Array CpInfo := pool [(1, .class_ 2), (0, u "java/lang/Comparable"), (0, .class_ 4), (0, u "java/lang/Object")] 7

/-- java/lang/Comparable -/
def k3 : Class := { plain "java/lang/Comparable" (some 0) with
  accessFlags := 1537
  interfaces := #[]
  cf := some (fileOf pool3 1 #[] #[] 1537 3 #[] #[])
  fields := #[]
  methods := #[]
  instanceTypes := #[]
  staticTypes := #[]
  resolved := Array.replicate 12 none
  statics := none }

def pool4 : Array CpInfo := pool [(1, .class_ 2), (0, u "java/io/Serializable"), (0, .class_ 4), (0, u "java/lang/Object")] 2

/-- java/io/Serializable -/
def k4 : Class := { plain "java/io/Serializable" (some 0) with
  accessFlags := 1537
  interfaces := #[]
  cf := some (fileOf pool4 1 #[] #[] 1537 3 #[] #[])
  fields := #[]
  methods := #[]
  instanceTypes := #[]
  staticTypes := #[]
  resolved := Array.replicate 7 none
  statics := none }

def pool5 : Array CpInfo := pool [(2, .class_ 4), (1, u "java/lang/Enum"), (0, u "name"), (0, u "Ljava/lang/String;"), (2, u "ordinal"), (0, u "I"), (1, .class_ 14), (1, u "java/lang/Object"), (4, u "hash"), (86, .class_ 108), (1, u "java/lang/Enum$EnumDesc"), (2, .class_ 112), (0, u "java/lang/constant/Constable"), (0, .class_ 114), (0, u "java/lang/Comparable"), (0, .class_ 116), (0, u "java/io/Serializable")] 87

/-- java/lang/Enum -/
def k5 : Class := { plain "java/lang/Enum" (some 0) with
  accessFlags := 1057
  interfaces := #[2, 3, 4]
  cf := some (fileOf pool5 2 #[.nestMembers #[106]] #[] 1057 12 #[111, 113, 115] #[{ accessFlags := 18, nameIndex := 5, descriptorIndex := 6, attributes := #[] }, { accessFlags := 18, nameIndex := 9, descriptorIndex := 10, attributes := #[] }, { accessFlags := 2, nameIndex := 19, descriptorIndex := 10, attributes := #[] }])
  fields := #[{ name := "name", type := (.object "java/lang/String"), accessFlags := 18, slot := 0, constantValue := 0 }, { name := "ordinal", type := .int, accessFlags := 18, slot := 1, constantValue := 0 }, { name := "hash", type := .int, accessFlags := 2, slot := 2, constantValue := 0 }]
  methods := #[]
  instanceTypes := #[(.object "java/lang/String"), .int, .int]
  staticTypes := #[]
  resolved := Array.replicate 204 none
  statics := none }

def pool6 : Array CpInfo := pool [(1, .class_ 2), (0, u "com/example/tidefall/tidefall/query/GroupExpression$Type"), (2, u "STRING"), (0, u "Lcom/example/tidefall/tidefall/query/GroupExpression$Type;"), (0, .fieldref 1 8), (0, .nameAndType 9 6), (0, u "LONG"), (0, .fieldref 1 11), (0, .nameAndType 12 6), (0, u "DOUBLE"), (2, u "STRING_BUCKET"), (2, u "LONG_BUCKET"), (2, u "DOUBLE_BUCKET"), (2, u "$VALUES"), (0, u "[Lcom/example/tidefall/tidefall/query/GroupExpression$Type;"), (6, .class_ 34), (1, u "java/lang/Enum"), (8, u "name"), (0, u "Ljava/lang/String;"), (2, u "limits"), (82, u "isNumeric"), (0, u "()Z"), (16, .class_ 149), (0, u "com/example/tidefall/tidefall/query/GroupExpression")] 34

def k6c0 : Code := { maxStack := 2, maxLocals := 1, code := prog_32_method_4_code, exceptionTable := #[], attributes := #[] }
def k6m0 : Method := { name := "isNumeric", desc := "()Z", sig := { parameters := [], returnType := some .boolean }, accessFlags := 1, code := some k6c0 }
/-- com/example/tidefall/tidefall/query/GroupExpression$Type -/
def k6 : Class := { plain "com/example/tidefall/tidefall/query/GroupExpression$Type" (some 5) with
  accessFlags := 16433
  interfaces := #[]
  cf := some (fileOf pool6 1 #[.nestHost 148] #[{ accessFlags := 1, nameIndex := 130, descriptorIndex := 131, attributes := #[] }] 16433 32 #[] #[{ accessFlags := 16409, nameIndex := 5, descriptorIndex := 6, attributes := #[] }, { accessFlags := 16409, nameIndex := 9, descriptorIndex := 6, attributes := #[] }, { accessFlags := 16409, nameIndex := 12, descriptorIndex := 6, attributes := #[] }, { accessFlags := 16409, nameIndex := 15, descriptorIndex := 6, attributes := #[] }, { accessFlags := 16409, nameIndex := 18, descriptorIndex := 6, attributes := #[] }, { accessFlags := 16409, nameIndex := 21, descriptorIndex := 6, attributes := #[] }, { accessFlags := 18, nameIndex := 43, descriptorIndex := 44, attributes := #[] }, { accessFlags := 18, nameIndex := 47, descriptorIndex := 6, attributes := #[] }, { accessFlags := 4122, nameIndex := 24, descriptorIndex := 25, attributes := #[] }])
  fields := #[{ name := "STRING", type := (.object "com/example/tidefall/tidefall/query/GroupExpression$Type"), accessFlags := 16409, slot := 0, constantValue := 0 }, { name := "LONG", type := (.object "com/example/tidefall/tidefall/query/GroupExpression$Type"), accessFlags := 16409, slot := 1, constantValue := 0 }, { name := "DOUBLE", type := (.object "com/example/tidefall/tidefall/query/GroupExpression$Type"), accessFlags := 16409, slot := 2, constantValue := 0 }, { name := "STRING_BUCKET", type := (.object "com/example/tidefall/tidefall/query/GroupExpression$Type"), accessFlags := 16409, slot := 3, constantValue := 0 }, { name := "LONG_BUCKET", type := (.object "com/example/tidefall/tidefall/query/GroupExpression$Type"), accessFlags := 16409, slot := 4, constantValue := 0 }, { name := "DOUBLE_BUCKET", type := (.object "com/example/tidefall/tidefall/query/GroupExpression$Type"), accessFlags := 16409, slot := 5, constantValue := 0 }, { name := "name", type := (.object "java/lang/String"), accessFlags := 18, slot := 3, constantValue := 0 }, { name := "limits", type := (.object "com/example/tidefall/tidefall/query/GroupExpression$Type"), accessFlags := 18, slot := 4, constantValue := 0 }, { name := "$VALUES", type := (.array (.object "com/example/tidefall/tidefall/query/GroupExpression$Type")), accessFlags := 4122, slot := 6, constantValue := 0 }]
  methods := #[k6m0]
  instanceTypes := #[(.object "java/lang/String"), .int, .int, (.object "java/lang/String"), (.object "com/example/tidefall/tidefall/query/GroupExpression$Type")]
  staticTypes := #[(.object "com/example/tidefall/tidefall/query/GroupExpression$Type"), (.object "com/example/tidefall/tidefall/query/GroupExpression$Type"), (.object "com/example/tidefall/tidefall/query/GroupExpression$Type"), (.object "com/example/tidefall/tidefall/query/GroupExpression$Type"), (.object "com/example/tidefall/tidefall/query/GroupExpression$Type"), (.object "com/example/tidefall/tidefall/query/GroupExpression$Type"), (.array (.object "com/example/tidefall/tidefall/query/GroupExpression$Type"))]
  resolved := Array.replicate 184 none
  statics := some 0 }

def pool7 : Array CpInfo := pool [(1, u "java/lang/Cloneable"), (0, .class_ 1), (0, u "java/lang/Object"), (0, .class_ 3)] 3

/-- java/lang/Cloneable -/
def k7 : Class := { plain "java/lang/Cloneable" (some 0) with
  accessFlags := 1537
  interfaces := #[]
  cf := some (fileOf pool7 2 #[] #[] 1537 4 #[] #[])
  fields := #[]
  methods := #[]
  instanceTypes := #[]
  staticTypes := #[]
  resolved := Array.replicate 8 none
  statics := none }

/-- the primitive byte -/
def k8 : Class := { plain "byte" none with kind := .primitive 'B', accessFlags := 0x411 }
/-- [B -/
def k9 : Class := { plain "[B" (some 0) with kind := .array 8 .byte, interfaces := #[7, 4], accessFlags := 1041 }

/-- the primitive int -/
def k10 : Class := { plain "int" none with kind := .primitive 'I', accessFlags := 0x411 }
/-- [I -/
def k11 : Class := { plain "[I" (some 0) with kind := .array 10 .int, interfaces := #[7, 4], accessFlags := 1041 }

def heap : Heap := #[{ cls := 6, slots := #[.ref 1, .ref 2, .ref 3, .ref 4, .ref 6, .ref 5, .null], vm := .statics 6 },
  { cls := 6, slots := #[.null, .int 0, .int 0, .null, .null], vm := .none },
  { cls := 6, slots := #[.null, .int 1, .int 0, .null, .null], vm := .none },
  { cls := 6, slots := #[.null, .int 2, .int 0, .null, .null], vm := .none },
  { cls := 6, slots := #[.null, .int 3, .int 0, .null, .null], vm := .none },
  { cls := 6, slots := #[.null, .int 5, .int 0, .null, .null], vm := .none },
  { cls := 6, slots := #[.null, .int 4, .int 0, .null, .null], vm := .none }]
def classes : Array Class := #[k0, k1, k2, k3, k4, k5, k6, k7, k8, k9, k10, k11]
def interned : List (Array UInt16 × Addr) := []
def slotsUsed : Nat := 37
def theMethod : MethodId := ⟨1, 2⟩
def args0 : Array Value := #[.int 5]
def aboutOver (below : List Frame) : State where
  vm := { classes := classes, interned := interned.toArray }
  heap := heap
  slotsUsed := slotsUsed
  threads := #[{ frames := .invoking theMethod args0 :: below }]
def below0 : List Frame := [.native { method := ⟨0, 0⟩, args := #[] }]
def about1 : State := aboutOver below0
def p0 : Program := .bare "" "" ""
def e0 : Env := launch0.env 0 0 0
theorem w_frames : about1.frames = Frame.invoking theMethod args0 :: below0 := rfl
set_option maxRecDepth 65536 in
theorem w_args : argsFit about1.vm theMethod args0 = true := by decide +kernel
set_option maxRecDepth 65536 in
theorem w_heap : heapFits about1 = true := by decide +kernel
set_option maxRecDepth 65536 in
theorem w_runnable : about1.curStatus? = some .runnable := by decide +kernel
set_option maxRecDepth 65536 in
theorem w_alone : about1.alone = true := by decide +kernel
set_option maxRecDepth 65536 in
theorem w_named : about1.methodNamed? x = some theMethod := by decide +kernel
set_option maxRecDepth 65536 in
theorem w_hears : about1.hears theMethod below0 = true := by decide +kernel
set_option maxRecDepth 65536 in
theorem w_ripe : about1.ripe theMethod args0 below0 = true := by decide +kernel
theorem w_running : about1.status = .running := rfl
set_option maxRecDepth 65536 in
theorem w_room : about1.hasRoom e0.platform room_1 = true :=
  launch0.hasRoom_least _ room_1 (by decide +kernel) (by decide +kernel) (by decide +kernel) (by decide +kernel) (by decide +kernel) (by decide +kernel)
theorem allAtoms_all (ts : List Jvm.Cond) (a : Array Jvm.Value) (st : Jvm.State) : (allAtoms ts).before a st = ts.all (fun c => c.before a st) := by
  induction ts with
  | nil => rfl
  | cons c t ih =>
    show (Jvm.Cond.and c (allAtoms t)).before a st = _
    rw [Jvm.Cond.before_and, ih, List.all_cons]
def words1 : List Jvm.Cond := Jvm.Cond.code x code maxLocals ret :: tables_1
/-- a 'code' word, met by the world's own term for the bytes: nothing is compared byte by byte -/
theorem code_word {y : MethodName} {bytes : ByteArray} {mx : Nat} {rt : Option FieldType} {a : Array Value} {s : State} {m : MethodId} {meth : Method} {c : Code} (h1 : s.methodNamed? y = some m) (h2 : s.vm.method? m = some meth) (h3 : meth.code = some c) (h4 : c.code = bytes)
    (h5 : (c.maxLocals == mx && c.exceptionTable.isEmpty && decide (c.maxStack ≤ mostOperands) && decide (meth.sig.returnType = rt) && !meth.locks && decide (parseMethodDescriptor y.desc = some meth.sig)) = true) : (Jvm.Cond.code y bytes mx rt).before a s = true := by
  simp only [Bool.and_eq_true, beq_iff_eq, Bool.not_eq_true', decide_eq_true_eq] at h5
  obtain ⟨⟨⟨⟨⟨g1, g2⟩, g3⟩, g4⟩, g5⟩, g6⟩ := h5
  simp [Cond.before, Cond.holds, Cond.value, h1, h2, h3, h4, g1, g2, g3, g4, g5, g6]
def isCode : Jvm.Cond → Bool
  | .code _ _ _ _ => true
  | _ => false
theorem all_split {L : List Jvm.Cond} {P : Jvm.Cond → Bool} (h1 : L.all (fun c => isCode c || P c) = true) (h2 : ∀ c ∈ L.filter isCode, P c = true) : L.all P = true := by
  refine List.all_eq_true.mpr fun c hc => ?_
  have h := List.all_eq_true.mp h1 c hc
  rcases Bool.eq_false_or_eq_true (isCode c) with hi | hi
  · exact h2 c (List.mem_filter.mpr ⟨hc, hi⟩)
  · simpa [hi] using h
set_option maxRecDepth 65536 in
theorem w_c0 : (Jvm.Cond.code x code maxLocals ret).before args0 about1 = true := code_word (m := ⟨1, 2⟩) (meth := k1m2) (c := k1c2) (by decide +kernel) rfl rfl rfl (by decide +kernel)
set_option maxRecDepth 65536 in
theorem w_c1 : (Jvm.Cond.code ({ cls := "com/example/tidefall/tidefall/query/TypeIsNumericPinLaw", name := "pick", desc := "(I)Lcom/example/tidefall/tidefall/query/GroupExpression$Type;" } : Jvm.MethodName) method_2_code (1 : Nat) (Option.some (Jvm.ClassFile.FieldType.object "com/example/tidefall/tidefall/query/GroupExpression$Type"))).before args0 about1 = true := code_word (m := ⟨1, 1⟩) (meth := k1m1) (c := k1c1) (by decide +kernel) rfl rfl rfl (by decide +kernel)
set_option maxRecDepth 65536 in
theorem w_c2 : (Jvm.Cond.code ({ cls := "com/example/tidefall/tidefall/query/GroupExpression$Type", name := "isNumeric", desc := "()Z" } : Jvm.MethodName) prog_32_method_4_code (1 : Nat) (Option.some Jvm.ClassFile.FieldType.boolean)).before args0 about1 = true := code_word (m := ⟨6, 0⟩) (meth := k6m0) (c := k6c0) (by decide +kernel) rfl rfl rfl (by decide +kernel)
def codes1 : List Jvm.Cond := [Jvm.Cond.code x code maxLocals ret, Jvm.Cond.code ({ cls := "com/example/tidefall/tidefall/query/TypeIsNumericPinLaw", name := "pick", desc := "(I)Lcom/example/tidefall/tidefall/query/GroupExpression$Type;" } : Jvm.MethodName) method_2_code (1 : Nat) (Option.some (Jvm.ClassFile.FieldType.object "com/example/tidefall/tidefall/query/GroupExpression$Type")), Jvm.Cond.code ({ cls := "com/example/tidefall/tidefall/query/GroupExpression$Type", name := "isNumeric", desc := "()Z" } : Jvm.MethodName) prog_32_method_4_code (1 : Nat) (Option.some Jvm.ClassFile.FieldType.boolean)]
set_option maxRecDepth 65536 in
theorem codes_eq : words1.filter isCode = codes1 := rfl
theorem w_codes : ∀ c ∈ words1.filter isCode, c.before args0 about1 = true := by
  rw [codes_eq]
  intro c hc
  simp only [codes1, List.mem_cons, List.not_mem_nil, or_false] at hc
  rcases hc with rfl | rfl | rfl
  · exact w_c0
  · exact w_c1
  · exact w_c2
set_option maxRecDepth 65536 in
theorem w_t1 : (words1.take 24).all (fun c => isCode c || c.before args0 about1) = true := by decide +kernel
set_option maxRecDepth 65536 in
theorem w_t2 : (words1.drop 24).all (fun c => isCode c || c.before args0 about1) = true := by decide +kernel
theorem w_tables : (allAtoms (Jvm.Cond.code x code maxLocals ret :: tables_1)).before args0 about1 = true := by
  rw [allAtoms_all]
  show words1.all (fun c => c.before args0 about1) = true
  refine all_split ?_ w_codes
  rw [← List.take_append_drop 24 words1, List.all_append, w_t1, w_t2]
  rfl
set_option maxRecDepth 65536 in
theorem w_case : (Jvm.Cond.and given_1 narrow_1).before args0 about1 = true := by decide +kernel
theorem w_applies : (headSpec (Jvm.Cond.code x code maxLocals ret :: tables_1) room_1).applies x e0.platform about1 = true :=
  (Spec.applies_iff w_frames).mpr ⟨w_running, w_runnable, w_alone, w_named, w_hears, w_ripe, w_room, w_tables⟩
theorem atStart : AtStart classFile x code maxLocals ret World_1 tables_1 room_1 Calls_1 rest_1 Pre_1 launch0 p0 e0 about1 theMethod args0 below0 :=
  ⟨lists_1, trivial, launch0.admits_env _ _ _, launch0.least_env, fairChoices_fair.cas, fairChoices_fair.clock, w_frames, w_args, w_heap, w_applies, trivial, trivial, w_case⟩
end start1
theorem witness_1 : WitnessClaimed_1 := ⟨start1.p0, start1.e0, start1.about1, start1.theMethod, start1.args0, start1.below0, start1.atStart⟩
end Jvm.Pilot.@@N@@
